import JvmDerived
import JvmDerived.Pilot.@@N@@Statement
import JvmDerived.Pilot.@@N@@Code
set_option linter.unusedVariables false
set_option linter.unusedSimpArgs false
set_option maxRecDepth 65536
set_option maxHeartbeats 40000000
namespace Jvm.Pilot.@@N@@
open Jvm Jvm.ClassFile Sem Op Lib Jvm.Free Jvm.Stand Jvm.LawKit Jvm.RoadKit Bundle Jvm.Pilot.@@N@@.Jvm.D
/-! 0. the walk's goal, and how a step leads to it -/
def OGoal (p : Program) (e : Env) (below : List Frame) (Φ : Outcome → State → Prop) (T : State) (g : JFrame) : Prop :=
 ∃ s₂ o, Steps p.tables e below (T.setTop g) s₂ ∧ s₂.status = .running ∧ Ended s₂ below o ∧ Φ o s₂
theorem own_by {p : Program} {e : Env} {below : List Frame} {Φ : Outcome → State → Prop} {T T' : State} {g g' : JFrame}
  (st : ∀ t, Steps p.tables e below (T'.setTop g') t → Steps p.tables e below (T.setTop g) t) (G : OGoal p e below Φ T' g') : OGoal p e below Φ T g := by
 obtain ⟨s₂, o, h1, h2⟩ := G
 exact ⟨s₂, o, st _ h1, h2⟩
theorem own_enter {p : Program} {e : Env} {below : List Frame} {Φ : Outcome → State → Prop} {T : State} {g g' : JFrame} (q : g = g') (G : OGoal p e below Φ T g') :
  ∃ s₂ o, Steps p.tables e below (T.setTop g) s₂ ∧ s₂.status = .running ∧ Ended s₂ below o ∧ Φ o s₂ := by subst q; exact G
theorem ww {a0 : Array Value} {Z : State} (hw : ∀ d ∈ tables_1, d.before a0 Z = true) (i : Nat) {d : Jvm.Cond} (h : tables_1[i]? = some d) : d.before a0 Z = true := hw _ (List.mem_of_getElem? h)
theorem own_b {p : Program} {e : Env} {below : List Frame} {Φ : Outcome → State → Prop} {T : State} {g : JFrame} (T' : State) (m : MethodId) (pc : Nat) (A : Array Slot) (S : List Value)
  (st : ∀ t, Steps p.tables e below (T'.setTop (mkF m pc A S)) t → Steps p.tables e below (T.setTop g) t) (G : OGoal p e below Φ T' (mkF m pc A S)) : OGoal p e below Φ T g := own_by st G
abbrev vi (x : Int32) : Slot := .val (.int x)
abbrev vr (x : Addr) : Slot := .val (.ref x)
abbrev cn0 : String := "com/example/even_commute/evencommute/demand/Workers"
abbrev cn1 : String := "com/example/even_commute/evencommute/demand/ZoneCounts"
abbrev cn2 : String := "java/util/ArrayList"
abbrev cn3 : String := "java/util/Collections$UnmodifiableCollection$1"
abbrev cn4 : String := "Lcom/example/even_commute/evencommute/demand/ZoneCounts;"
abbrev cn5 : String := "java/util/ArrayList$Itr"
abbrev cn6 : String := "(Lcom/example/even_commute/evencommute/demand/ZoneCounts;Lcom/example/even_commute/evencommute/demand/ZoneCounts;[I)V"
abbrev un : Slot := .unset
theorem own_kext {h h' : Heap} (E : Ext h h') : Keep h h' [] := (Keep.refl h []).ext E
theorem own_narR {ty : FieldType} {v : Value} (hty : ty.isReference = true) (h : v.isRef = true) : narrow ty v = v := by
 rcases ref_cases h with rfl | ⟨a, rfl⟩ <;> cases ty <;> first | rfl | (cases hty)
theorem own_fitR {ty : FieldType} {v : Value} (hty : ty.isReference = true) (h : v.isRef = true) : fits ty v = true := by
 rcases ref_cases h with rfl | ⟨a, rfl⟩ <;> cases ty <;> first | rfl | (cases hty)
theorem own_narC (x : Int32) : nar .char (x.toUInt32.toUInt16.toUInt32.toInt32) = x.toUInt32.toUInt16.toUInt32.toInt32 := by
 show (x.toUInt32.toUInt16.toUInt32.toInt32).toUInt32.toUInt16.toUInt32.toInt32 = _
 simp only [UInt32.toUInt32_toInt32, UInt16.toUInt16_toUInt32]
theorem own_narB (x : Int32) : nar .byte (x.toInt8.toInt32) = x.toInt8.toInt32 := by
 show (x.toInt8.toInt32).toInt8.toInt32 = _
 simp
theorem own_fldI {Z : State} {args : Array Value} {t : Term} {a : Addr} {C n d : String} {k : Int32} (ev : t.eval args Z none [] Z = some (.ref a)) (h : (Jvm.Cond.eq (.field t C n d) (.int k)).value args Z none Z [] = some true) : Fld Z Z.heap a C n d (.int k) :=
 Fld.start ((fld_at ev).symm.trans (eqv_i (Term.int_eval k) h))
theorem own_fldJ {Z : State} {args : Array Value} {t : Term} {a : Addr} {C n d : String} {k : Int64} (ev : t.eval args Z none [] Z = some (.ref a)) (h : (Jvm.Cond.eq (.field t C n d) (.long k)).value args Z none Z [] = some true) : Fld Z Z.heap a C n d (.long k) :=
 Fld.start ((fld_at ev).symm.trans (eqv_l (F := .long k) rfl h))
def Glob (Z : State) (wC : Addr) (cC : Cell) (wD : Addr) (kD : ClassId) (mA : Addr) (mL : Addr) (mR : Addr) : Prop := Sta Z Z.heap "java/lang/Integer$IntegerCache" "high" "I" (.int 127) ∧ Sta Z Z.heap "java/lang/Integer$IntegerCache" "cache" "[Ljava/lang/Integer;" (.ref wC) ∧ Bxs Z wC cC "java/lang/Integer" "I" (256 : Int32) (fun j => Value.int (j - (128 : Int32))) ∧ Sta Z Z.heap "java/util/ArrayList" "DEFAULTCAPACITY_EMPTY_ELEMENTDATA" "[Ljava/lang/Object;" (.ref wD) ∧ Arv Z Z.heap wD kD (.object "java/lang/Object") (0 : Int32) [] .null ∧ Mir Z "java/util/ArrayList" mA ∧ Mir Z "java/util/Collections$UnmodifiableList" mL ∧ Mir Z "java/util/Collections$UnmodifiableRandomAccessList" mR
theorem own_len {Z : State} {args : Array Value} {t : Term} {a : Addr} {c : Cell} {ty : FieldType} {n : Int32} (ev : t.eval args Z none [] Z = some (.ref a)) (A : Arr Z Z.heap a c ty) (h : (Jvm.Cond.eq (.length t) (.int n)).value args Z none Z [] = some true) : c.slots.size < 2 ^ 31 ∧ c.slots.size.toInt32 = n := by
 have e1 := eqv_i (Term.int_eval n) h
 have ha := A.fin (Vm.Alike.refl _)
 simp only [Term.eval, ev, Option.bind_eq_bind, Option.bind_some, ha] at e1
 split at e1
 ·rename_i q; exact ⟨q, by simpa using e1⟩
 ·cases e1
theorem own_bxF {Z : State} {args : Array Value} {j : Int32} (nn : ¬ j < 0) : (Term.sub (.index 0) (.int 128)).eval args Z none [j.toNatClampNeg] Z = some (.int (j - (128 : Int32))) := by
 have e := idx_at (args := args) (s := Z) (first := Z) (o := none) nn
 simp only [Term.eval] at e ⊢
 rw [e]
 rfl
theorem own_gcI {p : Program} {l : Launch} {e : Env} {R : Room} {s : State} {m : MethodId} {args : Array Value} {below : List Frame} {meth : Method} {c : Code} {T : State} {locs : List Loc} {cells slots : Nat} {Z : State} {h : Heap} {a : Addr}
  (X : Stand p l e R s m args below meth c T locs cells slots) (hx : p.tables.exec = Jvm.exec) (hZ : Z.Warmed39 s.vm) {own C : String} {index count : Nat} {I : String} (hown : s.vm.findClass own = some m.cls)
  (w1 : (Jvm.Cond.methodLink own index ⟨I, "getClass", "()Ljava/lang/Class;"⟩).before args s = true) (w2 : (Jvm.Cond.declares ⟨"java/lang/Object", "getClass", "()Ljava/lang/Class;"⟩).before args s = true) (w3 : (Jvm.Cond.interfaceMethod I "java/lang/Object" "getClass" "()Ljava/lang/Class;").before args s = true)
  (w4 : (Jvm.Cond.selects C ⟨I, "getClass", "()Ljava/lang/Class;"⟩ ⟨"java/lang/Object", "getClass", "()Ljava/lang/Class;"⟩).before args s = true) (w5 : (Jvm.Cond.instanceMethod ⟨"java/lang/Object", "getClass", "()Ljava/lang/Class;"⟩).before args s = true) (w6 : (Jvm.Cond.publicMethod ⟨"java/lang/Object", "getClass", "()Ljava/lang/Class;"⟩).before args s = true)
  (w7 : (Jvm.Cond.unhidden C "getClass" "()Ljava/lang/Class;").before args s = true) (w8 : (Jvm.Cond.castable C I).before args s = true) (w9 : (Jvm.Cond.native ⟨"java/lang/Object", "getClass", "()Ljava/lang/Class;"⟩).before args s = true)
  (hI : I ≠ "java/lang/invoke/MethodHandle" ∧ I ≠ "java/lang/invoke/VarHandle") (hO : I ≠ "java/lang/Object") (eT : T.heap = h) (E : Exa Z h a C) {mr : Addr} (M : Mir Z C mr)
  {g : JFrame} (hg : g.method = m) (hsize : g.locals.size = c.maxLocals) {rest : List Value} (hs : g.stack = .ref a :: rest) (hd : decode c.code g.pc = .ok (.invokeinterface index count, 5)) (hf : 1 ≤ R.frames) {W : Nat} (hW : 2 * g.monitorRoom + (rest.map fun v => v.category).sum ≤ W) (hl : W + (nativeFrameWords "java/lang/Object" "getClass" 1 + 11) ≤ R.locals) :
  ∃ T', Stand p l e R s m args below meth c T' locs cells slots ∧ T'.heap = h ∧ ∀ target, Steps p.tables e below (T'.setTop { g with pc := g.pc + 5, stack := .ref mr :: rest }) target → Steps p.tables e below (T.setTop g) target := by
 obtain ⟨cB, kB, i1, i2, i3⟩ := isOf hZ eT E
 obtain ⟨cc, kc, m1, m2, m3, -⟩ := M
 obtain ⟨k', q, ek⟩ := hZ.alike.2.2 _ _ m2
 rw [hZ.alike.findClass] at i1
 cases i1.symm.trans m1
 obtain ⟨vm', X', st⟩ := X.getClassOfI hx (xi := ⟨I, "getClass", "()Ljava/lang/Class;"⟩) hown w1 w2 w3 w4 w5 w6 w7 w8 w9 hI hO rfl rfl (by rw [hZ.alike.findClass]; exact m1) q i3 (by rw [ek]; exact m3) hg hsize hs hd hf (by omega)
 exact ⟨_, X', eT, st⟩
theorem own_ldM {p : Program} {l : Launch} {e : Env} {R : Room} {s : State} {m : MethodId} {args : Array Value} {below : List Frame} {meth : Method} {c : Code} {T : State} {locs : List Loc} {cells slots : Nat} {Z : State} {a0 : Array Value} {h : Heap}
  (X : Stand p l e R s m args below meth c T locs cells slots) (hx : p.tables.exec = Jvm.exec) (hZ : Z.Warmed39 s.vm) {own C : String} {index : Nat} (hown : s.vm.findClass own = some m.cls) (w : (Jvm.Cond.classLink own index C).before a0 Z = true) (eT : T.heap = h) {mr : Addr} (M : Mir Z C mr)
  {g : JFrame} (hg : g.method = m) (hd : decode c.code g.pc = .ok (.ldc index, 2)) :
  ∃ T', Stand p l e R s m args below meth c T' locs cells slots ∧ T'.heap = h ∧ ∀ target, Steps p.tables e below (T'.setTop { g with pc := g.pc + 2, stack := .ref mr :: g.stack }) target → Steps p.tables e below (T.setTop g) target := by
 obtain ⟨cc, kc, m1, m2, m3, -⟩ := M
 obtain ⟨k', q, ek⟩ := hZ.alike.2.2 _ _ m2
 have ev : (Term.mirror C).eval args s none [] s = some (.ref mr) := by
  simp only [Term.eval, hZ.alike.findClass, m1, Option.bind_eq_bind, Option.bind_some, q]
  rw [ek]; simp [m3]
 obtain ⟨vm', X', st⟩ := X.ldcMirror hx hown (mvT hZ w) ev hg hd
 exact ⟨_, X', eT, st⟩
theorem own_selP {Z s : State} {a0 args : Array Value} {y : MethodName} {n : Nat} (hZ : Z.Warmed39 s.vm) (wp : (Jvm.Cond.privateMethod y).before a0 Z = true) (wi : (Jvm.Cond.instantiable y.cls n).before a0 Z = true) (wm : (Jvm.Cond.instanceMethod y).before a0 Z = true) (hy : y.cls ≠ "java/lang/invoke/MethodHandle" ∧ y.cls ≠ "java/lang/invoke/VarHandle") :
  (Jvm.Cond.selects y.cls y y).before args s = true := by
 obtain ⟨t, kt, g1, g2, g3, g4, -⟩ := Cond.instantiable_spec (mvT (args := args) hZ wi)
 have g5 : kt.isInterface = false := by
  cases hq : kt.isInterface with
  | false => rfl
  | true => simp [hq] at g4
 exact selects_self_of_private g1 g2 g5 (Cond.privateMethod_at (mvP hZ wp (args := #[]))) (mvT hZ wm) hy
theorem d5_0 : decode jdk_22_method_1_code 0 = .ok (.aload_n 0, 1) := by decide +kernel
theorem d5_1 : decode jdk_22_method_1_code 1 = .ok (.invokespecial 1, 3) := by decide +kernel
theorem d5_4 : decode jdk_22_method_1_code 4 = .ok (.return_, 1) := by decide +kernel
theorem own_p7 : plainName "java/util/AbstractCollection" = true := by first | (simp [plainName, overriddenIn]; done) | decide +kernel
theorem own_ef_rmAC (m : MethodId) (x0 : Addr) : entryFrame m #[.ref x0] 1 = mkF m 0 #[.val (.ref x0)] [] := by first | (simp [entryFrame, mkF, argsToLocals, Value.category]; done) | rfl
def Q_rmAC (Z : State) (wC : Addr) (cC : Cell) (wD : Addr) (kD : ClassId) (mA : Addr) (mL : Addr) (mR : Addr) (a : Addr) (h0 : Heap) (n0 : Nat) (vv_ : Option Value) (hh_ : Heap) (LL_ : List Loc) : Prop := vv_ = none ∧ Fr n0 LL_ ∧ hh_ = h0
theorem rmAC (l : Launch) (Z : State) (a0 : Array Value) (hw : ∀ d ∈ tables_1, d.before a0 Z = true) (ws : List Jvm.Cond) (wC : Addr) (cC : Cell) (wD : Addr) (kD : ClassId) (mA : Addr) (mL : Addr) (mR : Addr) (GS : Glob Z wC cC wD kD mA mL mR) (a : Addr) (h0 : Heap) (n0 : Nat) (Z0 : n0 ≤ h0.size) (O0 : Old Z n0 h0) :
  MetFree l (⟨"java/util/AbstractCollection", "<init>", "()V"⟩ : MethodName) (head1 (Jvm.Cond.code (⟨"java/util/AbstractCollection", "<init>", "()V"⟩ : MethodName) jdk_22_method_1_code 1 none :: ws) (⟨1, 0, 0, 12⟩ : Room)) (fun aa_ UU_ => aa_ = #[.ref a] ∧ Z.Warmed39 UU_.vm ∧ UU_.heap = h0) (fun _ _ _ _ _ => True) (fun _ UU_ oo_ UV_ => ∃ vv_ LL_, oo_ = .returned vv_ ∧ Q_rmAC Z wC cC wD kD mA mL mR a h0 n0 vv_ UV_.heap LL_ ∧ FrameEnd UU_ oo_ UV_ LL_ (⟨1, 0, 0, 12⟩ : Room).cells (⟨1, 0, 0, 12⟩ : Room).slots) := by
 refine MetFree.of_bodySF (plainFor_of_name own_p7) hisR ?_
 intro p e s m args below meth c s₁ Bd hml0 hP hK
 obtain ⟨rfl, hZ, hh⟩ := hP
 have hx := Bd.exec
 have hby := Bd.bytes
 have hml : c.maxLocals = 1 := hml0
 have hown : s.vm.findClass "java/util/AbstractCollection" = some m.cls := findClass_of_methodNamed Bd.named
 have hnm := (name_of_methodNamed Bd.named Bd.method).1
 have X0 : Stand p l e (⟨1, 0, 0, 12⟩ : Room) s m #[.ref a] below meth c s₁ [] 0 0 := Stand.of_body Bd
 have e0 : s₁.heap = h0 := by rw [← hh, Bd.state]; rfl
 have N0 := Fr.nil n0
 have hn0 : Z.heap.size = n0 := O0.1
 have KT0 : Keep h0 h0 [] := Keep.refl _ _
 refine own_enter (Φ := fun oo_ UV_ => ∃ vv_ LL_, oo_ = .returned vv_ ∧ Q_rmAC Z wC cC wD kD mA mL mR a h0 n0 vv_ UV_.heap LL_ ∧ FrameEnd s oo_ UV_ LL_ (⟨1, 0, 0, 12⟩ : Room).cells (⟨1, 0, 0, 12⟩ : Room).slots) (own_ef_rmAC m a) ?_
 refine own_b s₁ m 1 #[vr a] [.ref a] (fun _ k_ => XS.aloadN X0.here hx rfl (hb hby d5_0) rfl rfl k_) ?_
 obtain ⟨T1, X1, e1, st1⟩ := initO X0 hx hZ hown (ww hw 29 rfl) (ww hw 9 rfl) (ww hw 10 rfl) e0 (g := (mkF m 1 #[vr a] [.ref a])) rfl (by rw [hml]; rfl) rfl (hb hby d5_1) (by decide) (W := 0) (by show 2 * 0 + _ ≤ _; exact Nat.le_of_eq rfl) (by decide)
 refine own_b T1 m 4 #[vr a] [] st1 ?_
 obtain ⟨fs2, hr2, hrun2, hended2, hW2, hsame2⟩ := X1.leave (v := none) (fun _ => rfl)
 refine ⟨_, _, X1.returnOut hx Bd.returns (hb hby d5_4) hr2, hrun2, hended2, _, _, rfl, ?_, ⟨_, rfl⟩, hW2, hsame2.mono (by decide) (by decide)⟩
 show Q_rmAC Z wC cC wD kD mA mL mR a h0 n0 _ T1.heap _
 exact ⟨rfl, N0, e1⟩
theorem own_pd_0 : parseMethodDescriptor "()V" = some ⟨[], none⟩ := by decide +kernel
theorem d4_0 : decode jdk_39_method_1_code 0 = .ok (.aload_n 0, 1) := by decide +kernel
theorem d4_1 : decode jdk_39_method_1_code 1 = .ok (.invokespecial 1, 3) := by decide +kernel
theorem d4_4 : decode jdk_39_method_1_code 4 = .ok (.aload_n 0, 1) := by decide +kernel
theorem d4_5 : decode jdk_39_method_1_code 5 = .ok (.iconst 0, 1) := by decide +kernel
theorem d4_6 : decode jdk_39_method_1_code 6 = .ok (.putfield 7, 3) := by decide +kernel
theorem d4_9 : decode jdk_39_method_1_code 9 = .ok (.return_, 1) := by decide +kernel
theorem own_p9 : plainName "java/util/AbstractList" = true := by first | (simp [plainName, overriddenIn]; done) | decide +kernel
theorem own_ef_rmABL (m : MethodId) (x0 : Addr) : entryFrame m #[.ref x0] 1 = mkF m 0 #[.val (.ref x0)] [] := by first | (simp [entryFrame, mkF, argsToLocals, Value.category]; done) | rfl
def Q_rmABL (Z : State) (wC : Addr) (cC : Cell) (wD : Addr) (kD : ClassId) (mA : Addr) (mL : Addr) (mR : Addr) (a : Addr) (h0 : Heap) (n0 : Nat) (vv_ : Option Value) (hh_ : Heap) (LL_ : List Loc) : Prop := vv_ = none ∧ Fr n0 LL_ ∧ Keep h0 hh_ [a] ∧ Fld Z hh_ a "java/util/AbstractList" "modCount" "I" (.int 0) ∧ Fld Z hh_ a "java/util/ArrayList" "elementData" "[Ljava/lang/Object;" .null ∧ Fld Z hh_ a "java/util/ArrayList" "size" "I" (.int 0)
theorem rmABL (l : Launch) (Z : State) (a0 : Array Value) (hw : ∀ d ∈ tables_1, d.before a0 Z = true) (ws : List Jvm.Cond) (wC : Addr) (cC : Cell) (wD : Addr) (kD : ClassId) (mA : Addr) (mL : Addr) (mR : Addr) (GS : Glob Z wC cC wD kD mA mL mR) (a : Addr) (h0 : Heap) (n0 : Nat) (Z0 : n0 ≤ h0.size) (O0 : Old Z n0 h0) (E_a : Exa Z h0 a cn2) (g_a : n0 ≤ a) (Fm : Fld Z h0 a "java/util/AbstractList" "modCount" "I" (.int 0)) (Fe : Fld Z h0 a cn2 "elementData" "[Ljava/lang/Object;" .null) (Fs : Fld Z h0 a cn2 "size" "I" (.int 0)) :
  MetFree l (⟨"java/util/AbstractList", "<init>", "()V"⟩ : MethodName) (head1 (Jvm.Cond.code (⟨"java/util/AbstractList", "<init>", "()V"⟩ : MethodName) jdk_39_method_1_code 1 none :: ws) (⟨2, 0, 0, 24⟩ : Room)) (fun aa_ UU_ => aa_ = #[.ref a] ∧ Z.Warmed39 UU_.vm ∧ UU_.heap = h0) (fun _ _ _ _ _ => True) (fun _ UU_ oo_ UV_ => ∃ vv_ LL_, oo_ = .returned vv_ ∧ Q_rmABL Z wC cC wD kD mA mL mR a h0 n0 vv_ UV_.heap LL_ ∧ FrameEnd UU_ oo_ UV_ LL_ (⟨2, 0, 0, 24⟩ : Room).cells (⟨2, 0, 0, 24⟩ : Room).slots) := by
 refine MetFree.of_bodySF (plainFor_of_name own_p9) hisR ?_
 intro p e s m args below meth c s₁ Bd hml0 hP hK
 obtain ⟨rfl, hZ, hh⟩ := hP
 have hx := Bd.exec
 have hby := Bd.bytes
 have hml : c.maxLocals = 1 := hml0
 have hown : s.vm.findClass "java/util/AbstractList" = some m.cls := findClass_of_methodNamed Bd.named
 have hnm := (name_of_methodNamed Bd.named Bd.method).1
 have X0 : Stand p l e (⟨2, 0, 0, 24⟩ : Room) s m #[.ref a] below meth c s₁ [] 0 0 := Stand.of_body Bd
 have e0 : s₁.heap = h0 := by rw [← hh, Bd.state]; rfl
 have N0 := Fr.nil n0
 have hn0 : Z.heap.size = n0 := O0.1
 have KT0 : Keep h0 h0 [a] := Keep.refl _ _
 refine own_enter (Φ := fun oo_ UV_ => ∃ vv_ LL_, oo_ = .returned vv_ ∧ Q_rmABL Z wC cC wD kD mA mL mR a h0 n0 vv_ UV_.heap LL_ ∧ FrameEnd s oo_ UV_ LL_ (⟨2, 0, 0, 24⟩ : Room).cells (⟨2, 0, 0, 24⟩ : Room).slots) (own_ef_rmABL m a) ?_
 refine own_b s₁ m 1 #[vr a] [.ref a] (fun _ k_ => XS.aloadN X0.here hx rfl (hb hby d4_0) rfl rfl k_) ?_
 obtain ⟨_, _, ⟨T1, L1, k1, n1⟩, -, X1, ⟨Lc1, hQ1, l1, y1, z1⟩, st1⟩ := X0.specialBack hx (y := (⟨"java/util/AbstractCollection", "<init>", "()V"⟩ : MethodName)) rfl hown (mvT hZ (ww hw 23 rfl)) (mvT hZ (ww hw 24 rfl)) (mvT hZ (ww hw 28 rfl)) (by decide) (backOf (W := 0) (rmAC l Z a0 hw [] wC cC wD kD mA mL mR GS a h0 n0 (by omega) O0 ) hZ (ww hw 28 rfl) (ww hw 27 rfl) (by decide) (by decide)) (g := (mkF m 1 #[vr a] [.ref a])) rfl (by rw [hml]; rfl) (Steps.refl _) (a := a) (argsL := []) (rest := []) (lenOf own_pd_0 rfl) rfl (by show 2 * 0 + _ ≤ _; exact Nat.le_of_eq rfl) (hb hby d4_1) (fun _ _ => ⟨rfl, e0, (by decide : 0 + 0 ≤ _), (by decide : 0 + 0 ≤ _)⟩)
 dsimp only [Pt.U, Pt.locs, Pt.cells, Pt.slots] at X1 l1 y1 z1 st1 hQ1
 subst l1 y1 z1
 obtain ⟨rfl, N1q, e1⟩ := hQ1
 have N2 := Fr.app N0 N1q
 refine own_b T1 m 4 #[vr a] [] (fun _ k_ => st1.trans k_) ?_
 refine own_b T1 m 6 #[vr a] [.int 0, .ref a] (fun _ k_ => XS.aloadN X1.here hx rfl (hb hby d4_4) rfl rfl (XS.iconst X1.here hx rfl (hb hby d4_5) k_)) ?_
 obtain ⟨T3, h3, X3, e3, W3, st3⟩ := putF X1 hx hZ hown (host := "") (Or.inl (ww hw 30 rfl)) Via.refl e1 Fm E_a (Or.inl (ww hw 31 rfl)) (ww hw 12 rfl) (ty := .int) (by decide) rfl rfl (g := (mkF m 6 #[vr a] [.int 0, .ref a])) rfl rfl (hb hby d4_6)
 have K4 : Keep h0 h3 [a] := Keep.of_wr W3
 have zzK4 : h0.size ≤ h3.size := K4.1
 have oo5 : Old Z n0 h3 := O0.keep K4 (allS (by omega : n0 ≤ a) all0)
 have kt6 : Keep h0 h3 [a] := KT0.trans K4 (allS (Or.inl (List.mem_of_getElem? (i := 0) rfl)) all0)
 have f7 : Fld Z h3 a "java/util/AbstractList" "modCount" "I" (.int 0) := Fm.same W3
 have f8 : Fld Z h3 a cn2 "elementData" "[Ljava/lang/Object;" .null := Fe.other W3 (Or.inr (slot_ne (Or.inl (ww hw 34 rfl)) (Or.inl (ww hw 31 rfl)) (by decide) (t := (.array (.object "java/lang/Object"))) (t' := .int) (by decide) (by decide)))
 have f9 : Fld Z h3 a cn2 "size" "I" (.int 0) := Fs.other W3 (Or.inr (slot_ne (Or.inl (ww hw 78 rfl)) (Or.inl (ww hw 31 rfl)) (by decide) (t := .int) (t' := .int) (by decide) (by decide)))
 have N10 := Fr.snoc X3 N2 (by omega : n0 ≤ a)
 refine own_b T3 m 9 #[vr a] [] st3 ?_
 obtain ⟨fs11, hr11, hrun11, hended11, hW11, hsame11⟩ := X3.leave (v := none) (fun _ => rfl)
 refine ⟨_, _, X3.returnOut hx Bd.returns (hb hby d4_9) hr11, hrun11, hended11, _, _, rfl, ?_, ⟨_, rfl⟩, hW11, hsame11.mono (by decide) (by decide)⟩
 show Q_rmABL Z wC cC wD kD mA mL mR a h0 n0 _ T3.heap _
 rw [e3]
 exact ⟨rfl, N10, kt6, f7, f8, f9⟩
theorem d3_0 : decode jdk_38_method_2_code 0 = .ok (.aload_n 0, 1) := by decide +kernel
theorem d3_1 : decode jdk_38_method_2_code 1 = .ok (.invokespecial 1, 3) := by decide +kernel
theorem d3_4 : decode jdk_38_method_2_code 4 = .ok (.aload_n 0, 1) := by decide +kernel
theorem d3_5 : decode jdk_38_method_2_code 5 = .ok (.getstatic 39, 3) := by decide +kernel
theorem d3_8 : decode jdk_38_method_2_code 8 = .ok (.putfield 9, 3) := by decide +kernel
theorem d3_11 : decode jdk_38_method_2_code 11 = .ok (.return_, 1) := by decide +kernel
theorem own_p11 : plainName "java/util/ArrayList" = true := by first | (simp [plainName, overriddenIn]; done) | decide +kernel
theorem own_ef_rmALI (m : MethodId) (x0 : Addr) : entryFrame m #[.ref x0] 1 = mkF m 0 #[.val (.ref x0)] [] := by first | (simp [entryFrame, mkF, argsToLocals, Value.category]; done) | rfl
def Q_rmALI (Z : State) (wC : Addr) (cC : Cell) (wD : Addr) (kD : ClassId) (mA : Addr) (mL : Addr) (mR : Addr) (a : Addr) (h0 : Heap) (n0 : Nat) (vv_ : Option Value) (hh_ : Heap) (LL_ : List Loc) : Prop := vv_ = none ∧ Fr n0 LL_ ∧ Keep h0 hh_ [a] ∧ Fld Z hh_ a "java/util/AbstractList" "modCount" "I" (.int 0) ∧ Fld Z hh_ a "java/util/ArrayList" "elementData" "[Ljava/lang/Object;" (.ref wD) ∧ Fld Z hh_ a "java/util/ArrayList" "size" "I" (.int 0)
theorem rmALI (l : Launch) (Z : State) (a0 : Array Value) (hw : ∀ d ∈ tables_1, d.before a0 Z = true) (ws : List Jvm.Cond) (wC : Addr) (cC : Cell) (wD : Addr) (kD : ClassId) (mA : Addr) (mL : Addr) (mR : Addr) (GS : Glob Z wC cC wD kD mA mL mR) (a : Addr) (h0 : Heap) (n0 : Nat) (Z0 : n0 ≤ h0.size) (O0 : Old Z n0 h0) (E_a : Exa Z h0 a cn2) (g_a : n0 ≤ a) (Fm : Fld Z h0 a "java/util/AbstractList" "modCount" "I" (.int 0)) (Fe : Fld Z h0 a cn2 "elementData" "[Ljava/lang/Object;" .null) (Fs : Fld Z h0 a cn2 "size" "I" (.int 0)) :
  MetFree l (⟨cn2, "<init>", "()V"⟩ : MethodName) (head1 (Jvm.Cond.code (⟨cn2, "<init>", "()V"⟩ : MethodName) jdk_38_method_2_code 1 none :: ws) (⟨3, 0, 0, 36⟩ : Room)) (fun aa_ UU_ => aa_ = #[.ref a] ∧ Z.Warmed39 UU_.vm ∧ UU_.heap = h0) (fun _ _ _ _ _ => True) (fun _ UU_ oo_ UV_ => ∃ vv_ LL_, oo_ = .returned vv_ ∧ Q_rmALI Z wC cC wD kD mA mL mR a h0 n0 vv_ UV_.heap LL_ ∧ FrameEnd UU_ oo_ UV_ LL_ (⟨3, 0, 0, 36⟩ : Room).cells (⟨3, 0, 0, 36⟩ : Room).slots) := by
 refine MetFree.of_bodySF (plainFor_of_name own_p11) hisR ?_
 intro p e s m args below meth c s₁ Bd hml0 hP hK
 obtain ⟨rfl, hZ, hh⟩ := hP
 have hx := Bd.exec
 have hby := Bd.bytes
 have hml : c.maxLocals = 1 := hml0
 have hown : s.vm.findClass cn2 = some m.cls := findClass_of_methodNamed Bd.named
 have hnm := (name_of_methodNamed Bd.named Bd.method).1
 have X0 : Stand p l e (⟨3, 0, 0, 36⟩ : Room) s m #[.ref a] below meth c s₁ [] 0 0 := Stand.of_body Bd
 have e0 : s₁.heap = h0 := by rw [← hh, Bd.state]; rfl
 have N0 := Fr.nil n0
 have hn0 : Z.heap.size = n0 := O0.1
 have KT0 : Keep h0 h0 [a] := Keep.refl _ _
 refine own_enter (Φ := fun oo_ UV_ => ∃ vv_ LL_, oo_ = .returned vv_ ∧ Q_rmALI Z wC cC wD kD mA mL mR a h0 n0 vv_ UV_.heap LL_ ∧ FrameEnd s oo_ UV_ LL_ (⟨3, 0, 0, 36⟩ : Room).cells (⟨3, 0, 0, 36⟩ : Room).slots) (own_ef_rmALI m a) ?_
 refine own_b s₁ m 1 #[vr a] [.ref a] (fun _ k_ => XS.aloadN X0.here hx rfl (hb hby d3_0) rfl rfl k_) ?_
 have la1 : @LT.lt Nat instLTNat a h0.size := E_a.lt
 obtain ⟨_, _, ⟨T2, L2, k2, n2⟩, -, X2, ⟨Lc2, hQ2, l2, y2, z2⟩, st2⟩ := X0.specialBack hx (y := (⟨"java/util/AbstractList", "<init>", "()V"⟩ : MethodName)) rfl hown (mvT hZ (ww hw 17 rfl)) (mvT hZ (ww hw 18 rfl)) (mvT hZ (ww hw 22 rfl)) (by decide) (backOf (W := 0) (rmABL l Z a0 hw [] wC cC wD kD mA mL mR GS a h0 n0 (by omega) O0 E_a (by omega) Fm Fe Fs) hZ (ww hw 22 rfl) (ww hw 21 rfl) (by decide) (by decide)) (g := (mkF m 1 #[vr a] [.ref a])) rfl (by rw [hml]; rfl) (Steps.refl _) (a := a) (argsL := []) (rest := []) (lenOf own_pd_0 rfl) rfl (by show 2 * 0 + _ ≤ _; exact Nat.le_of_eq rfl) (hb hby d3_1) (fun _ _ => ⟨rfl, e0, (by decide : 0 + 0 ≤ _), (by decide : 0 + 0 ≤ _)⟩)
 dsimp only [Pt.U, Pt.locs, Pt.cells, Pt.slots] at X2 l2 y2 z2 st2 hQ2
 subst l2 y2 z2
 obtain ⟨rfl, N2q, K2, p2_0, p2_1, p2_2⟩ := hQ2
 have N3 := Fr.app N0 N2q
 have zzK2 : h0.size ≤ T2.heap.size := K2.1
 have oo4 : Old Z n0 T2.heap := O0.keep K2 (allS (by omega : n0 ≤ a) all0)
 have kt5 : Keep h0 T2.heap [a] := KT0.trans K2 (allS (Or.inl (List.mem_of_getElem? (i := 0) rfl)) all0)
 refine own_b T2 m 4 #[vr a] [] (fun _ k_ => st2.trans k_) ?_
 refine own_b T2 m 5 #[vr a] [.ref a] (fun _ k_ => XS.aloadN X2.here hx rfl (hb hby d3_4) rfl rfl k_) ?_
 have f6 := GS.2.2.2.1.ext oo4.2
 obtain ⟨T7, X7, e7, st7⟩ := getS2 X2 hx hZ hown (host := "") (Or.inl (ww hw 32 rfl)) Via.refl rfl f6 (g := (mkF m 5 #[vr a] [.ref a])) rfl (hb hby d3_5)
 refine own_b T7 m 8 #[vr a] [.ref wD, .ref a] st7 ?_
 have f8 : Exa Z T2.heap a cn2 := (E_a.keep K2)
 obtain ⟨T9, h9, X9, e9, W9, st9⟩ := putF X7 hx hZ hown (host := "") (Or.inl (ww hw 33 rfl)) Via.refl e7 p2_1 f8 (Or.inl (ww hw 34 rfl)) (ww hw 12 rfl) (ty := (.array (.object "java/lang/Object"))) (by decide) rfl rfl (g := (mkF m 8 #[vr a] [.ref wD, .ref a])) rfl rfl (hb hby d3_8)
 have K10 : Keep T2.heap h9 [a] := Keep.of_wr W9
 have zzK10 : T2.heap.size ≤ h9.size := K10.1
 have oo11 : Old Z n0 h9 := oo4.keep K10 (allS (by omega : n0 ≤ a) all0)
 have kt12 : Keep h0 h9 [a] := kt5.trans K10 (allS (Or.inl (List.mem_of_getElem? (i := 0) rfl)) all0)
 have f13 : Fld Z h9 a "java/util/AbstractList" "modCount" "I" (.int 0) := p2_0.other W9 (Or.inr (slot_ne (Or.inl (ww hw 31 rfl)) (Or.inl (ww hw 34 rfl)) (by decide) (t := .int) (t' := (.array (.object "java/lang/Object"))) (by decide) (by decide)))
 have f14 : Fld Z h9 a cn2 "elementData" "[Ljava/lang/Object;" (.ref wD) := p2_1.same W9
 have f15 : Fld Z h9 a cn2 "size" "I" (.int 0) := p2_2.other W9 (Or.inr (slot_ne (Or.inl (ww hw 78 rfl)) (Or.inl (ww hw 34 rfl)) (by decide) (t := .int) (t' := (.array (.object "java/lang/Object"))) (by decide) (by decide)))
 have N16 := Fr.snoc X9 N3 (by omega : n0 ≤ a)
 refine own_b T9 m 11 #[vr a] [] st9 ?_
 obtain ⟨fs17, hr17, hrun17, hended17, hW17, hsame17⟩ := X9.leave (v := none) (fun _ => rfl)
 refine ⟨_, _, X9.returnOut hx Bd.returns (hb hby d3_11) hr17, hrun17, hended17, _, _, rfl, ?_, ⟨_, rfl⟩, hW17, hsame17.mono (by decide) (by decide)⟩
 show Q_rmALI Z wC cC wD kD mA mL mR a h0 n0 _ T9.heap _
 rw [e9]
 exact ⟨rfl, N16, kt12, f13, f14, f15⟩
theorem d14_0 : decode jdk_29_method_65_code 0 = .ok (.iload_n 0, 1) := by decide +kernel
theorem d14_1 : decode jdk_29_method_65_code 1 = .ok (.iload_n 1, 1) := by decide +kernel
theorem d14_2 : decode jdk_29_method_65_code 2 = .ok (.if_icmp .lt 7, 3) := by decide +kernel
theorem d14_5 : decode jdk_29_method_65_code 5 = .ok (.iload_n 0, 1) := by decide +kernel
theorem d14_6 : decode jdk_29_method_65_code 6 = .ok (.goto 4, 3) := by decide +kernel
theorem d14_10 : decode jdk_29_method_65_code 10 = .ok (.ireturn, 1) := by decide +kernel
theorem own_ef_rmMax (m : MethodId) (x0 : Int32) (x1 : Int32) : entryFrame m #[.int x0, .int x1] 2 = mkF m 0 #[.val (.int x0), .val (.int x1)] [] := by first | (simp [entryFrame, mkF, argsToLocals, Value.category]; done) | rfl
def Q_rmMax (Z : State) (wC : Addr) (cC : Cell) (wD : Addr) (kD : ClassId) (mA : Addr) (mL : Addr) (mR : Addr) (h0 : Heap) (n0 : Nat) (vv_ : Option Value) (hh_ : Heap) (LL_ : List Loc) : Prop := vv_ = some (.int 10) ∧ Fr n0 LL_ ∧ hh_ = h0
theorem rmMax (l : Launch) (Z : State) (a0 : Array Value) (hw : ∀ d ∈ tables_1, d.before a0 Z = true) (ws : List Jvm.Cond) (wC : Addr) (cC : Cell) (wD : Addr) (kD : ClassId) (mA : Addr) (mL : Addr) (mR : Addr) (GS : Glob Z wC cC wD kD mA mL mR)  (h0 : Heap) (n0 : Nat) (Z0 : n0 ≤ h0.size) (O0 : Old Z n0 h0) :
  MetFree l (⟨"java/lang/Math", "max", "(II)I"⟩ : MethodName) (head1 (Jvm.Cond.code (⟨"java/lang/Math", "max", "(II)I"⟩ : MethodName) jdk_29_method_65_code 2 (some .int) :: ws) (⟨0, 0, 0, 0⟩ : Room)) (fun aa_ UU_ => aa_ = #[.int 10, .int 1] ∧ Z.Warmed39 UU_.vm ∧ UU_.heap = h0) (fun _ _ _ _ _ => True) (fun _ UU_ oo_ UV_ => ∃ vv_ LL_, oo_ = .returned vv_ ∧ Q_rmMax Z wC cC wD kD mA mL mR h0 n0 vv_ UV_.heap LL_ ∧ FrameEnd UU_ oo_ UV_ LL_ (⟨0, 0, 0, 0⟩ : Room).cells (⟨0, 0, 0, 0⟩ : Room).slots) := by
 refine MetFree.of_bodySF (Jvm.Free.JP.mathPlain rfl (by decide +kernel)) hisR ?_
 intro p e s m args below meth c s₁ Bd hml0 hP hK
 obtain ⟨rfl, hZ, hh⟩ := hP
 have hx := Bd.exec
 have hby := Bd.bytes
 have hml : c.maxLocals = 2 := hml0
 have hown : s.vm.findClass "java/lang/Math" = some m.cls := findClass_of_methodNamed Bd.named
 have hnm := (name_of_methodNamed Bd.named Bd.method).1
 have X0 : Stand p l e (⟨0, 0, 0, 0⟩ : Room) s m #[.int 10, .int 1] below meth c s₁ [] 0 0 := Stand.of_body Bd
 have e0 : s₁.heap = h0 := by rw [← hh, Bd.state]; rfl
 have N0 := Fr.nil n0
 have hn0 : Z.heap.size = n0 := O0.1
 have KT0 : Keep h0 h0 [] := Keep.refl _ _
 refine own_enter (Φ := fun oo_ UV_ => ∃ vv_ LL_, oo_ = .returned vv_ ∧ Q_rmMax Z wC cC wD kD mA mL mR h0 n0 vv_ UV_.heap LL_ ∧ FrameEnd s oo_ UV_ LL_ (⟨0, 0, 0, 0⟩ : Room).cells (⟨0, 0, 0, 0⟩ : Room).slots) (own_ef_rmMax m (10 : Int32) (1 : Int32)) ?_
 refine own_b s₁ m 10 #[vi 10, vi 1] [.int 10] (fun _ k_ => XS.iloadN X0.here hx rfl (hb hby d14_0) rfl (XS.iloadN X0.here hx rfl (hb hby d14_1) rfl (XS.icmpNo X0.here hx rfl (hb hby d14_2) rfl (XT.ii_lt_f (by decide)) (XS.iloadN X0.here hx rfl (hb hby d14_5) rfl (XS.goto X0.here hx rfl (pc0 := 6) (pc' := 10) rfl (hb hby d14_6) (by decide) (by decide) k_))))) ?_
 obtain ⟨fs1, hr1, hrun1, hended1, hW1, hsame1⟩ := X0.leave (v := some (.int 10)) (fun h => by rw [Bd.returns] at h; cases h)
 refine ⟨_, _, retOut X0 hx (t := .int) Bd.returns rfl (Or.inl ⟨rfl, Or.inl rfl, _, rfl⟩) (hb hby d14_10) hr1, hrun1, hended1, _, _, rfl, ?_, ⟨_, rfl⟩, hW1, hsame1.mono (by decide) (by decide)⟩
 show Q_rmMax Z wC cC wD kD mA mL mR h0 n0 _ s₁.heap _
 exact ⟨rfl, N0, e0⟩
theorem own_pd_1 : parseMethodDescriptor "(II)I" = some ⟨[.int, .int], some .int⟩ := by decide +kernel
theorem d13_0 : decode jdk_38_method_6_code 0 = .ok (.aload_n 0, 1) := by decide +kernel
theorem d13_1 : decode jdk_38_method_6_code 1 = .ok (.getfield 9, 3) := by decide +kernel
theorem d13_4 : decode jdk_38_method_6_code 4 = .ok (.arraylength, 1) := by decide +kernel
theorem d13_5 : decode jdk_38_method_6_code 5 = .ok (.istore_n 2, 1) := by decide +kernel
theorem d13_6 : decode jdk_38_method_6_code 6 = .ok (.iload_n 2, 1) := by decide +kernel
theorem d13_7 : decode jdk_38_method_6_code 7 = .ok (.ifCond .gt 13, 3) := by decide +kernel
theorem d13_10 : decode jdk_38_method_6_code 10 = .ok (.aload_n 0, 1) := by decide +kernel
theorem d13_11 : decode jdk_38_method_6_code 11 = .ok (.getfield 9, 3) := by decide +kernel
theorem d13_14 : decode jdk_38_method_6_code 14 = .ok (.getstatic 39, 3) := by decide +kernel
theorem d13_17 : decode jdk_38_method_6_code 17 = .ok (.if_acmp .eq 28, 3) := by decide +kernel
theorem d13_45 : decode jdk_38_method_6_code 45 = .ok (.aload_n 0, 1) := by decide +kernel
theorem d13_46 : decode jdk_38_method_6_code 46 = .ok (.bipush 10, 2) := by decide +kernel
theorem d13_48 : decode jdk_38_method_6_code 48 = .ok (.iload_n 1, 1) := by decide +kernel
theorem d13_49 : decode jdk_38_method_6_code 49 = .ok (.invokestatic 79, 3) := by decide +kernel
theorem d13_52 : decode jdk_38_method_6_code 52 = .ok (.anewarray 7, 3) := by decide +kernel
theorem d13_55 : decode jdk_38_method_6_code 55 = .ok (.dup_x1, 1) := by decide +kernel
theorem d13_56 : decode jdk_38_method_6_code 56 = .ok (.putfield 9, 3) := by decide +kernel
theorem d13_59 : decode jdk_38_method_6_code 59 = .ok (.areturn, 1) := by decide +kernel
theorem own_ef_rmGr1 (m : MethodId) (x0 : Addr) (x1 : Int32) : entryFrame m #[.ref x0, .int x1] 4 = mkF m 0 #[.val (.ref x0), .val (.int x1), .unset, .unset] [] := by first | (simp [entryFrame, mkF, argsToLocals, Value.category]; done) | rfl
def Q_rmGr1 (Z : State) (wC : Addr) (cC : Cell) (wD : Addr) (kD : ClassId) (mA : Addr) (mL : Addr) (mR : Addr) (a : Addr) (mo : Int32) (h0 : Heap) (n0 : Nat) (vv_ : Option Value) (hh_ : Heap) (LL_ : List Loc) : Prop := ∃ t : Addr, ∃ kE : ClassId, vv_ = some (.ref t) ∧ Fr n0 LL_ ∧ Keep h0 hh_ [a] ∧ h0.size ≤ t ∧ Fld Z hh_ a "java/util/AbstractList" "modCount" "I" (.int mo) ∧ Fld Z hh_ a "java/util/ArrayList" "size" "I" (.int 0) ∧ Fld Z hh_ a "java/util/ArrayList" "elementData" "[Ljava/lang/Object;" (.ref t) ∧ Arv Z hh_ t kE (.object "java/lang/Object") (10 : Int32) [.null, .null, .null, .null, .null, .null, .null, .null, .null, .null] .null ∧ Ovr Z kE "java/lang/Object"
theorem rmGr1 (l : Launch) (Z : State) (a0 : Array Value) (hw : ∀ d ∈ tables_1, d.before a0 Z = true) (ws : List Jvm.Cond) (wC : Addr) (cC : Cell) (wD : Addr) (kD : ClassId) (mA : Addr) (mL : Addr) (mR : Addr) (GS : Glob Z wC cC wD kD mA mL mR) (a : Addr) (mo : Int32) (h0 : Heap) (n0 : Nat) (Z0 : n0 ≤ h0.size) (O0 : Old Z n0 h0) (E_a : Exa Z h0 a cn2) (g_a : n0 ≤ a) (Fm : Fld Z h0 a "java/util/AbstractList" "modCount" "I" (.int mo)) (Fe : Fld Z h0 a cn2 "elementData" "[Ljava/lang/Object;" (.ref wD)) (Fs : Fld Z h0 a cn2 "size" "I" (.int 0)) :
  MetFree l (⟨cn2, "grow", "(I)[Ljava/lang/Object;"⟩ : MethodName) (head1 (Jvm.Cond.code (⟨cn2, "grow", "(I)[Ljava/lang/Object;"⟩ : MethodName) jdk_38_method_6_code 4 (some (.array (.object "java/lang/Object"))) :: ws) (⟨1, 1, 10, 14⟩ : Room)) (fun aa_ UU_ => aa_ = #[.ref a, .int 1] ∧ Z.Warmed39 UU_.vm ∧ UU_.heap = h0) (fun _ _ _ _ _ => True) (fun _ UU_ oo_ UV_ => ∃ vv_ LL_, oo_ = .returned vv_ ∧ Q_rmGr1 Z wC cC wD kD mA mL mR a mo h0 n0 vv_ UV_.heap LL_ ∧ FrameEnd UU_ oo_ UV_ LL_ (⟨1, 1, 10, 14⟩ : Room).cells (⟨1, 1, 10, 14⟩ : Room).slots) := by
 refine MetFree.of_bodySF (plainFor_of_name own_p11) hisR ?_
 intro p e s m args below meth c s₁ Bd hml0 hP hK
 obtain ⟨rfl, hZ, hh⟩ := hP
 have hx := Bd.exec
 have hby := Bd.bytes
 have hml : c.maxLocals = 4 := hml0
 have hown : s.vm.findClass cn2 = some m.cls := findClass_of_methodNamed Bd.named
 have hnm := (name_of_methodNamed Bd.named Bd.method).1
 have X0 : Stand p l e (⟨1, 1, 10, 14⟩ : Room) s m #[.ref a, .int 1] below meth c s₁ [] 0 0 := Stand.of_body Bd
 have e0 : s₁.heap = h0 := by rw [← hh, Bd.state]; rfl
 have N0 := Fr.nil n0
 have hn0 : Z.heap.size = n0 := O0.1
 have KT0 : Keep h0 h0 [a] := Keep.refl _ _
 refine own_enter (Φ := fun oo_ UV_ => ∃ vv_ LL_, oo_ = .returned vv_ ∧ Q_rmGr1 Z wC cC wD kD mA mL mR a mo h0 n0 vv_ UV_.heap LL_ ∧ FrameEnd s oo_ UV_ LL_ (⟨1, 1, 10, 14⟩ : Room).cells (⟨1, 1, 10, 14⟩ : Room).slots) (own_ef_rmGr1 m a (1 : Int32)) ?_
 refine own_b s₁ m 1 #[vr a, vi 1, un, un] [.ref a] (fun _ k_ => XS.aloadN X0.here hx rfl (hb hby d13_0) rfl rfl k_) ?_
 obtain ⟨T1, X1, e1, st1⟩ := getF X0 hx hZ hown (host := "") (Or.inl (ww hw 33 rfl)) Via.refl e0 Fe (g := (mkF m 1 #[vr a, vi 1, un, un] [.ref a])) rfl rfl (hb hby d13_1)
 refine own_b T1 m 4 #[vr a, vi 1, un, un] [.ref wD] st1 ?_
 have f3 := GS.2.2.2.2.1.ext O0.2
 obtain ⟨cl2, Ar2, q2, S2, M2, H2, G2⟩ := id f3
 refine own_b T1 m 5 #[vr a, vi 1, un, un] [.int 0] (fun _ k_ => X1.arraylength hx (by rw [e1]; exact Ar2.1) (State.isArrayOf_alike hZ.alike Ar2.2.1) (g := (mkF m 4 #[vr a, vi 1, un, un] [.ref wD])) rfl rfl (hb hby d13_4) _ (by rw [len_of S2 M2]; exact k_)) ?_
 refine own_b T1 m 11 #[vr a, vi 1, vi 0, un] [.ref a] (fun _ k_ => XS.istoreN X1.here hx rfl (hb hby d13_5) rfl (l' := #[vr a, vi 1, vi 0, un]) rfl (XS.iloadN X1.here hx rfl (hb hby d13_6) rfl (XS.ifNo X1.here hx rfl (hb hby d13_7) rfl (XT.i0_gt_f (by decide)) (XS.aloadN X1.here hx rfl (hb hby d13_10) rfl rfl k_)))) ?_
 obtain ⟨T4, X4, e4, st4⟩ := getF X1 hx hZ hown (host := "") (Or.inl (ww hw 33 rfl)) Via.refl e1 Fe (g := (mkF m 11 #[vr a, vi 1, vi 0, un] [.ref a])) rfl rfl (hb hby d13_11)
 refine own_b T4 m 14 #[vr a, vi 1, vi 0, un] [.ref wD] st4 ?_
 have f5 := GS.2.2.2.1.ext O0.2
 obtain ⟨T6, X6, e6, st6⟩ := getS2 X4 hx hZ hown (host := "") (Or.inl (ww hw 32 rfl)) Via.refl e4 f5 (g := (mkF m 14 #[vr a, vi 1, vi 0, un] [.ref wD])) rfl (hb hby d13_14)
 refine own_b T6 m 17 #[vr a, vi 1, vi 0, un] [.ref wD, .ref wD] st6 ?_
 refine own_b T6 m 45 #[vr a, vi 1, vi 0, un] [] (fun _ k_ => Jvm.RoadKit.acmp (g := (mkF m 17 #[vr a, vi 1, vi 0, un] [.ref wD, .ref wD])) X6 hx rfl rfl rfl (pc0 := 17) (pc' := 45) (same := true) rfl (hb hby d13_17) rfl (decide_eq_true rfl) (by decide) (by decide) k_) ?_
 refine own_b T6 m 49 #[vr a, vi 1, vi 0, un] [.int 1, .int 10, .ref a] (fun _ k_ => XS.aloadN X6.here hx rfl (hb hby d13_45) rfl rfl (XS.bipush X6.here hx rfl (hb hby d13_46) (XS.iloadN X6.here hx rfl (hb hby d13_48) rfl k_))) ?_
 obtain ⟨_, _, ⟨T7, L7, k7, n7⟩, -, X7, ⟨Lc7, hQ7, l7, y7, z7⟩, st7⟩ := Jvm.LawKit.callS X6 hx (y := (⟨"java/lang/Math", "max", "(II)I"⟩ : MethodName)) hown (mvT hZ (ww hw 94 rfl)) (mvT hZ (ww hw 95 rfl)) (mvT hZ (ww hw 96 rfl)) (mvT hZ (ww hw 97 rfl)) (by decide) (backOf (W := 1) (rmMax l Z a0 hw [] wC cC wD kD mA mL mR GS  h0 n0 (by omega) O0 ) hZ (ww hw 97 rfl) (ww hw 96 rfl) (by decide) (by decide)) (g := (mkF m 49 #[vr a, vi 1, vi 0, un] [.int 1, .int 10, .ref a])) rfl (by rw [hml]; rfl) (argsL := [.int 10, .int 1]) (rest := [.ref a]) (lenOf own_pd_1 rfl) rfl (by show 2 * 0 + _ ≤ _; exact Nat.le_of_eq rfl) (hb hby d13_49) (fun _ _ => ⟨rfl, e6, (by decide : 0 + 0 ≤ _), (by decide : 0 + 0 ≤ _)⟩)
 dsimp only [Pt.U, Pt.locs, Pt.cells, Pt.slots] at X7 l7 y7 z7 st7 hQ7
 subst l7 y7 z7
 obtain ⟨rfl, N7q, e7⟩ := hQ7
 have N8 := Fr.app N0 N7q
 refine own_b T7 m 52 #[vr a, vi 1, vi 0, un] [.int 10, .ref a] st7 ?_
 obtain ⟨T9, h9, k9, X9, e9, E9, A9, O9, st9⟩ := newR X7 hx hZ hown (ww hw 98 rfl) (ww hw 99 rfl) e7 (g := (mkF m 52 #[vr a, vi 1, vi 0, un] [.int 10, .ref a])) rfl (hb hby d13_52) rfl (by decide) (cap := 10) (by decide) (by decide) (by decide) (by decide)
 obtain ⟨b9, g9⟩ : ∃ z, z = h0.size := ⟨_, rfl⟩
 rw [← g9] at A9 st9
 have K10 : Keep h0 h9 [] := own_kext E9
 have zzK10 : h0.size ≤ h9.size := K10.1
 have oo11 : Old Z n0 h9 := O0.keep K10 all0
 have kt12 : Keep h0 h9 [a] := KT0.trans K10 all0
 have lab9 : b9 < h9.size := A9.lt
 have f13 : Arv Z h9 b9 k9 (.object "java/lang/Object") (10 : Int32) [.null, .null, .null, .null, .null, .null, .null, .null, .null, .null] .null := (Arv.new A9 (by decide)).pad (pad_rep [] .null 10)
 refine own_b T9 m 55 #[vr a, vi 1, vi 0, un] [.ref b9, .ref a] st9 ?_
 refine own_b T9 m 56 #[vr a, vi 1, vi 0, un] [.ref b9, .ref a, .ref b9] (fun _ k_ => XS.dupX1 X9.here hx rfl (hb hby d13_55) rfl rfl rfl k_) ?_
 have f14 : Exa Z h9 a cn2 := (E_a.keep K10)
 have f15 : Fld Z h9 a cn2 "elementData" "[Ljava/lang/Object;" (.ref wD) := (Fe.keep K10 nin0)
 obtain ⟨T16, h16, X16, e16, W16, st16⟩ := putF X9 hx hZ hown (host := "") (Or.inl (ww hw 33 rfl)) Via.refl e9 f15 f14 (Or.inl (ww hw 34 rfl)) (ww hw 12 rfl) (ty := (.array (.object "java/lang/Object"))) (by decide) rfl rfl (g := (mkF m 56 #[vr a, vi 1, vi 0, un] [.ref b9, .ref a, .ref b9])) rfl rfl (hb hby d13_56)
 have K17 : Keep h9 h16 [a] := Keep.of_wr W16
 have f18 : Fld Z h9 a "java/util/AbstractList" "modCount" "I" (.int mo) := (Fm.keep K10 nin0)
 have f19 : Fld Z h9 a cn2 "size" "I" (.int 0) := (Fs.keep K10 nin0)
 have zzK17 : h9.size ≤ h16.size := K17.1
 have oo20 : Old Z n0 h16 := oo11.keep K17 (allS (by omega : n0 ≤ a) all0)
 have kt21 : Keep h0 h16 [a] := kt12.trans K17 (allS (Or.inl (List.mem_of_getElem? (i := 0) rfl)) all0)
 have f22 : Fld Z h16 a "java/util/AbstractList" "modCount" "I" (.int mo) := f18.other W16 (Or.inr (slot_ne (Or.inl (ww hw 31 rfl)) (Or.inl (ww hw 34 rfl)) (by decide) (t := .int) (t' := (.array (.object "java/lang/Object"))) (by decide) (by decide)))
 have f23 : Fld Z h16 a cn2 "elementData" "[Ljava/lang/Object;" (.ref b9) := f15.same W16
 have f24 : Fld Z h16 a cn2 "size" "I" (.int 0) := f19.other W16 (Or.inr (slot_ne (Or.inl (ww hw 78 rfl)) (Or.inl (ww hw 34 rfl)) (by decide) (t := .int) (t' := (.array (.object "java/lang/Object"))) (by decide) (by decide)))
 have N25 := Fr.snoc X16 N8 (by omega : n0 ≤ a)
 refine own_b T16 m 59 #[vr a, vi 1, vi 0, un] [.ref b9] st16 ?_
 have la26 : @LT.lt Nat instLTNat a h0.size := E_a.lt
 have ne27 : @Ne Nat b9 a := by omega
 have f28 : Arv Z h16 b9 k9 (.object "java/lang/Object") (10 : Int32) [.null, .null, .null, .null, .null, .null, .null, .null, .null, .null] .null := (f13.keep K17 (ninS ne27 nin0))
 obtain ⟨fs29, hr29, hrun29, hended29, hW29, hsame29⟩ := X16.leave (v := some (.ref b9)) (fun h => by rw [Bd.returns] at h; cases h)
 refine ⟨_, _, retOut X16 hx (t := (.array (.object "java/lang/Object"))) Bd.returns rfl (Or.inr (Or.inr (Or.inr (Or.inr ⟨rfl, rfl, rfl⟩)))) (hb hby d13_59) hr29, hrun29, hended29, _, _, rfl, ?_, ⟨_, rfl⟩, hW29, hsame29.mono (by decide) (by decide)⟩
 show Q_rmGr1 Z wC cC wD kD mA mL mR a mo h0 n0 _ T16.heap _
 rw [e16]
 exact ⟨b9, k9, rfl, N25, kt21, (by omega), f22, f24, f23, f28, (O9)⟩
theorem own_pd_2 : parseMethodDescriptor "(I)[Ljava/lang/Object;" = some ⟨[.int], some (.array (.object "java/lang/Object"))⟩ := by decide +kernel
theorem d12_0 : decode jdk_38_method_7_code 0 = .ok (.aload_n 0, 1) := by decide +kernel
theorem d12_1 : decode jdk_38_method_7_code 1 = .ok (.aload_n 0, 1) := by decide +kernel
theorem d12_2 : decode jdk_38_method_7_code 2 = .ok (.getfield 48, 3) := by decide +kernel
theorem d12_5 : decode jdk_38_method_7_code 5 = .ok (.iconst 1, 1) := by decide +kernel
theorem d12_6 : decode jdk_38_method_7_code 6 = .ok (.iadd, 1) := by decide +kernel
theorem d12_7 : decode jdk_38_method_7_code 7 = .ok (.invokevirtual 69, 3) := by decide +kernel
theorem d12_10 : decode jdk_38_method_7_code 10 = .ok (.areturn, 1) := by decide +kernel
theorem own_ef_rmGr0 (m : MethodId) (x0 : Addr) : entryFrame m #[.ref x0] 1 = mkF m 0 #[.val (.ref x0)] [] := by first | (simp [entryFrame, mkF, argsToLocals, Value.category]; done) | rfl
def Q_rmGr0 (Z : State) (wC : Addr) (cC : Cell) (wD : Addr) (kD : ClassId) (mA : Addr) (mL : Addr) (mR : Addr) (a : Addr) (mo : Int32) (h0 : Heap) (n0 : Nat) (vv_ : Option Value) (hh_ : Heap) (LL_ : List Loc) : Prop := ∃ t : Addr, ∃ kE : ClassId, vv_ = some (.ref t) ∧ Fr n0 LL_ ∧ Keep h0 hh_ [a] ∧ h0.size ≤ t ∧ Fld Z hh_ a "java/util/AbstractList" "modCount" "I" (.int mo) ∧ Fld Z hh_ a "java/util/ArrayList" "size" "I" (.int 0) ∧ Fld Z hh_ a "java/util/ArrayList" "elementData" "[Ljava/lang/Object;" (.ref t) ∧ Arv Z hh_ t kE (.object "java/lang/Object") (10 : Int32) [.null, .null, .null, .null, .null, .null, .null, .null, .null, .null] .null ∧ Ovr Z kE "java/lang/Object"
theorem rmGr0 (l : Launch) (Z : State) (a0 : Array Value) (hw : ∀ d ∈ tables_1, d.before a0 Z = true) (ws : List Jvm.Cond) (wC : Addr) (cC : Cell) (wD : Addr) (kD : ClassId) (mA : Addr) (mL : Addr) (mR : Addr) (GS : Glob Z wC cC wD kD mA mL mR) (a : Addr) (mo : Int32) (h0 : Heap) (n0 : Nat) (Z0 : n0 ≤ h0.size) (O0 : Old Z n0 h0) (E_a : Exa Z h0 a cn2) (g_a : n0 ≤ a) (Fm : Fld Z h0 a "java/util/AbstractList" "modCount" "I" (.int mo)) (Fe : Fld Z h0 a cn2 "elementData" "[Ljava/lang/Object;" (.ref wD)) (Fs : Fld Z h0 a cn2 "size" "I" (.int 0)) :
  MetFree l (⟨cn2, "grow", "()[Ljava/lang/Object;"⟩ : MethodName) (head1 (Jvm.Cond.code (⟨cn2, "grow", "()[Ljava/lang/Object;"⟩ : MethodName) jdk_38_method_7_code 1 (some (.array (.object "java/lang/Object"))) :: ws) (⟨2, 1, 10, 29⟩ : Room)) (fun aa_ UU_ => aa_ = #[.ref a] ∧ Z.Warmed39 UU_.vm ∧ UU_.heap = h0) (fun _ _ _ _ _ => True) (fun _ UU_ oo_ UV_ => ∃ vv_ LL_, oo_ = .returned vv_ ∧ Q_rmGr0 Z wC cC wD kD mA mL mR a mo h0 n0 vv_ UV_.heap LL_ ∧ FrameEnd UU_ oo_ UV_ LL_ (⟨2, 1, 10, 29⟩ : Room).cells (⟨2, 1, 10, 29⟩ : Room).slots) := by
 refine MetFree.of_bodySF (plainFor_of_name own_p11) hisR ?_
 intro p e s m args below meth c s₁ Bd hml0 hP hK
 obtain ⟨rfl, hZ, hh⟩ := hP
 have hx := Bd.exec
 have hby := Bd.bytes
 have hml : c.maxLocals = 1 := hml0
 have hown : s.vm.findClass cn2 = some m.cls := findClass_of_methodNamed Bd.named
 have hnm := (name_of_methodNamed Bd.named Bd.method).1
 have X0 : Stand p l e (⟨2, 1, 10, 29⟩ : Room) s m #[.ref a] below meth c s₁ [] 0 0 := Stand.of_body Bd
 have e0 : s₁.heap = h0 := by rw [← hh, Bd.state]; rfl
 have N0 := Fr.nil n0
 have hn0 : Z.heap.size = n0 := O0.1
 have KT0 : Keep h0 h0 [a] := Keep.refl _ _
 refine own_enter (Φ := fun oo_ UV_ => ∃ vv_ LL_, oo_ = .returned vv_ ∧ Q_rmGr0 Z wC cC wD kD mA mL mR a mo h0 n0 vv_ UV_.heap LL_ ∧ FrameEnd s oo_ UV_ LL_ (⟨2, 1, 10, 29⟩ : Room).cells (⟨2, 1, 10, 29⟩ : Room).slots) (own_ef_rmGr0 m a) ?_
 refine own_b s₁ m 2 #[vr a] [.ref a, .ref a] (fun _ k_ => XS.aloadN X0.here hx rfl (hb hby d12_0) rfl rfl (XS.aloadN X0.here hx rfl (hb hby d12_1) rfl rfl k_)) ?_
 obtain ⟨T1, X1, e1, st1⟩ := getF X0 hx hZ hown (host := "") (Or.inl (ww hw 77 rfl)) Via.refl e0 Fs (g := (mkF m 2 #[vr a] [.ref a, .ref a])) rfl rfl (hb hby d12_2)
 refine own_b T1 m 5 #[vr a] [.int 0, .ref a] st1 ?_
 refine own_b T1 m 7 #[vr a] [(.int ((0 : Int32) + (1 : Int32))), .ref a] (fun _ k_ => XS.iconst X1.here hx rfl (hb hby d12_5) (XS.iadd X1.here hx rfl (hb hby d12_6) rfl k_)) ?_
 rw [show ((0 : Int32) + (1 : Int32)) = (1 : Int32) from by decide]
 have la2 : @LT.lt Nat instLTNat a h0.size := E_a.lt
 obtain ⟨cq3, q3, q3'⟩ := E_a.cell
 obtain ⟨_, _, ⟨T3, L3, k3, n3⟩, -, X3, ⟨Lc3, hQ3, l3, y3, z3⟩, st3⟩ := X1.privateBack hx (y := (⟨cn2, "grow", "(I)[Ljava/lang/Object;"⟩ : MethodName)) hown (mvT hZ (ww hw 89 rfl)) (mvT hZ (ww hw 90 rfl)) (mvT hZ (ww hw 92 rfl)) (Cond.privateMethod_at (mvP hZ (ww hw 91 rfl) (args := #[]))) (mvT hZ (ww hw 93 rfl)) (by decide) (backOf (W := 0) (rmGr1 l Z a0 hw [] wC cC wD kD mA mL mR GS a mo h0 n0 (by omega) O0 E_a (by omega) Fm Fe Fs) hZ (ww hw 93 rfl) (ww hw 13 rfl) (by decide) (by decide)) (g := (mkF m 7 #[vr a] [.int 1, .ref a])) rfl (by rw [hml]; rfl) (Steps.refl _) (a := a) (by rw [e1]; exact q3) q3' (argsL := [.int 1]) (rest := []) (lenOf own_pd_2 rfl) rfl (by show 2 * 0 + _ ≤ _; exact Nat.le_of_eq rfl) (hb hby d12_7) (fun _ _ => ⟨rfl, e1, (by decide : 0 + 1 ≤ _), (by decide : 0 + 10 ≤ _)⟩)
 dsimp only [Pt.U, Pt.locs, Pt.cells, Pt.slots] at X3 l3 y3 z3 st3 hQ3
 subst l3 y3 z3
 obtain ⟨t_4, kE_5, rfl, N3q, K3, p3_0, p3_1, p3_2, p3_3, p3_4, p3_5⟩ := hQ3
 have N6 := Fr.app N0 N3q
 have gt_4 : h0.size ≤ t_4 := p3_0
 have zzK3 : h0.size ≤ T3.heap.size := K3.1
 have oo7 : Old Z n0 T3.heap := O0.keep K3 (allS (by omega : n0 ≤ a) all0)
 have kt8 : Keep h0 T3.heap [a] := KT0.trans K3 (allS (Or.inl (List.mem_of_getElem? (i := 0) rfl)) all0)
 refine own_b T3 m 10 #[vr a] [.ref t_4] (fun _ k_ => st3.trans k_) ?_
 have la9 : @LT.lt Nat instLTNat t_4 T3.heap.size := p3_4.lt
 obtain ⟨fs10, hr10, hrun10, hended10, hW10, hsame10⟩ := X3.leave (v := some (.ref t_4)) (fun h => by rw [Bd.returns] at h; cases h)
 refine ⟨_, _, retOut X3 hx (t := (.array (.object "java/lang/Object"))) Bd.returns rfl (Or.inr (Or.inr (Or.inr (Or.inr ⟨rfl, rfl, rfl⟩)))) (hb hby d12_10) hr10, hrun10, hended10, _, _, rfl, ?_, ⟨_, rfl⟩, hW10, hsame10.mono (by decide) (by decide)⟩
 show Q_rmGr0 Z wC cC wD kD mA mL mR a mo h0 n0 _ T3.heap _
 exact ⟨t_4, kE_5, rfl, N6, kt8, (by omega), p3_1, p3_2, p3_3, p3_4, (p3_5)⟩
theorem own_pd_3 : parseMethodDescriptor "()[Ljava/lang/Object;" = some ⟨[], some (.array (.object "java/lang/Object"))⟩ := by decide +kernel
theorem d11_0 : decode jdk_38_method_24_code 0 = .ok (.iload_n 3, 1) := by decide +kernel
theorem d11_1 : decode jdk_38_method_24_code 1 = .ok (.aload_n 2, 1) := by decide +kernel
theorem d11_2 : decode jdk_38_method_24_code 2 = .ok (.arraylength, 1) := by decide +kernel
theorem d11_3 : decode jdk_38_method_24_code 3 = .ok (.if_icmp .ne 8, 3) := by decide +kernel
theorem d11_6 : decode jdk_38_method_24_code 6 = .ok (.aload_n 0, 1) := by decide +kernel
theorem d11_7 : decode jdk_38_method_24_code 7 = .ok (.invokevirtual 129, 3) := by decide +kernel
theorem d11_10 : decode jdk_38_method_24_code 10 = .ok (.astore_n 2, 1) := by decide +kernel
theorem d11_11 : decode jdk_38_method_24_code 11 = .ok (.aload_n 2, 1) := by decide +kernel
theorem d11_12 : decode jdk_38_method_24_code 12 = .ok (.iload_n 3, 1) := by decide +kernel
theorem d11_13 : decode jdk_38_method_24_code 13 = .ok (.aload_n 1, 1) := by decide +kernel
theorem d11_14 : decode jdk_38_method_24_code 14 = .ok (.aastore, 1) := by decide +kernel
theorem d11_15 : decode jdk_38_method_24_code 15 = .ok (.aload_n 0, 1) := by decide +kernel
theorem d11_16 : decode jdk_38_method_24_code 16 = .ok (.iload_n 3, 1) := by decide +kernel
theorem d11_17 : decode jdk_38_method_24_code 17 = .ok (.iconst 1, 1) := by decide +kernel
theorem d11_18 : decode jdk_38_method_24_code 18 = .ok (.iadd, 1) := by decide +kernel
theorem d11_19 : decode jdk_38_method_24_code 19 = .ok (.putfield 48, 3) := by decide +kernel
theorem d11_22 : decode jdk_38_method_24_code 22 = .ok (.return_, 1) := by decide +kernel
theorem own_ef_rmAdd3 (m : MethodId) (x0 : Addr) (x1 : Addr) (x2 : Addr) (x3 : Int32) : entryFrame m #[.ref x0, .ref x1, .ref x2, .int x3] 4 = mkF m 0 #[.val (.ref x0), .val (.ref x1), .val (.ref x2), .val (.int x3)] [] := by first | (simp [entryFrame, mkF, argsToLocals, Value.category]; done) | rfl
def Q_rmAdd3 (Z : State) (wC : Addr) (cC : Cell) (wD : Addr) (kD : ClassId) (mA : Addr) (mL : Addr) (mR : Addr) (a : Addr) (b : Addr) (mo : Int32) (h0 : Heap) (n0 : Nat) (vv_ : Option Value) (hh_ : Heap) (LL_ : List Loc) : Prop := ∃ t : Addr, ∃ kE : ClassId, vv_ = none ∧ Fr n0 LL_ ∧ Keep h0 hh_ [a] ∧ h0.size ≤ t ∧ Fld Z hh_ a "java/util/AbstractList" "modCount" "I" (.int mo) ∧ Fld Z hh_ a "java/util/ArrayList" "elementData" "[Ljava/lang/Object;" (.ref t) ∧ Fld Z hh_ a "java/util/ArrayList" "size" "I" (.int 1) ∧ Arv Z hh_ t kE (.object "java/lang/Object") (10 : Int32) [.ref b, .null, .null, .null, .null, .null, .null, .null, .null, .null] .null
theorem rmAdd3 (l : Launch) (Z : State) (a0 : Array Value) (hw : ∀ d ∈ tables_1, d.before a0 Z = true) (ws : List Jvm.Cond) (wC : Addr) (cC : Cell) (wD : Addr) (kD : ClassId) (mA : Addr) (mL : Addr) (mR : Addr) (GS : Glob Z wC cC wD kD mA mL mR) (a : Addr) (b : Addr) (mo : Int32) (h0 : Heap) (n0 : Nat) (Z0 : n0 ≤ h0.size) (O0 : Old Z n0 h0) (E_a : Exa Z h0 a cn2) (g_a : n0 ≤ a) (E_b : Exa Z h0 b "java/lang/Integer") (Fm : Fld Z h0 a "java/util/AbstractList" "modCount" "I" (.int mo)) (Fe : Fld Z h0 a cn2 "elementData" "[Ljava/lang/Object;" (.ref wD)) (Fs : Fld Z h0 a cn2 "size" "I" (.int 0)) :
  MetFree l (⟨cn2, "add", "(Ljava/lang/Object;[Ljava/lang/Object;I)V"⟩ : MethodName) (head1 (Jvm.Cond.code (⟨cn2, "add", "(Ljava/lang/Object;[Ljava/lang/Object;I)V"⟩ : MethodName) jdk_38_method_24_code 4 none :: ws) (⟨3, 1, 10, 41⟩ : Room)) (fun aa_ UU_ => aa_ = #[.ref a, .ref b, .ref wD, .int 0] ∧ Z.Warmed39 UU_.vm ∧ UU_.heap = h0) (fun _ _ _ _ _ => True) (fun _ UU_ oo_ UV_ => ∃ vv_ LL_, oo_ = .returned vv_ ∧ Q_rmAdd3 Z wC cC wD kD mA mL mR a b mo h0 n0 vv_ UV_.heap LL_ ∧ FrameEnd UU_ oo_ UV_ LL_ (⟨3, 1, 10, 41⟩ : Room).cells (⟨3, 1, 10, 41⟩ : Room).slots) := by
 refine MetFree.of_bodySF (plainFor_of_name own_p11) hisR ?_
 intro p e s m args below meth c s₁ Bd hml0 hP hK
 obtain ⟨rfl, hZ, hh⟩ := hP
 have hx := Bd.exec
 have hby := Bd.bytes
 have hml : c.maxLocals = 4 := hml0
 have hown : s.vm.findClass cn2 = some m.cls := findClass_of_methodNamed Bd.named
 have hnm := (name_of_methodNamed Bd.named Bd.method).1
 have X0 : Stand p l e (⟨3, 1, 10, 41⟩ : Room) s m #[.ref a, .ref b, .ref wD, .int 0] below meth c s₁ [] 0 0 := Stand.of_body Bd
 have e0 : s₁.heap = h0 := by rw [← hh, Bd.state]; rfl
 have N0 := Fr.nil n0
 have hn0 : Z.heap.size = n0 := O0.1
 have KT0 : Keep h0 h0 [a] := Keep.refl _ _
 refine own_enter (Φ := fun oo_ UV_ => ∃ vv_ LL_, oo_ = .returned vv_ ∧ Q_rmAdd3 Z wC cC wD kD mA mL mR a b mo h0 n0 vv_ UV_.heap LL_ ∧ FrameEnd s oo_ UV_ LL_ (⟨3, 1, 10, 41⟩ : Room).cells (⟨3, 1, 10, 41⟩ : Room).slots) (own_ef_rmAdd3 m a b wD (0 : Int32)) ?_
 refine own_b s₁ m 2 #[vr a, vr b, vr wD, vi 0] [.ref wD, .int 0] (fun _ k_ => XS.iloadN X0.here hx rfl (hb hby d11_0) rfl (XS.aloadN X0.here hx rfl (hb hby d11_1) rfl rfl k_)) ?_
 have f2 := GS.2.2.2.2.1.ext O0.2
 obtain ⟨cl1, Ar1, q1, S1, M1, H1, G1⟩ := id f2
 refine own_b s₁ m 3 #[vr a, vr b, vr wD, vi 0] [.int 0, .int 0] (fun _ k_ => X0.arraylength hx (by rw [e0]; exact Ar1.1) (State.isArrayOf_alike hZ.alike Ar1.2.1) (g := (mkF m 2 #[vr a, vr b, vr wD, vi 0] [.ref wD, .int 0])) rfl rfl (hb hby d11_2) _ (by rw [len_of S1 M1]; exact k_)) ?_
 refine own_b s₁ m 7 #[vr a, vr b, vr wD, vi 0] [.ref a] (fun _ k_ => XS.icmpNo X0.here hx rfl (hb hby d11_3) rfl (XT.ii_ne_f (by decide)) (XS.aloadN X0.here hx rfl (hb hby d11_6) rfl rfl k_)) ?_
 have la3 : @LT.lt Nat instLTNat a h0.size := E_a.lt
 obtain ⟨cq4, q4, q4'⟩ := E_a.cell
 obtain ⟨_, _, ⟨T4, L4, k4, n4⟩, -, X4, ⟨Lc4, hQ4, l4, y4, z4⟩, st4⟩ := X0.privateBack hx (y := (⟨cn2, "grow", "()[Ljava/lang/Object;"⟩ : MethodName)) hown (mvT hZ (ww hw 84 rfl)) (mvT hZ (ww hw 85 rfl)) (mvT hZ (ww hw 87 rfl)) (Cond.privateMethod_at (mvP hZ (ww hw 86 rfl) (args := #[]))) (mvT hZ (ww hw 88 rfl)) (by decide) (backOf (W := 0) (rmGr0 l Z a0 hw [] wC cC wD kD mA mL mR GS a mo h0 n0 (by omega) O0 E_a (by omega) Fm Fe Fs) hZ (ww hw 88 rfl) (ww hw 13 rfl) (by decide) (by decide)) (g := (mkF m 7 #[vr a, vr b, vr wD, vi 0] [.ref a])) rfl (by rw [hml]; rfl) (Steps.refl _) (a := a) (by rw [e0]; exact q4) q4' (argsL := []) (rest := []) (lenOf own_pd_3 rfl) rfl (by show 2 * 0 + _ ≤ _; exact Nat.le_of_eq rfl) (hb hby d11_7) (fun _ _ => ⟨rfl, e0, (by decide : 0 + 1 ≤ _), (by decide : 0 + 10 ≤ _)⟩)
 dsimp only [Pt.U, Pt.locs, Pt.cells, Pt.slots] at X4 l4 y4 z4 st4 hQ4
 subst l4 y4 z4
 obtain ⟨t_5, kE_6, rfl, N4q, K4, p4_0, p4_1, p4_2, p4_3, p4_4, p4_5⟩ := hQ4
 have N7 := Fr.app N0 N4q
 have gt_5 : h0.size ≤ t_5 := p4_0
 have zzK4 : h0.size ≤ T4.heap.size := K4.1
 have oo8 : Old Z n0 T4.heap := O0.keep K4 (allS (by omega : n0 ≤ a) all0)
 have kt9 : Keep h0 T4.heap [a] := KT0.trans K4 (allS (Or.inl (List.mem_of_getElem? (i := 0) rfl)) all0)
 refine own_b T4 m 10 #[vr a, vr b, vr wD, vi 0] [.ref t_5] (fun _ k_ => st4.trans k_) ?_
 refine own_b T4 m 14 #[vr a, vr b, vr t_5, vi 0] [.ref b, .int 0, .ref t_5] (fun _ k_ => XS.astoreN X4.here hx rfl (hb hby d11_10) rfl rfl (l' := #[vr a, vr b, vr t_5, vi 0]) rfl (XS.aloadN X4.here hx rfl (hb hby d11_11) rfl rfl (XS.iloadN X4.here hx rfl (hb hby d11_12) rfl (XS.aloadN X4.here hx rfl (hb hby d11_13) rfl rfl k_)))) ?_
 obtain ⟨cl10, Ar10, q10, S10, M10, H10, G10⟩ := id p4_4
 have hin10 : ¬ ((0 : Int32) < 0 ∨ cl10.slots.size ≤ ((0 : Int32)).toNatClampNeg) := inb_of S10 ⟨by decide, by decide⟩
 have f11 : Exa Z T4.heap b "java/lang/Integer" := (E_b.keep K4)
 obtain ⟨T10, h10, X10, e10, W10, st10⟩ := stR X4 hx hZ rfl Ar10 (j := (0 : Int32)) hin10 rfl (Sto.ofV Ar10 q10 p4_5 (Ins.of_exa f11 (ww hw 100 rfl))) (g := (mkF m 14 #[vr a, vr b, vr t_5, vi 0] [.ref b, .int 0, .ref t_5])) rfl rfl (hb hby d11_14)
 have K12 : Keep T4.heap h10 [t_5] := Keep.of_wr W10
 have zzK12 : T4.heap.size ≤ h10.size := K12.1
 have oo13 : Old Z n0 h10 := oo8.keep K12 (allS (by omega : n0 ≤ t_5) all0)
 have kt14 : Keep h0 h10 [a] := kt9.trans K12 (allS (Or.inr (by omega : h0.size ≤ t_5)) all0)
 have f15 : Arv Z h10 t_5 kE_6 (.object "java/lang/Object") (10 : Int32) [.ref b, .null, .null, .null, .null, .null, .null, .null, .null, .null] .null := Arv.set Ar10 q10 S10 M10 H10 G10 (own_fitR rfl rfl) W10 0 rfl (Nat.le_of_ble_eq_true rfl)
 have N16 := Fr.snoc X10 N7 (by omega : n0 ≤ t_5)
 refine own_b T10 m 15 #[vr a, vr b, vr t_5, vi 0] [] st10 ?_
 refine own_b T10 m 19 #[vr a, vr b, vr t_5, vi 0] [(.int ((0 : Int32) + (1 : Int32))), .ref a] (fun _ k_ => XS.aloadN X10.here hx rfl (hb hby d11_15) rfl rfl (XS.iloadN X10.here hx rfl (hb hby d11_16) rfl (XS.iconst X10.here hx rfl (hb hby d11_17) (XS.iadd X10.here hx rfl (hb hby d11_18) rfl k_)))) ?_
 rw [show ((0 : Int32) + (1 : Int32)) = (1 : Int32) from by decide]
 have f17 : Exa Z h10 a cn2 := ((E_a.keep K4).keep K12)
 have la18 : @LT.lt Nat instLTNat t_5 T4.heap.size := p4_4.lt
 have ne19 : @Ne Nat a t_5 := by omega
 have f20 : Fld Z h10 a cn2 "size" "I" (.int 0) := (p4_2.keep K12 (ninS ne19 nin0))
 obtain ⟨T21, h21, X21, e21, W21, st21⟩ := putF X10 hx hZ hown (host := "") (Or.inl (ww hw 77 rfl)) Via.refl e10 f20 f17 (Or.inl (ww hw 78 rfl)) (ww hw 12 rfl) (ty := .int) (by decide) rfl rfl (g := (mkF m 19 #[vr a, vr b, vr t_5, vi 0] [.int 1, .ref a])) rfl rfl (hb hby d11_19)
 have K22 : Keep h10 h21 [a] := Keep.of_wr W21
 have f23 : Fld Z h10 a "java/util/AbstractList" "modCount" "I" (.int mo) := (p4_1.keep K12 (ninS ne19 nin0))
 have f24 : Fld Z h10 a cn2 "elementData" "[Ljava/lang/Object;" (.ref t_5) := (p4_3.keep K12 (ninS ne19 nin0))
 have zzK22 : h10.size ≤ h21.size := K22.1
 have oo25 : Old Z n0 h21 := oo13.keep K22 (allS (by omega : n0 ≤ a) all0)
 have kt26 : Keep h0 h21 [a] := kt14.trans K22 (allS (Or.inl (List.mem_of_getElem? (i := 0) rfl)) all0)
 have f27 : Fld Z h21 a "java/util/AbstractList" "modCount" "I" (.int mo) := f23.other W21 (Or.inr (slot_ne (Or.inl (ww hw 31 rfl)) (Or.inl (ww hw 78 rfl)) (by decide) (t := .int) (t' := .int) (by decide) (by decide)))
 have f28 : Fld Z h21 a cn2 "size" "I" (.int 1) := f20.same W21
 have f29 : Fld Z h21 a cn2 "elementData" "[Ljava/lang/Object;" (.ref t_5) := f24.other W21 (Or.inr (slot_ne (Or.inl (ww hw 34 rfl)) (Or.inl (ww hw 78 rfl)) (by decide) (t := (.array (.object "java/lang/Object"))) (t' := .int) (by decide) (by decide)))
 have N30 := Fr.snoc X21 N16 (by omega : n0 ≤ a)
 refine own_b T21 m 22 #[vr a, vr b, vr t_5, vi 0] [] st21 ?_
 have ne31 : @Ne Nat t_5 a := by omega
 have f32 : Arv Z h21 t_5 kE_6 (.object "java/lang/Object") (10 : Int32) [.ref b, .null, .null, .null, .null, .null, .null, .null, .null, .null] .null := (f15.keep K22 (ninS ne31 nin0))
 obtain ⟨fs33, hr33, hrun33, hended33, hW33, hsame33⟩ := X21.leave (v := none) (fun _ => rfl)
 refine ⟨_, _, X21.returnOut hx Bd.returns (hb hby d11_22) hr33, hrun33, hended33, _, _, rfl, ?_, ⟨_, rfl⟩, hW33, hsame33.mono (by decide) (by decide)⟩
 show Q_rmAdd3 Z wC cC wD kD mA mL mR a b mo h0 n0 _ T21.heap _
 rw [e21]
 exact ⟨t_5, kE_6, rfl, N30, kt26, (by omega), f27, f29, f28, f32⟩
theorem own_pd_4 : parseMethodDescriptor "(Ljava/lang/Object;[Ljava/lang/Object;I)V" = some ⟨[(.object "java/lang/Object"), (.array (.object "java/lang/Object")), .int], none⟩ := by decide +kernel
theorem d10_0 : decode jdk_38_method_25_code 0 = .ok (.aload_n 0, 1) := by decide +kernel
theorem d10_1 : decode jdk_38_method_25_code 1 = .ok (.dup, 1) := by decide +kernel
theorem d10_2 : decode jdk_38_method_25_code 2 = .ok (.getfield 63, 3) := by decide +kernel
theorem d10_5 : decode jdk_38_method_25_code 5 = .ok (.iconst 1, 1) := by decide +kernel
theorem d10_6 : decode jdk_38_method_25_code 6 = .ok (.iadd, 1) := by decide +kernel
theorem d10_7 : decode jdk_38_method_25_code 7 = .ok (.putfield 63, 3) := by decide +kernel
theorem d10_10 : decode jdk_38_method_25_code 10 = .ok (.aload_n 0, 1) := by decide +kernel
theorem d10_11 : decode jdk_38_method_25_code 11 = .ok (.aload_n 1, 1) := by decide +kernel
theorem d10_12 : decode jdk_38_method_25_code 12 = .ok (.aload_n 0, 1) := by decide +kernel
theorem d10_13 : decode jdk_38_method_25_code 13 = .ok (.getfield 9, 3) := by decide +kernel
theorem d10_16 : decode jdk_38_method_25_code 16 = .ok (.aload_n 0, 1) := by decide +kernel
theorem d10_17 : decode jdk_38_method_25_code 17 = .ok (.getfield 48, 3) := by decide +kernel
theorem d10_20 : decode jdk_38_method_25_code 20 = .ok (.invokevirtual 131, 3) := by decide +kernel
theorem d10_23 : decode jdk_38_method_25_code 23 = .ok (.iconst 1, 1) := by decide +kernel
theorem d10_24 : decode jdk_38_method_25_code 24 = .ok (.ireturn, 1) := by decide +kernel
theorem own_ef_rmAdd (m : MethodId) (x0 : Addr) (x1 : Addr) : entryFrame m #[.ref x0, .ref x1] 2 = mkF m 0 #[.val (.ref x0), .val (.ref x1)] [] := by first | (simp [entryFrame, mkF, argsToLocals, Value.category]; done) | rfl
def Q_rmAdd (Z : State) (wC : Addr) (cC : Cell) (wD : Addr) (kD : ClassId) (mA : Addr) (mL : Addr) (mR : Addr) (a : Addr) (b : Addr) (h0 : Heap) (n0 : Nat) (vv_ : Option Value) (hh_ : Heap) (LL_ : List Loc) : Prop := ∃ t : Addr, ∃ kE : ClassId, vv_ = some (.int 1) ∧ Fr n0 LL_ ∧ Keep h0 hh_ [a] ∧ h0.size ≤ t ∧ Fld Z hh_ a "java/util/AbstractList" "modCount" "I" (.int 1) ∧ Fld Z hh_ a "java/util/ArrayList" "elementData" "[Ljava/lang/Object;" (.ref t) ∧ Fld Z hh_ a "java/util/ArrayList" "size" "I" (.int 1) ∧ Arv Z hh_ t kE (.object "java/lang/Object") (10 : Int32) [.ref b, .null, .null, .null, .null, .null, .null, .null, .null, .null] .null
theorem rmAdd (l : Launch) (Z : State) (a0 : Array Value) (hw : ∀ d ∈ tables_1, d.before a0 Z = true) (ws : List Jvm.Cond) (wC : Addr) (cC : Cell) (wD : Addr) (kD : ClassId) (mA : Addr) (mL : Addr) (mR : Addr) (GS : Glob Z wC cC wD kD mA mL mR) (a : Addr) (b : Addr) (h0 : Heap) (n0 : Nat) (Z0 : n0 ≤ h0.size) (O0 : Old Z n0 h0) (E_a : Exa Z h0 a cn2) (g_a : n0 ≤ a) (E_b : Exa Z h0 b "java/lang/Integer") (Fm : Fld Z h0 a "java/util/AbstractList" "modCount" "I" (.int 0)) (Fe : Fld Z h0 a cn2 "elementData" "[Ljava/lang/Object;" (.ref wD)) (Fs : Fld Z h0 a cn2 "size" "I" (.int 0)) :
  MetFree l (⟨cn2, "add", "(Ljava/lang/Object;)Z"⟩ : MethodName) (head1 (Jvm.Cond.code (⟨cn2, "add", "(Ljava/lang/Object;)Z"⟩ : MethodName) jdk_38_method_25_code 2 (some .boolean) :: ws) (⟨4, 1, 10, 56⟩ : Room)) (fun aa_ UU_ => aa_ = #[.ref a, .ref b] ∧ Z.Warmed39 UU_.vm ∧ UU_.heap = h0) (fun _ _ _ _ _ => True) (fun _ UU_ oo_ UV_ => ∃ vv_ LL_, oo_ = .returned vv_ ∧ Q_rmAdd Z wC cC wD kD mA mL mR a b h0 n0 vv_ UV_.heap LL_ ∧ FrameEnd UU_ oo_ UV_ LL_ (⟨4, 1, 10, 56⟩ : Room).cells (⟨4, 1, 10, 56⟩ : Room).slots) := by
 refine MetFree.of_bodySF (plainFor_of_name own_p11) hisR ?_
 intro p e s m args below meth c s₁ Bd hml0 hP hK
 obtain ⟨rfl, hZ, hh⟩ := hP
 have hx := Bd.exec
 have hby := Bd.bytes
 have hml : c.maxLocals = 2 := hml0
 have hown : s.vm.findClass cn2 = some m.cls := findClass_of_methodNamed Bd.named
 have hnm := (name_of_methodNamed Bd.named Bd.method).1
 have X0 : Stand p l e (⟨4, 1, 10, 56⟩ : Room) s m #[.ref a, .ref b] below meth c s₁ [] 0 0 := Stand.of_body Bd
 have e0 : s₁.heap = h0 := by rw [← hh, Bd.state]; rfl
 have N0 := Fr.nil n0
 have hn0 : Z.heap.size = n0 := O0.1
 have KT0 : Keep h0 h0 [a] := Keep.refl _ _
 refine own_enter (Φ := fun oo_ UV_ => ∃ vv_ LL_, oo_ = .returned vv_ ∧ Q_rmAdd Z wC cC wD kD mA mL mR a b h0 n0 vv_ UV_.heap LL_ ∧ FrameEnd s oo_ UV_ LL_ (⟨4, 1, 10, 56⟩ : Room).cells (⟨4, 1, 10, 56⟩ : Room).slots) (own_ef_rmAdd m a b) ?_
 refine own_b s₁ m 2 #[vr a, vr b] [.ref a, .ref a] (fun _ k_ => XS.aloadN X0.here hx rfl (hb hby d10_0) rfl rfl (XS.dup X0.here hx rfl (hb hby d10_1) rfl rfl k_)) ?_
 obtain ⟨T1, X1, e1, st1⟩ := getF X0 hx hZ hown (host := "") (Or.inl (ww hw 75 rfl)) (Via.of (ww hw 76 rfl)) e0 Fm (g := (mkF m 2 #[vr a, vr b] [.ref a, .ref a])) rfl rfl (hb hby d10_2)
 refine own_b T1 m 5 #[vr a, vr b] [.int 0, .ref a] st1 ?_
 refine own_b T1 m 7 #[vr a, vr b] [(.int ((0 : Int32) + (1 : Int32))), .ref a] (fun _ k_ => XS.iconst X1.here hx rfl (hb hby d10_5) (XS.iadd X1.here hx rfl (hb hby d10_6) rfl k_)) ?_
 rw [show ((0 : Int32) + (1 : Int32)) = (1 : Int32) from by decide]
 obtain ⟨T2, h2, X2, e2, W2, st2⟩ := putF X1 hx hZ hown (host := "") (Or.inl (ww hw 75 rfl)) (Via.of (ww hw 76 rfl)) e1 Fm E_a (Or.inl (ww hw 31 rfl)) (ww hw 12 rfl) (ty := .int) (by decide) rfl rfl (g := (mkF m 7 #[vr a, vr b] [.int 1, .ref a])) rfl rfl (hb hby d10_7)
 have K3 : Keep h0 h2 [a] := Keep.of_wr W2
 have zzK3 : h0.size ≤ h2.size := K3.1
 have oo4 : Old Z n0 h2 := O0.keep K3 (allS (by omega : n0 ≤ a) all0)
 have kt5 : Keep h0 h2 [a] := KT0.trans K3 (allS (Or.inl (List.mem_of_getElem? (i := 0) rfl)) all0)
 have f6 : Fld Z h2 a "java/util/AbstractList" "modCount" "I" (.int 1) := Fm.same W2
 have f7 : Fld Z h2 a cn2 "elementData" "[Ljava/lang/Object;" (.ref wD) := Fe.other W2 (Or.inr (slot_ne (Or.inl (ww hw 34 rfl)) (Or.inl (ww hw 31 rfl)) (by decide) (t := (.array (.object "java/lang/Object"))) (t' := .int) (by decide) (by decide)))
 have f8 : Fld Z h2 a cn2 "size" "I" (.int 0) := Fs.other W2 (Or.inr (slot_ne (Or.inl (ww hw 78 rfl)) (Or.inl (ww hw 31 rfl)) (by decide) (t := .int) (t' := .int) (by decide) (by decide)))
 have N9 := Fr.snoc X2 N0 (by omega : n0 ≤ a)
 refine own_b T2 m 10 #[vr a, vr b] [] st2 ?_
 refine own_b T2 m 13 #[vr a, vr b] [.ref a, .ref b, .ref a] (fun _ k_ => XS.aloadN X2.here hx rfl (hb hby d10_10) rfl rfl (XS.aloadN X2.here hx rfl (hb hby d10_11) rfl rfl (XS.aloadN X2.here hx rfl (hb hby d10_12) rfl rfl k_))) ?_
 obtain ⟨T10, X10, e10, st10⟩ := getF X2 hx hZ hown (host := "") (Or.inl (ww hw 33 rfl)) Via.refl e2 f7 (g := (mkF m 13 #[vr a, vr b] [.ref a, .ref b, .ref a])) rfl rfl (hb hby d10_13)
 refine own_b T10 m 16 #[vr a, vr b] [.ref wD, .ref b, .ref a] st10 ?_
 refine own_b T10 m 17 #[vr a, vr b] [.ref a, .ref wD, .ref b, .ref a] (fun _ k_ => XS.aloadN X10.here hx rfl (hb hby d10_16) rfl rfl k_) ?_
 obtain ⟨T11, X11, e11, st11⟩ := getF X10 hx hZ hown (host := "") (Or.inl (ww hw 77 rfl)) Via.refl e10 f8 (g := (mkF m 17 #[vr a, vr b] [.ref a, .ref wD, .ref b, .ref a])) rfl rfl (hb hby d10_17)
 refine own_b T11 m 20 #[vr a, vr b] [.int 0, .ref wD, .ref b, .ref a] st11 ?_
 have f12 : Exa Z h2 a cn2 := (E_a.keep K3)
 have la13 : @LT.lt Nat instLTNat a h0.size := E_a.lt
 have f14 : Exa Z h2 b "java/lang/Integer" := (E_b.keep K3)
 obtain ⟨cq15, q15, q15'⟩ := f12.cell
 obtain ⟨_, _, ⟨T15, L15, k15, n15⟩, -, X15, ⟨Lc15, hQ15, l15, y15, z15⟩, st15⟩ := X11.privateBack hx (y := (⟨cn2, "add", "(Ljava/lang/Object;[Ljava/lang/Object;I)V"⟩ : MethodName)) hown (mvT hZ (ww hw 79 rfl)) (mvT hZ (ww hw 80 rfl)) (mvT hZ (ww hw 82 rfl)) (Cond.privateMethod_at (mvP hZ (ww hw 81 rfl) (args := #[]))) (mvT hZ (ww hw 83 rfl)) (by decide) (backOf (W := 0) (rmAdd3 l Z a0 hw [] wC cC wD kD mA mL mR GS a b (1 : Int32) h2 n0 (by omega) oo4 f12 (by omega) f14 f6 f7 f8) hZ (ww hw 83 rfl) (ww hw 13 rfl) (by decide) (by decide)) (g := (mkF m 20 #[vr a, vr b] [.int 0, .ref wD, .ref b, .ref a])) rfl (by rw [hml]; rfl) (Steps.refl _) (a := a) (by rw [e11]; exact q15) q15' (argsL := [.ref b, .ref wD, .int 0]) (rest := []) (lenOf own_pd_4 rfl) rfl (by show 2 * 0 + _ ≤ _; exact Nat.le_of_eq rfl) (hb hby d10_20) (fun _ _ => ⟨rfl, e11, (by decide : 0 + 1 ≤ _), (by decide : 0 + 10 ≤ _)⟩)
 dsimp only [Pt.U, Pt.locs, Pt.cells, Pt.slots] at X15 l15 y15 z15 st15 hQ15
 subst l15 y15 z15
 obtain ⟨t_16, kE_17, rfl, N15q, K15, p15_0, p15_1, p15_2, p15_3, p15_4⟩ := hQ15
 have N18 := Fr.app N9 N15q
 have gt_16 : h2.size ≤ t_16 := p15_0
 have zzK15 : h2.size ≤ T15.heap.size := K15.1
 have oo19 : Old Z n0 T15.heap := oo4.keep K15 (allS (by omega : n0 ≤ a) all0)
 have kt20 : Keep h0 T15.heap [a] := kt5.trans K15 (allS (Or.inl (List.mem_of_getElem? (i := 0) rfl)) all0)
 refine own_b T15 m 23 #[vr a, vr b] [] (fun _ k_ => st15.trans k_) ?_
 refine own_b T15 m 24 #[vr a, vr b] [.int 1] (fun _ k_ => XS.iconst X15.here hx rfl (hb hby d10_23) k_) ?_
 have hn21 : nar .boolean (1 : Int32) = (1 : Int32) := rfl
 have la22 : @LT.lt Nat instLTNat t_16 T15.heap.size := p15_4.lt
 obtain ⟨fs23, hr23, hrun23, hended23, hW23, hsame23⟩ := X15.leave (v := some (.int (nar .boolean (1 : Int32)))) (fun h => by rw [Bd.returns] at h; cases h)
 refine ⟨_, _, retN X15 hx (t := .boolean) Bd.returns (by simp) (hb hby d10_24) hr23, hrun23, hended23, _, _, rfl, ?_, ⟨_, rfl⟩, hW23, hsame23.mono (by decide) (by decide)⟩
 show Q_rmAdd Z wC cC wD kD mA mL mR a b h0 n0 _ T15.heap _
 exact ⟨t_16, kE_17, (congrArg (fun z => some (Value.int z)) hn21), N18, kt20, (by omega), p15_1, p15_2, p15_3, p15_4⟩
theorem d9_0 : decode jdk_33_method_22_code 0 = .ok (.iload_n 0, 1) := by decide +kernel
theorem d9_1 : decode jdk_33_method_22_code 1 = .ok (.bipush (-128), 2) := by decide +kernel
theorem d9_3 : decode jdk_33_method_22_code 3 = .ok (.if_icmp .lt 20, 3) := by decide +kernel
theorem d9_6 : decode jdk_33_method_22_code 6 = .ok (.iload_n 0, 1) := by decide +kernel
theorem d9_7 : decode jdk_33_method_22_code 7 = .ok (.getstatic 191, 3) := by decide +kernel
theorem d9_10 : decode jdk_33_method_22_code 10 = .ok (.if_icmp .gt 13, 3) := by decide +kernel
theorem d9_13 : decode jdk_33_method_22_code 13 = .ok (.getstatic 195, 3) := by decide +kernel
theorem d9_16 : decode jdk_33_method_22_code 16 = .ok (.iload_n 0, 1) := by decide +kernel
theorem d9_17 : decode jdk_33_method_22_code 17 = .ok (.sipush 128, 3) := by decide +kernel
theorem d9_20 : decode jdk_33_method_22_code 20 = .ok (.iadd, 1) := by decide +kernel
theorem d9_21 : decode jdk_33_method_22_code 21 = .ok (.aaload, 1) := by decide +kernel
theorem d9_22 : decode jdk_33_method_22_code 22 = .ok (.areturn, 1) := by decide +kernel
theorem own_p12 : plainName "java/lang/Integer" = true := by first | (simp [plainName, overriddenIn]; done) | decide +kernel
theorem own_ef_rmVal1 (m : MethodId) (x0 : Int32) : entryFrame m #[.int x0] 1 = mkF m 0 #[.val (.int x0)] [] := by first | (simp [entryFrame, mkF, argsToLocals, Value.category]; done) | rfl
def Q_rmVal1 (Z : State) (wC : Addr) (cC : Cell) (wD : Addr) (kD : ClassId) (mA : Addr) (mL : Addr) (mR : Addr) (h0 : Heap) (n0 : Nat) (vv_ : Option Value) (hh_ : Heap) (LL_ : List Loc) : Prop := ∃ b : Addr, vv_ = some (.ref b) ∧ Fr n0 LL_ ∧ hh_ = h0 ∧ Exa Z hh_ b "java/lang/Integer" ∧ Fld Z hh_ b "java/lang/Integer" "value" "I" (.int 1) ∧ @LT.lt Nat instLTNat b n0
theorem rmVal1 (l : Launch) (Z : State) (a0 : Array Value) (hw : ∀ d ∈ tables_1, d.before a0 Z = true) (ws : List Jvm.Cond) (wC : Addr) (cC : Cell) (wD : Addr) (kD : ClassId) (mA : Addr) (mL : Addr) (mR : Addr) (GS : Glob Z wC cC wD kD mA mL mR)  (h0 : Heap) (n0 : Nat) (Z0 : n0 ≤ h0.size) (O0 : Old Z n0 h0) :
  MetFree l (⟨"java/lang/Integer", "valueOf", "(I)Ljava/lang/Integer;"⟩ : MethodName) (head1 (Jvm.Cond.code (⟨"java/lang/Integer", "valueOf", "(I)Ljava/lang/Integer;"⟩ : MethodName) jdk_33_method_22_code 1 (some (.object "java/lang/Integer")) :: ws) (⟨0, 0, 0, 0⟩ : Room)) (fun aa_ UU_ => aa_ = #[.int 1] ∧ Z.Warmed39 UU_.vm ∧ UU_.heap = h0) (fun _ _ _ _ _ => True) (fun _ UU_ oo_ UV_ => ∃ vv_ LL_, oo_ = .returned vv_ ∧ Q_rmVal1 Z wC cC wD kD mA mL mR h0 n0 vv_ UV_.heap LL_ ∧ FrameEnd UU_ oo_ UV_ LL_ (⟨0, 0, 0, 0⟩ : Room).cells (⟨0, 0, 0, 0⟩ : Room).slots) := by
 refine MetFree.of_bodySF (plainFor_of_name own_p12) hisR ?_
 intro p e s m args below meth c s₁ Bd hml0 hP hK
 obtain ⟨rfl, hZ, hh⟩ := hP
 have hx := Bd.exec
 have hby := Bd.bytes
 have hml : c.maxLocals = 1 := hml0
 have hown : s.vm.findClass "java/lang/Integer" = some m.cls := findClass_of_methodNamed Bd.named
 have hnm := (name_of_methodNamed Bd.named Bd.method).1
 have X0 : Stand p l e (⟨0, 0, 0, 0⟩ : Room) s m #[.int 1] below meth c s₁ [] 0 0 := Stand.of_body Bd
 have e0 : s₁.heap = h0 := by rw [← hh, Bd.state]; rfl
 have N0 := Fr.nil n0
 have hn0 : Z.heap.size = n0 := O0.1
 have KT0 : Keep h0 h0 [] := Keep.refl _ _
 refine own_enter (Φ := fun oo_ UV_ => ∃ vv_ LL_, oo_ = .returned vv_ ∧ Q_rmVal1 Z wC cC wD kD mA mL mR h0 n0 vv_ UV_.heap LL_ ∧ FrameEnd s oo_ UV_ LL_ (⟨0, 0, 0, 0⟩ : Room).cells (⟨0, 0, 0, 0⟩ : Room).slots) (own_ef_rmVal1 m (1 : Int32)) ?_
 refine own_b s₁ m 7 #[vi 1] [.int 1] (fun _ k_ => XS.iloadN X0.here hx rfl (hb hby d9_0) rfl (XS.bipush X0.here hx rfl (hb hby d9_1) (XS.icmpNo X0.here hx rfl (hb hby d9_3) rfl (XT.ii_lt_f (by decide)) (XS.iloadN X0.here hx rfl (hb hby d9_6) rfl k_)))) ?_
 have f1 := GS.1.ext O0.2
 obtain ⟨T2, X2, e2, st2⟩ := getS2 X0 hx hZ hown (host := "") (Or.inl (ww hw 63 rfl)) Via.refl e0 f1 (g := (mkF m 7 #[vi 1] [.int 1])) rfl (hb hby d9_7)
 refine own_b T2 m 10 #[vi 1] [.int 127, .int 1] st2 ?_
 refine own_b T2 m 13 #[vi 1] [] (fun _ k_ => XS.icmpNo X2.here hx rfl (hb hby d9_10) rfl (XT.ii_gt_f (by decide)) k_) ?_
 have f3 := GS.2.1.ext O0.2
 obtain ⟨T4, X4, e4, st4⟩ := getS2 X2 hx hZ hown (host := "") (Or.inl (ww hw 65 rfl)) Via.refl e2 f3 (g := (mkF m 13 #[vi 1] [])) rfl (hb hby d9_13)
 refine own_b T4 m 16 #[vi 1] [.ref wC] st4 ?_
 refine own_b T4 m 21 #[vi 1] [(.int ((1 : Int32) + (128 : Int32))), .ref wC] (fun _ k_ => XS.iloadN X4.here hx rfl (hb hby d9_16) rfl (XS.sipush X4.here hx rfl (hb hby d9_17) (XS.iadd X4.here hx rfl (hb hby d9_20) rfl k_))) ?_
 rw [show ((1 : Int32) + (128 : Int32)) = (129 : Int32) from by decide]
 obtain ⟨Ar6, S6, M6⟩ := GS.2.2.1.ext O0.2
 have hin6 : ¬ ((129 : Int32) < 0 ∨ cC.slots.size ≤ ((129 : Int32)).toNatClampNeg) := inb_of S6 ⟨by decide, by decide⟩
 obtain ⟨bx6, hat6, Ex6, Fv6⟩ := GS.2.2.1.2.2.2 (129 : Int32) hin6
 have Fw6 : Fld Z Z.heap bx6 "java/lang/Integer" "value" "I" (.int ((129 : Int32) - (128 : Int32))) := Fv6
 refine own_b T4 m 22 #[vi 1] [.ref bx6] (fun _ k_ => X4.aaload hx (j := (129 : Int32)) (v := (.ref bx6)) (by rw [e4]; exact Ar6.1) (State.isArrayOf_alike hZ.alike Ar6.2.1) rfl Ar6.2.2 hin6 hat6 (g := (mkF m 21 #[vi 1] [.int 129, .ref wC])) rfl rfl (hb hby d9_21) _ k_) ?_
 have f7 := Ex6.ext O0.2
 have f8 := Fw6.ext O0.2
 have hv9 : ((.int ((129 : Int32) - (128 : Int32))) : Value) = (.int 1) := by decide
 obtain ⟨fs10, hr10, hrun10, hended10, hW10, hsame10⟩ := X4.leave (v := some (.ref bx6)) (fun h => by rw [Bd.returns] at h; cases h)
 refine ⟨_, _, retOut X4 hx (t := (.object "java/lang/Integer")) Bd.returns rfl (Or.inr (Or.inr (Or.inr (Or.inr ⟨rfl, rfl, rfl⟩)))) (hb hby d9_22) hr10, hrun10, hended10, _, _, rfl, ?_, ⟨_, rfl⟩, hW10, hsame10.mono (by decide) (by decide)⟩
 show Q_rmVal1 Z wC cC wD kD mA mL mR h0 n0 _ T4.heap _
 rw [e4]
 exact ⟨bx6, rfl, N0, rfl, f7, (hv9 ▸ f8), ((by have q_ : @LT.lt Nat instLTNat bx6 Z.heap.size := Ex6.lt; omega))⟩
theorem d32_0 : decode jdk_33_method_27_code 0 = .ok (.aload_n 0, 1) := by decide +kernel
theorem d32_1 : decode jdk_33_method_27_code 1 = .ok (.getfield 205, 3) := by decide +kernel
theorem d32_4 : decode jdk_33_method_27_code 4 = .ok (.ireturn, 1) := by decide +kernel
theorem own_ef_rmIv (m : MethodId) (x0 : Addr) : entryFrame m #[.ref x0] 1 = mkF m 0 #[.val (.ref x0)] [] := by first | (simp [entryFrame, mkF, argsToLocals, Value.category]; done) | rfl
def Q_rmIv (Z : State) (wC : Addr) (cC : Cell) (wD : Addr) (kD : ClassId) (mA : Addr) (mL : Addr) (mR : Addr) (a : Addr) (w : Int32) (h0 : Heap) (n0 : Nat) (vv_ : Option Value) (hh_ : Heap) (LL_ : List Loc) : Prop := vv_ = some (.int w) ∧ Fr n0 LL_ ∧ hh_ = h0
theorem rmIv (l : Launch) (Z : State) (a0 : Array Value) (hw : ∀ d ∈ tables_1, d.before a0 Z = true) (ws : List Jvm.Cond) (wC : Addr) (cC : Cell) (wD : Addr) (kD : ClassId) (mA : Addr) (mL : Addr) (mR : Addr) (GS : Glob Z wC cC wD kD mA mL mR) (a : Addr) (w : Int32) (h0 : Heap) (n0 : Nat) (Z0 : n0 ≤ h0.size) (O0 : Old Z n0 h0) (Fw : Fld Z h0 a "java/lang/Integer" "value" "I" (.int w)) :
  MetFree l (⟨"java/lang/Integer", "intValue", "()I"⟩ : MethodName) (head1 (Jvm.Cond.code (⟨"java/lang/Integer", "intValue", "()I"⟩ : MethodName) jdk_33_method_27_code 1 (some .int) :: ws) (⟨0, 0, 0, 0⟩ : Room)) (fun aa_ UU_ => aa_ = #[.ref a] ∧ Z.Warmed39 UU_.vm ∧ UU_.heap = h0) (fun _ _ _ _ _ => True) (fun _ UU_ oo_ UV_ => ∃ vv_ LL_, oo_ = .returned vv_ ∧ Q_rmIv Z wC cC wD kD mA mL mR a w h0 n0 vv_ UV_.heap LL_ ∧ FrameEnd UU_ oo_ UV_ LL_ (⟨0, 0, 0, 0⟩ : Room).cells (⟨0, 0, 0, 0⟩ : Room).slots) := by
 refine MetFree.of_bodySF (plainFor_of_name own_p12) hisR ?_
 intro p e s m args below meth c s₁ Bd hml0 hP hK
 obtain ⟨rfl, hZ, hh⟩ := hP
 have hx := Bd.exec
 have hby := Bd.bytes
 have hml : c.maxLocals = 1 := hml0
 have hown : s.vm.findClass "java/lang/Integer" = some m.cls := findClass_of_methodNamed Bd.named
 have hnm := (name_of_methodNamed Bd.named Bd.method).1
 have X0 : Stand p l e (⟨0, 0, 0, 0⟩ : Room) s m #[.ref a] below meth c s₁ [] 0 0 := Stand.of_body Bd
 have e0 : s₁.heap = h0 := by rw [← hh, Bd.state]; rfl
 have N0 := Fr.nil n0
 have hn0 : Z.heap.size = n0 := O0.1
 have KT0 : Keep h0 h0 [] := Keep.refl _ _
 refine own_enter (Φ := fun oo_ UV_ => ∃ vv_ LL_, oo_ = .returned vv_ ∧ Q_rmIv Z wC cC wD kD mA mL mR a w h0 n0 vv_ UV_.heap LL_ ∧ FrameEnd s oo_ UV_ LL_ (⟨0, 0, 0, 0⟩ : Room).cells (⟨0, 0, 0, 0⟩ : Room).slots) (own_ef_rmIv m a) ?_
 refine own_b s₁ m 1 #[vr a] [.ref a] (fun _ k_ => XS.aloadN X0.here hx rfl (hb hby d32_0) rfl rfl k_) ?_
 obtain ⟨T1, X1, e1, st1⟩ := getF X0 hx hZ hown (host := "") (Or.inl (ww hw 254 rfl)) Via.refl e0 Fw (g := (mkF m 1 #[vr a] [.ref a])) rfl rfl (hb hby d32_1)
 refine own_b T1 m 4 #[vr a] [.int w] st1 ?_
 obtain ⟨fs2, hr2, hrun2, hended2, hW2, hsame2⟩ := X1.leave (v := some (.int w)) (fun h => by rw [Bd.returns] at h; cases h)
 refine ⟨_, _, retOut X1 hx (t := .int) Bd.returns rfl (Or.inl ⟨rfl, Or.inl rfl, _, rfl⟩) (hb hby d32_4) hr2, hrun2, hended2, _, _, rfl, ?_, ⟨_, rfl⟩, hW2, hsame2.mono (by decide) (by decide)⟩
 show Q_rmIv Z wC cC wD kD mA mL mR a w h0 n0 _ T1.heap _
 exact ⟨rfl, N0, e1⟩
theorem d1_0 : decode prog_34_method_1_code 0 = .ok (.aload_n 0, 1) := by decide +kernel
theorem d1_1 : decode prog_34_method_1_code 1 = .ok (.invokespecial 3, 3) := by decide +kernel
theorem d1_4 : decode prog_34_method_1_code 4 = .ok (.aload_n 0, 1) := by decide +kernel
theorem d1_5 : decode prog_34_method_1_code 5 = .ok (.new 9, 3) := by decide +kernel
theorem d1_8 : decode prog_34_method_1_code 8 = .ok (.dup, 1) := by decide +kernel
theorem d1_9 : decode prog_34_method_1_code 9 = .ok (.invokespecial 11, 3) := by decide +kernel
theorem d1_12 : decode prog_34_method_1_code 12 = .ok (.putfield 12, 3) := by decide +kernel
theorem d1_15 : decode prog_34_method_1_code 15 = .ok (.iload_n 1, 1) := by decide +kernel
theorem d1_16 : decode prog_34_method_1_code 16 = .ok (.ifCond .ge 17, 3) := by decide +kernel
theorem d1_33 : decode prog_34_method_1_code 33 = .ok (.aload_n 0, 1) := by decide +kernel
theorem d1_34 : decode prog_34_method_1_code 34 = .ok (.iload_n 1, 1) := by decide +kernel
theorem d1_35 : decode prog_34_method_1_code 35 = .ok (.iconst 1, 1) := by decide +kernel
theorem d1_36 : decode prog_34_method_1_code 36 = .ok (.iadd, 1) := by decide +kernel
theorem d1_37 : decode prog_34_method_1_code 37 = .ok (.newarray .int, 2) := by decide +kernel
theorem d1_39 : decode prog_34_method_1_code 39 = .ok (.putfield 27, 3) := by decide +kernel
theorem d1_42 : decode prog_34_method_1_code 42 = .ok (.aload_n 0, 1) := by decide +kernel
theorem d1_43 : decode prog_34_method_1_code 43 = .ok (.iload_n 1, 1) := by decide +kernel
theorem d1_44 : decode prog_34_method_1_code 44 = .ok (.iconst 1, 1) := by decide +kernel
theorem d1_45 : decode prog_34_method_1_code 45 = .ok (.iadd, 1) := by decide +kernel
theorem d1_46 : decode prog_34_method_1_code 46 = .ok (.newarray .boolean, 2) := by decide +kernel
theorem d1_48 : decode prog_34_method_1_code 48 = .ok (.putfield 31, 3) := by decide +kernel
theorem d1_51 : decode prog_34_method_1_code 51 = .ok (.return_, 1) := by decide +kernel
theorem own_p1 : plainName "com/example/even_commute/evencommute/demand/ZoneCounts" = true := by first | (simp [plainName, overriddenIn]; done) | decide +kernel
theorem own_ef_rmZI (m : MethodId) (x0 : Addr) (x1 : Int32) : entryFrame m #[.ref x0, .int x1] 2 = mkF m 0 #[.val (.ref x0), .val (.int x1)] [] := by first | (simp [entryFrame, mkF, argsToLocals, Value.category]; done) | rfl
def Q_rmZI (Z : State) (wC : Addr) (cC : Cell) (wD : Addr) (kD : ClassId) (mA : Addr) (mL : Addr) (mR : Addr) (a : Addr) (h0 : Heap) (n0 : Nat) (vv_ : Option Value) (hh_ : Heap) (LL_ : List Loc) : Prop := ∃ al : Addr, ∃ ct : Addr, ∃ gv : Addr, ∃ kC : ClassId, ∃ kG : ClassId, vv_ = none ∧ Fr n0 LL_ ∧ Keep h0 hh_ [a] ∧ h0.size ≤ al ∧ h0.size ≤ ct ∧ h0.size ≤ gv ∧ Fld Z hh_ a "com/example/even_commute/evencommute/demand/ZoneCounts" "zones" "Ljava/util/List;" (.ref al) ∧ Fld Z hh_ a "com/example/even_commute/evencommute/demand/ZoneCounts" "counts" "[I" (.ref ct) ∧ Fld Z hh_ a "com/example/even_commute/evencommute/demand/ZoneCounts" "given" "[Z" (.ref gv) ∧ Fld Z hh_ a "com/example/even_commute/evencommute/demand/ZoneCounts" "total" "I" (.int 0) ∧ Exa Z hh_ al "java/util/ArrayList" ∧ Fld Z hh_ al "java/util/AbstractList" "modCount" "I" (.int 0) ∧ Fld Z hh_ al "java/util/ArrayList" "elementData" "[Ljava/lang/Object;" (.ref wD) ∧ Fld Z hh_ al "java/util/ArrayList" "size" "I" (.int 0) ∧ Arv Z hh_ ct kC .int (2 : Int32) [.int 0, .int 0] (.int 0) ∧ Arv Z hh_ gv kG .boolean (2 : Int32) [.int 0, .int 0] (.int 0) ∧ @Ne Nat ct gv ∧ @Ne Nat al gv ∧ @Ne Nat al ct
theorem rmZI (l : Launch) (Z : State) (a0 : Array Value) (hw : ∀ d ∈ tables_1, d.before a0 Z = true) (ws : List Jvm.Cond) (wC : Addr) (cC : Cell) (wD : Addr) (kD : ClassId) (mA : Addr) (mL : Addr) (mR : Addr) (GS : Glob Z wC cC wD kD mA mL mR) (a : Addr) (h0 : Heap) (n0 : Nat) (Z0 : n0 ≤ h0.size) (O0 : Old Z n0 h0) (E_a : Exa Z h0 a cn1) (g_a : n0 ≤ a) (Fz : Fld Z h0 a cn1 "zones" "Ljava/util/List;" .null) (Fc : Fld Z h0 a cn1 "counts" "[I" .null) (Fg : Fld Z h0 a cn1 "given" "[Z" .null) (Ft : Fld Z h0 a cn1 "total" "I" (.int 0)) :
  MetFree l (⟨cn1, "<init>", "(I)V"⟩ : MethodName) (head1 (Jvm.Cond.code (⟨cn1, "<init>", "(I)V"⟩ : MethodName) prog_34_method_1_code 2 none :: ws) (⟨4, 3, 7, 50⟩ : Room)) (fun aa_ UU_ => aa_ = #[.ref a, .int 1] ∧ Z.Warmed39 UU_.vm ∧ UU_.heap = h0) (fun _ _ _ _ _ => True) (fun _ UU_ oo_ UV_ => ∃ vv_ LL_, oo_ = .returned vv_ ∧ Q_rmZI Z wC cC wD kD mA mL mR a h0 n0 vv_ UV_.heap LL_ ∧ FrameEnd UU_ oo_ UV_ LL_ (⟨4, 3, 7, 50⟩ : Room).cells (⟨4, 3, 7, 50⟩ : Room).slots) := by
 refine MetFree.of_bodySF (plainFor_of_name own_p1) hisR ?_
 intro p e s m args below meth c s₁ Bd hml0 hP hK
 obtain ⟨rfl, hZ, hh⟩ := hP
 have hx := Bd.exec
 have hby := Bd.bytes
 have hml : c.maxLocals = 2 := hml0
 have hown : s.vm.findClass cn1 = some m.cls := findClass_of_methodNamed Bd.named
 have hnm := (name_of_methodNamed Bd.named Bd.method).1
 have X0 : Stand p l e (⟨4, 3, 7, 50⟩ : Room) s m #[.ref a, .int 1] below meth c s₁ [] 0 0 := Stand.of_body Bd
 have e0 : s₁.heap = h0 := by rw [← hh, Bd.state]; rfl
 have N0 := Fr.nil n0
 have hn0 : Z.heap.size = n0 := O0.1
 have KT0 : Keep h0 h0 [a] := Keep.refl _ _
 refine own_enter (Φ := fun oo_ UV_ => ∃ vv_ LL_, oo_ = .returned vv_ ∧ Q_rmZI Z wC cC wD kD mA mL mR a h0 n0 vv_ UV_.heap LL_ ∧ FrameEnd s oo_ UV_ LL_ (⟨4, 3, 7, 50⟩ : Room).cells (⟨4, 3, 7, 50⟩ : Room).slots) (own_ef_rmZI m a (1 : Int32)) ?_
 refine own_b s₁ m 1 #[vr a, vi 1] [.ref a] (fun _ k_ => XS.aloadN X0.here hx rfl (hb hby d1_0) rfl rfl k_) ?_
 obtain ⟨T1, X1, e1, st1⟩ := initO X0 hx hZ hown (ww hw 8 rfl) (ww hw 9 rfl) (ww hw 10 rfl) e0 (g := (mkF m 1 #[vr a, vi 1] [.ref a])) rfl (by rw [hml]; rfl) rfl (hb hby d1_1) (by decide) (W := 0) (by show 2 * 0 + _ ≤ _; exact Nat.le_of_eq rfl) (by decide)
 refine own_b T1 m 4 #[vr a, vi 1] [] st1 ?_
 refine own_b T1 m 5 #[vr a, vi 1] [.ref a] (fun _ k_ => XS.aloadN X1.here hx rfl (hb hby d1_4) rfl rfl k_) ?_
 obtain ⟨T2, h2, X2, e2, E2, A2, D2, -, st2⟩ := newO X1 hx hZ hown (ww hw 11 rfl) (ww hw 12 rfl) (ww hw 13 rfl) e1 (g := (mkF m 5 #[vr a, vi 1] [.ref a])) rfl (hb hby d1_5) (by decide) (by decide)
 obtain ⟨b2, g2⟩ : ∃ z, z = h0.size := ⟨_, rfl⟩
 rw [← g2] at A2 D2 st2
 have K3 : Keep h0 h2 [] := own_kext E2
 have zzK3 : h0.size ≤ h2.size := K3.1
 have oo4 : Old Z n0 h2 := O0.keep K3 all0
 have kt5 : Keep h0 h2 [a] := KT0.trans K3 all0
 have lab2 : b2 < h2.size := A2.lt
 have f6 : Fld Z h2 b2 "java/util/AbstractList" "modCount" "I" (.int 0) := D2 (Or.inl (ww hw 31 rfl)) (ty := .int) (by decide)
 have f7 : Fld Z h2 b2 cn2 "elementData" "[Ljava/lang/Object;" .null := D2 (Or.inl (ww hw 34 rfl)) (ty := (.array (.object "java/lang/Object"))) (by decide)
 have f8 : Fld Z h2 b2 cn2 "size" "I" (.int 0) := D2 (Or.inl (ww hw 78 rfl)) (ty := .int) (by decide)
 refine own_b T2 m 8 #[vr a, vi 1] [.ref b2, .ref a] st2 ?_
 refine own_b T2 m 9 #[vr a, vi 1] [.ref b2, .ref b2, .ref a] (fun _ k_ => XS.dup X2.here hx rfl (hb hby d1_8) rfl rfl k_) ?_
 obtain ⟨_, _, ⟨T9, L9, k9, n9⟩, -, X9, ⟨Lc9, hQ9, l9, y9, z9⟩, st9⟩ := X2.specialBack hx (y := (⟨cn2, "<init>", "()V"⟩ : MethodName)) rfl hown (mvT hZ (ww hw 14 rfl)) (mvT hZ (ww hw 15 rfl)) (mvT hZ (ww hw 16 rfl)) (by decide) (backOf (W := 2) (rmALI l Z a0 hw [] wC cC wD kD mA mL mR GS b2 h2 n0 (by omega) oo4 A2 (by omega) f6 f7 f8) hZ (ww hw 16 rfl) (ww hw 13 rfl) (by decide) (by decide)) (g := (mkF m 9 #[vr a, vi 1] [.ref b2, .ref b2, .ref a])) rfl (by rw [hml]; rfl) (Steps.refl _) (a := b2) (argsL := []) (rest := [.ref b2, .ref a]) (lenOf own_pd_0 rfl) rfl (by show 2 * 0 + _ ≤ _; exact Nat.le_of_eq rfl) (hb hby d1_9) (fun _ _ => ⟨rfl, e2, (by decide : 1 + 0 ≤ _), (by decide : 3 + 0 ≤ _)⟩)
 dsimp only [Pt.U, Pt.locs, Pt.cells, Pt.slots] at X9 l9 y9 z9 st9 hQ9
 subst l9 y9 z9
 obtain ⟨rfl, N9q, K9, p9_0, p9_1, p9_2⟩ := hQ9
 have N10 := Fr.app N0 N9q
 have zzK9 : h2.size ≤ T9.heap.size := K9.1
 have oo11 : Old Z n0 T9.heap := oo4.keep K9 (allS (by omega : n0 ≤ b2) all0)
 have kt12 : Keep h0 T9.heap [a] := kt5.trans K9 (allS (Or.inr (by omega : h0.size ≤ b2)) all0)
 refine own_b T9 m 12 #[vr a, vi 1] [.ref b2, .ref a] (fun _ k_ => st9.trans k_) ?_
 have f13 : Exa Z T9.heap a cn1 := ((E_a.keep K3).keep K9)
 have la14 : @LT.lt Nat instLTNat a h0.size := E_a.lt
 have ne15 : @Ne Nat a b2 := by omega
 have f16 : Fld Z T9.heap a cn1 "zones" "Ljava/util/List;" .null := ((Fz.keep K3 nin0).keep K9 (ninS ne15 nin0))
 obtain ⟨T17, h17, X17, e17, W17, st17⟩ := putF X9 hx hZ hown (host := "") (Or.inl (ww hw 35 rfl)) Via.refl rfl f16 f13 (Or.inr ⟨(ww hw 36 rfl), rfl, hnm⟩) (ww hw 3 rfl) (ty := (.object "java/util/List")) (by decide) rfl rfl (g := (mkF m 12 #[vr a, vi 1] [.ref b2, .ref a])) rfl rfl (hb hby d1_12)
 have K18 : Keep T9.heap h17 [a] := Keep.of_wr W17
 have f19 : Fld Z T9.heap a cn1 "counts" "[I" .null := ((Fc.keep K3 nin0).keep K9 (ninS ne15 nin0))
 have f20 : Fld Z T9.heap a cn1 "given" "[Z" .null := ((Fg.keep K3 nin0).keep K9 (ninS ne15 nin0))
 have f21 : Fld Z T9.heap a cn1 "total" "I" (.int 0) := ((Ft.keep K3 nin0).keep K9 (ninS ne15 nin0))
 have zzK18 : T9.heap.size ≤ h17.size := K18.1
 have oo22 : Old Z n0 h17 := oo11.keep K18 (allS (by omega : n0 ≤ a) all0)
 have kt23 : Keep h0 h17 [a] := kt12.trans K18 (allS (Or.inl (List.mem_of_getElem? (i := 0) rfl)) all0)
 have f24 : Fld Z h17 a cn1 "zones" "Ljava/util/List;" (.ref b2) := f16.same W17
 have f25 : Fld Z h17 a cn1 "counts" "[I" .null := f19.other W17 (Or.inr (slot_ne (Or.inr (ww hw 38 rfl)) (Or.inr (ww hw 36 rfl)) (by decide) (t := (.array .int)) (t' := (.object "java/util/List")) (by decide) (by decide)))
 have f26 : Fld Z h17 a cn1 "given" "[Z" .null := f20.other W17 (Or.inr (slot_ne (Or.inr (ww hw 41 rfl)) (Or.inr (ww hw 36 rfl)) (by decide) (t := (.array .boolean)) (t' := (.object "java/util/List")) (by decide) (by decide)))
 have f27 : Fld Z h17 a cn1 "total" "I" (.int 0) := f21.other W17 (Or.inr (slot_ne (Or.inl (ww hw 58 rfl)) (Or.inr (ww hw 36 rfl)) (by decide) (t := .int) (t' := (.object "java/util/List")) (by decide) (by decide)))
 have N28 := Fr.snoc X17 N10 (by omega : n0 ≤ a)
 refine own_b T17 m 15 #[vr a, vi 1] [] st17 ?_
 refine own_b T17 m 37 #[vr a, vi 1] [(.int ((1 : Int32) + (1 : Int32))), .ref a] (fun _ k_ => XS.iloadN X17.here hx rfl (hb hby d1_15) rfl (XS.ifYes X17.here hx rfl (pc0 := 16) (pc' := 33) rfl (hb hby d1_16) rfl (XT.i0_ge_t (by decide)) (by decide) (by decide) (XS.aloadN X17.here hx rfl (hb hby d1_33) rfl rfl (XS.iloadN X17.here hx rfl (hb hby d1_34) rfl (XS.iconst X17.here hx rfl (hb hby d1_35) (XS.iadd X17.here hx rfl (hb hby d1_36) rfl k_)))))) ?_
 rw [show ((1 : Int32) + (1 : Int32)) = (2 : Int32) from by decide]
 obtain ⟨T29, h29, k29, X29, e29, E29, A29, st29⟩ := newP X17 hx hZ (ww hw 1 rfl) e17 (g := (mkF m 37 #[vr a, vi 1] [.int 2, .ref a])) rfl (hb hby d1_37) rfl (by decide) (cap := 2) (by decide) (by decide) (by decide) (by decide)
 obtain ⟨b29, g29⟩ : ∃ z, z = h17.size := ⟨_, rfl⟩
 rw [← g29] at A29 st29
 have K30 : Keep h17 h29 [] := own_kext E29
 have zzK30 : h17.size ≤ h29.size := K30.1
 have oo31 : Old Z n0 h29 := oo22.keep K30 all0
 have kt32 : Keep h0 h29 [a] := kt23.trans K30 all0
 have lab29 : b29 < h29.size := A29.lt
 have f33 : Arv Z h29 b29 k29 .int (2 : Int32) [.int 0, .int 0] (.int 0) := (Arv.new A29 (by decide)).pad (pad_rep [] (.int 0) 2)
 refine own_b T29 m 39 #[vr a, vi 1] [.ref b29, .ref a] st29 ?_
 have f34 : Exa Z h29 a cn1 := ((f13.keep K18).keep K30)
 have f35 : Fld Z h29 a cn1 "counts" "[I" .null := (f25.keep K30 nin0)
 obtain ⟨T36, h36, X36, e36, W36, st36⟩ := putF X29 hx hZ hown (host := "") (Or.inl (ww hw 37 rfl)) Via.refl e29 f35 f34 (Or.inr ⟨(ww hw 38 rfl), rfl, hnm⟩) (ww hw 3 rfl) (ty := (.array .int)) (by decide) rfl rfl (g := (mkF m 39 #[vr a, vi 1] [.ref b29, .ref a])) rfl rfl (hb hby d1_39)
 have K37 : Keep h29 h36 [a] := Keep.of_wr W36
 have f38 : Fld Z h29 a cn1 "zones" "Ljava/util/List;" (.ref b2) := (f24.keep K30 nin0)
 have f39 : Fld Z h29 a cn1 "given" "[Z" .null := (f26.keep K30 nin0)
 have f40 : Fld Z h29 a cn1 "total" "I" (.int 0) := (f27.keep K30 nin0)
 have zzK37 : h29.size ≤ h36.size := K37.1
 have oo41 : Old Z n0 h36 := oo31.keep K37 (allS (by omega : n0 ≤ a) all0)
 have kt42 : Keep h0 h36 [a] := kt32.trans K37 (allS (Or.inl (List.mem_of_getElem? (i := 0) rfl)) all0)
 have f43 : Fld Z h36 a cn1 "zones" "Ljava/util/List;" (.ref b2) := f38.other W36 (Or.inr (slot_ne (Or.inr (ww hw 36 rfl)) (Or.inr (ww hw 38 rfl)) (by decide) (t := (.object "java/util/List")) (t' := (.array .int)) (by decide) (by decide)))
 have f44 : Fld Z h36 a cn1 "counts" "[I" (.ref b29) := f35.same W36
 have f45 : Fld Z h36 a cn1 "given" "[Z" .null := f39.other W36 (Or.inr (slot_ne (Or.inr (ww hw 41 rfl)) (Or.inr (ww hw 38 rfl)) (by decide) (t := (.array .boolean)) (t' := (.array .int)) (by decide) (by decide)))
 have f46 : Fld Z h36 a cn1 "total" "I" (.int 0) := f40.other W36 (Or.inr (slot_ne (Or.inl (ww hw 58 rfl)) (Or.inr (ww hw 38 rfl)) (by decide) (t := .int) (t' := (.array .int)) (by decide) (by decide)))
 have N47 := Fr.snoc X36 N28 (by omega : n0 ≤ a)
 refine own_b T36 m 42 #[vr a, vi 1] [] st36 ?_
 refine own_b T36 m 46 #[vr a, vi 1] [(.int ((1 : Int32) + (1 : Int32))), .ref a] (fun _ k_ => XS.aloadN X36.here hx rfl (hb hby d1_42) rfl rfl (XS.iloadN X36.here hx rfl (hb hby d1_43) rfl (XS.iconst X36.here hx rfl (hb hby d1_44) (XS.iadd X36.here hx rfl (hb hby d1_45) rfl k_)))) ?_
 rw [show ((1 : Int32) + (1 : Int32)) = (2 : Int32) from by decide]
 obtain ⟨T48, h48, k48, X48, e48, E48, A48, st48⟩ := newP X36 hx hZ (ww hw 39 rfl) e36 (g := (mkF m 46 #[vr a, vi 1] [.int 2, .ref a])) rfl (hb hby d1_46) rfl (by decide) (cap := 2) (by decide) (by decide) (by decide) (by decide)
 obtain ⟨b48, g48⟩ : ∃ z, z = h36.size := ⟨_, rfl⟩
 rw [← g48] at A48 st48
 have K49 : Keep h36 h48 [] := own_kext E48
 have zzK49 : h36.size ≤ h48.size := K49.1
 have oo50 : Old Z n0 h48 := oo41.keep K49 all0
 have kt51 : Keep h0 h48 [a] := kt42.trans K49 all0
 have lab48 : b48 < h48.size := A48.lt
 have f52 : Arv Z h48 b48 k48 .boolean (2 : Int32) [.int 0, .int 0] (.int 0) := (Arv.new A48 (by decide)).pad (pad_rep [] (.int 0) 2)
 refine own_b T48 m 48 #[vr a, vi 1] [.ref b48, .ref a] st48 ?_
 have f53 : Exa Z h48 a cn1 := ((f34.keep K37).keep K49)
 have f54 : Fld Z h48 a cn1 "given" "[Z" .null := (f45.keep K49 nin0)
 obtain ⟨T55, h55, X55, e55, W55, st55⟩ := putF X48 hx hZ hown (host := "") (Or.inl (ww hw 40 rfl)) Via.refl e48 f54 f53 (Or.inr ⟨(ww hw 41 rfl), rfl, hnm⟩) (ww hw 3 rfl) (ty := (.array .boolean)) (by decide) rfl rfl (g := (mkF m 48 #[vr a, vi 1] [.ref b48, .ref a])) rfl rfl (hb hby d1_48)
 have K56 : Keep h48 h55 [a] := Keep.of_wr W55
 have f57 : Fld Z h48 a cn1 "zones" "Ljava/util/List;" (.ref b2) := (f43.keep K49 nin0)
 have f58 : Fld Z h48 a cn1 "counts" "[I" (.ref b29) := (f44.keep K49 nin0)
 have f59 : Fld Z h48 a cn1 "total" "I" (.int 0) := (f46.keep K49 nin0)
 have zzK56 : h48.size ≤ h55.size := K56.1
 have oo60 : Old Z n0 h55 := oo50.keep K56 (allS (by omega : n0 ≤ a) all0)
 have kt61 : Keep h0 h55 [a] := kt51.trans K56 (allS (Or.inl (List.mem_of_getElem? (i := 0) rfl)) all0)
 have f62 : Fld Z h55 a cn1 "zones" "Ljava/util/List;" (.ref b2) := f57.other W55 (Or.inr (slot_ne (Or.inr (ww hw 36 rfl)) (Or.inr (ww hw 41 rfl)) (by decide) (t := (.object "java/util/List")) (t' := (.array .boolean)) (by decide) (by decide)))
 have f63 : Fld Z h55 a cn1 "counts" "[I" (.ref b29) := f58.other W55 (Or.inr (slot_ne (Or.inr (ww hw 38 rfl)) (Or.inr (ww hw 41 rfl)) (by decide) (t := (.array .int)) (t' := (.array .boolean)) (by decide) (by decide)))
 have f64 : Fld Z h55 a cn1 "given" "[Z" (.ref b48) := f54.same W55
 have f65 : Fld Z h55 a cn1 "total" "I" (.int 0) := f59.other W55 (Or.inr (slot_ne (Or.inl (ww hw 58 rfl)) (Or.inr (ww hw 41 rfl)) (by decide) (t := .int) (t' := (.array .boolean)) (by decide) (by decide)))
 have N66 := Fr.snoc X55 N47 (by omega : n0 ≤ a)
 refine own_b T55 m 51 #[vr a, vi 1] [] st55 ?_
 have ne67 : @Ne Nat b29 a := by omega
 have f68 : Arv Z h55 b29 k29 .int (2 : Int32) [.int 0, .int 0] (.int 0) := (((f33.keep K37 (ninS ne67 nin0)).keep K49 nin0).keep K56 (ninS ne67 nin0))
 have ne69 : @Ne Nat b48 a := by omega
 have f70 : Arv Z h55 b48 k48 .boolean (2 : Int32) [.int 0, .int 0] (.int 0) := (f52.keep K56 (ninS ne69 nin0))
 have ne71 : @Ne Nat b29 b48 := by omega
 have ne72 : @Ne Nat b2 b48 := by omega
 have ne73 : @Ne Nat b2 b29 := by omega
 have f74 : Exa Z h55 b2 cn2 := ((((((A2.keep K9).keep K18).keep K30).keep K37).keep K49).keep K56)
 have ne75 : @Ne Nat b2 a := by omega
 have f76 : Fld Z h55 b2 "java/util/AbstractList" "modCount" "I" (.int 0) := (((((p9_0.keep K18 (ninS ne75 nin0)).keep K30 nin0).keep K37 (ninS ne75 nin0)).keep K49 nin0).keep K56 (ninS ne75 nin0))
 have f77 : Fld Z h55 b2 cn2 "elementData" "[Ljava/lang/Object;" (.ref wD) := (((((p9_1.keep K18 (ninS ne75 nin0)).keep K30 nin0).keep K37 (ninS ne75 nin0)).keep K49 nin0).keep K56 (ninS ne75 nin0))
 have f78 : Fld Z h55 b2 cn2 "size" "I" (.int 0) := (((((p9_2.keep K18 (ninS ne75 nin0)).keep K30 nin0).keep K37 (ninS ne75 nin0)).keep K49 nin0).keep K56 (ninS ne75 nin0))
 obtain ⟨fs79, hr79, hrun79, hended79, hW79, hsame79⟩ := X55.leave (v := none) (fun _ => rfl)
 refine ⟨_, _, X55.returnOut hx Bd.returns (hb hby d1_51) hr79, hrun79, hended79, _, _, rfl, ?_, ⟨_, rfl⟩, hW79, hsame79.mono (by decide) (by decide)⟩
 show Q_rmZI Z wC cC wD kD mA mL mR a h0 n0 _ T55.heap _
 rw [e55]
 exact ⟨b2, b29, b48, k29, k48, rfl, N66, kt61, (by omega), (by omega), (by omega), f62, f63, f64, f65, f74, f76, f77, f78, f68, f70, (ne71), (ne72), (ne73)⟩
theorem d8_0 : decode prog_34_method_3_code 0 = .ok (.aload_n 0, 1) := by decide +kernel
theorem d8_1 : decode prog_34_method_3_code 1 = .ok (.getfield 27, 3) := by decide +kernel
theorem d8_4 : decode prog_34_method_3_code 4 = .ok (.arraylength, 1) := by decide +kernel
theorem d8_5 : decode prog_34_method_3_code 5 = .ok (.iconst 1, 1) := by decide +kernel
theorem d8_6 : decode prog_34_method_3_code 6 = .ok (.isub, 1) := by decide +kernel
theorem d8_7 : decode prog_34_method_3_code 7 = .ok (.ireturn, 1) := by decide +kernel
theorem own_ef_rmZn (m : MethodId) (x0 : Addr) : entryFrame m #[.ref x0] 1 = mkF m 0 #[.val (.ref x0)] [] := by first | (simp [entryFrame, mkF, argsToLocals, Value.category]; done) | rfl
def Q_rmZn (Z : State) (wC : Addr) (cC : Cell) (wD : Addr) (kD : ClassId) (mA : Addr) (mL : Addr) (mR : Addr) (a : Addr) (ct : Addr) (kC : ClassId) (v0 : Int32) (v1 : Int32) (h0 : Heap) (n0 : Nat) (vv_ : Option Value) (hh_ : Heap) (LL_ : List Loc) : Prop := vv_ = some (.int 1) ∧ Fr n0 LL_ ∧ hh_ = h0
theorem rmZn (l : Launch) (Z : State) (a0 : Array Value) (hw : ∀ d ∈ tables_1, d.before a0 Z = true) (ws : List Jvm.Cond) (wC : Addr) (cC : Cell) (wD : Addr) (kD : ClassId) (mA : Addr) (mL : Addr) (mR : Addr) (GS : Glob Z wC cC wD kD mA mL mR) (a : Addr) (ct : Addr) (kC : ClassId) (v0 : Int32) (v1 : Int32) (h0 : Heap) (n0 : Nat) (Z0 : n0 ≤ h0.size) (O0 : Old Z n0 h0) (E_a : Exa Z h0 a cn1) (Fc : Fld Z h0 a cn1 "counts" "[I" (.ref ct)) (Vc : Arv Z h0 ct kC .int (2 : Int32) [.int v0, .int v1] (.int 0)) :
  MetFree l (⟨cn1, "getZoneCount", "()I"⟩ : MethodName) (head1 (Jvm.Cond.code (⟨cn1, "getZoneCount", "()I"⟩ : MethodName) prog_34_method_3_code 1 (some .int) :: ws) (⟨0, 0, 0, 0⟩ : Room)) (fun aa_ UU_ => aa_ = #[.ref a] ∧ Z.Warmed39 UU_.vm ∧ UU_.heap = h0) (fun _ _ _ _ _ => True) (fun _ UU_ oo_ UV_ => ∃ vv_ LL_, oo_ = .returned vv_ ∧ Q_rmZn Z wC cC wD kD mA mL mR a ct kC v0 v1 h0 n0 vv_ UV_.heap LL_ ∧ FrameEnd UU_ oo_ UV_ LL_ (⟨0, 0, 0, 0⟩ : Room).cells (⟨0, 0, 0, 0⟩ : Room).slots) := by
 refine MetFree.of_bodySF (plainFor_of_name own_p1) hisR ?_
 intro p e s m args below meth c s₁ Bd hml0 hP hK
 obtain ⟨rfl, hZ, hh⟩ := hP
 have hx := Bd.exec
 have hby := Bd.bytes
 have hml : c.maxLocals = 1 := hml0
 have hown : s.vm.findClass cn1 = some m.cls := findClass_of_methodNamed Bd.named
 have hnm := (name_of_methodNamed Bd.named Bd.method).1
 have X0 : Stand p l e (⟨0, 0, 0, 0⟩ : Room) s m #[.ref a] below meth c s₁ [] 0 0 := Stand.of_body Bd
 have e0 : s₁.heap = h0 := by rw [← hh, Bd.state]; rfl
 have N0 := Fr.nil n0
 have hn0 : Z.heap.size = n0 := O0.1
 have KT0 : Keep h0 h0 [] := Keep.refl _ _
 refine own_enter (Φ := fun oo_ UV_ => ∃ vv_ LL_, oo_ = .returned vv_ ∧ Q_rmZn Z wC cC wD kD mA mL mR a ct kC v0 v1 h0 n0 vv_ UV_.heap LL_ ∧ FrameEnd s oo_ UV_ LL_ (⟨0, 0, 0, 0⟩ : Room).cells (⟨0, 0, 0, 0⟩ : Room).slots) (own_ef_rmZn m a) ?_
 refine own_b s₁ m 1 #[vr a] [.ref a] (fun _ k_ => XS.aloadN X0.here hx rfl (hb hby d8_0) rfl rfl k_) ?_
 obtain ⟨T1, X1, e1, st1⟩ := getF X0 hx hZ hown (host := "") (Or.inl (ww hw 37 rfl)) Via.refl e0 Fc (g := (mkF m 1 #[vr a] [.ref a])) rfl rfl (hb hby d8_1)
 refine own_b T1 m 4 #[vr a] [.ref ct] st1 ?_
 obtain ⟨cl2, Ar2, q2, S2, M2, H2, G2⟩ := id Vc
 refine own_b T1 m 5 #[vr a] [.int 2] (fun _ k_ => X1.arraylength hx (by rw [e1]; exact Ar2.1) (State.isArrayOf_alike hZ.alike Ar2.2.1) (g := (mkF m 4 #[vr a] [.ref ct])) rfl rfl (hb hby d8_4) _ (by rw [len_of S2 M2]; exact k_)) ?_
 refine own_b T1 m 7 #[vr a] [(.int ((2 : Int32) - (1 : Int32)))] (fun _ k_ => XS.iconst X1.here hx rfl (hb hby d8_5) (XS.isub X1.here hx rfl (hb hby d8_6) rfl k_)) ?_
 rw [show ((2 : Int32) - (1 : Int32)) = (1 : Int32) from by decide]
 obtain ⟨fs3, hr3, hrun3, hended3, hW3, hsame3⟩ := X1.leave (v := some (.int 1)) (fun h => by rw [Bd.returns] at h; cases h)
 refine ⟨_, _, retOut X1 hx (t := .int) Bd.returns rfl (Or.inl ⟨rfl, Or.inl rfl, _, rfl⟩) (hb hby d8_7) hr3, hrun3, hended3, _, _, rfl, ?_, ⟨_, rfl⟩, hW3, hsame3.mono (by decide) (by decide)⟩
 show Q_rmZn Z wC cC wD kD mA mL mR a ct kC v0 v1 h0 n0 _ T1.heap _
 exact ⟨rfl, N0, e1⟩
theorem own_pd_5 : parseMethodDescriptor "()I" = some ⟨[], some .int⟩ := by decide +kernel
theorem d7_0 : decode prog_34_method_7_code 0 = .ok (.iload_n 1, 1) := by decide +kernel
theorem d7_1 : decode prog_34_method_7_code 1 = .ok (.iconst 1, 1) := by decide +kernel
theorem d7_2 : decode prog_34_method_7_code 2 = .ok (.if_icmp .lt 11, 3) := by decide +kernel
theorem d7_5 : decode prog_34_method_7_code 5 = .ok (.iload_n 1, 1) := by decide +kernel
theorem d7_6 : decode prog_34_method_7_code 6 = .ok (.aload_n 0, 1) := by decide +kernel
theorem d7_7 : decode prog_34_method_7_code 7 = .ok (.invokevirtual 70, 3) := by decide +kernel
theorem d7_10 : decode prog_34_method_7_code 10 = .ok (.if_icmp .le 37, 3) := by decide +kernel
theorem d7_47 : decode prog_34_method_7_code 47 = .ok (.return_, 1) := by decide +kernel
theorem own_ef_rmCz (m : MethodId) (x0 : Addr) (x1 : Int32) : entryFrame m #[.ref x0, .int x1] 2 = mkF m 0 #[.val (.ref x0), .val (.int x1)] [] := by first | (simp [entryFrame, mkF, argsToLocals, Value.category]; done) | rfl
def Q_rmCz (Z : State) (wC : Addr) (cC : Cell) (wD : Addr) (kD : ClassId) (mA : Addr) (mL : Addr) (mR : Addr) (a : Addr) (ct : Addr) (kC : ClassId) (v0 : Int32) (v1 : Int32) (h0 : Heap) (n0 : Nat) (vv_ : Option Value) (hh_ : Heap) (LL_ : List Loc) : Prop := vv_ = none ∧ Fr n0 LL_ ∧ hh_ = h0
theorem rmCz (l : Launch) (Z : State) (a0 : Array Value) (hw : ∀ d ∈ tables_1, d.before a0 Z = true) (ws : List Jvm.Cond) (wC : Addr) (cC : Cell) (wD : Addr) (kD : ClassId) (mA : Addr) (mL : Addr) (mR : Addr) (GS : Glob Z wC cC wD kD mA mL mR) (a : Addr) (ct : Addr) (kC : ClassId) (v0 : Int32) (v1 : Int32) (h0 : Heap) (n0 : Nat) (Z0 : n0 ≤ h0.size) (O0 : Old Z n0 h0) (E_a : Exa Z h0 a cn1) (Fc : Fld Z h0 a cn1 "counts" "[I" (.ref ct)) (Vc : Arv Z h0 ct kC .int (2 : Int32) [.int v0, .int v1] (.int 0)) :
  MetFree l (⟨cn1, "checkZone", "(I)V"⟩ : MethodName) (head1 (Jvm.Cond.code (⟨cn1, "checkZone", "(I)V"⟩ : MethodName) prog_34_method_7_code 2 none :: ws) (⟨1, 0, 0, 13⟩ : Room)) (fun aa_ UU_ => aa_ = #[.ref a, .int 1] ∧ Z.Warmed39 UU_.vm ∧ UU_.heap = h0) (fun _ _ _ _ _ => True) (fun _ UU_ oo_ UV_ => ∃ vv_ LL_, oo_ = .returned vv_ ∧ Q_rmCz Z wC cC wD kD mA mL mR a ct kC v0 v1 h0 n0 vv_ UV_.heap LL_ ∧ FrameEnd UU_ oo_ UV_ LL_ (⟨1, 0, 0, 13⟩ : Room).cells (⟨1, 0, 0, 13⟩ : Room).slots) := by
 refine MetFree.of_bodySF (plainFor_of_name own_p1) hisR ?_
 intro p e s m args below meth c s₁ Bd hml0 hP hK
 obtain ⟨rfl, hZ, hh⟩ := hP
 have hx := Bd.exec
 have hby := Bd.bytes
 have hml : c.maxLocals = 2 := hml0
 have hown : s.vm.findClass cn1 = some m.cls := findClass_of_methodNamed Bd.named
 have hnm := (name_of_methodNamed Bd.named Bd.method).1
 have X0 : Stand p l e (⟨1, 0, 0, 13⟩ : Room) s m #[.ref a, .int 1] below meth c s₁ [] 0 0 := Stand.of_body Bd
 have e0 : s₁.heap = h0 := by rw [← hh, Bd.state]; rfl
 have N0 := Fr.nil n0
 have hn0 : Z.heap.size = n0 := O0.1
 have KT0 : Keep h0 h0 [] := Keep.refl _ _
 refine own_enter (Φ := fun oo_ UV_ => ∃ vv_ LL_, oo_ = .returned vv_ ∧ Q_rmCz Z wC cC wD kD mA mL mR a ct kC v0 v1 h0 n0 vv_ UV_.heap LL_ ∧ FrameEnd s oo_ UV_ LL_ (⟨1, 0, 0, 13⟩ : Room).cells (⟨1, 0, 0, 13⟩ : Room).slots) (own_ef_rmCz m a (1 : Int32)) ?_
 refine own_b s₁ m 7 #[vr a, vi 1] [.ref a, .int 1] (fun _ k_ => XS.iloadN X0.here hx rfl (hb hby d7_0) rfl (XS.iconst X0.here hx rfl (hb hby d7_1) (XS.icmpNo X0.here hx rfl (hb hby d7_2) rfl (XT.ii_lt_f (by decide)) (XS.iloadN X0.here hx rfl (hb hby d7_5) rfl (XS.aloadN X0.here hx rfl (hb hby d7_6) rfl rfl k_))))) ?_
 obtain ⟨cq1, kq1, q1a, q1b, q1c⟩ := isOf hZ e0 E_a
 obtain ⟨_, _, ⟨T1, L1, k1, n1⟩, -, X1, ⟨Lc1, hQ1, l1, y1, z1⟩, st1⟩ := X0.virtualBack hx (y := (⟨cn1, "getZoneCount", "()I"⟩ : MethodName)) (z := (⟨cn1, "getZoneCount", "()I"⟩ : MethodName)) hown (mvT hZ (ww hw 51 rfl)) (mvT hZ (ww hw 52 rfl)) (notFace_of_selects (args := #[]) (mvT hZ (ww hw 54 rfl))) (mvT hZ (ww hw 54 rfl)) (mvT hZ (ww hw 53 rfl)) (by decide) (backOf (W := 1) (rmZn l Z a0 hw [] wC cC wD kD mA mL mR GS a ct kC v0 v1 h0 n0 (by omega) O0 E_a Fc Vc) hZ (ww hw 55 rfl) (ww hw 4 rfl) (by decide) (by decide)) q1a q1c (g := (mkF m 7 #[vr a, vi 1] [.ref a, .int 1])) rfl (by rw [hml]; rfl) (Steps.refl _) (argsL := []) (rest := [.int 1]) (lenOf own_pd_5 rfl) rfl (by show 2 * 0 + _ ≤ _; exact Nat.le_of_eq rfl) (hb hby d7_7) (fun _ _ => ⟨rfl, e0, (by decide : 0 + 0 ≤ _), (by decide : 0 + 0 ≤ _)⟩)
 dsimp only [Pt.U, Pt.locs, Pt.cells, Pt.slots] at X1 l1 y1 z1 st1 hQ1
 subst l1 y1 z1
 obtain ⟨rfl, N1q, e1⟩ := hQ1
 have N2 := Fr.app N0 N1q
 refine own_b T1 m 10 #[vr a, vi 1] [.int 1, .int 1] (fun _ k_ => st1.trans k_) ?_
 refine own_b T1 m 47 #[vr a, vi 1] [] (fun _ k_ => XS.icmpYes X1.here hx rfl (pc0 := 10) (pc' := 47) rfl (hb hby d7_10) rfl (XT.ii_le_t (by decide)) (by decide) (by decide) k_) ?_
 obtain ⟨fs3, hr3, hrun3, hended3, hW3, hsame3⟩ := X1.leave (v := none) (fun _ => rfl)
 refine ⟨_, _, X1.returnOut hx Bd.returns (hb hby d7_47) hr3, hrun3, hended3, _, _, rfl, ?_, ⟨_, rfl⟩, hW3, hsame3.mono (by decide) (by decide)⟩
 show Q_rmCz Z wC cC wD kD mA mL mR a ct kC v0 v1 h0 n0 _ T1.heap _
 exact ⟨rfl, N2, e1⟩
theorem own_pd_6 : parseMethodDescriptor "(I)V" = some ⟨[.int], none⟩ := by decide +kernel
theorem own_pd_7 : parseMethodDescriptor "(I)Ljava/lang/Integer;" = some ⟨[.int], some (.object "java/lang/Integer")⟩ := by decide +kernel
theorem own_pd_8 : parseMethodDescriptor "(Ljava/lang/Object;)Z" = some ⟨[(.object "java/lang/Object")], some .boolean⟩ := by decide +kernel
theorem d6_0 : decode prog_34_method_2_code 0 = .ok (.aload_n 0, 1) := by decide +kernel
theorem d6_1 : decode prog_34_method_2_code 1 = .ok (.iload_n 1, 1) := by decide +kernel
theorem d6_2 : decode prog_34_method_2_code 2 = .ok (.invokevirtual 35, 3) := by decide +kernel
theorem d6_5 : decode prog_34_method_2_code 5 = .ok (.aload_n 0, 1) := by decide +kernel
theorem d6_6 : decode prog_34_method_2_code 6 = .ok (.getfield 31, 3) := by decide +kernel
theorem d6_9 : decode prog_34_method_2_code 9 = .ok (.iload_n 1, 1) := by decide +kernel
theorem d6_10 : decode prog_34_method_2_code 10 = .ok (.baload, 1) := by decide +kernel
theorem d6_11 : decode prog_34_method_2_code 11 = .ok (.ifCond .eq 17, 3) := by decide +kernel
theorem d6_28 : decode prog_34_method_2_code 28 = .ok (.iload_n 2, 1) := by decide +kernel
theorem d6_29 : decode prog_34_method_2_code 29 = .ok (.ifCond .ge 17, 3) := by decide +kernel
theorem d6_46 : decode prog_34_method_2_code 46 = .ok (.iload_n 2, 1) := by decide +kernel
theorem d6_47 : decode prog_34_method_2_code 47 = .ok (.ldc 41, 2) := by decide +kernel
theorem d6_49 : decode prog_34_method_2_code 49 = .ok (.aload_n 0, 1) := by decide +kernel
theorem d6_50 : decode prog_34_method_2_code 50 = .ok (.getfield 42, 3) := by decide +kernel
theorem d6_53 : decode prog_34_method_2_code 53 = .ok (.isub, 1) := by decide +kernel
theorem d6_54 : decode prog_34_method_2_code 54 = .ok (.if_icmp .le 28, 3) := by decide +kernel
theorem d6_82 : decode prog_34_method_2_code 82 = .ok (.aload_n 0, 1) := by decide +kernel
theorem d6_83 : decode prog_34_method_2_code 83 = .ok (.getfield 31, 3) := by decide +kernel
theorem d6_86 : decode prog_34_method_2_code 86 = .ok (.iload_n 1, 1) := by decide +kernel
theorem d6_87 : decode prog_34_method_2_code 87 = .ok (.iconst 1, 1) := by decide +kernel
theorem d6_88 : decode prog_34_method_2_code 88 = .ok (.bastore, 1) := by decide +kernel
theorem d6_89 : decode prog_34_method_2_code 89 = .ok (.aload_n 0, 1) := by decide +kernel
theorem d6_90 : decode prog_34_method_2_code 90 = .ok (.getfield 27, 3) := by decide +kernel
theorem d6_93 : decode prog_34_method_2_code 93 = .ok (.iload_n 1, 1) := by decide +kernel
theorem d6_94 : decode prog_34_method_2_code 94 = .ok (.iload_n 2, 1) := by decide +kernel
theorem d6_95 : decode prog_34_method_2_code 95 = .ok (.iastore, 1) := by decide +kernel
theorem d6_96 : decode prog_34_method_2_code 96 = .ok (.aload_n 0, 1) := by decide +kernel
theorem d6_97 : decode prog_34_method_2_code 97 = .ok (.getfield 12, 3) := by decide +kernel
theorem d6_100 : decode prog_34_method_2_code 100 = .ok (.iload_n 1, 1) := by decide +kernel
theorem d6_101 : decode prog_34_method_2_code 101 = .ok (.invokestatic 48, 3) := by decide +kernel
theorem d6_104 : decode prog_34_method_2_code 104 = .ok (.invokeinterface 58 2, 5) := by decide +kernel
theorem d6_109 : decode prog_34_method_2_code 109 = .ok (.pop, 1) := by decide +kernel
theorem d6_110 : decode prog_34_method_2_code 110 = .ok (.aload_n 0, 1) := by decide +kernel
theorem d6_111 : decode prog_34_method_2_code 111 = .ok (.dup, 1) := by decide +kernel
theorem d6_112 : decode prog_34_method_2_code 112 = .ok (.getfield 42, 3) := by decide +kernel
theorem d6_115 : decode prog_34_method_2_code 115 = .ok (.iload_n 2, 1) := by decide +kernel
theorem d6_116 : decode prog_34_method_2_code 116 = .ok (.iadd, 1) := by decide +kernel
theorem d6_117 : decode prog_34_method_2_code 117 = .ok (.putfield 42, 3) := by decide +kernel
theorem d6_120 : decode prog_34_method_2_code 120 = .ok (.return_, 1) := by decide +kernel
theorem own_ef_rmZA (m : MethodId) (x0 : Addr) (x1 : Int32) (x2 : Int32) : entryFrame m #[.ref x0, .int x1, .int x2] 3 = mkF m 0 #[.val (.ref x0), .val (.int x1), .val (.int x2)] [] := by first | (simp [entryFrame, mkF, argsToLocals, Value.category]; done) | rfl
def Q_rmZA (Z : State) (wC : Addr) (cC : Cell) (wD : Addr) (kD : ClassId) (mA : Addr) (mL : Addr) (mR : Addr) (a : Addr) (al : Addr) (ct : Addr) (gv : Addr) (kC : ClassId) (kG : ClassId) (nn : Int32) (h0 : Heap) (n0 : Nat) (vv_ : Option Value) (hh_ : Heap) (LL_ : List Loc) : Prop := ∃ t : Addr, ∃ kE : ClassId, ∃ b : Addr, vv_ = none ∧ Fr n0 LL_ ∧ Keep h0 hh_ [a, al, ct, gv] ∧ h0.size ≤ t ∧ Fld Z hh_ a "com/example/even_commute/evencommute/demand/ZoneCounts" "zones" "Ljava/util/List;" (.ref al) ∧ Fld Z hh_ a "com/example/even_commute/evencommute/demand/ZoneCounts" "counts" "[I" (.ref ct) ∧ Fld Z hh_ a "com/example/even_commute/evencommute/demand/ZoneCounts" "total" "I" (.int nn) ∧ Fld Z hh_ al "java/util/AbstractList" "modCount" "I" (.int 1) ∧ Fld Z hh_ al "java/util/ArrayList" "elementData" "[Ljava/lang/Object;" (.ref t) ∧ Fld Z hh_ al "java/util/ArrayList" "size" "I" (.int 1) ∧ Arv Z hh_ t kE (.object "java/lang/Object") (10 : Int32) [.ref b, .null, .null, .null, .null, .null, .null, .null, .null, .null] .null ∧ Exa Z hh_ b "java/lang/Integer" ∧ Fld Z hh_ b "java/lang/Integer" "value" "I" (.int 1) ∧ Arv Z hh_ ct kC .int (2 : Int32) [.int 0, .int nn] (.int 0)
theorem rmZA (l : Launch) (Z : State) (a0 : Array Value) (hw : ∀ d ∈ tables_1, d.before a0 Z = true) (ws : List Jvm.Cond) (wC : Addr) (cC : Cell) (wD : Addr) (kD : ClassId) (mA : Addr) (mL : Addr) (mR : Addr) (GS : Glob Z wC cC wD kD mA mL mR) (a : Addr) (al : Addr) (ct : Addr) (gv : Addr) (kC : ClassId) (kG : ClassId) (nn : Int32) (h0 : Heap) (n0 : Nat) (Z0 : n0 ≤ h0.size) (O0 : Old Z n0 h0) (E_a : Exa Z h0 a cn1) (g_a : n0 ≤ a) (gal : n0 ≤ al) (gct : n0 ≤ ct) (ggv : n0 ≤ gv) (Fz : Fld Z h0 a cn1 "zones" "Ljava/util/List;" (.ref al)) (Fc : Fld Z h0 a cn1 "counts" "[I" (.ref ct)) (Fg : Fld Z h0 a cn1 "given" "[Z" (.ref gv)) (Ft : Fld Z h0 a cn1 "total" "I" (.int 0)) (E_l : Exa Z h0 al cn2) (Fm : Fld Z h0 al "java/util/AbstractList" "modCount" "I" (.int 0)) (Fe : Fld Z h0 al cn2 "elementData" "[Ljava/lang/Object;" (.ref wD)) (Fs : Fld Z h0 al cn2 "size" "I" (.int 0)) (Vc : Arv Z h0 ct kC .int (2 : Int32) [.int 0, .int 0] (.int 0)) (Vg : Arv Z h0 gv kG .boolean (2 : Int32) [.int 0, .int 0] (.int 0)) (q1 : @Ne Nat ct gv) (q2 : @Ne Nat al gv) (q3 : @Ne Nat al ct) (q4 : @Ne Nat a al) (q5 : @Ne Nat a ct) (q6 : @Ne Nat a gv) (hn0_ : ¬ nn < (0 : Int32)) (hn1 : ¬ (2147483647 : Int32) < nn) :
  MetFree l (⟨cn1, "add", "(II)V"⟩ : MethodName) (head1 (Jvm.Cond.code (⟨cn1, "add", "(II)V"⟩ : MethodName) prog_34_method_2_code 3 none :: ws) (⟨5, 1, 10, 69⟩ : Room)) (fun aa_ UU_ => aa_ = #[.ref a, .int 1, .int nn] ∧ Z.Warmed39 UU_.vm ∧ UU_.heap = h0) (fun _ _ _ _ _ => True) (fun _ UU_ oo_ UV_ => ∃ vv_ LL_, oo_ = .returned vv_ ∧ Q_rmZA Z wC cC wD kD mA mL mR a al ct gv kC kG nn h0 n0 vv_ UV_.heap LL_ ∧ FrameEnd UU_ oo_ UV_ LL_ (⟨5, 1, 10, 69⟩ : Room).cells (⟨5, 1, 10, 69⟩ : Room).slots) := by
 refine MetFree.of_bodySF (plainFor_of_name own_p1) hisR ?_
 intro p e s m args below meth c s₁ Bd hml0 hP hK
 obtain ⟨rfl, hZ, hh⟩ := hP
 have hx := Bd.exec
 have hby := Bd.bytes
 have hml : c.maxLocals = 3 := hml0
 have hown : s.vm.findClass cn1 = some m.cls := findClass_of_methodNamed Bd.named
 have hnm := (name_of_methodNamed Bd.named Bd.method).1
 have X0 : Stand p l e (⟨5, 1, 10, 69⟩ : Room) s m #[.ref a, .int 1, .int nn] below meth c s₁ [] 0 0 := Stand.of_body Bd
 have e0 : s₁.heap = h0 := by rw [← hh, Bd.state]; rfl
 have N0 := Fr.nil n0
 have hn0 : Z.heap.size = n0 := O0.1
 have KT0 : Keep h0 h0 [a, al, ct, gv] := Keep.refl _ _
 refine own_enter (Φ := fun oo_ UV_ => ∃ vv_ LL_, oo_ = .returned vv_ ∧ Q_rmZA Z wC cC wD kD mA mL mR a al ct gv kC kG nn h0 n0 vv_ UV_.heap LL_ ∧ FrameEnd s oo_ UV_ LL_ (⟨5, 1, 10, 69⟩ : Room).cells (⟨5, 1, 10, 69⟩ : Room).slots) (own_ef_rmZA m a (1 : Int32) nn) ?_
 have ne1 : ct ≠ gv := q1
 have ne2 : al ≠ gv := q2
 have ne3 : al ≠ ct := q3
 have ne4 : a ≠ al := q4
 have ne5 : a ≠ ct := q5
 have ne6 : a ≠ gv := q6
 refine own_b s₁ m 2 #[vr a, vi 1, vi nn] [.int 1, .ref a] (fun _ k_ => XS.aloadN X0.here hx rfl (hb hby d6_0) rfl rfl (XS.iloadN X0.here hx rfl (hb hby d6_1) rfl k_)) ?_
 obtain ⟨cq7, q7, q7'⟩ := E_a.cell
 obtain ⟨_, _, ⟨T7, L7, k7, n7⟩, -, X7, ⟨Lc7, hQ7, l7, y7, z7⟩, st7⟩ := X0.privateBack hx (y := (⟨cn1, "checkZone", "(I)V"⟩ : MethodName)) hown (mvT hZ (ww hw 47 rfl)) (mvT hZ (ww hw 48 rfl)) (own_selP hZ (ww hw 49 rfl) (ww hw 3 rfl) (ww hw 48 rfl) (by decide)) (Cond.privateMethod_at (mvP hZ (ww hw 49 rfl) (args := #[]))) (mvT hZ (ww hw 50 rfl)) (by decide) (backOf (W := 0) (rmCz l Z a0 hw [] wC cC wD kD mA mL mR GS a ct kC (0 : Int32) (0 : Int32) h0 n0 (by omega) O0 E_a Fc Vc) hZ (ww hw 50 rfl) (ww hw 4 rfl) (by decide) (by decide)) (g := (mkF m 2 #[vr a, vi 1, vi nn] [.int 1, .ref a])) rfl (by rw [hml]; rfl) (Steps.refl _) (a := a) (by rw [e0]; exact q7) q7' (argsL := [.int 1]) (rest := []) (lenOf own_pd_6 rfl) rfl (by show 2 * 0 + _ ≤ _; exact Nat.le_of_eq rfl) (hb hby d6_2) (fun _ _ => ⟨rfl, e0, (by decide : 0 + 0 ≤ _), (by decide : 0 + 0 ≤ _)⟩)
 dsimp only [Pt.U, Pt.locs, Pt.cells, Pt.slots] at X7 l7 y7 z7 st7 hQ7
 subst l7 y7 z7
 obtain ⟨rfl, N7q, e7⟩ := hQ7
 have N8 := Fr.app N0 N7q
 refine own_b T7 m 5 #[vr a, vi 1, vi nn] [] (fun _ k_ => st7.trans k_) ?_
 refine own_b T7 m 6 #[vr a, vi 1, vi nn] [.ref a] (fun _ k_ => XS.aloadN X7.here hx rfl (hb hby d6_5) rfl rfl k_) ?_
 obtain ⟨T9, X9, e9, st9⟩ := getF X7 hx hZ hown (host := "") (Or.inl (ww hw 40 rfl)) Via.refl e7 Fg (g := (mkF m 6 #[vr a, vi 1, vi nn] [.ref a])) rfl rfl (hb hby d6_6)
 refine own_b T9 m 9 #[vr a, vi 1, vi nn] [.ref gv] st9 ?_
 refine own_b T9 m 10 #[vr a, vi 1, vi nn] [.int 1, .ref gv] (fun _ k_ => XS.iloadN X9.here hx rfl (hb hby d6_9) rfl k_) ?_
 obtain ⟨cl10, Ar10, q10, S10, M10, H10, G10⟩ := id Vg
 have hin10 : ¬ ((1 : Int32) < 0 ∨ cl10.slots.size ≤ ((1 : Int32)).toNatClampNeg) := inb_of S10 ⟨by decide, by decide⟩
 have hat10 : cl10.slots[((1 : Int32)).toNatClampNeg]? = some (.int 0) := H10.at hin10 rfl
 refine own_b T9 m 11 #[vr a, vi 1, vi nn] [.int 0] (fun _ k_ => X9.baloadBooleans hx (j := (1 : Int32)) (v := (.int 0)) (by rw [e9]; exact Ar10.1) (State.isArrayOf_alike hZ.alike Ar10.2.1) Ar10.2.2 hin10 hat10 (g := (mkF m 10 #[vr a, vi 1, vi nn] [.int 1, .ref gv])) rfl rfl (hb hby d6_10) _ k_) ?_
 refine own_b T9 m 47 #[vr a, vi 1, vi nn] [.int nn] (fun _ k_ => XS.ifYes X9.here hx rfl (pc0 := 11) (pc' := 28) rfl (hb hby d6_11) rfl (XT.i0_eq_t (by decide)) (by decide) (by decide) (XS.iloadN X9.here hx rfl (hb hby d6_28) rfl (XS.ifYes X9.here hx rfl (pc0 := 29) (pc' := 46) rfl (hb hby d6_29) rfl (XT.i0_ge_t hn0_) (by decide) (by decide) (XS.iloadN X9.here hx rfl (hb hby d6_46) rfl k_)))) ?_
 refine own_b T9 m 49 #[vr a, vi 1, vi nn] [.int 2147483647, .int nn] (fun _ k_ => X9.ldcInt hx hown (mvT hZ (ww hw 56 rfl)) (g := (mkF m 47 #[vr a, vi 1, vi nn] [.int nn])) rfl (hb hby d6_47) _ k_) ?_
 refine own_b T9 m 50 #[vr a, vi 1, vi nn] [.ref a, .int 2147483647, .int nn] (fun _ k_ => XS.aloadN X9.here hx rfl (hb hby d6_49) rfl rfl k_) ?_
 obtain ⟨T12, X12, e12, st12⟩ := getF X9 hx hZ hown (host := "") (Or.inl (ww hw 57 rfl)) Via.refl e9 Ft (g := (mkF m 50 #[vr a, vi 1, vi nn] [.ref a, .int 2147483647, .int nn])) rfl rfl (hb hby d6_50)
 refine own_b T12 m 53 #[vr a, vi 1, vi nn] [.int 0, .int 2147483647, .int nn] st12 ?_
 refine own_b T12 m 54 #[vr a, vi 1, vi nn] [(.int ((2147483647 : Int32) - (0 : Int32))), .int nn] (fun _ k_ => XS.isub X12.here hx rfl (hb hby d6_53) rfl k_) ?_
 rw [show ((2147483647 : Int32) - (0 : Int32)) = (2147483647 : Int32) from by decide]
 refine own_b T12 m 83 #[vr a, vi 1, vi nn] [.ref a] (fun _ k_ => XS.icmpYes X12.here hx rfl (pc0 := 54) (pc' := 82) rfl (hb hby d6_54) rfl (XT.ii_le_t hn1) (by decide) (by decide) (XS.aloadN X12.here hx rfl (hb hby d6_82) rfl rfl k_)) ?_
 obtain ⟨T13, X13, e13, st13⟩ := getF X12 hx hZ hown (host := "") (Or.inl (ww hw 40 rfl)) Via.refl e12 Fg (g := (mkF m 83 #[vr a, vi 1, vi nn] [.ref a])) rfl rfl (hb hby d6_83)
 refine own_b T13 m 86 #[vr a, vi 1, vi nn] [.ref gv] st13 ?_
 refine own_b T13 m 88 #[vr a, vi 1, vi nn] [.int 1, .int 1, .ref gv] (fun _ k_ => XS.iloadN X13.here hx rfl (hb hby d6_86) rfl (XS.iconst X13.here hx rfl (hb hby d6_87) k_)) ?_
 obtain ⟨cl14, Ar14, q14, S14, M14, H14, G14⟩ := id Vg
 have hin14 : ¬ ((1 : Int32) < 0 ∨ cl14.slots.size ≤ ((1 : Int32)).toNatClampNeg) := inb_of S14 ⟨by decide, by decide⟩
 obtain ⟨T14, h14, X14, e14, W14, st14⟩ := stZ X13 hx hZ e13 Ar14 (j := (1 : Int32)) hin14 (g := (mkF m 88 #[vr a, vi 1, vi nn] [.int 1, .int 1, .ref gv])) rfl rfl (hb hby d6_88)
 rw [show nar .boolean (1 : Int32) = (1 : Int32) from rfl] at W14
 have K15 : Keep h0 h14 [gv] := Keep.of_wr W14
 have zzK15 : h0.size ≤ h14.size := K15.1
 have oo16 : Old Z n0 h14 := O0.keep K15 (allS (by omega : n0 ≤ gv) all0)
 have kt17 : Keep h0 h14 [a, al, ct, gv] := KT0.trans K15 (allS (Or.inl (List.mem_of_getElem? (i := 3) rfl)) all0)
 have f18 : Arv Z h14 gv kG .boolean (2 : Int32) [.int 0, .int 1] (.int 0) := Arv.set Ar14 q14 S14 M14 H14 G14 rfl W14 1 rfl (Nat.le_of_ble_eq_true rfl)
 have N19 := Fr.snoc X14 N8 (by omega : n0 ≤ gv)
 refine own_b T14 m 89 #[vr a, vi 1, vi nn] [] st14 ?_
 refine own_b T14 m 90 #[vr a, vi 1, vi nn] [.ref a] (fun _ k_ => XS.aloadN X14.here hx rfl (hb hby d6_89) rfl rfl k_) ?_
 have f20 : Fld Z h14 a cn1 "counts" "[I" (.ref ct) := (Fc.keep K15 (ninS ne6 nin0))
 obtain ⟨T21, X21, e21, st21⟩ := getF X14 hx hZ hown (host := "") (Or.inl (ww hw 37 rfl)) Via.refl e14 f20 (g := (mkF m 90 #[vr a, vi 1, vi nn] [.ref a])) rfl rfl (hb hby d6_90)
 refine own_b T21 m 93 #[vr a, vi 1, vi nn] [.ref ct] st21 ?_
 refine own_b T21 m 95 #[vr a, vi 1, vi nn] [.int nn, .int 1, .ref ct] (fun _ k_ => XS.iloadN X21.here hx rfl (hb hby d6_93) rfl (XS.iloadN X21.here hx rfl (hb hby d6_94) rfl k_)) ?_
 have f23 : Arv Z h14 ct kC .int (2 : Int32) [.int 0, .int 0] (.int 0) := (Vc.keep K15 (ninS ne1 nin0))
 obtain ⟨cl22, Ar22, q22, S22, M22, H22, G22⟩ := id f23
 have hin22 : ¬ ((1 : Int32) < 0 ∨ cl22.slots.size ≤ ((1 : Int32)).toNatClampNeg) := inb_of S22 ⟨by decide, by decide⟩
 obtain ⟨T22, h22, X22, e22, W22, st22⟩ := stI X21 hx hZ e21 Ar22 (j := (1 : Int32)) hin22 (g := (mkF m 95 #[vr a, vi 1, vi nn] [.int nn, .int 1, .ref ct])) rfl rfl (hb hby d6_95)
 have K24 : Keep h14 h22 [ct] := Keep.of_wr W22
 have zzK24 : h14.size ≤ h22.size := K24.1
 have oo25 : Old Z n0 h22 := oo16.keep K24 (allS (by omega : n0 ≤ ct) all0)
 have kt26 : Keep h0 h22 [a, al, ct, gv] := kt17.trans K24 (allS (Or.inl (List.mem_of_getElem? (i := 2) rfl)) all0)
 have f27 : Arv Z h22 ct kC .int (2 : Int32) [.int 0, .int nn] (.int 0) := Arv.set Ar22 q22 S22 M22 H22 G22 rfl W22 1 rfl (Nat.le_of_ble_eq_true rfl)
 have N28 := Fr.snoc X22 N19 (by omega : n0 ≤ ct)
 refine own_b T22 m 96 #[vr a, vi 1, vi nn] [] st22 ?_
 refine own_b T22 m 97 #[vr a, vi 1, vi nn] [.ref a] (fun _ k_ => XS.aloadN X22.here hx rfl (hb hby d6_96) rfl rfl k_) ?_
 have f29 : Fld Z h22 a cn1 "zones" "Ljava/util/List;" (.ref al) := ((Fz.keep K15 (ninS ne6 nin0)).keep K24 (ninS ne5 nin0))
 obtain ⟨T30, X30, e30, st30⟩ := getF X22 hx hZ hown (host := "") (Or.inl (ww hw 35 rfl)) Via.refl e22 f29 (g := (mkF m 97 #[vr a, vi 1, vi nn] [.ref a])) rfl rfl (hb hby d6_97)
 refine own_b T30 m 100 #[vr a, vi 1, vi nn] [.ref al] st30 ?_
 refine own_b T30 m 101 #[vr a, vi 1, vi nn] [.int 1, .ref al] (fun _ k_ => XS.iloadN X30.here hx rfl (hb hby d6_100) rfl k_) ?_
 obtain ⟨_, _, ⟨T31, L31, k31, n31⟩, -, X31, ⟨Lc31, hQ31, l31, y31, z31⟩, st31⟩ := Jvm.LawKit.callS X30 hx (y := (⟨"java/lang/Integer", "valueOf", "(I)Ljava/lang/Integer;"⟩ : MethodName)) hown (mvT hZ (ww hw 59 rfl)) (mvT hZ (ww hw 60 rfl)) (mvT hZ (ww hw 61 rfl)) (mvT hZ (ww hw 62 rfl)) (by decide) (backOf (W := 1) (rmVal1 l Z a0 hw [] wC cC wD kD mA mL mR GS  h22 n0 (by omega) oo25 ) hZ (ww hw 62 rfl) (ww hw 61 rfl) (by decide) (by decide)) (g := (mkF m 101 #[vr a, vi 1, vi nn] [.int 1, .ref al])) rfl (by rw [hml]; rfl) (argsL := [.int 1]) (rest := [.ref al]) (lenOf own_pd_7 rfl) rfl (by show 2 * 0 + _ ≤ _; exact Nat.le_of_eq rfl) (hb hby d6_101) (fun _ _ => ⟨rfl, e30, (by decide : 0 + 0 ≤ _), (by decide : 0 + 0 ≤ _)⟩)
 dsimp only [Pt.U, Pt.locs, Pt.cells, Pt.slots] at X31 l31 y31 z31 st31 hQ31
 subst l31 y31 z31
 obtain ⟨b_32, rfl, N31q, e31, p31_0, p31_1, p31_2⟩ := hQ31
 have N33 := Fr.app N28 N31q
 rw [e31] at p31_0 p31_1
 refine own_b T31 m 104 #[vr a, vi 1, vi nn] [.ref b_32, .ref al] st31 ?_
 have f34 : Exa Z h22 al cn2 := ((E_l.keep K15).keep K24)
 have la35 : @LT.lt Nat instLTNat al h0.size := E_l.lt
 have f36 : Fld Z h22 al "java/util/AbstractList" "modCount" "I" (.int 0) := ((Fm.keep K15 (ninS ne2 nin0)).keep K24 (ninS ne3 nin0))
 have f37 : Fld Z h22 al cn2 "elementData" "[Ljava/lang/Object;" (.ref wD) := ((Fe.keep K15 (ninS ne2 nin0)).keep K24 (ninS ne3 nin0))
 have f38 : Fld Z h22 al cn2 "size" "I" (.int 0) := ((Fs.keep K15 (ninS ne2 nin0)).keep K24 (ninS ne3 nin0))
 obtain ⟨cq39, kq39, q39a, q39b, q39c⟩ := isOf hZ e31 f34
 obtain ⟨_, _, ⟨T39, L39, k39, n39⟩, -, X39, ⟨Lc39, hQ39, l39, y39, z39⟩, st39⟩ := X31.interfaceBack hx (xi := (⟨"java/util/List", "add", "(Ljava/lang/Object;)Z"⟩ : MethodName)) (y := (⟨cn2, "add", "(Ljava/lang/Object;)Z"⟩ : MethodName)) hown (mvT hZ (ww hw 66 rfl)) (mvT hZ (ww hw 67 rfl)) (mvT hZ (ww hw 68 rfl)) (mvT hZ (ww hw 69 rfl)) (mvT hZ (ww hw 70 rfl)) (mvT hZ (ww hw 71 rfl)) (mvT hZ (ww hw 72 rfl)) (mvT hZ (ww hw 73 rfl)) (by decide) (backOf (W := 0) (rmAdd l Z a0 hw [] wC cC wD kD mA mL mR GS al b_32 h22 n0 (by omega) oo25 f34 (by omega) p31_0 f36 f37 f38) hZ (ww hw 74 rfl) (ww hw 13 rfl) (by decide) (by decide)) q39a q39b q39c (g := (mkF m 104 #[vr a, vi 1, vi nn] [.ref b_32, .ref al])) rfl (by rw [hml]; rfl) (Steps.refl _) (argsL := [.ref b_32]) (rest := []) (lenOf own_pd_8 rfl) rfl (by show 2 * 0 + _ ≤ _; exact Nat.le_of_eq rfl) (hb hby d6_104) (fun _ _ => ⟨rfl, e31, (by decide : 0 + 1 ≤ _), (by decide : 0 + 10 ≤ _)⟩)
 dsimp only [Pt.U, Pt.locs, Pt.cells, Pt.slots] at X39 l39 y39 z39 st39 hQ39
 subst l39 y39 z39
 obtain ⟨t_40, kE_41, rfl, N39q, K39, p39_0, p39_1, p39_2, p39_3, p39_4⟩ := hQ39
 have N42 := Fr.app N33 N39q
 have gt_40 : h22.size ≤ t_40 := p39_0
 have zzK39 : h22.size ≤ T39.heap.size := K39.1
 have oo43 : Old Z n0 T39.heap := oo25.keep K39 (allS (by omega : n0 ≤ al) all0)
 have kt44 : Keep h0 T39.heap [a, al, ct, gv] := kt26.trans K39 (allS (Or.inl (List.mem_of_getElem? (i := 1) rfl)) all0)
 refine own_b T39 m 109 #[vr a, vi 1, vi nn] [.int 1] (fun _ k_ => st39.trans k_) ?_
 refine own_b T39 m 112 #[vr a, vi 1, vi nn] [.ref a, .ref a] (fun _ k_ => XS.pop X39.here hx rfl (hb hby d6_109) rfl rfl (XS.aloadN X39.here hx rfl (hb hby d6_110) rfl rfl (XS.dup X39.here hx rfl (hb hby d6_111) rfl rfl k_))) ?_
 have f45 : Fld Z T39.heap a cn1 "total" "I" (.int 0) := (((Ft.keep K15 (ninS ne6 nin0)).keep K24 (ninS ne5 nin0)).keep K39 (ninS ne4 nin0))
 obtain ⟨T46, X46, e46, st46⟩ := getF X39 hx hZ hown (host := "") (Or.inl (ww hw 57 rfl)) Via.refl rfl f45 (g := (mkF m 112 #[vr a, vi 1, vi nn] [.ref a, .ref a])) rfl rfl (hb hby d6_112)
 refine own_b T46 m 115 #[vr a, vi 1, vi nn] [.int 0, .ref a] st46 ?_
 refine own_b T46 m 117 #[vr a, vi 1, vi nn] [(.int ((0 : Int32) + nn)), .ref a] (fun _ k_ => XS.iloadN X46.here hx rfl (hb hby d6_115) rfl (XS.iadd X46.here hx rfl (hb hby d6_116) rfl k_)) ?_
 have f47 : Exa Z T39.heap a cn1 := (((E_a.keep K15).keep K24).keep K39)
 obtain ⟨T48, h48, X48, e48, W48, st48⟩ := putF X46 hx hZ hown (host := "") (Or.inl (ww hw 57 rfl)) Via.refl e46 f45 f47 (Or.inl (ww hw 58 rfl)) (ww hw 3 rfl) (ty := .int) (by decide) rfl rfl (g := (mkF m 117 #[vr a, vi 1, vi nn] [(.int ((0 : Int32) + nn)), .ref a])) rfl rfl (hb hby d6_117)
 have K49 : Keep T39.heap h48 [a] := Keep.of_wr W48
 have f50 : Fld Z T39.heap a cn1 "zones" "Ljava/util/List;" (.ref al) := (f29.keep K39 (ninS ne4 nin0))
 have f51 : Fld Z T39.heap a cn1 "counts" "[I" (.ref ct) := ((f20.keep K24 (ninS ne5 nin0)).keep K39 (ninS ne4 nin0))
 have f52 : Fld Z T39.heap a cn1 "given" "[Z" (.ref gv) := (((Fg.keep K15 (ninS ne6 nin0)).keep K24 (ninS ne5 nin0)).keep K39 (ninS ne4 nin0))
 have zzK49 : T39.heap.size ≤ h48.size := K49.1
 have oo53 : Old Z n0 h48 := oo43.keep K49 (allS (by omega : n0 ≤ a) all0)
 have kt54 : Keep h0 h48 [a, al, ct, gv] := kt44.trans K49 (allS (Or.inl (List.mem_of_getElem? (i := 0) rfl)) all0)
 have f55 : Fld Z h48 a cn1 "zones" "Ljava/util/List;" (.ref al) := f50.other W48 (Or.inr (slot_ne (Or.inr (ww hw 36 rfl)) (Or.inl (ww hw 58 rfl)) (by decide) (t := (.object "java/util/List")) (t' := .int) (by decide) (by decide)))
 have f56 : Fld Z h48 a cn1 "counts" "[I" (.ref ct) := f51.other W48 (Or.inr (slot_ne (Or.inr (ww hw 38 rfl)) (Or.inl (ww hw 58 rfl)) (by decide) (t := (.array .int)) (t' := .int) (by decide) (by decide)))
 have f57 : Fld Z h48 a cn1 "given" "[Z" (.ref gv) := f52.other W48 (Or.inr (slot_ne (Or.inr (ww hw 41 rfl)) (Or.inl (ww hw 58 rfl)) (by decide) (t := (.array .boolean)) (t' := .int) (by decide) (by decide)))
 have f58 : Fld Z h48 a cn1 "total" "I" (.int ((0 : Int32) + nn)) := f45.same W48
 have N59 := Fr.snoc X48 N42 (by omega : n0 ≤ a)
 refine own_b T48 m 120 #[vr a, vi 1, vi nn] [] st48 ?_
 have la60 : @LT.lt Nat instLTNat t_40 T39.heap.size := p39_4.lt
 have la61 : @LT.lt Nat instLTNat a h0.size := E_a.lt
 have ne62 : @Ne Nat t_40 a := by omega
 have f63 : Arv Z h48 t_40 kE_41 (.object "java/lang/Object") (10 : Int32) [.ref b_32, .null, .null, .null, .null, .null, .null, .null, .null, .null] .null := (p39_4.keep K49 (ninS ne62 nin0))
 have hv64 : ((.int ((0 : Int32) + nn)) : Value) = (.int nn) := congrArg Value.int (Int32.zero_add _)
 have f65 : Fld Z h48 al "java/util/AbstractList" "modCount" "I" (.int 1) := (p39_1.keep K49 (ninS (Ne.symm ne4) nin0))
 have f66 : Fld Z h48 al cn2 "elementData" "[Ljava/lang/Object;" (.ref t_40) := (p39_2.keep K49 (ninS (Ne.symm ne4) nin0))
 have f67 : Fld Z h48 al cn2 "size" "I" (.int 1) := (p39_3.keep K49 (ninS (Ne.symm ne4) nin0))
 have f68 : Exa Z h48 b_32 "java/lang/Integer" := ((p31_0.keep K39).keep K49)
 have la69 : @LT.lt Nat instLTNat b_32 h22.size := p31_0.lt
 have ne70 : @Ne Nat b_32 al := by omega
 have ne71 : @Ne Nat b_32 a := by omega
 have f72 : Fld Z h48 b_32 "java/lang/Integer" "value" "I" (.int 1) := ((p31_1.keep K39 (ninS ne70 nin0)).keep K49 (ninS ne71 nin0))
 have f73 : Arv Z h48 ct kC .int (2 : Int32) [.int 0, .int nn] (.int 0) := ((f27.keep K39 (ninS (Ne.symm ne3) nin0)).keep K49 (ninS (Ne.symm ne5) nin0))
 obtain ⟨fs74, hr74, hrun74, hended74, hW74, hsame74⟩ := X48.leave (v := none) (fun _ => rfl)
 refine ⟨_, _, X48.returnOut hx Bd.returns (hb hby d6_120) hr74, hrun74, hended74, _, _, rfl, ?_, ⟨_, rfl⟩, hW74, hsame74.mono (by decide) (by decide)⟩
 show Q_rmZA Z wC cC wD kD mA mL mR a al ct gv kC kG nn h0 n0 _ T48.heap _
 rw [e48]
 exact ⟨t_40, kE_41, b_32, rfl, N59, kt54, (by omega), f55, f56, (hv64 ▸ f58), f65, f66, f67, f63, f68, f72, f73⟩
theorem d17_0 : decode prog_34_method_6_code 0 = .ok (.aload_n 0, 1) := by decide +kernel
theorem d17_1 : decode prog_34_method_6_code 1 = .ok (.getfield 42, 3) := by decide +kernel
theorem d17_4 : decode prog_34_method_6_code 4 = .ok (.ireturn, 1) := by decide +kernel
theorem own_ef_rmTot (m : MethodId) (x0 : Addr) : entryFrame m #[.ref x0] 1 = mkF m 0 #[.val (.ref x0)] [] := by first | (simp [entryFrame, mkF, argsToLocals, Value.category]; done) | rfl
def Q_rmTot (Z : State) (wC : Addr) (cC : Cell) (wD : Addr) (kD : ClassId) (mA : Addr) (mL : Addr) (mR : Addr) (a : Addr) (w : Int32) (h0 : Heap) (n0 : Nat) (vv_ : Option Value) (hh_ : Heap) (LL_ : List Loc) : Prop := vv_ = some (.int w) ∧ Fr n0 LL_ ∧ hh_ = h0
theorem rmTot (l : Launch) (Z : State) (a0 : Array Value) (hw : ∀ d ∈ tables_1, d.before a0 Z = true) (ws : List Jvm.Cond) (wC : Addr) (cC : Cell) (wD : Addr) (kD : ClassId) (mA : Addr) (mL : Addr) (mR : Addr) (GS : Glob Z wC cC wD kD mA mL mR) (a : Addr) (w : Int32) (h0 : Heap) (n0 : Nat) (Z0 : n0 ≤ h0.size) (O0 : Old Z n0 h0) (Fw : Fld Z h0 a cn1 "total" "I" (.int w)) :
  MetFree l (⟨cn1, "getTotal", "()I"⟩ : MethodName) (head1 (Jvm.Cond.code (⟨cn1, "getTotal", "()I"⟩ : MethodName) prog_34_method_6_code 1 (some .int) :: ws) (⟨0, 0, 0, 0⟩ : Room)) (fun aa_ UU_ => aa_ = #[.ref a] ∧ Z.Warmed39 UU_.vm ∧ UU_.heap = h0) (fun _ _ _ _ _ => True) (fun _ UU_ oo_ UV_ => ∃ vv_ LL_, oo_ = .returned vv_ ∧ Q_rmTot Z wC cC wD kD mA mL mR a w h0 n0 vv_ UV_.heap LL_ ∧ FrameEnd UU_ oo_ UV_ LL_ (⟨0, 0, 0, 0⟩ : Room).cells (⟨0, 0, 0, 0⟩ : Room).slots) := by
 refine MetFree.of_bodySF (plainFor_of_name own_p1) hisR ?_
 intro p e s m args below meth c s₁ Bd hml0 hP hK
 obtain ⟨rfl, hZ, hh⟩ := hP
 have hx := Bd.exec
 have hby := Bd.bytes
 have hml : c.maxLocals = 1 := hml0
 have hown : s.vm.findClass cn1 = some m.cls := findClass_of_methodNamed Bd.named
 have hnm := (name_of_methodNamed Bd.named Bd.method).1
 have X0 : Stand p l e (⟨0, 0, 0, 0⟩ : Room) s m #[.ref a] below meth c s₁ [] 0 0 := Stand.of_body Bd
 have e0 : s₁.heap = h0 := by rw [← hh, Bd.state]; rfl
 have N0 := Fr.nil n0
 have hn0 : Z.heap.size = n0 := O0.1
 have KT0 : Keep h0 h0 [] := Keep.refl _ _
 refine own_enter (Φ := fun oo_ UV_ => ∃ vv_ LL_, oo_ = .returned vv_ ∧ Q_rmTot Z wC cC wD kD mA mL mR a w h0 n0 vv_ UV_.heap LL_ ∧ FrameEnd s oo_ UV_ LL_ (⟨0, 0, 0, 0⟩ : Room).cells (⟨0, 0, 0, 0⟩ : Room).slots) (own_ef_rmTot m a) ?_
 refine own_b s₁ m 1 #[vr a] [.ref a] (fun _ k_ => XS.aloadN X0.here hx rfl (hb hby d17_0) rfl rfl k_) ?_
 obtain ⟨T1, X1, e1, st1⟩ := getF X0 hx hZ hown (host := "") (Or.inl (ww hw 57 rfl)) Via.refl e0 Fw (g := (mkF m 1 #[vr a] [.ref a])) rfl rfl (hb hby d17_1)
 refine own_b T1 m 4 #[vr a] [.int w] st1 ?_
 obtain ⟨fs2, hr2, hrun2, hended2, hW2, hsame2⟩ := X1.leave (v := some (.int w)) (fun h => by rw [Bd.returns] at h; cases h)
 refine ⟨_, _, retOut X1 hx (t := .int) Bd.returns rfl (Or.inl ⟨rfl, Or.inl rfl, _, rfl⟩) (hb hby d17_4) hr2, hrun2, hended2, _, _, rfl, ?_, ⟨_, rfl⟩, hW2, hsame2.mono (by decide) (by decide)⟩
 show Q_rmTot Z wC cC wD kD mA mL mR a w h0 n0 _ T1.heap _
 exact ⟨rfl, N0, e1⟩
theorem d22_0 : decode jdk_119_method_1_code 0 = .ok (.aload_n 0, 1) := by decide +kernel
theorem d22_1 : decode jdk_119_method_1_code 1 = .ok (.invokespecial 1, 3) := by decide +kernel
theorem d22_4 : decode jdk_119_method_1_code 4 = .ok (.aload_n 1, 1) := by decide +kernel
theorem d22_5 : decode jdk_119_method_1_code 5 = .ok (.ifnonnull 11, 3) := by decide +kernel
theorem d22_16 : decode jdk_119_method_1_code 16 = .ok (.aload_n 0, 1) := by decide +kernel
theorem d22_17 : decode jdk_119_method_1_code 17 = .ok (.aload_n 1, 1) := by decide +kernel
theorem d22_18 : decode jdk_119_method_1_code 18 = .ok (.putfield 10, 3) := by decide +kernel
theorem d22_21 : decode jdk_119_method_1_code 21 = .ok (.return_, 1) := by decide +kernel
theorem own_p5 : plainName "java/util/Collections$UnmodifiableCollection" = true := by first | (simp [plainName, overriddenIn]; done) | decide +kernel
theorem own_ef_rmUCI (m : MethodId) (x0 : Addr) (x1 : Addr) : entryFrame m #[.ref x0, .ref x1] 2 = mkF m 0 #[.val (.ref x0), .val (.ref x1)] [] := by first | (simp [entryFrame, mkF, argsToLocals, Value.category]; done) | rfl
def Q_rmUCI (Z : State) (wC : Addr) (cC : Cell) (wD : Addr) (kD : ClassId) (mA : Addr) (mL : Addr) (mR : Addr) (u : Addr) (al : Addr) (h0 : Heap) (n0 : Nat) (vv_ : Option Value) (hh_ : Heap) (LL_ : List Loc) : Prop := vv_ = none ∧ Fr n0 LL_ ∧ Keep h0 hh_ [u] ∧ Fld Z hh_ u "java/util/Collections$UnmodifiableCollection" "c" "Ljava/util/Collection;" (.ref al) ∧ Fld Z hh_ u "java/util/Collections$UnmodifiableList" "list" "Ljava/util/List;" .null
theorem rmUCI (l : Launch) (Z : State) (a0 : Array Value) (hw : ∀ d ∈ tables_1, d.before a0 Z = true) (ws : List Jvm.Cond) (wC : Addr) (cC : Cell) (wD : Addr) (kD : ClassId) (mA : Addr) (mL : Addr) (mR : Addr) (GS : Glob Z wC cC wD kD mA mL mR) (u : Addr) (al : Addr) (h0 : Heap) (n0 : Nat) (Z0 : n0 ≤ h0.size) (O0 : Old Z n0 h0) (E_u : Exa Z h0 u "java/util/Collections$UnmodifiableRandomAccessList") (g_u : n0 ≤ u) (E_l : Exa Z h0 al cn2) (Fc : Fld Z h0 u "java/util/Collections$UnmodifiableCollection" "c" "Ljava/util/Collection;" .null) (Fl : Fld Z h0 u "java/util/Collections$UnmodifiableList" "list" "Ljava/util/List;" .null) :
  MetFree l (⟨"java/util/Collections$UnmodifiableCollection", "<init>", "(Ljava/util/Collection;)V"⟩ : MethodName) (head1 (Jvm.Cond.code (⟨"java/util/Collections$UnmodifiableCollection", "<init>", "(Ljava/util/Collection;)V"⟩ : MethodName) jdk_119_method_1_code 2 none :: ws) (⟨1, 0, 0, 12⟩ : Room)) (fun aa_ UU_ => aa_ = #[.ref u, .ref al] ∧ Z.Warmed39 UU_.vm ∧ UU_.heap = h0) (fun _ _ _ _ _ => True) (fun _ UU_ oo_ UV_ => ∃ vv_ LL_, oo_ = .returned vv_ ∧ Q_rmUCI Z wC cC wD kD mA mL mR u al h0 n0 vv_ UV_.heap LL_ ∧ FrameEnd UU_ oo_ UV_ LL_ (⟨1, 0, 0, 12⟩ : Room).cells (⟨1, 0, 0, 12⟩ : Room).slots) := by
 refine MetFree.of_bodySF (plainFor_of_name own_p5) hisR ?_
 intro p e s m args below meth c s₁ Bd hml0 hP hK
 obtain ⟨rfl, hZ, hh⟩ := hP
 have hx := Bd.exec
 have hby := Bd.bytes
 have hml : c.maxLocals = 2 := hml0
 have hown : s.vm.findClass "java/util/Collections$UnmodifiableCollection" = some m.cls := findClass_of_methodNamed Bd.named
 have hnm := (name_of_methodNamed Bd.named Bd.method).1
 have X0 : Stand p l e (⟨1, 0, 0, 12⟩ : Room) s m #[.ref u, .ref al] below meth c s₁ [] 0 0 := Stand.of_body Bd
 have e0 : s₁.heap = h0 := by rw [← hh, Bd.state]; rfl
 have N0 := Fr.nil n0
 have hn0 : Z.heap.size = n0 := O0.1
 have KT0 : Keep h0 h0 [u] := Keep.refl _ _
 refine own_enter (Φ := fun oo_ UV_ => ∃ vv_ LL_, oo_ = .returned vv_ ∧ Q_rmUCI Z wC cC wD kD mA mL mR u al h0 n0 vv_ UV_.heap LL_ ∧ FrameEnd s oo_ UV_ LL_ (⟨1, 0, 0, 12⟩ : Room).cells (⟨1, 0, 0, 12⟩ : Room).slots) (own_ef_rmUCI m u al) ?_
 refine own_b s₁ m 1 #[vr u, vr al] [.ref u] (fun _ k_ => XS.aloadN X0.here hx rfl (hb hby d22_0) rfl rfl k_) ?_
 obtain ⟨T1, X1, e1, st1⟩ := initO X0 hx hZ hown (ww hw 157 rfl) (ww hw 9 rfl) (ww hw 10 rfl) e0 (g := (mkF m 1 #[vr u, vr al] [.ref u])) rfl (by rw [hml]; rfl) rfl (hb hby d22_1) (by decide) (W := 0) (by show 2 * 0 + _ ≤ _; exact Nat.le_of_eq rfl) (by decide)
 refine own_b T1 m 4 #[vr u, vr al] [] st1 ?_
 refine own_b T1 m 18 #[vr u, vr al] [.ref al, .ref u] (fun _ k_ => XS.aloadN X1.here hx rfl (hb hby d22_4) rfl rfl (XS.ifnonnullYes X1.here hx rfl (pc0 := 5) (pc' := 16) rfl (hb hby d22_5) rfl (by decide) (by decide) (XS.aloadN X1.here hx rfl (hb hby d22_16) rfl rfl (XS.aloadN X1.here hx rfl (hb hby d22_17) rfl rfl k_)))) ?_
 obtain ⟨T2, h2, X2, e2, W2, st2⟩ := putF X1 hx hZ hown (host := "") (Or.inl (ww hw 158 rfl)) Via.refl e1 Fc E_u (Or.inr ⟨(ww hw 159 rfl), rfl, hnm⟩) (ww hw 140 rfl) (ty := (.object "java/util/Collection")) (by decide) rfl rfl (g := (mkF m 18 #[vr u, vr al] [.ref al, .ref u])) rfl rfl (hb hby d22_18)
 have K3 : Keep h0 h2 [u] := Keep.of_wr W2
 have zzK3 : h0.size ≤ h2.size := K3.1
 have oo4 : Old Z n0 h2 := O0.keep K3 (allS (by omega : n0 ≤ u) all0)
 have kt5 : Keep h0 h2 [u] := KT0.trans K3 (allS (Or.inl (List.mem_of_getElem? (i := 0) rfl)) all0)
 have f6 : Fld Z h2 u "java/util/Collections$UnmodifiableCollection" "c" "Ljava/util/Collection;" (.ref al) := Fc.same W2
 have f7 : Fld Z h2 u "java/util/Collections$UnmodifiableList" "list" "Ljava/util/List;" .null := Fl.other W2 (Or.inr (slot_ne (Or.inr (ww hw 161 rfl)) (Or.inr (ww hw 159 rfl)) (by decide) (t := (.object "java/util/List")) (t' := (.object "java/util/Collection")) (by decide) (by decide)))
 have N8 := Fr.snoc X2 N0 (by omega : n0 ≤ u)
 refine own_b T2 m 21 #[vr u, vr al] [] st2 ?_
 obtain ⟨fs9, hr9, hrun9, hended9, hW9, hsame9⟩ := X2.leave (v := none) (fun _ => rfl)
 refine ⟨_, _, X2.returnOut hx Bd.returns (hb hby d22_21) hr9, hrun9, hended9, _, _, rfl, ?_, ⟨_, rfl⟩, hW9, hsame9.mono (by decide) (by decide)⟩
 show Q_rmUCI Z wC cC wD kD mA mL mR u al h0 n0 _ T2.heap _
 rw [e2]
 exact ⟨rfl, N8, kt5, f6, f7⟩
theorem own_pd_9 : parseMethodDescriptor "(Ljava/util/Collection;)V" = some ⟨[(.object "java/util/Collection")], none⟩ := by decide +kernel
theorem d21_0 : decode jdk_120_method_1_code 0 = .ok (.aload_n 0, 1) := by decide +kernel
theorem d21_1 : decode jdk_120_method_1_code 1 = .ok (.aload_n 1, 1) := by decide +kernel
theorem d21_2 : decode jdk_120_method_1_code 2 = .ok (.invokespecial 1, 3) := by decide +kernel
theorem d21_5 : decode jdk_120_method_1_code 5 = .ok (.aload_n 0, 1) := by decide +kernel
theorem d21_6 : decode jdk_120_method_1_code 6 = .ok (.aload_n 1, 1) := by decide +kernel
theorem d21_7 : decode jdk_120_method_1_code 7 = .ok (.putfield 7, 3) := by decide +kernel
theorem d21_10 : decode jdk_120_method_1_code 10 = .ok (.return_, 1) := by decide +kernel
theorem own_p6 : plainName "java/util/Collections$UnmodifiableList" = true := by first | (simp [plainName, overriddenIn]; done) | decide +kernel
theorem own_ef_rmULI (m : MethodId) (x0 : Addr) (x1 : Addr) : entryFrame m #[.ref x0, .ref x1] 2 = mkF m 0 #[.val (.ref x0), .val (.ref x1)] [] := by first | (simp [entryFrame, mkF, argsToLocals, Value.category]; done) | rfl
def Q_rmULI (Z : State) (wC : Addr) (cC : Cell) (wD : Addr) (kD : ClassId) (mA : Addr) (mL : Addr) (mR : Addr) (u : Addr) (al : Addr) (h0 : Heap) (n0 : Nat) (vv_ : Option Value) (hh_ : Heap) (LL_ : List Loc) : Prop := vv_ = none ∧ Fr n0 LL_ ∧ Keep h0 hh_ [u] ∧ Fld Z hh_ u "java/util/Collections$UnmodifiableCollection" "c" "Ljava/util/Collection;" (.ref al) ∧ Fld Z hh_ u "java/util/Collections$UnmodifiableList" "list" "Ljava/util/List;" (.ref al)
theorem rmULI (l : Launch) (Z : State) (a0 : Array Value) (hw : ∀ d ∈ tables_1, d.before a0 Z = true) (ws : List Jvm.Cond) (wC : Addr) (cC : Cell) (wD : Addr) (kD : ClassId) (mA : Addr) (mL : Addr) (mR : Addr) (GS : Glob Z wC cC wD kD mA mL mR) (u : Addr) (al : Addr) (h0 : Heap) (n0 : Nat) (Z0 : n0 ≤ h0.size) (O0 : Old Z n0 h0) (E_u : Exa Z h0 u "java/util/Collections$UnmodifiableRandomAccessList") (g_u : n0 ≤ u) (E_l : Exa Z h0 al cn2) (Fc : Fld Z h0 u "java/util/Collections$UnmodifiableCollection" "c" "Ljava/util/Collection;" .null) (Fl : Fld Z h0 u "java/util/Collections$UnmodifiableList" "list" "Ljava/util/List;" .null) :
  MetFree l (⟨"java/util/Collections$UnmodifiableList", "<init>", "(Ljava/util/List;)V"⟩ : MethodName) (head1 (Jvm.Cond.code (⟨"java/util/Collections$UnmodifiableList", "<init>", "(Ljava/util/List;)V"⟩ : MethodName) jdk_120_method_1_code 2 none :: ws) (⟨2, 0, 0, 25⟩ : Room)) (fun aa_ UU_ => aa_ = #[.ref u, .ref al] ∧ Z.Warmed39 UU_.vm ∧ UU_.heap = h0) (fun _ _ _ _ _ => True) (fun _ UU_ oo_ UV_ => ∃ vv_ LL_, oo_ = .returned vv_ ∧ Q_rmULI Z wC cC wD kD mA mL mR u al h0 n0 vv_ UV_.heap LL_ ∧ FrameEnd UU_ oo_ UV_ LL_ (⟨2, 0, 0, 25⟩ : Room).cells (⟨2, 0, 0, 25⟩ : Room).slots) := by
 refine MetFree.of_bodySF (plainFor_of_name own_p6) hisR ?_
 intro p e s m args below meth c s₁ Bd hml0 hP hK
 obtain ⟨rfl, hZ, hh⟩ := hP
 have hx := Bd.exec
 have hby := Bd.bytes
 have hml : c.maxLocals = 2 := hml0
 have hown : s.vm.findClass "java/util/Collections$UnmodifiableList" = some m.cls := findClass_of_methodNamed Bd.named
 have hnm := (name_of_methodNamed Bd.named Bd.method).1
 have X0 : Stand p l e (⟨2, 0, 0, 25⟩ : Room) s m #[.ref u, .ref al] below meth c s₁ [] 0 0 := Stand.of_body Bd
 have e0 : s₁.heap = h0 := by rw [← hh, Bd.state]; rfl
 have N0 := Fr.nil n0
 have hn0 : Z.heap.size = n0 := O0.1
 have KT0 : Keep h0 h0 [u] := Keep.refl _ _
 refine own_enter (Φ := fun oo_ UV_ => ∃ vv_ LL_, oo_ = .returned vv_ ∧ Q_rmULI Z wC cC wD kD mA mL mR u al h0 n0 vv_ UV_.heap LL_ ∧ FrameEnd s oo_ UV_ LL_ (⟨2, 0, 0, 25⟩ : Room).cells (⟨2, 0, 0, 25⟩ : Room).slots) (own_ef_rmULI m u al) ?_
 refine own_b s₁ m 2 #[vr u, vr al] [.ref al, .ref u] (fun _ k_ => XS.aloadN X0.here hx rfl (hb hby d21_0) rfl rfl (XS.aloadN X0.here hx rfl (hb hby d21_1) rfl rfl k_)) ?_
 have la1 : @LT.lt Nat instLTNat u h0.size := E_u.lt
 obtain ⟨_, _, ⟨T2, L2, k2, n2⟩, -, X2, ⟨Lc2, hQ2, l2, y2, z2⟩, st2⟩ := X0.specialBack hx (y := (⟨"java/util/Collections$UnmodifiableCollection", "<init>", "(Ljava/util/Collection;)V"⟩ : MethodName)) rfl hown (mvT hZ (ww hw 151 rfl)) (mvT hZ (ww hw 152 rfl)) (mvT hZ (ww hw 156 rfl)) (by decide) (backOf (W := 0) (rmUCI l Z a0 hw [] wC cC wD kD mA mL mR GS u al h0 n0 (by omega) O0 E_u (by omega) E_l Fc Fl) hZ (ww hw 156 rfl) (ww hw 155 rfl) (by decide) (by decide)) (g := (mkF m 2 #[vr u, vr al] [.ref al, .ref u])) rfl (by rw [hml]; rfl) (Steps.refl _) (a := u) (argsL := [.ref al]) (rest := []) (lenOf own_pd_9 rfl) rfl (by show 2 * 0 + _ ≤ _; exact Nat.le_of_eq rfl) (hb hby d21_2) (fun _ _ => ⟨rfl, e0, (by decide : 0 + 0 ≤ _), (by decide : 0 + 0 ≤ _)⟩)
 dsimp only [Pt.U, Pt.locs, Pt.cells, Pt.slots] at X2 l2 y2 z2 st2 hQ2
 subst l2 y2 z2
 obtain ⟨rfl, N2q, K2, p2_0, p2_1⟩ := hQ2
 have N3 := Fr.app N0 N2q
 have zzK2 : h0.size ≤ T2.heap.size := K2.1
 have oo4 : Old Z n0 T2.heap := O0.keep K2 (allS (by omega : n0 ≤ u) all0)
 have kt5 : Keep h0 T2.heap [u] := KT0.trans K2 (allS (Or.inl (List.mem_of_getElem? (i := 0) rfl)) all0)
 refine own_b T2 m 5 #[vr u, vr al] [] (fun _ k_ => st2.trans k_) ?_
 refine own_b T2 m 7 #[vr u, vr al] [.ref al, .ref u] (fun _ k_ => XS.aloadN X2.here hx rfl (hb hby d21_5) rfl rfl (XS.aloadN X2.here hx rfl (hb hby d21_6) rfl rfl k_)) ?_
 have f6 : Exa Z T2.heap u "java/util/Collections$UnmodifiableRandomAccessList" := (E_u.keep K2)
 obtain ⟨T7, h7, X7, e7, W7, st7⟩ := putF X2 hx hZ hown (host := "") (Or.inl (ww hw 160 rfl)) Via.refl rfl p2_1 f6 (Or.inr ⟨(ww hw 161 rfl), rfl, hnm⟩) (ww hw 140 rfl) (ty := (.object "java/util/List")) (by decide) rfl rfl (g := (mkF m 7 #[vr u, vr al] [.ref al, .ref u])) rfl rfl (hb hby d21_7)
 have K8 : Keep T2.heap h7 [u] := Keep.of_wr W7
 have zzK8 : T2.heap.size ≤ h7.size := K8.1
 have oo9 : Old Z n0 h7 := oo4.keep K8 (allS (by omega : n0 ≤ u) all0)
 have kt10 : Keep h0 h7 [u] := kt5.trans K8 (allS (Or.inl (List.mem_of_getElem? (i := 0) rfl)) all0)
 have f11 : Fld Z h7 u "java/util/Collections$UnmodifiableCollection" "c" "Ljava/util/Collection;" (.ref al) := p2_0.other W7 (Or.inr (slot_ne (Or.inr (ww hw 159 rfl)) (Or.inr (ww hw 161 rfl)) (by decide) (t := (.object "java/util/Collection")) (t' := (.object "java/util/List")) (by decide) (by decide)))
 have f12 : Fld Z h7 u "java/util/Collections$UnmodifiableList" "list" "Ljava/util/List;" (.ref al) := p2_1.same W7
 have N13 := Fr.snoc X7 N3 (by omega : n0 ≤ u)
 refine own_b T7 m 10 #[vr u, vr al] [] st7 ?_
 obtain ⟨fs14, hr14, hrun14, hended14, hW14, hsame14⟩ := X7.leave (v := none) (fun _ => rfl)
 refine ⟨_, _, X7.returnOut hx Bd.returns (hb hby d21_10) hr14, hrun14, hended14, _, _, rfl, ?_, ⟨_, rfl⟩, hW14, hsame14.mono (by decide) (by decide)⟩
 show Q_rmULI Z wC cC wD kD mA mL mR u al h0 n0 _ T7.heap _
 rw [e7]
 exact ⟨rfl, N13, kt10, f11, f12⟩
theorem own_pd_10 : parseMethodDescriptor "(Ljava/util/List;)V" = some ⟨[(.object "java/util/List")], none⟩ := by decide +kernel
theorem d20_0 : decode jdk_121_method_1_code 0 = .ok (.aload_n 0, 1) := by decide +kernel
theorem d20_1 : decode jdk_121_method_1_code 1 = .ok (.aload_n 1, 1) := by decide +kernel
theorem d20_2 : decode jdk_121_method_1_code 2 = .ok (.invokespecial 1, 3) := by decide +kernel
theorem d20_5 : decode jdk_121_method_1_code 5 = .ok (.return_, 1) := by decide +kernel
theorem own_p3 : plainName "java/util/Collections$UnmodifiableRandomAccessList" = true := by first | (simp [plainName, overriddenIn]; done) | decide +kernel
theorem own_ef_rmURI (m : MethodId) (x0 : Addr) (x1 : Addr) : entryFrame m #[.ref x0, .ref x1] 2 = mkF m 0 #[.val (.ref x0), .val (.ref x1)] [] := by first | (simp [entryFrame, mkF, argsToLocals, Value.category]; done) | rfl
def Q_rmURI (Z : State) (wC : Addr) (cC : Cell) (wD : Addr) (kD : ClassId) (mA : Addr) (mL : Addr) (mR : Addr) (u : Addr) (al : Addr) (h0 : Heap) (n0 : Nat) (vv_ : Option Value) (hh_ : Heap) (LL_ : List Loc) : Prop := vv_ = none ∧ Fr n0 LL_ ∧ Keep h0 hh_ [u] ∧ Fld Z hh_ u "java/util/Collections$UnmodifiableCollection" "c" "Ljava/util/Collection;" (.ref al) ∧ Fld Z hh_ u "java/util/Collections$UnmodifiableList" "list" "Ljava/util/List;" (.ref al)
theorem rmURI (l : Launch) (Z : State) (a0 : Array Value) (hw : ∀ d ∈ tables_1, d.before a0 Z = true) (ws : List Jvm.Cond) (wC : Addr) (cC : Cell) (wD : Addr) (kD : ClassId) (mA : Addr) (mL : Addr) (mR : Addr) (GS : Glob Z wC cC wD kD mA mL mR) (u : Addr) (al : Addr) (h0 : Heap) (n0 : Nat) (Z0 : n0 ≤ h0.size) (O0 : Old Z n0 h0) (E_u : Exa Z h0 u "java/util/Collections$UnmodifiableRandomAccessList") (g_u : n0 ≤ u) (E_l : Exa Z h0 al cn2) (Fc : Fld Z h0 u "java/util/Collections$UnmodifiableCollection" "c" "Ljava/util/Collection;" .null) (Fl : Fld Z h0 u "java/util/Collections$UnmodifiableList" "list" "Ljava/util/List;" .null) :
  MetFree l (⟨"java/util/Collections$UnmodifiableRandomAccessList", "<init>", "(Ljava/util/List;)V"⟩ : MethodName) (head1 (Jvm.Cond.code (⟨"java/util/Collections$UnmodifiableRandomAccessList", "<init>", "(Ljava/util/List;)V"⟩ : MethodName) jdk_121_method_1_code 2 none :: ws) (⟨3, 0, 0, 38⟩ : Room)) (fun aa_ UU_ => aa_ = #[.ref u, .ref al] ∧ Z.Warmed39 UU_.vm ∧ UU_.heap = h0) (fun _ _ _ _ _ => True) (fun _ UU_ oo_ UV_ => ∃ vv_ LL_, oo_ = .returned vv_ ∧ Q_rmURI Z wC cC wD kD mA mL mR u al h0 n0 vv_ UV_.heap LL_ ∧ FrameEnd UU_ oo_ UV_ LL_ (⟨3, 0, 0, 38⟩ : Room).cells (⟨3, 0, 0, 38⟩ : Room).slots) := by
 refine MetFree.of_bodySF (plainFor_of_name own_p3) hisR ?_
 intro p e s m args below meth c s₁ Bd hml0 hP hK
 obtain ⟨rfl, hZ, hh⟩ := hP
 have hx := Bd.exec
 have hby := Bd.bytes
 have hml : c.maxLocals = 2 := hml0
 have hown : s.vm.findClass "java/util/Collections$UnmodifiableRandomAccessList" = some m.cls := findClass_of_methodNamed Bd.named
 have hnm := (name_of_methodNamed Bd.named Bd.method).1
 have X0 : Stand p l e (⟨3, 0, 0, 38⟩ : Room) s m #[.ref u, .ref al] below meth c s₁ [] 0 0 := Stand.of_body Bd
 have e0 : s₁.heap = h0 := by rw [← hh, Bd.state]; rfl
 have N0 := Fr.nil n0
 have hn0 : Z.heap.size = n0 := O0.1
 have KT0 : Keep h0 h0 [u] := Keep.refl _ _
 refine own_enter (Φ := fun oo_ UV_ => ∃ vv_ LL_, oo_ = .returned vv_ ∧ Q_rmURI Z wC cC wD kD mA mL mR u al h0 n0 vv_ UV_.heap LL_ ∧ FrameEnd s oo_ UV_ LL_ (⟨3, 0, 0, 38⟩ : Room).cells (⟨3, 0, 0, 38⟩ : Room).slots) (own_ef_rmURI m u al) ?_
 refine own_b s₁ m 2 #[vr u, vr al] [.ref al, .ref u] (fun _ k_ => XS.aloadN X0.here hx rfl (hb hby d20_0) rfl rfl (XS.aloadN X0.here hx rfl (hb hby d20_1) rfl rfl k_)) ?_
 have la1 : @LT.lt Nat instLTNat u h0.size := E_u.lt
 obtain ⟨_, _, ⟨T2, L2, k2, n2⟩, -, X2, ⟨Lc2, hQ2, l2, y2, z2⟩, st2⟩ := X0.specialBack hx (y := (⟨"java/util/Collections$UnmodifiableList", "<init>", "(Ljava/util/List;)V"⟩ : MethodName)) rfl hown (mvT hZ (ww hw 145 rfl)) (mvT hZ (ww hw 146 rfl)) (mvT hZ (ww hw 150 rfl)) (by decide) (backOf (W := 0) (rmULI l Z a0 hw [] wC cC wD kD mA mL mR GS u al h0 n0 (by omega) O0 E_u (by omega) E_l Fc Fl) hZ (ww hw 150 rfl) (ww hw 149 rfl) (by decide) (by decide)) (g := (mkF m 2 #[vr u, vr al] [.ref al, .ref u])) rfl (by rw [hml]; rfl) (Steps.refl _) (a := u) (argsL := [.ref al]) (rest := []) (lenOf own_pd_10 rfl) rfl (by show 2 * 0 + _ ≤ _; exact Nat.le_of_eq rfl) (hb hby d20_2) (fun _ _ => ⟨rfl, e0, (by decide : 0 + 0 ≤ _), (by decide : 0 + 0 ≤ _)⟩)
 dsimp only [Pt.U, Pt.locs, Pt.cells, Pt.slots] at X2 l2 y2 z2 st2 hQ2
 subst l2 y2 z2
 obtain ⟨rfl, N2q, K2, p2_0, p2_1⟩ := hQ2
 have N3 := Fr.app N0 N2q
 have zzK2 : h0.size ≤ T2.heap.size := K2.1
 have oo4 : Old Z n0 T2.heap := O0.keep K2 (allS (by omega : n0 ≤ u) all0)
 have kt5 : Keep h0 T2.heap [u] := KT0.trans K2 (allS (Or.inl (List.mem_of_getElem? (i := 0) rfl)) all0)
 refine own_b T2 m 5 #[vr u, vr al] [] (fun _ k_ => st2.trans k_) ?_
 obtain ⟨fs6, hr6, hrun6, hended6, hW6, hsame6⟩ := X2.leave (v := none) (fun _ => rfl)
 refine ⟨_, _, X2.returnOut hx Bd.returns (hb hby d20_5) hr6, hrun6, hended6, _, _, rfl, ?_, ⟨_, rfl⟩, hW6, hsame6.mono (by decide) (by decide)⟩
 show Q_rmURI Z wC cC wD kD mA mL mR u al h0 n0 _ T2.heap _
 exact ⟨rfl, N3, kt5, p2_0, p2_1⟩
theorem d19_0 : decode jdk_79_method_35_code 0 = .ok (.aload_n 0, 1) := by decide +kernel
theorem d19_1 : decode jdk_79_method_35_code 1 = .ok (.invokeinterface 211 1, 5) := by decide +kernel
theorem d19_6 : decode jdk_79_method_35_code 6 = .ok (.ldc 212, 2) := by decide +kernel
theorem d19_8 : decode jdk_79_method_35_code 8 = .ok (.if_acmp .eq 14, 3) := by decide +kernel
theorem d19_11 : decode jdk_79_method_35_code 11 = .ok (.aload_n 0, 1) := by decide +kernel
theorem d19_12 : decode jdk_79_method_35_code 12 = .ok (.invokeinterface 214 1, 5) := by decide +kernel
theorem d19_17 : decode jdk_79_method_35_code 17 = .ok (.ldc 215, 2) := by decide +kernel
theorem d19_19 : decode jdk_79_method_35_code 19 = .ok (.if_acmp .ne 5, 3) := by decide +kernel
theorem d19_24 : decode jdk_79_method_35_code 24 = .ok (.aload_n 0, 1) := by decide +kernel
theorem d19_25 : decode jdk_79_method_35_code 25 = .ok (.instanceof 13, 3) := by decide +kernel
theorem d19_28 : decode jdk_79_method_35_code 28 = .ok (.ifCond .eq 14, 3) := by decide +kernel
theorem d19_31 : decode jdk_79_method_35_code 31 = .ok (.new 215, 3) := by decide +kernel
theorem d19_34 : decode jdk_79_method_35_code 34 = .ok (.dup, 1) := by decide +kernel
theorem d19_35 : decode jdk_79_method_35_code 35 = .ok (.aload_n 0, 1) := by decide +kernel
theorem d19_36 : decode jdk_79_method_35_code 36 = .ok (.invokespecial 217, 3) := by decide +kernel
theorem d19_39 : decode jdk_79_method_35_code 39 = .ok (.goto 11, 3) := by decide +kernel
theorem d19_50 : decode jdk_79_method_35_code 50 = .ok (.areturn, 1) := by decide +kernel
theorem own_p10 : plainName "java/util/Collections" = true := by first | (simp [plainName, overriddenIn]; done) | decide +kernel
theorem own_ef_rmUnm (m : MethodId) (x0 : Addr) : entryFrame m #[.ref x0] 1 = mkF m 0 #[.val (.ref x0)] [] := by first | (simp [entryFrame, mkF, argsToLocals, Value.category]; done) | rfl
def Q_rmUnm (Z : State) (wC : Addr) (cC : Cell) (wD : Addr) (kD : ClassId) (mA : Addr) (mL : Addr) (mR : Addr) (al : Addr) (h0 : Heap) (n0 : Nat) (vv_ : Option Value) (hh_ : Heap) (LL_ : List Loc) : Prop := ∃ u : Addr, vv_ = some (.ref u) ∧ Fr n0 LL_ ∧ Keep h0 hh_ [] ∧ h0.size ≤ u ∧ Exa Z hh_ u "java/util/Collections$UnmodifiableRandomAccessList" ∧ Fld Z hh_ u "java/util/Collections$UnmodifiableCollection" "c" "Ljava/util/Collection;" (.ref al) ∧ Fld Z hh_ u "java/util/Collections$UnmodifiableList" "list" "Ljava/util/List;" (.ref al)
theorem rmUnm (l : Launch) (Z : State) (a0 : Array Value) (hw : ∀ d ∈ tables_1, d.before a0 Z = true) (ws : List Jvm.Cond) (wC : Addr) (cC : Cell) (wD : Addr) (kD : ClassId) (mA : Addr) (mL : Addr) (mR : Addr) (GS : Glob Z wC cC wD kD mA mL mR) (al : Addr) (h0 : Heap) (n0 : Nat) (Z0 : n0 ≤ h0.size) (O0 : Old Z n0 h0) (E_l : Exa Z h0 al cn2) :
  MetFree l (⟨"java/util/Collections", "unmodifiableList", "(Ljava/util/List;)Ljava/util/List;"⟩ : MethodName) (head1 (Jvm.Cond.code (⟨"java/util/Collections", "unmodifiableList", "(Ljava/util/List;)Ljava/util/List;"⟩ : MethodName) jdk_79_method_35_code 1 (some (.object "java/util/List")) :: ws) (⟨4, 1, 2, 52⟩ : Room)) (fun aa_ UU_ => aa_ = #[.ref al] ∧ Z.Warmed39 UU_.vm ∧ UU_.heap = h0) (fun _ _ _ _ _ => True) (fun _ UU_ oo_ UV_ => ∃ vv_ LL_, oo_ = .returned vv_ ∧ Q_rmUnm Z wC cC wD kD mA mL mR al h0 n0 vv_ UV_.heap LL_ ∧ FrameEnd UU_ oo_ UV_ LL_ (⟨4, 1, 2, 52⟩ : Room).cells (⟨4, 1, 2, 52⟩ : Room).slots) := by
 refine MetFree.of_bodySF (plainFor_of_name own_p10) hisR ?_
 intro p e s m args below meth c s₁ Bd hml0 hP hK
 obtain ⟨rfl, hZ, hh⟩ := hP
 have hx := Bd.exec
 have hby := Bd.bytes
 have hml : c.maxLocals = 1 := hml0
 have hown : s.vm.findClass "java/util/Collections" = some m.cls := findClass_of_methodNamed Bd.named
 have hnm := (name_of_methodNamed Bd.named Bd.method).1
 have X0 : Stand p l e (⟨4, 1, 2, 52⟩ : Room) s m #[.ref al] below meth c s₁ [] 0 0 := Stand.of_body Bd
 have e0 : s₁.heap = h0 := by rw [← hh, Bd.state]; rfl
 have N0 := Fr.nil n0
 have hn0 : Z.heap.size = n0 := O0.1
 have KT0 : Keep h0 h0 [] := Keep.refl _ _
 refine own_enter (Φ := fun oo_ UV_ => ∃ vv_ LL_, oo_ = .returned vv_ ∧ Q_rmUnm Z wC cC wD kD mA mL mR al h0 n0 vv_ UV_.heap LL_ ∧ FrameEnd s oo_ UV_ LL_ (⟨4, 1, 2, 52⟩ : Room).cells (⟨4, 1, 2, 52⟩ : Room).slots) (own_ef_rmUnm m al) ?_
 have ne1 : mA ≠ mL := (Mir.ne GS.2.2.2.2.2.1 GS.2.2.2.2.2.2.1 (by decide))
 have ne2 : mA ≠ mR := (Mir.ne GS.2.2.2.2.2.1 GS.2.2.2.2.2.2.2 (by decide))
 refine own_b s₁ m 1 #[vr al] [.ref al] (fun _ k_ => XS.aloadN X0.here hx rfl (hb hby d19_0) rfl rfl k_) ?_
 obtain ⟨T3, X3, e3, st3⟩ := own_gcI X0 hx hZ (I := "java/util/List") hown (mvT hZ (ww hw 124 rfl)) (mvT hZ (ww hw 125 rfl)) (Jvm.Free.ULB.iface_rides hZ.alike (ww hw 126 rfl)) (mvT hZ (ww hw 127 rfl)) (mvT hZ (ww hw 128 rfl)) (mvT hZ (ww hw 129 rfl)) (mvT hZ (ww hw 130 rfl)) (mvT hZ (ww hw 73 rfl)) (mvT hZ (ww hw 131 rfl)) ⟨by decide, by decide⟩ (by decide) e0 E_l GS.2.2.2.2.2.1 (g := (mkF m 1 #[vr al] [.ref al])) rfl (by rw [hml]; rfl) (rest := []) rfl (hb hby d19_1) (by decide) (W := 0) (by show 2 * 0 + _ ≤ _; exact Nat.le_of_eq rfl) (by decide)
 refine own_b T3 m 6 #[vr al] [.ref mA] st3 ?_
 obtain ⟨T4, X4, e4, st4⟩ := own_ldM X3 hx hZ hown (ww hw 133 rfl) e3 GS.2.2.2.2.2.2.1 (g := (mkF m 6 #[vr al] [.ref mA])) rfl (hb hby d19_6)
 refine own_b T4 m 8 #[vr al] [.ref mL, .ref mA] st4 ?_
 refine own_b T4 m 11 #[vr al] [] (fun _ k_ => Jvm.RoadKit.acmp (g := (mkF m 8 #[vr al] [.ref mL, .ref mA])) X4 hx rfl rfl rfl (pc0 := 8) (pc' := 11) (same := false) rfl (hb hby d19_8) rfl (decide_eq_false fun q => ne1 (Value.ref.inj q)) (by decide) (by decide) k_) ?_
 refine own_b T4 m 12 #[vr al] [.ref al] (fun _ k_ => XS.aloadN X4.here hx rfl (hb hby d19_11) rfl rfl k_) ?_
 obtain ⟨T5, X5, e5, st5⟩ := own_gcI X4 hx hZ (I := "java/util/List") hown (mvT hZ (ww hw 135 rfl)) (mvT hZ (ww hw 125 rfl)) (Jvm.Free.ULB.iface_rides hZ.alike (ww hw 126 rfl)) (mvT hZ (ww hw 127 rfl)) (mvT hZ (ww hw 128 rfl)) (mvT hZ (ww hw 129 rfl)) (mvT hZ (ww hw 130 rfl)) (mvT hZ (ww hw 73 rfl)) (mvT hZ (ww hw 131 rfl)) ⟨by decide, by decide⟩ (by decide) e4 E_l GS.2.2.2.2.2.1 (g := (mkF m 12 #[vr al] [.ref al])) rfl (by rw [hml]; rfl) (rest := []) rfl (hb hby d19_12) (by decide) (W := 0) (by show 2 * 0 + _ ≤ _; exact Nat.le_of_eq rfl) (by decide)
 refine own_b T5 m 17 #[vr al] [.ref mA] st5 ?_
 obtain ⟨T6, X6, e6, st6⟩ := own_ldM X5 hx hZ hown (ww hw 136 rfl) e5 GS.2.2.2.2.2.2.2 (g := (mkF m 17 #[vr al] [.ref mA])) rfl (hb hby d19_17)
 refine own_b T6 m 19 #[vr al] [.ref mR, .ref mA] st6 ?_
 refine own_b T6 m 24 #[vr al] [] (fun _ k_ => Jvm.RoadKit.acmp (g := (mkF m 19 #[vr al] [.ref mR, .ref mA])) X6 hx rfl rfl rfl (pc0 := 19) (pc' := 24) (same := false) rfl (hb hby d19_19) rfl (decide_eq_false fun q => ne2 (Value.ref.inj q)) (by decide) (by decide) k_) ?_
 refine own_b T6 m 25 #[vr al] [.ref al] (fun _ k_ => XS.aloadN X6.here hx rfl (hb hby d19_24) rfl rfl k_) ?_
 obtain ⟨T7, X7, e7, st7⟩ := instY X6 hx hZ hown (ww hw 138 rfl) e6 (Ins.of_exa E_l (ww hw 139 rfl)) (g := (mkF m 25 #[vr al] [.ref al])) rfl rfl (hb hby d19_25)
 refine own_b T7 m 28 #[vr al] [.int 1] st7 ?_
 refine own_b T7 m 31 #[vr al] [] (fun _ k_ => XS.ifNo X7.here hx rfl (hb hby d19_28) rfl (XT.i0_eq_f (by decide)) k_) ?_
 obtain ⟨T8, h8, X8, e8, E8, A8, D8, -, st8⟩ := newO X7 hx hZ hown (ww hw 136 rfl) (ww hw 140 rfl) (ww hw 141 rfl) e7 (g := (mkF m 31 #[vr al] [])) rfl (hb hby d19_31) (by decide) (by decide)
 obtain ⟨b8, g8⟩ : ∃ z, z = h0.size := ⟨_, rfl⟩
 rw [← g8] at A8 D8 st8
 have K9 : Keep h0 h8 [] := own_kext E8
 have zzK9 : h0.size ≤ h8.size := K9.1
 have oo10 : Old Z n0 h8 := O0.keep K9 all0
 have kt11 : Keep h0 h8 [] := KT0.trans K9 all0
 have lab8 : b8 < h8.size := A8.lt
 have f12 : Fld Z h8 b8 "java/util/Collections$UnmodifiableCollection" "c" "Ljava/util/Collection;" .null := D8 (Or.inr (ww hw 159 rfl)) (ty := (.object "java/util/Collection")) (by decide)
 have f13 : Fld Z h8 b8 "java/util/Collections$UnmodifiableList" "list" "Ljava/util/List;" .null := D8 (Or.inr (ww hw 161 rfl)) (ty := (.object "java/util/List")) (by decide)
 refine own_b T8 m 34 #[vr al] [.ref b8] st8 ?_
 refine own_b T8 m 36 #[vr al] [.ref al, .ref b8, .ref b8] (fun _ k_ => XS.dup X8.here hx rfl (hb hby d19_34) rfl rfl (XS.aloadN X8.here hx rfl (hb hby d19_35) rfl rfl k_)) ?_
 have f14 : Exa Z h8 al cn2 := (E_l.keep K9)
 obtain ⟨_, _, ⟨T15, L15, k15, n15⟩, -, X15, ⟨Lc15, hQ15, l15, y15, z15⟩, st15⟩ := X8.specialBack hx (y := (⟨"java/util/Collections$UnmodifiableRandomAccessList", "<init>", "(Ljava/util/List;)V"⟩ : MethodName)) rfl hown (mvT hZ (ww hw 142 rfl)) (mvT hZ (ww hw 143 rfl)) (mvT hZ (ww hw 144 rfl)) (by decide) (backOf (W := 1) (rmURI l Z a0 hw [] wC cC wD kD mA mL mR GS b8 al h8 n0 (by omega) oo10 A8 (by omega) f14 f12 f13) hZ (ww hw 144 rfl) (ww hw 141 rfl) (by decide) (by decide)) (g := (mkF m 36 #[vr al] [.ref al, .ref b8, .ref b8])) rfl (by rw [hml]; rfl) (Steps.refl _) (a := b8) (argsL := [.ref al]) (rest := [.ref b8]) (lenOf own_pd_10 rfl) rfl (by show 2 * 0 + _ ≤ _; exact Nat.le_of_eq rfl) (hb hby d19_36) (fun _ _ => ⟨rfl, e8, (by decide : 1 + 0 ≤ _), (by decide : 2 + 0 ≤ _)⟩)
 dsimp only [Pt.U, Pt.locs, Pt.cells, Pt.slots] at X15 l15 y15 z15 st15 hQ15
 subst l15 y15 z15
 obtain ⟨rfl, N15q, K15, p15_0, p15_1⟩ := hQ15
 have N16 := Fr.app N0 N15q
 have zzK15 : h8.size ≤ T15.heap.size := K15.1
 have oo17 : Old Z n0 T15.heap := oo10.keep K15 (allS (by omega : n0 ≤ b8) all0)
 have kt18 : Keep h0 T15.heap [] := kt11.trans K15 (allS (Or.inr (by omega : h0.size ≤ b8)) all0)
 refine own_b T15 m 39 #[vr al] [.ref b8] (fun _ k_ => st15.trans k_) ?_
 refine own_b T15 m 50 #[vr al] [.ref b8] (fun _ k_ => XS.goto X15.here hx rfl (pc0 := 39) (pc' := 50) rfl (hb hby d19_39) (by decide) (by decide) k_) ?_
 have f19 : Exa Z T15.heap b8 "java/util/Collections$UnmodifiableRandomAccessList" := (A8.keep K15)
 obtain ⟨fs20, hr20, hrun20, hended20, hW20, hsame20⟩ := X15.leave (v := some (.ref b8)) (fun h => by rw [Bd.returns] at h; cases h)
 refine ⟨_, _, retOut X15 hx (t := (.object "java/util/List")) Bd.returns rfl (Or.inr (Or.inr (Or.inr (Or.inr ⟨rfl, rfl, rfl⟩)))) (hb hby d19_50) hr20, hrun20, hended20, _, _, rfl, ?_, ⟨_, rfl⟩, hW20, hsame20.mono (by decide) (by decide)⟩
 show Q_rmUnm Z wC cC wD kD mA mL mR al h0 n0 _ T15.heap _
 exact ⟨b8, rfl, N16, kt18, (by omega), f19, p15_0, p15_1⟩
theorem own_pd_11 : parseMethodDescriptor "(Ljava/util/List;)Ljava/util/List;" = some ⟨[(.object "java/util/List")], some (.object "java/util/List")⟩ := by decide +kernel
theorem d18_0 : decode prog_34_method_4_code 0 = .ok (.aload_n 0, 1) := by decide +kernel
theorem d18_1 : decode prog_34_method_4_code 1 = .ok (.getfield 12, 3) := by decide +kernel
theorem d18_4 : decode prog_34_method_4_code 4 = .ok (.invokestatic 64, 3) := by decide +kernel
theorem d18_7 : decode prog_34_method_4_code 7 = .ok (.areturn, 1) := by decide +kernel
theorem own_ef_rmGz (m : MethodId) (x0 : Addr) : entryFrame m #[.ref x0] 1 = mkF m 0 #[.val (.ref x0)] [] := by first | (simp [entryFrame, mkF, argsToLocals, Value.category]; done) | rfl
def Q_rmGz (Z : State) (wC : Addr) (cC : Cell) (wD : Addr) (kD : ClassId) (mA : Addr) (mL : Addr) (mR : Addr) (a : Addr) (al : Addr) (h0 : Heap) (n0 : Nat) (vv_ : Option Value) (hh_ : Heap) (LL_ : List Loc) : Prop := ∃ u : Addr, vv_ = some (.ref u) ∧ Fr n0 LL_ ∧ Keep h0 hh_ [] ∧ h0.size ≤ u ∧ Exa Z hh_ u "java/util/Collections$UnmodifiableRandomAccessList" ∧ Fld Z hh_ u "java/util/Collections$UnmodifiableCollection" "c" "Ljava/util/Collection;" (.ref al) ∧ Fld Z hh_ u "java/util/Collections$UnmodifiableList" "list" "Ljava/util/List;" (.ref al)
theorem rmGz (l : Launch) (Z : State) (a0 : Array Value) (hw : ∀ d ∈ tables_1, d.before a0 Z = true) (ws : List Jvm.Cond) (wC : Addr) (cC : Cell) (wD : Addr) (kD : ClassId) (mA : Addr) (mL : Addr) (mR : Addr) (GS : Glob Z wC cC wD kD mA mL mR) (a : Addr) (al : Addr) (h0 : Heap) (n0 : Nat) (Z0 : n0 ≤ h0.size) (O0 : Old Z n0 h0) (E_a : Exa Z h0 a cn1) (E_l : Exa Z h0 al cn2) (Fz : Fld Z h0 a cn1 "zones" "Ljava/util/List;" (.ref al)) :
  MetFree l (⟨cn1, "getZones", "()Ljava/util/List;"⟩ : MethodName) (head1 (Jvm.Cond.code (⟨cn1, "getZones", "()Ljava/util/List;"⟩ : MethodName) prog_34_method_4_code 1 (some (.object "java/util/List")) :: ws) (⟨5, 1, 2, 64⟩ : Room)) (fun aa_ UU_ => aa_ = #[.ref a] ∧ Z.Warmed39 UU_.vm ∧ UU_.heap = h0) (fun _ _ _ _ _ => True) (fun _ UU_ oo_ UV_ => ∃ vv_ LL_, oo_ = .returned vv_ ∧ Q_rmGz Z wC cC wD kD mA mL mR a al h0 n0 vv_ UV_.heap LL_ ∧ FrameEnd UU_ oo_ UV_ LL_ (⟨5, 1, 2, 64⟩ : Room).cells (⟨5, 1, 2, 64⟩ : Room).slots) := by
 refine MetFree.of_bodySF (plainFor_of_name own_p1) hisR ?_
 intro p e s m args below meth c s₁ Bd hml0 hP hK
 obtain ⟨rfl, hZ, hh⟩ := hP
 have hx := Bd.exec
 have hby := Bd.bytes
 have hml : c.maxLocals = 1 := hml0
 have hown : s.vm.findClass cn1 = some m.cls := findClass_of_methodNamed Bd.named
 have hnm := (name_of_methodNamed Bd.named Bd.method).1
 have X0 : Stand p l e (⟨5, 1, 2, 64⟩ : Room) s m #[.ref a] below meth c s₁ [] 0 0 := Stand.of_body Bd
 have e0 : s₁.heap = h0 := by rw [← hh, Bd.state]; rfl
 have N0 := Fr.nil n0
 have hn0 : Z.heap.size = n0 := O0.1
 have KT0 : Keep h0 h0 [] := Keep.refl _ _
 refine own_enter (Φ := fun oo_ UV_ => ∃ vv_ LL_, oo_ = .returned vv_ ∧ Q_rmGz Z wC cC wD kD mA mL mR a al h0 n0 vv_ UV_.heap LL_ ∧ FrameEnd s oo_ UV_ LL_ (⟨5, 1, 2, 64⟩ : Room).cells (⟨5, 1, 2, 64⟩ : Room).slots) (own_ef_rmGz m a) ?_
 refine own_b s₁ m 1 #[vr a] [.ref a] (fun _ k_ => XS.aloadN X0.here hx rfl (hb hby d18_0) rfl rfl k_) ?_
 obtain ⟨T1, X1, e1, st1⟩ := getF X0 hx hZ hown (host := "") (Or.inl (ww hw 35 rfl)) Via.refl e0 Fz (g := (mkF m 1 #[vr a] [.ref a])) rfl rfl (hb hby d18_1)
 refine own_b T1 m 4 #[vr a] [.ref al] st1 ?_
 obtain ⟨_, _, ⟨T2, L2, k2, n2⟩, -, X2, ⟨Lc2, hQ2, l2, y2, z2⟩, st2⟩ := Jvm.LawKit.callS X1 hx (y := (⟨"java/util/Collections", "unmodifiableList", "(Ljava/util/List;)Ljava/util/List;"⟩ : MethodName)) hown (mvT hZ (ww hw 120 rfl)) (mvT hZ (ww hw 121 rfl)) (mvT hZ (ww hw 122 rfl)) (mvT hZ (ww hw 123 rfl)) (by decide) (backOf (W := 0) (rmUnm l Z a0 hw [] wC cC wD kD mA mL mR GS al h0 n0 (by omega) O0 E_l) hZ (ww hw 123 rfl) (ww hw 122 rfl) (by decide) (by decide)) (g := (mkF m 4 #[vr a] [.ref al])) rfl (by rw [hml]; rfl) (argsL := [.ref al]) (rest := []) (lenOf own_pd_11 rfl) rfl (by show 2 * 0 + _ ≤ _; exact Nat.le_of_eq rfl) (hb hby d18_4) (fun _ _ => ⟨rfl, e1, (by decide : 0 + 1 ≤ _), (by decide : 0 + 2 ≤ _)⟩)
 dsimp only [Pt.U, Pt.locs, Pt.cells, Pt.slots] at X2 l2 y2 z2 st2 hQ2
 subst l2 y2 z2
 obtain ⟨u_3, rfl, N2q, K2, p2_0, p2_1, p2_2, p2_3⟩ := hQ2
 have N4 := Fr.app N0 N2q
 have gu_3 : h0.size ≤ u_3 := p2_0
 have zzK2 : h0.size ≤ T2.heap.size := K2.1
 have oo5 : Old Z n0 T2.heap := O0.keep K2 all0
 have kt6 : Keep h0 T2.heap [] := KT0.trans K2 all0
 refine own_b T2 m 7 #[vr a] [.ref u_3] st2 ?_
 have la7 : @LT.lt Nat instLTNat u_3 T2.heap.size := p2_1.lt
 obtain ⟨fs8, hr8, hrun8, hended8, hW8, hsame8⟩ := X2.leave (v := some (.ref u_3)) (fun h => by rw [Bd.returns] at h; cases h)
 refine ⟨_, _, retOut X2 hx (t := (.object "java/util/List")) Bd.returns rfl (Or.inr (Or.inr (Or.inr (Or.inr ⟨rfl, rfl, rfl⟩)))) (hb hby d18_7) hr8, hrun8, hended8, _, _, rfl, ?_, ⟨_, rfl⟩, hW8, hsame8.mono (by decide) (by decide)⟩
 show Q_rmGz Z wC cC wD kD mA mL mR a al h0 n0 _ T2.heap _
 exact ⟨u_3, rfl, N4, kt6, (by omega), p2_1, p2_2, p2_3⟩
theorem d26_0 : decode jdk_49_method_1_code 0 = .ok (.aload_n 0, 1) := by decide +kernel
theorem d26_1 : decode jdk_49_method_1_code 1 = .ok (.aload_n 1, 1) := by decide +kernel
theorem d26_2 : decode jdk_49_method_1_code 2 = .ok (.putfield 1, 3) := by decide +kernel
theorem d26_5 : decode jdk_49_method_1_code 5 = .ok (.aload_n 0, 1) := by decide +kernel
theorem d26_6 : decode jdk_49_method_1_code 6 = .ok (.invokespecial 7, 3) := by decide +kernel
theorem d26_9 : decode jdk_49_method_1_code 9 = .ok (.aload_n 0, 1) := by decide +kernel
theorem d26_10 : decode jdk_49_method_1_code 10 = .ok (.iconst (-1), 1) := by decide +kernel
theorem d26_11 : decode jdk_49_method_1_code 11 = .ok (.putfield 13, 3) := by decide +kernel
theorem d26_14 : decode jdk_49_method_1_code 14 = .ok (.aload_n 0, 1) := by decide +kernel
theorem d26_15 : decode jdk_49_method_1_code 15 = .ok (.aload_n 0, 1) := by decide +kernel
theorem d26_16 : decode jdk_49_method_1_code 16 = .ok (.getfield 1, 3) := by decide +kernel
theorem d26_19 : decode jdk_49_method_1_code 19 = .ok (.getfield 17, 3) := by decide +kernel
theorem d26_22 : decode jdk_49_method_1_code 22 = .ok (.putfield 22, 3) := by decide +kernel
theorem d26_25 : decode jdk_49_method_1_code 25 = .ok (.return_, 1) := by decide +kernel
theorem own_p8 : plainName "java/util/ArrayList$Itr" = true := by first | (simp [plainName, overriddenIn]; done) | decide +kernel
theorem own_ef_rmItI (m : MethodId) (x0 : Addr) (x1 : Addr) : entryFrame m #[.ref x0, .ref x1] 2 = mkF m 0 #[.val (.ref x0), .val (.ref x1)] [] := by first | (simp [entryFrame, mkF, argsToLocals, Value.category]; done) | rfl
def Q_rmItI (Z : State) (wC : Addr) (cC : Cell) (wD : Addr) (kD : ClassId) (mA : Addr) (mL : Addr) (mR : Addr) (it : Addr) (al : Addr) (h0 : Heap) (n0 : Nat) (vv_ : Option Value) (hh_ : Heap) (LL_ : List Loc) : Prop := vv_ = none ∧ Fr n0 LL_ ∧ Keep h0 hh_ [it] ∧ Fld Z hh_ it "java/util/ArrayList$Itr" "this$0" "Ljava/util/ArrayList;" (.ref al) ∧ Fld Z hh_ it "java/util/ArrayList$Itr" "lastRet" "I" (.int (-1)) ∧ Fld Z hh_ it "java/util/ArrayList$Itr" "expectedModCount" "I" (.int 1) ∧ Fld Z hh_ it "java/util/ArrayList$Itr" "cursor" "I" (.int 0)
theorem rmItI (l : Launch) (Z : State) (a0 : Array Value) (hw : ∀ d ∈ tables_1, d.before a0 Z = true) (ws : List Jvm.Cond) (wC : Addr) (cC : Cell) (wD : Addr) (kD : ClassId) (mA : Addr) (mL : Addr) (mR : Addr) (GS : Glob Z wC cC wD kD mA mL mR) (it : Addr) (al : Addr) (h0 : Heap) (n0 : Nat) (Z0 : n0 ≤ h0.size) (O0 : Old Z n0 h0) (E_i : Exa Z h0 it cn5) (g_i : n0 ≤ it) (E_l : Exa Z h0 al cn2) (Fm : Fld Z h0 al "java/util/AbstractList" "modCount" "I" (.int 1)) (If0 : Fld Z h0 it cn5 "this$0" "Ljava/util/ArrayList;" .null) (If1 : Fld Z h0 it cn5 "lastRet" "I" (.int 0)) (If2 : Fld Z h0 it cn5 "expectedModCount" "I" (.int 0)) (If3 : Fld Z h0 it cn5 "cursor" "I" (.int 0)) (nit : @Ne Nat al it) :
  MetFree l (⟨cn5, "<init>", "(Ljava/util/ArrayList;)V"⟩ : MethodName) (head1 (Jvm.Cond.code (⟨cn5, "<init>", "(Ljava/util/ArrayList;)V"⟩ : MethodName) jdk_49_method_1_code 2 none :: ws) (⟨1, 0, 0, 12⟩ : Room)) (fun aa_ UU_ => aa_ = #[.ref it, .ref al] ∧ Z.Warmed39 UU_.vm ∧ UU_.heap = h0) (fun _ _ _ _ _ => True) (fun _ UU_ oo_ UV_ => ∃ vv_ LL_, oo_ = .returned vv_ ∧ Q_rmItI Z wC cC wD kD mA mL mR it al h0 n0 vv_ UV_.heap LL_ ∧ FrameEnd UU_ oo_ UV_ LL_ (⟨1, 0, 0, 12⟩ : Room).cells (⟨1, 0, 0, 12⟩ : Room).slots) := by
 refine MetFree.of_bodySF (plainFor_of_name own_p8) hisR ?_
 intro p e s m args below meth c s₁ Bd hml0 hP hK
 obtain ⟨rfl, hZ, hh⟩ := hP
 have hx := Bd.exec
 have hby := Bd.bytes
 have hml : c.maxLocals = 2 := hml0
 have hown : s.vm.findClass cn5 = some m.cls := findClass_of_methodNamed Bd.named
 have hnm := (name_of_methodNamed Bd.named Bd.method).1
 have X0 : Stand p l e (⟨1, 0, 0, 12⟩ : Room) s m #[.ref it, .ref al] below meth c s₁ [] 0 0 := Stand.of_body Bd
 have e0 : s₁.heap = h0 := by rw [← hh, Bd.state]; rfl
 have N0 := Fr.nil n0
 have hn0 : Z.heap.size = n0 := O0.1
 have KT0 : Keep h0 h0 [it] := Keep.refl _ _
 refine own_enter (Φ := fun oo_ UV_ => ∃ vv_ LL_, oo_ = .returned vv_ ∧ Q_rmItI Z wC cC wD kD mA mL mR it al h0 n0 vv_ UV_.heap LL_ ∧ FrameEnd s oo_ UV_ LL_ (⟨1, 0, 0, 12⟩ : Room).cells (⟨1, 0, 0, 12⟩ : Room).slots) (own_ef_rmItI m it al) ?_
 have ne1 : al ≠ it := nit
 refine own_b s₁ m 2 #[vr it, vr al] [.ref al, .ref it] (fun _ k_ => XS.aloadN X0.here hx rfl (hb hby d26_0) rfl rfl (XS.aloadN X0.here hx rfl (hb hby d26_1) rfl rfl k_)) ?_
 obtain ⟨T2, h2, X2, e2, W2, st2⟩ := putF X0 hx hZ hown (host := "") (Or.inl (ww hw 198 rfl)) Via.refl e0 If0 E_i (Or.inr ⟨(ww hw 199 rfl), rfl, hnm⟩) (ww hw 192 rfl) (ty := (.object cn2)) (by decide) rfl rfl (g := (mkF m 2 #[vr it, vr al] [.ref al, .ref it])) rfl rfl (hb hby d26_2)
 have K3 : Keep h0 h2 [it] := Keep.of_wr W2
 have zzK3 : h0.size ≤ h2.size := K3.1
 have oo4 : Old Z n0 h2 := O0.keep K3 (allS (by omega : n0 ≤ it) all0)
 have kt5 : Keep h0 h2 [it] := KT0.trans K3 (allS (Or.inl (List.mem_of_getElem? (i := 0) rfl)) all0)
 have f6 : Fld Z h2 it cn5 "this$0" "Ljava/util/ArrayList;" (.ref al) := If0.same W2
 have f7 : Fld Z h2 it cn5 "lastRet" "I" (.int 0) := If1.other W2 (Or.inr (slot_ne (Or.inl (ww hw 202 rfl)) (Or.inr (ww hw 199 rfl)) (by decide) (t := .int) (t' := (.object cn2)) (by decide) (by decide)))
 have f8 : Fld Z h2 it cn5 "expectedModCount" "I" (.int 0) := If2.other W2 (Or.inr (slot_ne (Or.inl (ww hw 205 rfl)) (Or.inr (ww hw 199 rfl)) (by decide) (t := .int) (t' := (.object cn2)) (by decide) (by decide)))
 have f9 : Fld Z h2 it cn5 "cursor" "I" (.int 0) := If3.other W2 (Or.inr (slot_ne (Or.inl (ww hw 225 rfl)) (Or.inr (ww hw 199 rfl)) (by decide) (t := .int) (t' := (.object cn2)) (by decide) (by decide)))
 have N10 := Fr.snoc X2 N0 (by omega : n0 ≤ it)
 refine own_b T2 m 5 #[vr it, vr al] [] st2 ?_
 refine own_b T2 m 6 #[vr it, vr al] [.ref it] (fun _ k_ => XS.aloadN X2.here hx rfl (hb hby d26_5) rfl rfl k_) ?_
 obtain ⟨T11, X11, e11, st11⟩ := initO X2 hx hZ hown (ww hw 200 rfl) (ww hw 9 rfl) (ww hw 10 rfl) e2 (g := (mkF m 6 #[vr it, vr al] [.ref it])) rfl (by rw [hml]; rfl) rfl (hb hby d26_6) (by decide) (W := 0) (by show 2 * 0 + _ ≤ _; exact Nat.le_of_eq rfl) (by decide)
 refine own_b T11 m 9 #[vr it, vr al] [] st11 ?_
 refine own_b T11 m 11 #[vr it, vr al] [(.int (-1)), .ref it] (fun _ k_ => XS.aloadN X11.here hx rfl (hb hby d26_9) rfl rfl (XS.iconst X11.here hx rfl (hb hby d26_10) k_)) ?_
 have f12 : Exa Z h2 it cn5 := (E_i.keep K3)
 obtain ⟨T13, h13, X13, e13, W13, st13⟩ := putF X11 hx hZ hown (host := "") (Or.inl (ww hw 201 rfl)) Via.refl e11 f7 f12 (Or.inl (ww hw 202 rfl)) (ww hw 192 rfl) (ty := .int) (by decide) rfl rfl (g := (mkF m 11 #[vr it, vr al] [(.int (-1)), .ref it])) rfl rfl (hb hby d26_11)
 have K14 : Keep h2 h13 [it] := Keep.of_wr W13
 have zzK14 : h2.size ≤ h13.size := K14.1
 have oo15 : Old Z n0 h13 := oo4.keep K14 (allS (by omega : n0 ≤ it) all0)
 have kt16 : Keep h0 h13 [it] := kt5.trans K14 (allS (Or.inl (List.mem_of_getElem? (i := 0) rfl)) all0)
 have f17 : Fld Z h13 it cn5 "this$0" "Ljava/util/ArrayList;" (.ref al) := f6.other W13 (Or.inr (slot_ne (Or.inr (ww hw 199 rfl)) (Or.inl (ww hw 202 rfl)) (by decide) (t := (.object cn2)) (t' := .int) (by decide) (by decide)))
 have f18 : Fld Z h13 it cn5 "lastRet" "I" (.int (-1)) := f7.same W13
 have f19 : Fld Z h13 it cn5 "expectedModCount" "I" (.int 0) := f8.other W13 (Or.inr (slot_ne (Or.inl (ww hw 205 rfl)) (Or.inl (ww hw 202 rfl)) (by decide) (t := .int) (t' := .int) (by decide) (by decide)))
 have f20 : Fld Z h13 it cn5 "cursor" "I" (.int 0) := f9.other W13 (Or.inr (slot_ne (Or.inl (ww hw 225 rfl)) (Or.inl (ww hw 202 rfl)) (by decide) (t := .int) (t' := .int) (by decide) (by decide)))
 have N21 := Fr.snoc X13 N10 (by omega : n0 ≤ it)
 refine own_b T13 m 14 #[vr it, vr al] [] st13 ?_
 refine own_b T13 m 16 #[vr it, vr al] [.ref it, .ref it] (fun _ k_ => XS.aloadN X13.here hx rfl (hb hby d26_14) rfl rfl (XS.aloadN X13.here hx rfl (hb hby d26_15) rfl rfl k_)) ?_
 obtain ⟨T22, X22, e22, st22⟩ := getF X13 hx hZ hown (host := "") (Or.inl (ww hw 198 rfl)) Via.refl e13 f17 (g := (mkF m 16 #[vr it, vr al] [.ref it, .ref it])) rfl rfl (hb hby d26_16)
 refine own_b T22 m 19 #[vr it, vr al] [.ref al, .ref it] st22 ?_
 have f23 : Fld Z h13 al "java/util/AbstractList" "modCount" "I" (.int 1) := ((Fm.keep K3 (ninS ne1 nin0)).keep K14 (ninS ne1 nin0))
 obtain ⟨T24, X24, e24, st24⟩ := getF X22 hx hZ hown (host := "") (Or.inl (ww hw 203 rfl)) (Via.of (ww hw 76 rfl)) e22 f23 (g := (mkF m 19 #[vr it, vr al] [.ref al, .ref it])) rfl rfl (hb hby d26_19)
 refine own_b T24 m 22 #[vr it, vr al] [.int 1, .ref it] st24 ?_
 have f25 : Exa Z h13 it cn5 := (f12.keep K14)
 obtain ⟨T26, h26, X26, e26, W26, st26⟩ := putF X24 hx hZ hown (host := "") (Or.inl (ww hw 204 rfl)) Via.refl e24 f19 f25 (Or.inl (ww hw 205 rfl)) (ww hw 192 rfl) (ty := .int) (by decide) rfl rfl (g := (mkF m 22 #[vr it, vr al] [.int 1, .ref it])) rfl rfl (hb hby d26_22)
 have K27 : Keep h13 h26 [it] := Keep.of_wr W26
 have zzK27 : h13.size ≤ h26.size := K27.1
 have oo28 : Old Z n0 h26 := oo15.keep K27 (allS (by omega : n0 ≤ it) all0)
 have kt29 : Keep h0 h26 [it] := kt16.trans K27 (allS (Or.inl (List.mem_of_getElem? (i := 0) rfl)) all0)
 have f30 : Fld Z h26 it cn5 "this$0" "Ljava/util/ArrayList;" (.ref al) := f17.other W26 (Or.inr (slot_ne (Or.inr (ww hw 199 rfl)) (Or.inl (ww hw 205 rfl)) (by decide) (t := (.object cn2)) (t' := .int) (by decide) (by decide)))
 have f31 : Fld Z h26 it cn5 "lastRet" "I" (.int (-1)) := f18.other W26 (Or.inr (slot_ne (Or.inl (ww hw 202 rfl)) (Or.inl (ww hw 205 rfl)) (by decide) (t := .int) (t' := .int) (by decide) (by decide)))
 have f32 : Fld Z h26 it cn5 "expectedModCount" "I" (.int 1) := f19.same W26
 have f33 : Fld Z h26 it cn5 "cursor" "I" (.int 0) := f20.other W26 (Or.inr (slot_ne (Or.inl (ww hw 225 rfl)) (Or.inl (ww hw 205 rfl)) (by decide) (t := .int) (t' := .int) (by decide) (by decide)))
 have N34 := Fr.snoc X26 N21 (by omega : n0 ≤ it)
 refine own_b T26 m 25 #[vr it, vr al] [] st26 ?_
 obtain ⟨fs35, hr35, hrun35, hended35, hW35, hsame35⟩ := X26.leave (v := none) (fun _ => rfl)
 refine ⟨_, _, X26.returnOut hx Bd.returns (hb hby d26_25) hr35, hrun35, hended35, _, _, rfl, ?_, ⟨_, rfl⟩, hW35, hsame35.mono (by decide) (by decide)⟩
 show Q_rmItI Z wC cC wD kD mA mL mR it al h0 n0 _ T26.heap _
 rw [e26]
 exact ⟨rfl, N34, kt29, f30, f31, f32, f33⟩
theorem own_pd_12 : parseMethodDescriptor "(Ljava/util/ArrayList;)V" = some ⟨[(.object "java/util/ArrayList")], none⟩ := by decide +kernel
theorem d25_0 : decode jdk_38_method_55_code 0 = .ok (.new 267, 3) := by decide +kernel
theorem d25_3 : decode jdk_38_method_55_code 3 = .ok (.dup, 1) := by decide +kernel
theorem d25_4 : decode jdk_38_method_55_code 4 = .ok (.aload_n 0, 1) := by decide +kernel
theorem d25_5 : decode jdk_38_method_55_code 5 = .ok (.invokespecial 269, 3) := by decide +kernel
theorem d25_8 : decode jdk_38_method_55_code 8 = .ok (.areturn, 1) := by decide +kernel
theorem own_ef_rmIter (m : MethodId) (x0 : Addr) : entryFrame m #[.ref x0] 1 = mkF m 0 #[.val (.ref x0)] [] := by first | (simp [entryFrame, mkF, argsToLocals, Value.category]; done) | rfl
def Q_rmIter (Z : State) (wC : Addr) (cC : Cell) (wD : Addr) (kD : ClassId) (mA : Addr) (mL : Addr) (mR : Addr) (al : Addr) (h0 : Heap) (n0 : Nat) (vv_ : Option Value) (hh_ : Heap) (LL_ : List Loc) : Prop := ∃ it : Addr, vv_ = some (.ref it) ∧ Fr n0 LL_ ∧ Keep h0 hh_ [] ∧ h0.size ≤ it ∧ Exa Z hh_ it "java/util/ArrayList$Itr" ∧ Fld Z hh_ it "java/util/ArrayList$Itr" "this$0" "Ljava/util/ArrayList;" (.ref al) ∧ Fld Z hh_ it "java/util/ArrayList$Itr" "lastRet" "I" (.int (-1)) ∧ Fld Z hh_ it "java/util/ArrayList$Itr" "expectedModCount" "I" (.int 1) ∧ Fld Z hh_ it "java/util/ArrayList$Itr" "cursor" "I" (.int 0)
theorem rmIter (l : Launch) (Z : State) (a0 : Array Value) (hw : ∀ d ∈ tables_1, d.before a0 Z = true) (ws : List Jvm.Cond) (wC : Addr) (cC : Cell) (wD : Addr) (kD : ClassId) (mA : Addr) (mL : Addr) (mR : Addr) (GS : Glob Z wC cC wD kD mA mL mR) (al : Addr) (h0 : Heap) (n0 : Nat) (Z0 : n0 ≤ h0.size) (O0 : Old Z n0 h0) (E_l : Exa Z h0 al cn2) (Fm : Fld Z h0 al "java/util/AbstractList" "modCount" "I" (.int 1)) :
  MetFree l (⟨cn2, "iterator", "()Ljava/util/Iterator;"⟩ : MethodName) (head1 (Jvm.Cond.code (⟨cn2, "iterator", "()Ljava/util/Iterator;"⟩ : MethodName) jdk_38_method_55_code 1 (some (.object "java/util/Iterator")) :: ws) (⟨2, 1, 4, 26⟩ : Room)) (fun aa_ UU_ => aa_ = #[.ref al] ∧ Z.Warmed39 UU_.vm ∧ UU_.heap = h0) (fun _ _ _ _ _ => True) (fun _ UU_ oo_ UV_ => ∃ vv_ LL_, oo_ = .returned vv_ ∧ Q_rmIter Z wC cC wD kD mA mL mR al h0 n0 vv_ UV_.heap LL_ ∧ FrameEnd UU_ oo_ UV_ LL_ (⟨2, 1, 4, 26⟩ : Room).cells (⟨2, 1, 4, 26⟩ : Room).slots) := by
 refine MetFree.of_bodySF (plainFor_of_name own_p11) hisR ?_
 intro p e s m args below meth c s₁ Bd hml0 hP hK
 obtain ⟨rfl, hZ, hh⟩ := hP
 have hx := Bd.exec
 have hby := Bd.bytes
 have hml : c.maxLocals = 1 := hml0
 have hown : s.vm.findClass cn2 = some m.cls := findClass_of_methodNamed Bd.named
 have hnm := (name_of_methodNamed Bd.named Bd.method).1
 have X0 : Stand p l e (⟨2, 1, 4, 26⟩ : Room) s m #[.ref al] below meth c s₁ [] 0 0 := Stand.of_body Bd
 have e0 : s₁.heap = h0 := by rw [← hh, Bd.state]; rfl
 have N0 := Fr.nil n0
 have hn0 : Z.heap.size = n0 := O0.1
 have KT0 : Keep h0 h0 [] := Keep.refl _ _
 refine own_enter (Φ := fun oo_ UV_ => ∃ vv_ LL_, oo_ = .returned vv_ ∧ Q_rmIter Z wC cC wD kD mA mL mR al h0 n0 vv_ UV_.heap LL_ ∧ FrameEnd s oo_ UV_ LL_ (⟨2, 1, 4, 26⟩ : Room).cells (⟨2, 1, 4, 26⟩ : Room).slots) (own_ef_rmIter m al) ?_
 obtain ⟨T1, h1, X1, e1, E1, A1, D1, -, st1⟩ := newO X0 hx hZ hown (ww hw 191 rfl) (ww hw 192 rfl) (ww hw 193 rfl) e0 (g := (mkF m 0 #[vr al] [])) rfl (hb hby d25_0) (by decide) (by decide)
 obtain ⟨b1, g1⟩ : ∃ z, z = h0.size := ⟨_, rfl⟩
 rw [← g1] at A1 D1 st1
 have K2 : Keep h0 h1 [] := own_kext E1
 have zzK2 : h0.size ≤ h1.size := K2.1
 have oo3 : Old Z n0 h1 := O0.keep K2 all0
 have kt4 : Keep h0 h1 [] := KT0.trans K2 all0
 have lab1 : b1 < h1.size := A1.lt
 have f5 : Fld Z h1 b1 cn5 "this$0" "Ljava/util/ArrayList;" .null := D1 (Or.inr (ww hw 199 rfl)) (ty := (.object cn2)) (by decide)
 have f6 : Fld Z h1 b1 cn5 "lastRet" "I" (.int 0) := D1 (Or.inl (ww hw 202 rfl)) (ty := .int) (by decide)
 have f7 : Fld Z h1 b1 cn5 "expectedModCount" "I" (.int 0) := D1 (Or.inl (ww hw 205 rfl)) (ty := .int) (by decide)
 have f8 : Fld Z h1 b1 cn5 "cursor" "I" (.int 0) := D1 (Or.inl (ww hw 225 rfl)) (ty := .int) (by decide)
 refine own_b T1 m 3 #[vr al] [.ref b1] st1 ?_
 refine own_b T1 m 5 #[vr al] [.ref al, .ref b1, .ref b1] (fun _ k_ => XS.dup X1.here hx rfl (hb hby d25_3) rfl rfl (XS.aloadN X1.here hx rfl (hb hby d25_4) rfl rfl k_)) ?_
 have f9 : Exa Z h1 al cn2 := (E_l.keep K2)
 have f10 : Fld Z h1 al "java/util/AbstractList" "modCount" "I" (.int 1) := (Fm.keep K2 nin0)
 have la11 : @LT.lt Nat instLTNat al h0.size := E_l.lt
 have ne12 : @Ne Nat al b1 := by omega
 obtain ⟨_, _, ⟨T13, L13, k13, n13⟩, -, X13, ⟨Lc13, hQ13, l13, y13, z13⟩, st13⟩ := X1.specialBack hx (y := (⟨cn5, "<init>", "(Ljava/util/ArrayList;)V"⟩ : MethodName)) rfl hown (mvT hZ (ww hw 194 rfl)) (mvT hZ (ww hw 195 rfl)) (mvT hZ (ww hw 197 rfl)) (by decide) (backOf (W := 1) (rmItI l Z a0 hw [] wC cC wD kD mA mL mR GS b1 al h1 n0 (by omega) oo3 A1 (by omega) f9 f10 f5 f6 f7 f8 ne12) hZ (ww hw 197 rfl) (ww hw 193 rfl) (by decide) (by decide)) (g := (mkF m 5 #[vr al] [.ref al, .ref b1, .ref b1])) rfl (by rw [hml]; rfl) (Steps.refl _) (a := b1) (argsL := [.ref al]) (rest := [.ref b1]) (lenOf own_pd_12 rfl) rfl (by show 2 * 0 + _ ≤ _; exact Nat.le_of_eq rfl) (hb hby d25_5) (fun _ _ => ⟨rfl, e1, (by decide : 1 + 0 ≤ _), (by decide : 4 + 0 ≤ _)⟩)
 dsimp only [Pt.U, Pt.locs, Pt.cells, Pt.slots] at X13 l13 y13 z13 st13 hQ13
 subst l13 y13 z13
 obtain ⟨rfl, N13q, K13, p13_0, p13_1, p13_2, p13_3⟩ := hQ13
 have N14 := Fr.app N0 N13q
 have zzK13 : h1.size ≤ T13.heap.size := K13.1
 have oo15 : Old Z n0 T13.heap := oo3.keep K13 (allS (by omega : n0 ≤ b1) all0)
 have kt16 : Keep h0 T13.heap [] := kt4.trans K13 (allS (Or.inr (by omega : h0.size ≤ b1)) all0)
 refine own_b T13 m 8 #[vr al] [.ref b1] (fun _ k_ => st13.trans k_) ?_
 have f17 : Exa Z T13.heap b1 cn5 := (A1.keep K13)
 obtain ⟨fs18, hr18, hrun18, hended18, hW18, hsame18⟩ := X13.leave (v := some (.ref b1)) (fun h => by rw [Bd.returns] at h; cases h)
 refine ⟨_, _, retOut X13 hx (t := (.object "java/util/Iterator")) Bd.returns rfl (Or.inr (Or.inr (Or.inr (Or.inr ⟨rfl, rfl, rfl⟩)))) (hb hby d25_8) hr18, hrun18, hended18, _, _, rfl, ?_, ⟨_, rfl⟩, hW18, hsame18.mono (by decide) (by decide)⟩
 show Q_rmIter Z wC cC wD kD mA mL mR al h0 n0 _ T13.heap _
 exact ⟨b1, rfl, N14, kt16, (by omega), f17, p13_0, p13_1, p13_2, p13_3⟩
theorem own_pd_13 : parseMethodDescriptor "()Ljava/util/Iterator;" = some ⟨[], some (.object "java/util/Iterator")⟩ := by decide +kernel
theorem d24_0 : decode jdk_135_method_1_code 0 = .ok (.aload_n 0, 1) := by decide +kernel
theorem d24_1 : decode jdk_135_method_1_code 1 = .ok (.aload_n 1, 1) := by decide +kernel
theorem d24_2 : decode jdk_135_method_1_code 2 = .ok (.putfield 1, 3) := by decide +kernel
theorem d24_5 : decode jdk_135_method_1_code 5 = .ok (.aload_n 0, 1) := by decide +kernel
theorem d24_6 : decode jdk_135_method_1_code 6 = .ok (.invokespecial 7, 3) := by decide +kernel
theorem d24_9 : decode jdk_135_method_1_code 9 = .ok (.aload_n 0, 1) := by decide +kernel
theorem d24_10 : decode jdk_135_method_1_code 10 = .ok (.aload_n 0, 1) := by decide +kernel
theorem d24_11 : decode jdk_135_method_1_code 11 = .ok (.getfield 1, 3) := by decide +kernel
theorem d24_14 : decode jdk_135_method_1_code 14 = .ok (.getfield 13, 3) := by decide +kernel
theorem d24_17 : decode jdk_135_method_1_code 17 = .ok (.invokeinterface 19 1, 5) := by decide +kernel
theorem d24_22 : decode jdk_135_method_1_code 22 = .ok (.putfield 25, 3) := by decide +kernel
theorem d24_25 : decode jdk_135_method_1_code 25 = .ok (.return_, 1) := by decide +kernel
theorem own_p4 : plainName "java/util/Collections$UnmodifiableCollection$1" = true := by first | (simp [plainName, overriddenIn]; done) | decide +kernel
theorem own_ef_rmU1I (m : MethodId) (x0 : Addr) (x1 : Addr) : entryFrame m #[.ref x0, .ref x1] 2 = mkF m 0 #[.val (.ref x0), .val (.ref x1)] [] := by first | (simp [entryFrame, mkF, argsToLocals, Value.category]; done) | rfl
def Q_rmU1I (Z : State) (wC : Addr) (cC : Cell) (wD : Addr) (kD : ClassId) (mA : Addr) (mL : Addr) (mR : Addr) (x1 : Addr) (u : Addr) (al : Addr) (h0 : Heap) (n0 : Nat) (vv_ : Option Value) (hh_ : Heap) (LL_ : List Loc) : Prop := ∃ it : Addr, vv_ = none ∧ Fr n0 LL_ ∧ Keep h0 hh_ [x1] ∧ Fld Z hh_ x1 "java/util/Collections$UnmodifiableCollection$1" "this$0" "Ljava/util/Collections$UnmodifiableCollection;" (.ref u) ∧ Fld Z hh_ x1 "java/util/Collections$UnmodifiableCollection$1" "i" "Ljava/util/Iterator;" (.ref it) ∧ h0.size ≤ it ∧ Exa Z hh_ it "java/util/ArrayList$Itr" ∧ Fld Z hh_ it "java/util/ArrayList$Itr" "this$0" "Ljava/util/ArrayList;" (.ref al) ∧ Fld Z hh_ it "java/util/ArrayList$Itr" "lastRet" "I" (.int (-1)) ∧ Fld Z hh_ it "java/util/ArrayList$Itr" "expectedModCount" "I" (.int 1) ∧ Fld Z hh_ it "java/util/ArrayList$Itr" "cursor" "I" (.int 0)
theorem rmU1I (l : Launch) (Z : State) (a0 : Array Value) (hw : ∀ d ∈ tables_1, d.before a0 Z = true) (ws : List Jvm.Cond) (wC : Addr) (cC : Cell) (wD : Addr) (kD : ClassId) (mA : Addr) (mL : Addr) (mR : Addr) (GS : Glob Z wC cC wD kD mA mL mR) (x1 : Addr) (u : Addr) (al : Addr) (h0 : Heap) (n0 : Nat) (Z0 : n0 ≤ h0.size) (O0 : Old Z n0 h0) (E_x : Exa Z h0 x1 cn3) (g_x : n0 ≤ x1) (E_u : Exa Z h0 u "java/util/Collections$UnmodifiableRandomAccessList") (E_l : Exa Z h0 al cn2) (Fc : Fld Z h0 u "java/util/Collections$UnmodifiableCollection" "c" "Ljava/util/Collection;" (.ref al)) (Fm : Fld Z h0 al "java/util/AbstractList" "modCount" "I" (.int 1)) (F0 : Fld Z h0 x1 cn3 "this$0" "Ljava/util/Collections$UnmodifiableCollection;" .null) (F1 : Fld Z h0 x1 cn3 "i" "Ljava/util/Iterator;" .null) (n1 : @Ne Nat u x1) (n2 : @Ne Nat al x1) :
  MetFree l (⟨cn3, "<init>", "(Ljava/util/Collections$UnmodifiableCollection;)V"⟩ : MethodName) (head1 (Jvm.Cond.code (⟨cn3, "<init>", "(Ljava/util/Collections$UnmodifiableCollection;)V"⟩ : MethodName) jdk_135_method_1_code 2 none :: ws) (⟨3, 1, 4, 39⟩ : Room)) (fun aa_ UU_ => aa_ = #[.ref x1, .ref u] ∧ Z.Warmed39 UU_.vm ∧ UU_.heap = h0) (fun _ _ _ _ _ => True) (fun _ UU_ oo_ UV_ => ∃ vv_ LL_, oo_ = .returned vv_ ∧ Q_rmU1I Z wC cC wD kD mA mL mR x1 u al h0 n0 vv_ UV_.heap LL_ ∧ FrameEnd UU_ oo_ UV_ LL_ (⟨3, 1, 4, 39⟩ : Room).cells (⟨3, 1, 4, 39⟩ : Room).slots) := by
 refine MetFree.of_bodySF (plainFor_of_name own_p4) hisR ?_
 intro p e s m args below meth c s₁ Bd hml0 hP hK
 obtain ⟨rfl, hZ, hh⟩ := hP
 have hx := Bd.exec
 have hby := Bd.bytes
 have hml : c.maxLocals = 2 := hml0
 have hown : s.vm.findClass cn3 = some m.cls := findClass_of_methodNamed Bd.named
 have hnm := (name_of_methodNamed Bd.named Bd.method).1
 have X0 : Stand p l e (⟨3, 1, 4, 39⟩ : Room) s m #[.ref x1, .ref u] below meth c s₁ [] 0 0 := Stand.of_body Bd
 have e0 : s₁.heap = h0 := by rw [← hh, Bd.state]; rfl
 have N0 := Fr.nil n0
 have hn0 : Z.heap.size = n0 := O0.1
 have KT0 : Keep h0 h0 [x1] := Keep.refl _ _
 refine own_enter (Φ := fun oo_ UV_ => ∃ vv_ LL_, oo_ = .returned vv_ ∧ Q_rmU1I Z wC cC wD kD mA mL mR x1 u al h0 n0 vv_ UV_.heap LL_ ∧ FrameEnd s oo_ UV_ LL_ (⟨3, 1, 4, 39⟩ : Room).cells (⟨3, 1, 4, 39⟩ : Room).slots) (own_ef_rmU1I m x1 u) ?_
 have ne1 : u ≠ x1 := n1
 have ne2 : al ≠ x1 := n2
 refine own_b s₁ m 2 #[vr x1, vr u] [.ref u, .ref x1] (fun _ k_ => XS.aloadN X0.here hx rfl (hb hby d24_0) rfl rfl (XS.aloadN X0.here hx rfl (hb hby d24_1) rfl rfl k_)) ?_
 obtain ⟨T3, h3, X3, e3, W3, st3⟩ := putF X0 hx hZ hown (host := "") (Or.inl (ww hw 178 rfl)) Via.refl e0 F0 E_x (Or.inr ⟨(ww hw 179 rfl), rfl, hnm⟩) (ww hw 172 rfl) (ty := (.object "java/util/Collections$UnmodifiableCollection")) (by decide) rfl rfl (g := (mkF m 2 #[vr x1, vr u] [.ref u, .ref x1])) rfl rfl (hb hby d24_2)
 have K4 : Keep h0 h3 [x1] := Keep.of_wr W3
 have zzK4 : h0.size ≤ h3.size := K4.1
 have oo5 : Old Z n0 h3 := O0.keep K4 (allS (by omega : n0 ≤ x1) all0)
 have kt6 : Keep h0 h3 [x1] := KT0.trans K4 (allS (Or.inl (List.mem_of_getElem? (i := 0) rfl)) all0)
 have f7 : Fld Z h3 x1 cn3 "this$0" "Ljava/util/Collections$UnmodifiableCollection;" (.ref u) := F0.same W3
 have f8 : Fld Z h3 x1 cn3 "i" "Ljava/util/Iterator;" .null := F1.other W3 (Or.inr (slot_ne (Or.inr (ww hw 207 rfl)) (Or.inr (ww hw 179 rfl)) (by decide) (t := (.object "java/util/Iterator")) (t' := (.object "java/util/Collections$UnmodifiableCollection")) (by decide) (by decide)))
 have N9 := Fr.snoc X3 N0 (by omega : n0 ≤ x1)
 refine own_b T3 m 5 #[vr x1, vr u] [] st3 ?_
 refine own_b T3 m 6 #[vr x1, vr u] [.ref x1] (fun _ k_ => XS.aloadN X3.here hx rfl (hb hby d24_5) rfl rfl k_) ?_
 obtain ⟨T10, X10, e10, st10⟩ := initO X3 hx hZ hown (ww hw 180 rfl) (ww hw 9 rfl) (ww hw 10 rfl) e3 (g := (mkF m 6 #[vr x1, vr u] [.ref x1])) rfl (by rw [hml]; rfl) rfl (hb hby d24_6) (by decide) (W := 0) (by show 2 * 0 + _ ≤ _; exact Nat.le_of_eq rfl) (by decide)
 refine own_b T10 m 9 #[vr x1, vr u] [] st10 ?_
 refine own_b T10 m 11 #[vr x1, vr u] [.ref x1, .ref x1] (fun _ k_ => XS.aloadN X10.here hx rfl (hb hby d24_9) rfl rfl (XS.aloadN X10.here hx rfl (hb hby d24_10) rfl rfl k_)) ?_
 obtain ⟨T11, X11, e11, st11⟩ := getF X10 hx hZ hown (host := "") (Or.inl (ww hw 178 rfl)) Via.refl e10 f7 (g := (mkF m 11 #[vr x1, vr u] [.ref x1, .ref x1])) rfl rfl (hb hby d24_11)
 refine own_b T11 m 14 #[vr x1, vr u] [.ref u, .ref x1] st11 ?_
 have f12 : Fld Z h3 u "java/util/Collections$UnmodifiableCollection" "c" "Ljava/util/Collection;" (.ref al) := (Fc.keep K4 (ninS ne1 nin0))
 obtain ⟨T13, X13, e13, st13⟩ := getF X11 hx hZ hown (host := "") (Or.inl (ww hw 181 rfl)) Via.refl e11 f12 (g := (mkF m 14 #[vr x1, vr u] [.ref u, .ref x1])) rfl rfl (hb hby d24_14)
 refine own_b T13 m 17 #[vr x1, vr u] [.ref al, .ref x1] st13 ?_
 have f14 : Exa Z h3 al cn2 := (E_l.keep K4)
 have f15 : Fld Z h3 al "java/util/AbstractList" "modCount" "I" (.int 1) := (Fm.keep K4 (ninS ne2 nin0))
 obtain ⟨cq16, kq16, q16a, q16b, q16c⟩ := isOf hZ e13 f14
 obtain ⟨_, _, ⟨T16, L16, k16, n16⟩, -, X16, ⟨Lc16, hQ16, l16, y16, z16⟩, st16⟩ := X13.interfaceBack hx (xi := (⟨"java/util/Collection", "iterator", "()Ljava/util/Iterator;"⟩ : MethodName)) (y := (⟨cn2, "iterator", "()Ljava/util/Iterator;"⟩ : MethodName)) hown (mvT hZ (ww hw 182 rfl)) (mvT hZ (ww hw 183 rfl)) (mvT hZ (ww hw 184 rfl)) (mvT hZ (ww hw 185 rfl)) (mvT hZ (ww hw 186 rfl)) (mvT hZ (ww hw 187 rfl)) (mvT hZ (ww hw 188 rfl)) (mvT hZ (ww hw 189 rfl)) (by decide) (backOf (W := 1) (rmIter l Z a0 hw [] wC cC wD kD mA mL mR GS al h3 n0 (by omega) oo5 f14 f15) hZ (ww hw 190 rfl) (ww hw 13 rfl) (by decide) (by decide)) q16a q16b q16c (g := (mkF m 17 #[vr x1, vr u] [.ref al, .ref x1])) rfl (by rw [hml]; rfl) (Steps.refl _) (argsL := []) (rest := [.ref x1]) (lenOf own_pd_13 rfl) rfl (by show 2 * 0 + _ ≤ _; exact Nat.le_of_eq rfl) (hb hby d24_17) (fun _ _ => ⟨rfl, e13, (by decide : 0 + 1 ≤ _), (by decide : 0 + 4 ≤ _)⟩)
 dsimp only [Pt.U, Pt.locs, Pt.cells, Pt.slots] at X16 l16 y16 z16 st16 hQ16
 subst l16 y16 z16
 obtain ⟨it_17, rfl, N16q, K16, p16_0, p16_1, p16_2, p16_3, p16_4, p16_5⟩ := hQ16
 have N18 := Fr.app N9 N16q
 have git_17 : h3.size ≤ it_17 := p16_0
 have zzK16 : h3.size ≤ T16.heap.size := K16.1
 have oo19 : Old Z n0 T16.heap := oo5.keep K16 all0
 have kt20 : Keep h0 T16.heap [x1] := kt6.trans K16 all0
 refine own_b T16 m 22 #[vr x1, vr u] [.ref it_17, .ref x1] (fun _ k_ => st16.trans k_) ?_
 have f21 : Exa Z T16.heap x1 cn3 := ((E_x.keep K4).keep K16)
 have f22 : Fld Z T16.heap x1 cn3 "i" "Ljava/util/Iterator;" .null := (f8.keep K16 nin0)
 obtain ⟨T23, h23, X23, e23, W23, st23⟩ := putF X16 hx hZ hown (host := "") (Or.inl (ww hw 206 rfl)) Via.refl rfl f22 f21 (Or.inr ⟨(ww hw 207 rfl), rfl, hnm⟩) (ww hw 172 rfl) (ty := (.object "java/util/Iterator")) (by decide) rfl rfl (g := (mkF m 22 #[vr x1, vr u] [.ref it_17, .ref x1])) rfl rfl (hb hby d24_22)
 have K24 : Keep T16.heap h23 [x1] := Keep.of_wr W23
 have f25 : Fld Z T16.heap x1 cn3 "this$0" "Ljava/util/Collections$UnmodifiableCollection;" (.ref u) := (f7.keep K16 nin0)
 have zzK24 : T16.heap.size ≤ h23.size := K24.1
 have oo26 : Old Z n0 h23 := oo19.keep K24 (allS (by omega : n0 ≤ x1) all0)
 have kt27 : Keep h0 h23 [x1] := kt20.trans K24 (allS (Or.inl (List.mem_of_getElem? (i := 0) rfl)) all0)
 have f28 : Fld Z h23 x1 cn3 "this$0" "Ljava/util/Collections$UnmodifiableCollection;" (.ref u) := f25.other W23 (Or.inr (slot_ne (Or.inr (ww hw 179 rfl)) (Or.inr (ww hw 207 rfl)) (by decide) (t := (.object "java/util/Collections$UnmodifiableCollection")) (t' := (.object "java/util/Iterator")) (by decide) (by decide)))
 have f29 : Fld Z h23 x1 cn3 "i" "Ljava/util/Iterator;" (.ref it_17) := f22.same W23
 have N30 := Fr.snoc X23 N18 (by omega : n0 ≤ x1)
 refine own_b T23 m 25 #[vr x1, vr u] [] st23 ?_
 have la31 : @LT.lt Nat instLTNat it_17 T16.heap.size := p16_1.lt
 have f32 : Exa Z h23 it_17 cn5 := (p16_1.keep K24)
 have la33 : @LT.lt Nat instLTNat x1 h0.size := E_x.lt
 have ne34 : @Ne Nat it_17 x1 := by omega
 have f35 : Fld Z h23 it_17 cn5 "this$0" "Ljava/util/ArrayList;" (.ref al) := (p16_2.keep K24 (ninS ne34 nin0))
 have f36 : Fld Z h23 it_17 cn5 "lastRet" "I" (.int (-1)) := (p16_3.keep K24 (ninS ne34 nin0))
 have f37 : Fld Z h23 it_17 cn5 "expectedModCount" "I" (.int 1) := (p16_4.keep K24 (ninS ne34 nin0))
 have f38 : Fld Z h23 it_17 cn5 "cursor" "I" (.int 0) := (p16_5.keep K24 (ninS ne34 nin0))
 obtain ⟨fs39, hr39, hrun39, hended39, hW39, hsame39⟩ := X23.leave (v := none) (fun _ => rfl)
 refine ⟨_, _, X23.returnOut hx Bd.returns (hb hby d24_25) hr39, hrun39, hended39, _, _, rfl, ?_, ⟨_, rfl⟩, hW39, hsame39.mono (by decide) (by decide)⟩
 show Q_rmU1I Z wC cC wD kD mA mL mR x1 u al h0 n0 _ T23.heap _
 rw [e23]
 exact ⟨it_17, rfl, N30, kt27, f28, f29, (by omega), f32, f35, f36, f37, f38⟩
theorem own_pd_14 : parseMethodDescriptor "(Ljava/util/Collections$UnmodifiableCollection;)V" = some ⟨[(.object "java/util/Collections$UnmodifiableCollection")], none⟩ := by decide +kernel
theorem d23_0 : decode jdk_119_method_9_code 0 = .ok (.new 44, 3) := by decide +kernel
theorem d23_3 : decode jdk_119_method_9_code 3 = .ok (.dup, 1) := by decide +kernel
theorem d23_4 : decode jdk_119_method_9_code 4 = .ok (.aload_n 0, 1) := by decide +kernel
theorem d23_5 : decode jdk_119_method_9_code 5 = .ok (.invokespecial 46, 3) := by decide +kernel
theorem d23_8 : decode jdk_119_method_9_code 8 = .ok (.areturn, 1) := by decide +kernel
theorem own_ef_rmUIt (m : MethodId) (x0 : Addr) : entryFrame m #[.ref x0] 1 = mkF m 0 #[.val (.ref x0)] [] := by first | (simp [entryFrame, mkF, argsToLocals, Value.category]; done) | rfl
def Q_rmUIt (Z : State) (wC : Addr) (cC : Cell) (wD : Addr) (kD : ClassId) (mA : Addr) (mL : Addr) (mR : Addr) (u : Addr) (al : Addr) (h0 : Heap) (n0 : Nat) (vv_ : Option Value) (hh_ : Heap) (LL_ : List Loc) : Prop := ∃ x1 : Addr, ∃ it : Addr, vv_ = some (.ref x1) ∧ Fr n0 LL_ ∧ Keep h0 hh_ [] ∧ h0.size ≤ x1 ∧ Exa Z hh_ x1 "java/util/Collections$UnmodifiableCollection$1" ∧ Fld Z hh_ x1 "java/util/Collections$UnmodifiableCollection$1" "i" "Ljava/util/Iterator;" (.ref it) ∧ @Ne Nat x1 it ∧ h0.size ≤ it ∧ Exa Z hh_ it "java/util/ArrayList$Itr" ∧ Fld Z hh_ it "java/util/ArrayList$Itr" "this$0" "Ljava/util/ArrayList;" (.ref al) ∧ Fld Z hh_ it "java/util/ArrayList$Itr" "lastRet" "I" (.int (-1)) ∧ Fld Z hh_ it "java/util/ArrayList$Itr" "expectedModCount" "I" (.int 1) ∧ Fld Z hh_ it "java/util/ArrayList$Itr" "cursor" "I" (.int 0)
theorem rmUIt (l : Launch) (Z : State) (a0 : Array Value) (hw : ∀ d ∈ tables_1, d.before a0 Z = true) (ws : List Jvm.Cond) (wC : Addr) (cC : Cell) (wD : Addr) (kD : ClassId) (mA : Addr) (mL : Addr) (mR : Addr) (GS : Glob Z wC cC wD kD mA mL mR) (u : Addr) (al : Addr) (h0 : Heap) (n0 : Nat) (Z0 : n0 ≤ h0.size) (O0 : Old Z n0 h0) (E_u : Exa Z h0 u "java/util/Collections$UnmodifiableRandomAccessList") (E_l : Exa Z h0 al cn2) (Fc : Fld Z h0 u "java/util/Collections$UnmodifiableCollection" "c" "Ljava/util/Collection;" (.ref al)) (Fm : Fld Z h0 al "java/util/AbstractList" "modCount" "I" (.int 1)) :
  MetFree l (⟨"java/util/Collections$UnmodifiableCollection", "iterator", "()Ljava/util/Iterator;"⟩ : MethodName) (head1 (Jvm.Cond.code (⟨"java/util/Collections$UnmodifiableCollection", "iterator", "()Ljava/util/Iterator;"⟩ : MethodName) jdk_119_method_9_code 1 (some (.object "java/util/Iterator")) :: ws) (⟨4, 2, 6, 53⟩ : Room)) (fun aa_ UU_ => aa_ = #[.ref u] ∧ Z.Warmed39 UU_.vm ∧ UU_.heap = h0) (fun _ _ _ _ _ => True) (fun _ UU_ oo_ UV_ => ∃ vv_ LL_, oo_ = .returned vv_ ∧ Q_rmUIt Z wC cC wD kD mA mL mR u al h0 n0 vv_ UV_.heap LL_ ∧ FrameEnd UU_ oo_ UV_ LL_ (⟨4, 2, 6, 53⟩ : Room).cells (⟨4, 2, 6, 53⟩ : Room).slots) := by
 refine MetFree.of_bodySF (plainFor_of_name own_p5) hisR ?_
 intro p e s m args below meth c s₁ Bd hml0 hP hK
 obtain ⟨rfl, hZ, hh⟩ := hP
 have hx := Bd.exec
 have hby := Bd.bytes
 have hml : c.maxLocals = 1 := hml0
 have hown : s.vm.findClass "java/util/Collections$UnmodifiableCollection" = some m.cls := findClass_of_methodNamed Bd.named
 have hnm := (name_of_methodNamed Bd.named Bd.method).1
 have X0 : Stand p l e (⟨4, 2, 6, 53⟩ : Room) s m #[.ref u] below meth c s₁ [] 0 0 := Stand.of_body Bd
 have e0 : s₁.heap = h0 := by rw [← hh, Bd.state]; rfl
 have N0 := Fr.nil n0
 have hn0 : Z.heap.size = n0 := O0.1
 have KT0 : Keep h0 h0 [] := Keep.refl _ _
 refine own_enter (Φ := fun oo_ UV_ => ∃ vv_ LL_, oo_ = .returned vv_ ∧ Q_rmUIt Z wC cC wD kD mA mL mR u al h0 n0 vv_ UV_.heap LL_ ∧ FrameEnd s oo_ UV_ LL_ (⟨4, 2, 6, 53⟩ : Room).cells (⟨4, 2, 6, 53⟩ : Room).slots) (own_ef_rmUIt m u) ?_
 obtain ⟨T1, h1, X1, e1, E1, A1, D1, -, st1⟩ := newO X0 hx hZ hown (ww hw 171 rfl) (ww hw 172 rfl) (ww hw 173 rfl) e0 (g := (mkF m 0 #[vr u] [])) rfl (hb hby d23_0) (by decide) (by decide)
 obtain ⟨b1, g1⟩ : ∃ z, z = h0.size := ⟨_, rfl⟩
 rw [← g1] at A1 D1 st1
 have K2 : Keep h0 h1 [] := own_kext E1
 have zzK2 : h0.size ≤ h1.size := K2.1
 have oo3 : Old Z n0 h1 := O0.keep K2 all0
 have kt4 : Keep h0 h1 [] := KT0.trans K2 all0
 have lab1 : b1 < h1.size := A1.lt
 have f5 : Fld Z h1 b1 cn3 "this$0" "Ljava/util/Collections$UnmodifiableCollection;" .null := D1 (Or.inr (ww hw 179 rfl)) (ty := (.object "java/util/Collections$UnmodifiableCollection")) (by decide)
 have f6 : Fld Z h1 b1 cn3 "i" "Ljava/util/Iterator;" .null := D1 (Or.inr (ww hw 207 rfl)) (ty := (.object "java/util/Iterator")) (by decide)
 refine own_b T1 m 3 #[vr u] [.ref b1] st1 ?_
 refine own_b T1 m 5 #[vr u] [.ref u, .ref b1, .ref b1] (fun _ k_ => XS.dup X1.here hx rfl (hb hby d23_3) rfl rfl (XS.aloadN X1.here hx rfl (hb hby d23_4) rfl rfl k_)) ?_
 have f7 : Exa Z h1 u "java/util/Collections$UnmodifiableRandomAccessList" := (E_u.keep K2)
 have f8 : Exa Z h1 al cn2 := (E_l.keep K2)
 have f9 : Fld Z h1 u "java/util/Collections$UnmodifiableCollection" "c" "Ljava/util/Collection;" (.ref al) := (Fc.keep K2 nin0)
 have f10 : Fld Z h1 al "java/util/AbstractList" "modCount" "I" (.int 1) := (Fm.keep K2 nin0)
 have la11 : @LT.lt Nat instLTNat u h0.size := E_u.lt
 have ne12 : @Ne Nat u b1 := by omega
 have la13 : @LT.lt Nat instLTNat al h0.size := E_l.lt
 have ne14 : @Ne Nat al b1 := by omega
 obtain ⟨_, _, ⟨T15, L15, k15, n15⟩, -, X15, ⟨Lc15, hQ15, l15, y15, z15⟩, st15⟩ := X1.specialBack hx (y := (⟨cn3, "<init>", "(Ljava/util/Collections$UnmodifiableCollection;)V"⟩ : MethodName)) rfl hown (mvT hZ (ww hw 174 rfl)) (mvT hZ (ww hw 175 rfl)) (mvT hZ (ww hw 177 rfl)) (by decide) (backOf (W := 1) (rmU1I l Z a0 hw [] wC cC wD kD mA mL mR GS b1 u al h1 n0 (by omega) oo3 A1 (by omega) f7 f8 f9 f10 f5 f6 ne12 ne14) hZ (ww hw 177 rfl) (ww hw 173 rfl) (by decide) (by decide)) (g := (mkF m 5 #[vr u] [.ref u, .ref b1, .ref b1])) rfl (by rw [hml]; rfl) (Steps.refl _) (a := b1) (argsL := [.ref u]) (rest := [.ref b1]) (lenOf own_pd_14 rfl) rfl (by show 2 * 0 + _ ≤ _; exact Nat.le_of_eq rfl) (hb hby d23_5) (fun _ _ => ⟨rfl, e1, (by decide : 1 + 1 ≤ _), (by decide : 2 + 4 ≤ _)⟩)
 dsimp only [Pt.U, Pt.locs, Pt.cells, Pt.slots] at X15 l15 y15 z15 st15 hQ15
 subst l15 y15 z15
 obtain ⟨it_16, rfl, N15q, K15, p15_0, p15_1, p15_2, p15_3, p15_4, p15_5, p15_6, p15_7⟩ := hQ15
 have N17 := Fr.app N0 N15q
 have git_16 : h1.size ≤ it_16 := p15_2
 have zzK15 : h1.size ≤ T15.heap.size := K15.1
 have oo18 : Old Z n0 T15.heap := oo3.keep K15 (allS (by omega : n0 ≤ b1) all0)
 have kt19 : Keep h0 T15.heap [] := kt4.trans K15 (allS (Or.inr (by omega : h0.size ≤ b1)) all0)
 refine own_b T15 m 8 #[vr u] [.ref b1] (fun _ k_ => st15.trans k_) ?_
 have la20 : @LT.lt Nat instLTNat it_16 T15.heap.size := p15_3.lt
 have ne21 : @Ne Nat b1 it_16 := by omega
 have f22 : Exa Z T15.heap b1 cn3 := (A1.keep K15)
 obtain ⟨fs23, hr23, hrun23, hended23, hW23, hsame23⟩ := X15.leave (v := some (.ref b1)) (fun h => by rw [Bd.returns] at h; cases h)
 refine ⟨_, _, retOut X15 hx (t := (.object "java/util/Iterator")) Bd.returns rfl (Or.inr (Or.inr (Or.inr (Or.inr ⟨rfl, rfl, rfl⟩)))) (hb hby d23_8) hr23, hrun23, hended23, _, _, rfl, ?_, ⟨_, rfl⟩, hW23, hsame23.mono (by decide) (by decide)⟩
 show Q_rmUIt Z wC cC wD kD mA mL mR u al h0 n0 _ T15.heap _
 exact ⟨b1, it_16, rfl, N17, kt19, (by omega), f22, p15_1, (ne21), (by omega), p15_3, p15_4, p15_5, p15_6, p15_7⟩
theorem d28_0 : decode jdk_49_method_2_code 0 = .ok (.aload_n 0, 1) := by decide +kernel
theorem d28_1 : decode jdk_49_method_2_code 1 = .ok (.getfield 25, 3) := by decide +kernel
theorem d28_4 : decode jdk_49_method_2_code 4 = .ok (.aload_n 0, 1) := by decide +kernel
theorem d28_5 : decode jdk_49_method_2_code 5 = .ok (.getfield 1, 3) := by decide +kernel
theorem d28_8 : decode jdk_49_method_2_code 8 = .ok (.getfield 28, 3) := by decide +kernel
theorem d28_11 : decode jdk_49_method_2_code 11 = .ok (.if_icmp .eq 7, 3) := by decide +kernel
theorem d28_14 : decode jdk_49_method_2_code 14 = .ok (.iconst 1, 1) := by decide +kernel
theorem d28_15 : decode jdk_49_method_2_code 15 = .ok (.goto 4, 3) := by decide +kernel
theorem d28_19 : decode jdk_49_method_2_code 19 = .ok (.ireturn, 1) := by decide +kernel
theorem own_ef_rmIHn0 (m : MethodId) (x0 : Addr) : entryFrame m #[.ref x0] 1 = mkF m 0 #[.val (.ref x0)] [] := by first | (simp [entryFrame, mkF, argsToLocals, Value.category]; done) | rfl
def Q_rmIHn0 (Z : State) (wC : Addr) (cC : Cell) (wD : Addr) (kD : ClassId) (mA : Addr) (mL : Addr) (mR : Addr) (it : Addr) (al : Addr) (h0 : Heap) (n0 : Nat) (vv_ : Option Value) (hh_ : Heap) (LL_ : List Loc) : Prop := vv_ = some (.int 1) ∧ Fr n0 LL_ ∧ hh_ = h0
theorem rmIHn0 (l : Launch) (Z : State) (a0 : Array Value) (hw : ∀ d ∈ tables_1, d.before a0 Z = true) (ws : List Jvm.Cond) (wC : Addr) (cC : Cell) (wD : Addr) (kD : ClassId) (mA : Addr) (mL : Addr) (mR : Addr) (GS : Glob Z wC cC wD kD mA mL mR) (it : Addr) (al : Addr) (h0 : Heap) (n0 : Nat) (Z0 : n0 ≤ h0.size) (O0 : Old Z n0 h0) (E_i : Exa Z h0 it cn5) (If0 : Fld Z h0 it cn5 "this$0" "Ljava/util/ArrayList;" (.ref al)) (If1 : Fld Z h0 it cn5 "cursor" "I" (.int 0)) (Fs : Fld Z h0 al cn2 "size" "I" (.int 1)) :
  MetFree l (⟨cn5, "hasNext", "()Z"⟩ : MethodName) (head1 (Jvm.Cond.code (⟨cn5, "hasNext", "()Z"⟩ : MethodName) jdk_49_method_2_code 1 (some .boolean) :: ws) (⟨0, 0, 0, 0⟩ : Room)) (fun aa_ UU_ => aa_ = #[.ref it] ∧ Z.Warmed39 UU_.vm ∧ UU_.heap = h0) (fun _ _ _ _ _ => True) (fun _ UU_ oo_ UV_ => ∃ vv_ LL_, oo_ = .returned vv_ ∧ Q_rmIHn0 Z wC cC wD kD mA mL mR it al h0 n0 vv_ UV_.heap LL_ ∧ FrameEnd UU_ oo_ UV_ LL_ (⟨0, 0, 0, 0⟩ : Room).cells (⟨0, 0, 0, 0⟩ : Room).slots) := by
 refine MetFree.of_bodySF (plainFor_of_name own_p8) hisR ?_
 intro p e s m args below meth c s₁ Bd hml0 hP hK
 obtain ⟨rfl, hZ, hh⟩ := hP
 have hx := Bd.exec
 have hby := Bd.bytes
 have hml : c.maxLocals = 1 := hml0
 have hown : s.vm.findClass cn5 = some m.cls := findClass_of_methodNamed Bd.named
 have hnm := (name_of_methodNamed Bd.named Bd.method).1
 have X0 : Stand p l e (⟨0, 0, 0, 0⟩ : Room) s m #[.ref it] below meth c s₁ [] 0 0 := Stand.of_body Bd
 have e0 : s₁.heap = h0 := by rw [← hh, Bd.state]; rfl
 have N0 := Fr.nil n0
 have hn0 : Z.heap.size = n0 := O0.1
 have KT0 : Keep h0 h0 [] := Keep.refl _ _
 refine own_enter (Φ := fun oo_ UV_ => ∃ vv_ LL_, oo_ = .returned vv_ ∧ Q_rmIHn0 Z wC cC wD kD mA mL mR it al h0 n0 vv_ UV_.heap LL_ ∧ FrameEnd s oo_ UV_ LL_ (⟨0, 0, 0, 0⟩ : Room).cells (⟨0, 0, 0, 0⟩ : Room).slots) (own_ef_rmIHn0 m it) ?_
 refine own_b s₁ m 1 #[vr it] [.ref it] (fun _ k_ => XS.aloadN X0.here hx rfl (hb hby d28_0) rfl rfl k_) ?_
 obtain ⟨T1, X1, e1, st1⟩ := getF X0 hx hZ hown (host := "") (Or.inl (ww hw 224 rfl)) Via.refl e0 If1 (g := (mkF m 1 #[vr it] [.ref it])) rfl rfl (hb hby d28_1)
 refine own_b T1 m 4 #[vr it] [.int 0] st1 ?_
 refine own_b T1 m 5 #[vr it] [.ref it, .int 0] (fun _ k_ => XS.aloadN X1.here hx rfl (hb hby d28_4) rfl rfl k_) ?_
 obtain ⟨T2, X2, e2, st2⟩ := getF X1 hx hZ hown (host := "") (Or.inl (ww hw 198 rfl)) Via.refl e1 If0 (g := (mkF m 5 #[vr it] [.ref it, .int 0])) rfl rfl (hb hby d28_5)
 refine own_b T2 m 8 #[vr it] [.ref al, .int 0] st2 ?_
 obtain ⟨T3, X3, e3, st3⟩ := getF X2 hx hZ hown (Or.inr (ww hw 226 rfl)) Via.refl e2 Fs (g := (mkF m 8 #[vr it] [.ref al, .int 0])) rfl rfl (hb hby d28_8)
 refine own_b T3 m 11 #[vr it] [.int 1, .int 0] st3 ?_
 refine own_b T3 m 19 #[vr it] [.int 1] (fun _ k_ => XS.icmpNo X3.here hx rfl (hb hby d28_11) rfl (XT.ii_eq_f (by decide)) (XS.iconst X3.here hx rfl (hb hby d28_14) (XS.goto X3.here hx rfl (pc0 := 15) (pc' := 19) rfl (hb hby d28_15) (by decide) (by decide) k_))) ?_
 have hn4 : nar .boolean (1 : Int32) = (1 : Int32) := rfl
 obtain ⟨fs5, hr5, hrun5, hended5, hW5, hsame5⟩ := X3.leave (v := some (.int (nar .boolean (1 : Int32)))) (fun h => by rw [Bd.returns] at h; cases h)
 refine ⟨_, _, retN X3 hx (t := .boolean) Bd.returns (by simp) (hb hby d28_19) hr5, hrun5, hended5, _, _, rfl, ?_, ⟨_, rfl⟩, hW5, hsame5.mono (by decide) (by decide)⟩
 show Q_rmIHn0 Z wC cC wD kD mA mL mR it al h0 n0 _ T3.heap _
 exact ⟨(congrArg (fun z => some (Value.int z)) hn4), N0, e3⟩
theorem own_pd_15 : parseMethodDescriptor "()Z" = some ⟨[], some .boolean⟩ := by decide +kernel
theorem d27_0 : decode jdk_135_method_2_code 0 = .ok (.aload_n 0, 1) := by decide +kernel
theorem d27_1 : decode jdk_135_method_2_code 1 = .ok (.getfield 25, 3) := by decide +kernel
theorem d27_4 : decode jdk_135_method_2_code 4 = .ok (.invokeinterface 29 1, 5) := by decide +kernel
theorem d27_9 : decode jdk_135_method_2_code 9 = .ok (.ireturn, 1) := by decide +kernel
theorem own_ef_rmUHn0 (m : MethodId) (x0 : Addr) : entryFrame m #[.ref x0] 1 = mkF m 0 #[.val (.ref x0)] [] := by first | (simp [entryFrame, mkF, argsToLocals, Value.category]; done) | rfl
def Q_rmUHn0 (Z : State) (wC : Addr) (cC : Cell) (wD : Addr) (kD : ClassId) (mA : Addr) (mL : Addr) (mR : Addr) (x1 : Addr) (it : Addr) (al : Addr) (h0 : Heap) (n0 : Nat) (vv_ : Option Value) (hh_ : Heap) (LL_ : List Loc) : Prop := vv_ = some (.int 1) ∧ Fr n0 LL_ ∧ hh_ = h0
theorem rmUHn0 (l : Launch) (Z : State) (a0 : Array Value) (hw : ∀ d ∈ tables_1, d.before a0 Z = true) (ws : List Jvm.Cond) (wC : Addr) (cC : Cell) (wD : Addr) (kD : ClassId) (mA : Addr) (mL : Addr) (mR : Addr) (GS : Glob Z wC cC wD kD mA mL mR) (x1 : Addr) (it : Addr) (al : Addr) (h0 : Heap) (n0 : Nat) (Z0 : n0 ≤ h0.size) (O0 : Old Z n0 h0) (E_x : Exa Z h0 x1 cn3) (Fi : Fld Z h0 x1 cn3 "i" "Ljava/util/Iterator;" (.ref it)) (E_i : Exa Z h0 it cn5) (If0 : Fld Z h0 it cn5 "this$0" "Ljava/util/ArrayList;" (.ref al)) (If1 : Fld Z h0 it cn5 "cursor" "I" (.int 0)) (Fs : Fld Z h0 al cn2 "size" "I" (.int 1)) :
  MetFree l (⟨cn3, "hasNext", "()Z"⟩ : MethodName) (head1 (Jvm.Cond.code (⟨cn3, "hasNext", "()Z"⟩ : MethodName) jdk_135_method_2_code 1 (some .boolean) :: ws) (⟨1, 0, 0, 12⟩ : Room)) (fun aa_ UU_ => aa_ = #[.ref x1] ∧ Z.Warmed39 UU_.vm ∧ UU_.heap = h0) (fun _ _ _ _ _ => True) (fun _ UU_ oo_ UV_ => ∃ vv_ LL_, oo_ = .returned vv_ ∧ Q_rmUHn0 Z wC cC wD kD mA mL mR x1 it al h0 n0 vv_ UV_.heap LL_ ∧ FrameEnd UU_ oo_ UV_ LL_ (⟨1, 0, 0, 12⟩ : Room).cells (⟨1, 0, 0, 12⟩ : Room).slots) := by
 refine MetFree.of_bodySF (plainFor_of_name own_p4) hisR ?_
 intro p e s m args below meth c s₁ Bd hml0 hP hK
 obtain ⟨rfl, hZ, hh⟩ := hP
 have hx := Bd.exec
 have hby := Bd.bytes
 have hml : c.maxLocals = 1 := hml0
 have hown : s.vm.findClass cn3 = some m.cls := findClass_of_methodNamed Bd.named
 have hnm := (name_of_methodNamed Bd.named Bd.method).1
 have X0 : Stand p l e (⟨1, 0, 0, 12⟩ : Room) s m #[.ref x1] below meth c s₁ [] 0 0 := Stand.of_body Bd
 have e0 : s₁.heap = h0 := by rw [← hh, Bd.state]; rfl
 have N0 := Fr.nil n0
 have hn0 : Z.heap.size = n0 := O0.1
 have KT0 : Keep h0 h0 [] := Keep.refl _ _
 refine own_enter (Φ := fun oo_ UV_ => ∃ vv_ LL_, oo_ = .returned vv_ ∧ Q_rmUHn0 Z wC cC wD kD mA mL mR x1 it al h0 n0 vv_ UV_.heap LL_ ∧ FrameEnd s oo_ UV_ LL_ (⟨1, 0, 0, 12⟩ : Room).cells (⟨1, 0, 0, 12⟩ : Room).slots) (own_ef_rmUHn0 m x1) ?_
 refine own_b s₁ m 1 #[vr x1] [.ref x1] (fun _ k_ => XS.aloadN X0.here hx rfl (hb hby d27_0) rfl rfl k_) ?_
 obtain ⟨T1, X1, e1, st1⟩ := getF X0 hx hZ hown (host := "") (Or.inl (ww hw 206 rfl)) Via.refl e0 Fi (g := (mkF m 1 #[vr x1] [.ref x1])) rfl rfl (hb hby d27_1)
 refine own_b T1 m 4 #[vr x1] [.ref it] st1 ?_
 obtain ⟨cq2, kq2, q2a, q2b, q2c⟩ := isOf hZ e1 E_i
 obtain ⟨_, _, ⟨T2, L2, k2, n2⟩, -, X2, ⟨Lc2, hQ2, l2, y2, z2⟩, st2⟩ := X1.interfaceBack hx (xi := (⟨"java/util/Iterator", "hasNext", "()Z"⟩ : MethodName)) (y := (⟨cn5, "hasNext", "()Z"⟩ : MethodName)) hown (mvT hZ (ww hw 217 rfl)) (mvT hZ (ww hw 209 rfl)) (mvT hZ (ww hw 210 rfl)) (mvT hZ (ww hw 218 rfl)) (mvT hZ (ww hw 219 rfl)) (mvT hZ (ww hw 220 rfl)) (mvT hZ (ww hw 221 rfl)) (mvT hZ (ww hw 222 rfl)) (by decide) (backOf (W := 0) (rmIHn0 l Z a0 hw [] wC cC wD kD mA mL mR GS it al h0 n0 (by omega) O0 E_i If0 If1 Fs) hZ (ww hw 223 rfl) (ww hw 193 rfl) (by decide) (by decide)) q2a q2b q2c (g := (mkF m 4 #[vr x1] [.ref it])) rfl (by rw [hml]; rfl) (Steps.refl _) (argsL := []) (rest := []) (lenOf own_pd_15 rfl) rfl (by show 2 * 0 + _ ≤ _; exact Nat.le_of_eq rfl) (hb hby d27_4) (fun _ _ => ⟨rfl, e1, (by decide : 0 + 0 ≤ _), (by decide : 0 + 0 ≤ _)⟩)
 dsimp only [Pt.U, Pt.locs, Pt.cells, Pt.slots] at X2 l2 y2 z2 st2 hQ2
 subst l2 y2 z2
 obtain ⟨rfl, N2q, e2⟩ := hQ2
 have N3 := Fr.app N0 N2q
 refine own_b T2 m 9 #[vr x1] [.int 1] (fun _ k_ => st2.trans k_) ?_
 have hn4 : nar .boolean (1 : Int32) = (1 : Int32) := rfl
 obtain ⟨fs5, hr5, hrun5, hended5, hW5, hsame5⟩ := X2.leave (v := some (.int (nar .boolean (1 : Int32)))) (fun h => by rw [Bd.returns] at h; cases h)
 refine ⟨_, _, retN X2 hx (t := .boolean) Bd.returns (by simp) (hb hby d27_9) hr5, hrun5, hended5, _, _, rfl, ?_, ⟨_, rfl⟩, hW5, hsame5.mono (by decide) (by decide)⟩
 show Q_rmUHn0 Z wC cC wD kD mA mL mR x1 it al h0 n0 _ T2.heap _
 exact ⟨(congrArg (fun z => some (Value.int z)) hn4), N3, e2⟩
theorem d28_18 : decode jdk_49_method_2_code 18 = .ok (.iconst 0, 1) := by decide +kernel
theorem own_ef_rmIHn1 (m : MethodId) (x0 : Addr) : entryFrame m #[.ref x0] 1 = mkF m 0 #[.val (.ref x0)] [] := by first | (simp [entryFrame, mkF, argsToLocals, Value.category]; done) | rfl
def Q_rmIHn1 (Z : State) (wC : Addr) (cC : Cell) (wD : Addr) (kD : ClassId) (mA : Addr) (mL : Addr) (mR : Addr) (it : Addr) (al : Addr) (h0 : Heap) (n0 : Nat) (vv_ : Option Value) (hh_ : Heap) (LL_ : List Loc) : Prop := vv_ = some (.int 0) ∧ Fr n0 LL_ ∧ hh_ = h0
theorem rmIHn1 (l : Launch) (Z : State) (a0 : Array Value) (hw : ∀ d ∈ tables_1, d.before a0 Z = true) (ws : List Jvm.Cond) (wC : Addr) (cC : Cell) (wD : Addr) (kD : ClassId) (mA : Addr) (mL : Addr) (mR : Addr) (GS : Glob Z wC cC wD kD mA mL mR) (it : Addr) (al : Addr) (h0 : Heap) (n0 : Nat) (Z0 : n0 ≤ h0.size) (O0 : Old Z n0 h0) (E_i : Exa Z h0 it cn5) (If0 : Fld Z h0 it cn5 "this$0" "Ljava/util/ArrayList;" (.ref al)) (If1 : Fld Z h0 it cn5 "cursor" "I" (.int 1)) (Fs : Fld Z h0 al cn2 "size" "I" (.int 1)) :
  MetFree l (⟨cn5, "hasNext", "()Z"⟩ : MethodName) (head1 (Jvm.Cond.code (⟨cn5, "hasNext", "()Z"⟩ : MethodName) jdk_49_method_2_code 1 (some .boolean) :: ws) (⟨0, 0, 0, 0⟩ : Room)) (fun aa_ UU_ => aa_ = #[.ref it] ∧ Z.Warmed39 UU_.vm ∧ UU_.heap = h0) (fun _ _ _ _ _ => True) (fun _ UU_ oo_ UV_ => ∃ vv_ LL_, oo_ = .returned vv_ ∧ Q_rmIHn1 Z wC cC wD kD mA mL mR it al h0 n0 vv_ UV_.heap LL_ ∧ FrameEnd UU_ oo_ UV_ LL_ (⟨0, 0, 0, 0⟩ : Room).cells (⟨0, 0, 0, 0⟩ : Room).slots) := by
 refine MetFree.of_bodySF (plainFor_of_name own_p8) hisR ?_
 intro p e s m args below meth c s₁ Bd hml0 hP hK
 obtain ⟨rfl, hZ, hh⟩ := hP
 have hx := Bd.exec
 have hby := Bd.bytes
 have hml : c.maxLocals = 1 := hml0
 have hown : s.vm.findClass cn5 = some m.cls := findClass_of_methodNamed Bd.named
 have hnm := (name_of_methodNamed Bd.named Bd.method).1
 have X0 : Stand p l e (⟨0, 0, 0, 0⟩ : Room) s m #[.ref it] below meth c s₁ [] 0 0 := Stand.of_body Bd
 have e0 : s₁.heap = h0 := by rw [← hh, Bd.state]; rfl
 have N0 := Fr.nil n0
 have hn0 : Z.heap.size = n0 := O0.1
 have KT0 : Keep h0 h0 [] := Keep.refl _ _
 refine own_enter (Φ := fun oo_ UV_ => ∃ vv_ LL_, oo_ = .returned vv_ ∧ Q_rmIHn1 Z wC cC wD kD mA mL mR it al h0 n0 vv_ UV_.heap LL_ ∧ FrameEnd s oo_ UV_ LL_ (⟨0, 0, 0, 0⟩ : Room).cells (⟨0, 0, 0, 0⟩ : Room).slots) (own_ef_rmIHn1 m it) ?_
 refine own_b s₁ m 1 #[vr it] [.ref it] (fun _ k_ => XS.aloadN X0.here hx rfl (hb hby d28_0) rfl rfl k_) ?_
 obtain ⟨T1, X1, e1, st1⟩ := getF X0 hx hZ hown (host := "") (Or.inl (ww hw 224 rfl)) Via.refl e0 If1 (g := (mkF m 1 #[vr it] [.ref it])) rfl rfl (hb hby d28_1)
 refine own_b T1 m 4 #[vr it] [.int 1] st1 ?_
 refine own_b T1 m 5 #[vr it] [.ref it, .int 1] (fun _ k_ => XS.aloadN X1.here hx rfl (hb hby d28_4) rfl rfl k_) ?_
 obtain ⟨T2, X2, e2, st2⟩ := getF X1 hx hZ hown (host := "") (Or.inl (ww hw 198 rfl)) Via.refl e1 If0 (g := (mkF m 5 #[vr it] [.ref it, .int 1])) rfl rfl (hb hby d28_5)
 refine own_b T2 m 8 #[vr it] [.ref al, .int 1] st2 ?_
 obtain ⟨T3, X3, e3, st3⟩ := getF X2 hx hZ hown (Or.inr (ww hw 226 rfl)) Via.refl e2 Fs (g := (mkF m 8 #[vr it] [.ref al, .int 1])) rfl rfl (hb hby d28_8)
 refine own_b T3 m 11 #[vr it] [.int 1, .int 1] st3 ?_
 refine own_b T3 m 19 #[vr it] [.int 0] (fun _ k_ => XS.icmpYes X3.here hx rfl (pc0 := 11) (pc' := 18) rfl (hb hby d28_11) rfl (XT.ii_eq_t (by decide)) (by decide) (by decide) (XS.iconst X3.here hx rfl (hb hby d28_18) k_)) ?_
 have hn4 : nar .boolean (0 : Int32) = (0 : Int32) := rfl
 obtain ⟨fs5, hr5, hrun5, hended5, hW5, hsame5⟩ := X3.leave (v := some (.int (nar .boolean (0 : Int32)))) (fun h => by rw [Bd.returns] at h; cases h)
 refine ⟨_, _, retN X3 hx (t := .boolean) Bd.returns (by simp) (hb hby d28_19) hr5, hrun5, hended5, _, _, rfl, ?_, ⟨_, rfl⟩, hW5, hsame5.mono (by decide) (by decide)⟩
 show Q_rmIHn1 Z wC cC wD kD mA mL mR it al h0 n0 _ T3.heap _
 exact ⟨(congrArg (fun z => some (Value.int z)) hn4), N0, e3⟩
theorem own_ef_rmUHn1 (m : MethodId) (x0 : Addr) : entryFrame m #[.ref x0] 1 = mkF m 0 #[.val (.ref x0)] [] := by first | (simp [entryFrame, mkF, argsToLocals, Value.category]; done) | rfl
def Q_rmUHn1 (Z : State) (wC : Addr) (cC : Cell) (wD : Addr) (kD : ClassId) (mA : Addr) (mL : Addr) (mR : Addr) (x1 : Addr) (it : Addr) (al : Addr) (h0 : Heap) (n0 : Nat) (vv_ : Option Value) (hh_ : Heap) (LL_ : List Loc) : Prop := vv_ = some (.int 0) ∧ Fr n0 LL_ ∧ hh_ = h0
theorem rmUHn1 (l : Launch) (Z : State) (a0 : Array Value) (hw : ∀ d ∈ tables_1, d.before a0 Z = true) (ws : List Jvm.Cond) (wC : Addr) (cC : Cell) (wD : Addr) (kD : ClassId) (mA : Addr) (mL : Addr) (mR : Addr) (GS : Glob Z wC cC wD kD mA mL mR) (x1 : Addr) (it : Addr) (al : Addr) (h0 : Heap) (n0 : Nat) (Z0 : n0 ≤ h0.size) (O0 : Old Z n0 h0) (E_x : Exa Z h0 x1 cn3) (Fi : Fld Z h0 x1 cn3 "i" "Ljava/util/Iterator;" (.ref it)) (E_i : Exa Z h0 it cn5) (If0 : Fld Z h0 it cn5 "this$0" "Ljava/util/ArrayList;" (.ref al)) (If1 : Fld Z h0 it cn5 "cursor" "I" (.int 1)) (Fs : Fld Z h0 al cn2 "size" "I" (.int 1)) :
  MetFree l (⟨cn3, "hasNext", "()Z"⟩ : MethodName) (head1 (Jvm.Cond.code (⟨cn3, "hasNext", "()Z"⟩ : MethodName) jdk_135_method_2_code 1 (some .boolean) :: ws) (⟨1, 0, 0, 12⟩ : Room)) (fun aa_ UU_ => aa_ = #[.ref x1] ∧ Z.Warmed39 UU_.vm ∧ UU_.heap = h0) (fun _ _ _ _ _ => True) (fun _ UU_ oo_ UV_ => ∃ vv_ LL_, oo_ = .returned vv_ ∧ Q_rmUHn1 Z wC cC wD kD mA mL mR x1 it al h0 n0 vv_ UV_.heap LL_ ∧ FrameEnd UU_ oo_ UV_ LL_ (⟨1, 0, 0, 12⟩ : Room).cells (⟨1, 0, 0, 12⟩ : Room).slots) := by
 refine MetFree.of_bodySF (plainFor_of_name own_p4) hisR ?_
 intro p e s m args below meth c s₁ Bd hml0 hP hK
 obtain ⟨rfl, hZ, hh⟩ := hP
 have hx := Bd.exec
 have hby := Bd.bytes
 have hml : c.maxLocals = 1 := hml0
 have hown : s.vm.findClass cn3 = some m.cls := findClass_of_methodNamed Bd.named
 have hnm := (name_of_methodNamed Bd.named Bd.method).1
 have X0 : Stand p l e (⟨1, 0, 0, 12⟩ : Room) s m #[.ref x1] below meth c s₁ [] 0 0 := Stand.of_body Bd
 have e0 : s₁.heap = h0 := by rw [← hh, Bd.state]; rfl
 have N0 := Fr.nil n0
 have hn0 : Z.heap.size = n0 := O0.1
 have KT0 : Keep h0 h0 [] := Keep.refl _ _
 refine own_enter (Φ := fun oo_ UV_ => ∃ vv_ LL_, oo_ = .returned vv_ ∧ Q_rmUHn1 Z wC cC wD kD mA mL mR x1 it al h0 n0 vv_ UV_.heap LL_ ∧ FrameEnd s oo_ UV_ LL_ (⟨1, 0, 0, 12⟩ : Room).cells (⟨1, 0, 0, 12⟩ : Room).slots) (own_ef_rmUHn1 m x1) ?_
 refine own_b s₁ m 1 #[vr x1] [.ref x1] (fun _ k_ => XS.aloadN X0.here hx rfl (hb hby d27_0) rfl rfl k_) ?_
 obtain ⟨T1, X1, e1, st1⟩ := getF X0 hx hZ hown (host := "") (Or.inl (ww hw 206 rfl)) Via.refl e0 Fi (g := (mkF m 1 #[vr x1] [.ref x1])) rfl rfl (hb hby d27_1)
 refine own_b T1 m 4 #[vr x1] [.ref it] st1 ?_
 obtain ⟨cq2, kq2, q2a, q2b, q2c⟩ := isOf hZ e1 E_i
 obtain ⟨_, _, ⟨T2, L2, k2, n2⟩, -, X2, ⟨Lc2, hQ2, l2, y2, z2⟩, st2⟩ := X1.interfaceBack hx (xi := (⟨"java/util/Iterator", "hasNext", "()Z"⟩ : MethodName)) (y := (⟨cn5, "hasNext", "()Z"⟩ : MethodName)) hown (mvT hZ (ww hw 217 rfl)) (mvT hZ (ww hw 209 rfl)) (mvT hZ (ww hw 210 rfl)) (mvT hZ (ww hw 218 rfl)) (mvT hZ (ww hw 219 rfl)) (mvT hZ (ww hw 220 rfl)) (mvT hZ (ww hw 221 rfl)) (mvT hZ (ww hw 222 rfl)) (by decide) (backOf (W := 0) (rmIHn1 l Z a0 hw [] wC cC wD kD mA mL mR GS it al h0 n0 (by omega) O0 E_i If0 If1 Fs) hZ (ww hw 223 rfl) (ww hw 193 rfl) (by decide) (by decide)) q2a q2b q2c (g := (mkF m 4 #[vr x1] [.ref it])) rfl (by rw [hml]; rfl) (Steps.refl _) (argsL := []) (rest := []) (lenOf own_pd_15 rfl) rfl (by show 2 * 0 + _ ≤ _; exact Nat.le_of_eq rfl) (hb hby d27_4) (fun _ _ => ⟨rfl, e1, (by decide : 0 + 0 ≤ _), (by decide : 0 + 0 ≤ _)⟩)
 dsimp only [Pt.U, Pt.locs, Pt.cells, Pt.slots] at X2 l2 y2 z2 st2 hQ2
 subst l2 y2 z2
 obtain ⟨rfl, N2q, e2⟩ := hQ2
 have N3 := Fr.app N0 N2q
 refine own_b T2 m 9 #[vr x1] [.int 0] (fun _ k_ => st2.trans k_) ?_
 have hn4 : nar .boolean (0 : Int32) = (0 : Int32) := rfl
 obtain ⟨fs5, hr5, hrun5, hended5, hW5, hsame5⟩ := X2.leave (v := some (.int (nar .boolean (0 : Int32)))) (fun h => by rw [Bd.returns] at h; cases h)
 refine ⟨_, _, retN X2 hx (t := .boolean) Bd.returns (by simp) (hb hby d27_9) hr5, hrun5, hended5, _, _, rfl, ?_, ⟨_, rfl⟩, hW5, hsame5.mono (by decide) (by decide)⟩
 show Q_rmUHn1 Z wC cC wD kD mA mL mR x1 it al h0 n0 _ T2.heap _
 exact ⟨(congrArg (fun z => some (Value.int z)) hn4), N3, e2⟩
theorem d31_0 : decode jdk_49_method_6_code 0 = .ok (.aload_n 0, 1) := by decide +kernel
theorem d31_1 : decode jdk_49_method_6_code 1 = .ok (.getfield 1, 3) := by decide +kernel
theorem d31_4 : decode jdk_49_method_6_code 4 = .ok (.getfield 17, 3) := by decide +kernel
theorem d31_7 : decode jdk_49_method_6_code 7 = .ok (.aload_n 0, 1) := by decide +kernel
theorem d31_8 : decode jdk_49_method_6_code 8 = .ok (.getfield 22, 3) := by decide +kernel
theorem d31_11 : decode jdk_49_method_6_code 11 = .ok (.if_icmp .eq 11, 3) := by decide +kernel
theorem d31_22 : decode jdk_49_method_6_code 22 = .ok (.return_, 1) := by decide +kernel
theorem own_ef_rmCfc (m : MethodId) (x0 : Addr) : entryFrame m #[.ref x0] 1 = mkF m 0 #[.val (.ref x0)] [] := by first | (simp [entryFrame, mkF, argsToLocals, Value.category]; done) | rfl
def Q_rmCfc (Z : State) (wC : Addr) (cC : Cell) (wD : Addr) (kD : ClassId) (mA : Addr) (mL : Addr) (mR : Addr) (it : Addr) (al : Addr) (h0 : Heap) (n0 : Nat) (vv_ : Option Value) (hh_ : Heap) (LL_ : List Loc) : Prop := vv_ = none ∧ Fr n0 LL_ ∧ hh_ = h0
theorem rmCfc (l : Launch) (Z : State) (a0 : Array Value) (hw : ∀ d ∈ tables_1, d.before a0 Z = true) (ws : List Jvm.Cond) (wC : Addr) (cC : Cell) (wD : Addr) (kD : ClassId) (mA : Addr) (mL : Addr) (mR : Addr) (GS : Glob Z wC cC wD kD mA mL mR) (it : Addr) (al : Addr) (h0 : Heap) (n0 : Nat) (Z0 : n0 ≤ h0.size) (O0 : Old Z n0 h0) (E_i : Exa Z h0 it cn5) (If0 : Fld Z h0 it cn5 "this$0" "Ljava/util/ArrayList;" (.ref al)) (If1 : Fld Z h0 it cn5 "expectedModCount" "I" (.int 1)) (Fm : Fld Z h0 al "java/util/AbstractList" "modCount" "I" (.int 1)) :
  MetFree l (⟨cn5, "checkForComodification", "()V"⟩ : MethodName) (head1 (Jvm.Cond.code (⟨cn5, "checkForComodification", "()V"⟩ : MethodName) jdk_49_method_6_code 1 none :: ws) (⟨0, 0, 0, 0⟩ : Room)) (fun aa_ UU_ => aa_ = #[.ref it] ∧ Z.Warmed39 UU_.vm ∧ UU_.heap = h0) (fun _ _ _ _ _ => True) (fun _ UU_ oo_ UV_ => ∃ vv_ LL_, oo_ = .returned vv_ ∧ Q_rmCfc Z wC cC wD kD mA mL mR it al h0 n0 vv_ UV_.heap LL_ ∧ FrameEnd UU_ oo_ UV_ LL_ (⟨0, 0, 0, 0⟩ : Room).cells (⟨0, 0, 0, 0⟩ : Room).slots) := by
 refine MetFree.of_bodySF (plainFor_of_name own_p8) hisR ?_
 intro p e s m args below meth c s₁ Bd hml0 hP hK
 obtain ⟨rfl, hZ, hh⟩ := hP
 have hx := Bd.exec
 have hby := Bd.bytes
 have hml : c.maxLocals = 1 := hml0
 have hown : s.vm.findClass cn5 = some m.cls := findClass_of_methodNamed Bd.named
 have hnm := (name_of_methodNamed Bd.named Bd.method).1
 have X0 : Stand p l e (⟨0, 0, 0, 0⟩ : Room) s m #[.ref it] below meth c s₁ [] 0 0 := Stand.of_body Bd
 have e0 : s₁.heap = h0 := by rw [← hh, Bd.state]; rfl
 have N0 := Fr.nil n0
 have hn0 : Z.heap.size = n0 := O0.1
 have KT0 : Keep h0 h0 [] := Keep.refl _ _
 refine own_enter (Φ := fun oo_ UV_ => ∃ vv_ LL_, oo_ = .returned vv_ ∧ Q_rmCfc Z wC cC wD kD mA mL mR it al h0 n0 vv_ UV_.heap LL_ ∧ FrameEnd s oo_ UV_ LL_ (⟨0, 0, 0, 0⟩ : Room).cells (⟨0, 0, 0, 0⟩ : Room).slots) (own_ef_rmCfc m it) ?_
 refine own_b s₁ m 1 #[vr it] [.ref it] (fun _ k_ => XS.aloadN X0.here hx rfl (hb hby d31_0) rfl rfl k_) ?_
 obtain ⟨T1, X1, e1, st1⟩ := getF X0 hx hZ hown (host := "") (Or.inl (ww hw 198 rfl)) Via.refl e0 If0 (g := (mkF m 1 #[vr it] [.ref it])) rfl rfl (hb hby d31_1)
 refine own_b T1 m 4 #[vr it] [.ref al] st1 ?_
 obtain ⟨T2, X2, e2, st2⟩ := getF X1 hx hZ hown (host := "") (Or.inl (ww hw 203 rfl)) (Via.of (ww hw 76 rfl)) e1 Fm (g := (mkF m 4 #[vr it] [.ref al])) rfl rfl (hb hby d31_4)
 refine own_b T2 m 7 #[vr it] [.int 1] st2 ?_
 refine own_b T2 m 8 #[vr it] [.ref it, .int 1] (fun _ k_ => XS.aloadN X2.here hx rfl (hb hby d31_7) rfl rfl k_) ?_
 obtain ⟨T3, X3, e3, st3⟩ := getF X2 hx hZ hown (host := "") (Or.inl (ww hw 204 rfl)) Via.refl e2 If1 (g := (mkF m 8 #[vr it] [.ref it, .int 1])) rfl rfl (hb hby d31_8)
 refine own_b T3 m 11 #[vr it] [.int 1, .int 1] st3 ?_
 refine own_b T3 m 22 #[vr it] [] (fun _ k_ => XS.icmpYes X3.here hx rfl (pc0 := 11) (pc' := 22) rfl (hb hby d31_11) rfl (XT.ii_eq_t (by decide)) (by decide) (by decide) k_) ?_
 obtain ⟨fs4, hr4, hrun4, hended4, hW4, hsame4⟩ := X3.leave (v := none) (fun _ => rfl)
 refine ⟨_, _, X3.returnOut hx Bd.returns (hb hby d31_22) hr4, hrun4, hended4, _, _, rfl, ?_, ⟨_, rfl⟩, hW4, hsame4.mono (by decide) (by decide)⟩
 show Q_rmCfc Z wC cC wD kD mA mL mR it al h0 n0 _ T3.heap _
 exact ⟨rfl, N0, e3⟩
theorem d30_0 : decode jdk_49_method_3_code 0 = .ok (.aload_n 0, 1) := by decide +kernel
theorem d30_1 : decode jdk_49_method_3_code 1 = .ok (.invokevirtual 31, 3) := by decide +kernel
theorem d30_4 : decode jdk_49_method_3_code 4 = .ok (.aload_n 0, 1) := by decide +kernel
theorem d30_5 : decode jdk_49_method_3_code 5 = .ok (.getfield 25, 3) := by decide +kernel
theorem d30_8 : decode jdk_49_method_3_code 8 = .ok (.istore_n 1, 1) := by decide +kernel
theorem d30_9 : decode jdk_49_method_3_code 9 = .ok (.iload_n 1, 1) := by decide +kernel
theorem d30_10 : decode jdk_49_method_3_code 10 = .ok (.aload_n 0, 1) := by decide +kernel
theorem d30_11 : decode jdk_49_method_3_code 11 = .ok (.getfield 1, 3) := by decide +kernel
theorem d30_14 : decode jdk_49_method_3_code 14 = .ok (.getfield 28, 3) := by decide +kernel
theorem d30_17 : decode jdk_49_method_3_code 17 = .ok (.if_icmp .lt 11, 3) := by decide +kernel
theorem d30_28 : decode jdk_49_method_3_code 28 = .ok (.aload_n 0, 1) := by decide +kernel
theorem d30_29 : decode jdk_49_method_3_code 29 = .ok (.getfield 1, 3) := by decide +kernel
theorem d30_32 : decode jdk_49_method_3_code 32 = .ok (.getfield 37, 3) := by decide +kernel
theorem d30_35 : decode jdk_49_method_3_code 35 = .ok (.astore_n 2, 1) := by decide +kernel
theorem d30_36 : decode jdk_49_method_3_code 36 = .ok (.iload_n 1, 1) := by decide +kernel
theorem d30_37 : decode jdk_49_method_3_code 37 = .ok (.aload_n 2, 1) := by decide +kernel
theorem d30_38 : decode jdk_49_method_3_code 38 = .ok (.arraylength, 1) := by decide +kernel
theorem d30_39 : decode jdk_49_method_3_code 39 = .ok (.if_icmp .lt 11, 3) := by decide +kernel
theorem d30_50 : decode jdk_49_method_3_code 50 = .ok (.aload_n 0, 1) := by decide +kernel
theorem d30_51 : decode jdk_49_method_3_code 51 = .ok (.iload_n 1, 1) := by decide +kernel
theorem d30_52 : decode jdk_49_method_3_code 52 = .ok (.iconst 1, 1) := by decide +kernel
theorem d30_53 : decode jdk_49_method_3_code 53 = .ok (.iadd, 1) := by decide +kernel
theorem d30_54 : decode jdk_49_method_3_code 54 = .ok (.putfield 25, 3) := by decide +kernel
theorem d30_57 : decode jdk_49_method_3_code 57 = .ok (.aload_n 2, 1) := by decide +kernel
theorem d30_58 : decode jdk_49_method_3_code 58 = .ok (.aload_n 0, 1) := by decide +kernel
theorem d30_59 : decode jdk_49_method_3_code 59 = .ok (.iload_n 1, 1) := by decide +kernel
theorem d30_60 : decode jdk_49_method_3_code 60 = .ok (.dup_x1, 1) := by decide +kernel
theorem d30_61 : decode jdk_49_method_3_code 61 = .ok (.putfield 13, 3) := by decide +kernel
theorem d30_64 : decode jdk_49_method_3_code 64 = .ok (.aaload, 1) := by decide +kernel
theorem d30_65 : decode jdk_49_method_3_code 65 = .ok (.areturn, 1) := by decide +kernel
theorem own_ef_rmINx (m : MethodId) (x0 : Addr) : entryFrame m #[.ref x0] 3 = mkF m 0 #[.val (.ref x0), .unset, .unset] [] := by first | (simp [entryFrame, mkF, argsToLocals, Value.category]; done) | rfl
def Q_rmINx (Z : State) (wC : Addr) (cC : Cell) (wD : Addr) (kD : ClassId) (mA : Addr) (mL : Addr) (mR : Addr) (it : Addr) (al : Addr) (t : Addr) (kE : ClassId) (b : Addr) (h0 : Heap) (n0 : Nat) (vv_ : Option Value) (hh_ : Heap) (LL_ : List Loc) : Prop := vv_ = some (.ref b) ∧ Fr n0 LL_ ∧ Keep h0 hh_ [it] ∧ Fld Z hh_ it "java/util/ArrayList$Itr" "this$0" "Ljava/util/ArrayList;" (.ref al) ∧ Fld Z hh_ it "java/util/ArrayList$Itr" "lastRet" "I" (.int 0) ∧ Fld Z hh_ it "java/util/ArrayList$Itr" "expectedModCount" "I" (.int 1) ∧ Fld Z hh_ it "java/util/ArrayList$Itr" "cursor" "I" (.int 1)
theorem rmINx (l : Launch) (Z : State) (a0 : Array Value) (hw : ∀ d ∈ tables_1, d.before a0 Z = true) (ws : List Jvm.Cond) (wC : Addr) (cC : Cell) (wD : Addr) (kD : ClassId) (mA : Addr) (mL : Addr) (mR : Addr) (GS : Glob Z wC cC wD kD mA mL mR) (it : Addr) (al : Addr) (t : Addr) (kE : ClassId) (b : Addr) (h0 : Heap) (n0 : Nat) (Z0 : n0 ≤ h0.size) (O0 : Old Z n0 h0) (E_i : Exa Z h0 it cn5) (g_i : n0 ≤ it) (If0 : Fld Z h0 it cn5 "this$0" "Ljava/util/ArrayList;" (.ref al)) (If1 : Fld Z h0 it cn5 "lastRet" "I" (.int (-1))) (If2 : Fld Z h0 it cn5 "expectedModCount" "I" (.int 1)) (If3 : Fld Z h0 it cn5 "cursor" "I" (.int 0)) (E_l : Exa Z h0 al cn2) (Fm : Fld Z h0 al "java/util/AbstractList" "modCount" "I" (.int 1)) (Fs : Fld Z h0 al cn2 "size" "I" (.int 1)) (Fe : Fld Z h0 al cn2 "elementData" "[Ljava/lang/Object;" (.ref t)) (Vt : Arv Z h0 t kE (.object "java/lang/Object") (10 : Int32) [.ref b, .null, .null, .null, .null, .null, .null, .null, .null, .null] .null) (nit : @Ne Nat al it) (ntt : @Ne Nat t it) :
  MetFree l (⟨cn5, "next", "()Ljava/lang/Object;"⟩ : MethodName) (head1 (Jvm.Cond.code (⟨cn5, "next", "()Ljava/lang/Object;"⟩ : MethodName) jdk_49_method_3_code 3 (some (.object "java/lang/Object")) :: ws) (⟨1, 0, 0, 12⟩ : Room)) (fun aa_ UU_ => aa_ = #[.ref it] ∧ Z.Warmed39 UU_.vm ∧ UU_.heap = h0) (fun _ _ _ _ _ => True) (fun _ UU_ oo_ UV_ => ∃ vv_ LL_, oo_ = .returned vv_ ∧ Q_rmINx Z wC cC wD kD mA mL mR it al t kE b h0 n0 vv_ UV_.heap LL_ ∧ FrameEnd UU_ oo_ UV_ LL_ (⟨1, 0, 0, 12⟩ : Room).cells (⟨1, 0, 0, 12⟩ : Room).slots) := by
 refine MetFree.of_bodySF (plainFor_of_name own_p8) hisR ?_
 intro p e s m args below meth c s₁ Bd hml0 hP hK
 obtain ⟨rfl, hZ, hh⟩ := hP
 have hx := Bd.exec
 have hby := Bd.bytes
 have hml : c.maxLocals = 3 := hml0
 have hown : s.vm.findClass cn5 = some m.cls := findClass_of_methodNamed Bd.named
 have hnm := (name_of_methodNamed Bd.named Bd.method).1
 have X0 : Stand p l e (⟨1, 0, 0, 12⟩ : Room) s m #[.ref it] below meth c s₁ [] 0 0 := Stand.of_body Bd
 have e0 : s₁.heap = h0 := by rw [← hh, Bd.state]; rfl
 have N0 := Fr.nil n0
 have hn0 : Z.heap.size = n0 := O0.1
 have KT0 : Keep h0 h0 [it] := Keep.refl _ _
 refine own_enter (Φ := fun oo_ UV_ => ∃ vv_ LL_, oo_ = .returned vv_ ∧ Q_rmINx Z wC cC wD kD mA mL mR it al t kE b h0 n0 vv_ UV_.heap LL_ ∧ FrameEnd s oo_ UV_ LL_ (⟨1, 0, 0, 12⟩ : Room).cells (⟨1, 0, 0, 12⟩ : Room).slots) (own_ef_rmINx m it) ?_
 have ne1 : al ≠ it := nit
 have ne2 : t ≠ it := ntt
 refine own_b s₁ m 1 #[vr it, un, un] [.ref it] (fun _ k_ => XS.aloadN X0.here hx rfl (hb hby d30_0) rfl rfl k_) ?_
 obtain ⟨cq3, kq3, q3a, q3b, q3c⟩ := isOf hZ e0 E_i
 obtain ⟨_, _, ⟨T3, L3, k3, n3⟩, -, X3, ⟨Lc3, hQ3, l3, y3, z3⟩, st3⟩ := X0.virtualBack hx (y := (⟨cn5, "checkForComodification", "()V"⟩ : MethodName)) (z := (⟨cn5, "checkForComodification", "()V"⟩ : MethodName)) hown (mvT hZ (ww hw 241 rfl)) (mvT hZ (ww hw 242 rfl)) (notFace_of_selects (args := #[]) (mvT hZ (ww hw 244 rfl))) (mvT hZ (ww hw 244 rfl)) (mvT hZ (ww hw 243 rfl)) (by decide) (backOf (W := 0) (rmCfc l Z a0 hw [] wC cC wD kD mA mL mR GS it al h0 n0 (by omega) O0 E_i If0 If2 Fm) hZ (ww hw 245 rfl) (ww hw 193 rfl) (by decide) (by decide)) q3a q3c (g := (mkF m 1 #[vr it, un, un] [.ref it])) rfl (by rw [hml]; rfl) (Steps.refl _) (argsL := []) (rest := []) (lenOf own_pd_0 rfl) rfl (by show 2 * 0 + _ ≤ _; exact Nat.le_of_eq rfl) (hb hby d30_1) (fun _ _ => ⟨rfl, e0, (by decide : 0 + 0 ≤ _), (by decide : 0 + 0 ≤ _)⟩)
 dsimp only [Pt.U, Pt.locs, Pt.cells, Pt.slots] at X3 l3 y3 z3 st3 hQ3
 subst l3 y3 z3
 obtain ⟨rfl, N3q, e3⟩ := hQ3
 have N4 := Fr.app N0 N3q
 refine own_b T3 m 4 #[vr it, un, un] [] (fun _ k_ => st3.trans k_) ?_
 refine own_b T3 m 5 #[vr it, un, un] [.ref it] (fun _ k_ => XS.aloadN X3.here hx rfl (hb hby d30_4) rfl rfl k_) ?_
 obtain ⟨T5, X5, e5, st5⟩ := getF X3 hx hZ hown (host := "") (Or.inl (ww hw 224 rfl)) Via.refl e3 If3 (g := (mkF m 5 #[vr it, un, un] [.ref it])) rfl rfl (hb hby d30_5)
 refine own_b T5 m 8 #[vr it, un, un] [.int 0] st5 ?_
 refine own_b T5 m 11 #[vr it, vi 0, un] [.ref it, .int 0] (fun _ k_ => XS.istoreN X5.here hx rfl (hb hby d30_8) rfl (l' := #[vr it, vi 0, un]) rfl (XS.iloadN X5.here hx rfl (hb hby d30_9) rfl (XS.aloadN X5.here hx rfl (hb hby d30_10) rfl rfl k_))) ?_
 obtain ⟨T6, X6, e6, st6⟩ := getF X5 hx hZ hown (host := "") (Or.inl (ww hw 198 rfl)) Via.refl e5 If0 (g := (mkF m 11 #[vr it, vi 0, un] [.ref it, .int 0])) rfl rfl (hb hby d30_11)
 refine own_b T6 m 14 #[vr it, vi 0, un] [.ref al, .int 0] st6 ?_
 obtain ⟨T7, X7, e7, st7⟩ := getF X6 hx hZ hown (Or.inr (ww hw 226 rfl)) Via.refl e6 Fs (g := (mkF m 14 #[vr it, vi 0, un] [.ref al, .int 0])) rfl rfl (hb hby d30_14)
 refine own_b T7 m 17 #[vr it, vi 0, un] [.int 1, .int 0] st7 ?_
 refine own_b T7 m 29 #[vr it, vi 0, un] [.ref it] (fun _ k_ => XS.icmpYes X7.here hx rfl (pc0 := 17) (pc' := 28) rfl (hb hby d30_17) rfl (XT.ii_lt_t (by decide)) (by decide) (by decide) (XS.aloadN X7.here hx rfl (hb hby d30_28) rfl rfl k_)) ?_
 obtain ⟨T8, X8, e8, st8⟩ := getF X7 hx hZ hown (host := "") (Or.inl (ww hw 198 rfl)) Via.refl e7 If0 (g := (mkF m 29 #[vr it, vi 0, un] [.ref it])) rfl rfl (hb hby d30_29)
 refine own_b T8 m 32 #[vr it, vi 0, un] [.ref al] st8 ?_
 obtain ⟨T9, X9, e9, st9⟩ := getF X8 hx hZ hown (host := "") (Or.inl (ww hw 246 rfl)) Via.refl e8 Fe (g := (mkF m 32 #[vr it, vi 0, un] [.ref al])) rfl rfl (hb hby d30_32)
 refine own_b T9 m 35 #[vr it, vi 0, un] [.ref t] st9 ?_
 refine own_b T9 m 38 #[vr it, vi 0, vr t] [.ref t, .int 0] (fun _ k_ => XS.astoreN X9.here hx rfl (hb hby d30_35) rfl rfl (l' := #[vr it, vi 0, vr t]) rfl (XS.iloadN X9.here hx rfl (hb hby d30_36) rfl (XS.aloadN X9.here hx rfl (hb hby d30_37) rfl rfl k_))) ?_
 obtain ⟨cl10, Ar10, q10, S10, M10, H10, G10⟩ := id Vt
 refine own_b T9 m 39 #[vr it, vi 0, vr t] [.int 10, .int 0] (fun _ k_ => X9.arraylength hx (by rw [e9]; exact Ar10.1) (State.isArrayOf_alike hZ.alike Ar10.2.1) (g := (mkF m 38 #[vr it, vi 0, vr t] [.ref t, .int 0])) rfl rfl (hb hby d30_38) _ (by rw [len_of S10 M10]; exact k_)) ?_
 refine own_b T9 m 54 #[vr it, vi 0, vr t] [(.int ((0 : Int32) + (1 : Int32))), .ref it] (fun _ k_ => XS.icmpYes X9.here hx rfl (pc0 := 39) (pc' := 50) rfl (hb hby d30_39) rfl (XT.ii_lt_t (by decide)) (by decide) (by decide) (XS.aloadN X9.here hx rfl (hb hby d30_50) rfl rfl (XS.iloadN X9.here hx rfl (hb hby d30_51) rfl (XS.iconst X9.here hx rfl (hb hby d30_52) (XS.iadd X9.here hx rfl (hb hby d30_53) rfl k_))))) ?_
 rw [show ((0 : Int32) + (1 : Int32)) = (1 : Int32) from by decide]
 obtain ⟨T11, h11, X11, e11, W11, st11⟩ := putF X9 hx hZ hown (host := "") (Or.inl (ww hw 224 rfl)) Via.refl e9 If3 E_i (Or.inl (ww hw 225 rfl)) (ww hw 192 rfl) (ty := .int) (by decide) rfl rfl (g := (mkF m 54 #[vr it, vi 0, vr t] [.int 1, .ref it])) rfl rfl (hb hby d30_54)
 have K12 : Keep h0 h11 [it] := Keep.of_wr W11
 have zzK12 : h0.size ≤ h11.size := K12.1
 have oo13 : Old Z n0 h11 := O0.keep K12 (allS (by omega : n0 ≤ it) all0)
 have kt14 : Keep h0 h11 [it] := KT0.trans K12 (allS (Or.inl (List.mem_of_getElem? (i := 0) rfl)) all0)
 have f15 : Fld Z h11 it cn5 "this$0" "Ljava/util/ArrayList;" (.ref al) := If0.other W11 (Or.inr (slot_ne (Or.inr (ww hw 199 rfl)) (Or.inl (ww hw 225 rfl)) (by decide) (t := (.object cn2)) (t' := .int) (by decide) (by decide)))
 have f16 : Fld Z h11 it cn5 "lastRet" "I" (.int (-1)) := If1.other W11 (Or.inr (slot_ne (Or.inl (ww hw 202 rfl)) (Or.inl (ww hw 225 rfl)) (by decide) (t := .int) (t' := .int) (by decide) (by decide)))
 have f17 : Fld Z h11 it cn5 "expectedModCount" "I" (.int 1) := If2.other W11 (Or.inr (slot_ne (Or.inl (ww hw 205 rfl)) (Or.inl (ww hw 225 rfl)) (by decide) (t := .int) (t' := .int) (by decide) (by decide)))
 have f18 : Fld Z h11 it cn5 "cursor" "I" (.int 1) := If3.same W11
 have N19 := Fr.snoc X11 N4 (by omega : n0 ≤ it)
 refine own_b T11 m 57 #[vr it, vi 0, vr t] [] st11 ?_
 refine own_b T11 m 61 #[vr it, vi 0, vr t] [.int 0, .ref it, .int 0, .ref t] (fun _ k_ => XS.aloadN X11.here hx rfl (hb hby d30_57) rfl rfl (XS.aloadN X11.here hx rfl (hb hby d30_58) rfl rfl (XS.iloadN X11.here hx rfl (hb hby d30_59) rfl (XS.dupX1 X11.here hx rfl (hb hby d30_60) rfl rfl rfl k_)))) ?_
 have f20 : Exa Z h11 it cn5 := (E_i.keep K12)
 obtain ⟨T21, h21, X21, e21, W21, st21⟩ := putF X11 hx hZ hown (host := "") (Or.inl (ww hw 201 rfl)) Via.refl e11 f16 f20 (Or.inl (ww hw 202 rfl)) (ww hw 192 rfl) (ty := .int) (by decide) rfl rfl (g := (mkF m 61 #[vr it, vi 0, vr t] [.int 0, .ref it, .int 0, .ref t])) rfl rfl (hb hby d30_61)
 have K22 : Keep h11 h21 [it] := Keep.of_wr W21
 have zzK22 : h11.size ≤ h21.size := K22.1
 have oo23 : Old Z n0 h21 := oo13.keep K22 (allS (by omega : n0 ≤ it) all0)
 have kt24 : Keep h0 h21 [it] := kt14.trans K22 (allS (Or.inl (List.mem_of_getElem? (i := 0) rfl)) all0)
 have f25 : Fld Z h21 it cn5 "this$0" "Ljava/util/ArrayList;" (.ref al) := f15.other W21 (Or.inr (slot_ne (Or.inr (ww hw 199 rfl)) (Or.inl (ww hw 202 rfl)) (by decide) (t := (.object cn2)) (t' := .int) (by decide) (by decide)))
 have f26 : Fld Z h21 it cn5 "lastRet" "I" (.int 0) := f16.same W21
 have f27 : Fld Z h21 it cn5 "expectedModCount" "I" (.int 1) := f17.other W21 (Or.inr (slot_ne (Or.inl (ww hw 205 rfl)) (Or.inl (ww hw 202 rfl)) (by decide) (t := .int) (t' := .int) (by decide) (by decide)))
 have f28 : Fld Z h21 it cn5 "cursor" "I" (.int 1) := f18.other W21 (Or.inr (slot_ne (Or.inl (ww hw 225 rfl)) (Or.inl (ww hw 202 rfl)) (by decide) (t := .int) (t' := .int) (by decide) (by decide)))
 have N29 := Fr.snoc X21 N19 (by omega : n0 ≤ it)
 refine own_b T21 m 64 #[vr it, vi 0, vr t] [.int 0, .ref t] st21 ?_
 have f31 : Arv Z h21 t kE (.object "java/lang/Object") (10 : Int32) [.ref b, .null, .null, .null, .null, .null, .null, .null, .null, .null] .null := ((Vt.keep K12 (ninS ne2 nin0)).keep K22 (ninS ne2 nin0))
 obtain ⟨cl30, Ar30, q30, S30, M30, H30, G30⟩ := id f31
 have hin30 : ¬ ((0 : Int32) < 0 ∨ cl30.slots.size ≤ ((0 : Int32)).toNatClampNeg) := inb_of S30 ⟨by decide, by decide⟩
 have hat30 : cl30.slots[((0 : Int32)).toNatClampNeg]? = some (.ref b) := H30.at hin30 rfl
 refine own_b T21 m 65 #[vr it, vi 0, vr t] [.ref b] (fun _ k_ => X21.aaload hx (j := (0 : Int32)) (v := (.ref b)) (by rw [e21]; exact Ar30.1) (State.isArrayOf_alike hZ.alike Ar30.2.1) rfl Ar30.2.2 hin30 hat30 (g := (mkF m 64 #[vr it, vi 0, vr t] [.int 0, .ref t])) rfl rfl (hb hby d30_64) _ k_) ?_
 obtain ⟨fs32, hr32, hrun32, hended32, hW32, hsame32⟩ := X21.leave (v := some (.ref b)) (fun h => by rw [Bd.returns] at h; cases h)
 refine ⟨_, _, retOut X21 hx (t := (.object "java/lang/Object")) Bd.returns rfl (Or.inr (Or.inr (Or.inr (Or.inr ⟨rfl, rfl, rfl⟩)))) (hb hby d30_65) hr32, hrun32, hended32, _, _, rfl, ?_, ⟨_, rfl⟩, hW32, hsame32.mono (by decide) (by decide)⟩
 show Q_rmINx Z wC cC wD kD mA mL mR it al t kE b h0 n0 _ T21.heap _
 rw [e21]
 exact ⟨rfl, N29, kt24, f25, f26, f27, f28⟩
theorem own_pd_16 : parseMethodDescriptor "()Ljava/lang/Object;" = some ⟨[], some (.object "java/lang/Object")⟩ := by decide +kernel
theorem d29_0 : decode jdk_135_method_3_code 0 = .ok (.aload_n 0, 1) := by decide +kernel
theorem d29_1 : decode jdk_135_method_3_code 1 = .ok (.getfield 25, 3) := by decide +kernel
theorem d29_4 : decode jdk_135_method_3_code 4 = .ok (.invokeinterface 35 1, 5) := by decide +kernel
theorem d29_9 : decode jdk_135_method_3_code 9 = .ok (.areturn, 1) := by decide +kernel
theorem own_ef_rmUNx (m : MethodId) (x0 : Addr) : entryFrame m #[.ref x0] 1 = mkF m 0 #[.val (.ref x0)] [] := by first | (simp [entryFrame, mkF, argsToLocals, Value.category]; done) | rfl
def Q_rmUNx (Z : State) (wC : Addr) (cC : Cell) (wD : Addr) (kD : ClassId) (mA : Addr) (mL : Addr) (mR : Addr) (x1 : Addr) (it : Addr) (al : Addr) (t : Addr) (kE : ClassId) (b : Addr) (h0 : Heap) (n0 : Nat) (vv_ : Option Value) (hh_ : Heap) (LL_ : List Loc) : Prop := vv_ = some (.ref b) ∧ Fr n0 LL_ ∧ Keep h0 hh_ [it] ∧ Fld Z hh_ it "java/util/ArrayList$Itr" "this$0" "Ljava/util/ArrayList;" (.ref al) ∧ Fld Z hh_ it "java/util/ArrayList$Itr" "lastRet" "I" (.int 0) ∧ Fld Z hh_ it "java/util/ArrayList$Itr" "expectedModCount" "I" (.int 1) ∧ Fld Z hh_ it "java/util/ArrayList$Itr" "cursor" "I" (.int 1)
theorem rmUNx (l : Launch) (Z : State) (a0 : Array Value) (hw : ∀ d ∈ tables_1, d.before a0 Z = true) (ws : List Jvm.Cond) (wC : Addr) (cC : Cell) (wD : Addr) (kD : ClassId) (mA : Addr) (mL : Addr) (mR : Addr) (GS : Glob Z wC cC wD kD mA mL mR) (x1 : Addr) (it : Addr) (al : Addr) (t : Addr) (kE : ClassId) (b : Addr) (h0 : Heap) (n0 : Nat) (Z0 : n0 ≤ h0.size) (O0 : Old Z n0 h0) (E_x : Exa Z h0 x1 cn3) (Fi : Fld Z h0 x1 cn3 "i" "Ljava/util/Iterator;" (.ref it)) (E_i : Exa Z h0 it cn5) (g_i : n0 ≤ it) (If0 : Fld Z h0 it cn5 "this$0" "Ljava/util/ArrayList;" (.ref al)) (If1 : Fld Z h0 it cn5 "lastRet" "I" (.int (-1))) (If2 : Fld Z h0 it cn5 "expectedModCount" "I" (.int 1)) (If3 : Fld Z h0 it cn5 "cursor" "I" (.int 0)) (E_l : Exa Z h0 al cn2) (Fm : Fld Z h0 al "java/util/AbstractList" "modCount" "I" (.int 1)) (Fs : Fld Z h0 al cn2 "size" "I" (.int 1)) (Fe : Fld Z h0 al cn2 "elementData" "[Ljava/lang/Object;" (.ref t)) (Vt : Arv Z h0 t kE (.object "java/lang/Object") (10 : Int32) [.ref b, .null, .null, .null, .null, .null, .null, .null, .null, .null] .null) (nit : @Ne Nat al it) (ntt : @Ne Nat t it) :
  MetFree l (⟨cn3, "next", "()Ljava/lang/Object;"⟩ : MethodName) (head1 (Jvm.Cond.code (⟨cn3, "next", "()Ljava/lang/Object;"⟩ : MethodName) jdk_135_method_3_code 1 (some (.object "java/lang/Object")) :: ws) (⟨2, 0, 0, 26⟩ : Room)) (fun aa_ UU_ => aa_ = #[.ref x1] ∧ Z.Warmed39 UU_.vm ∧ UU_.heap = h0) (fun _ _ _ _ _ => True) (fun _ UU_ oo_ UV_ => ∃ vv_ LL_, oo_ = .returned vv_ ∧ Q_rmUNx Z wC cC wD kD mA mL mR x1 it al t kE b h0 n0 vv_ UV_.heap LL_ ∧ FrameEnd UU_ oo_ UV_ LL_ (⟨2, 0, 0, 26⟩ : Room).cells (⟨2, 0, 0, 26⟩ : Room).slots) := by
 refine MetFree.of_bodySF (plainFor_of_name own_p4) hisR ?_
 intro p e s m args below meth c s₁ Bd hml0 hP hK
 obtain ⟨rfl, hZ, hh⟩ := hP
 have hx := Bd.exec
 have hby := Bd.bytes
 have hml : c.maxLocals = 1 := hml0
 have hown : s.vm.findClass cn3 = some m.cls := findClass_of_methodNamed Bd.named
 have hnm := (name_of_methodNamed Bd.named Bd.method).1
 have X0 : Stand p l e (⟨2, 0, 0, 26⟩ : Room) s m #[.ref x1] below meth c s₁ [] 0 0 := Stand.of_body Bd
 have e0 : s₁.heap = h0 := by rw [← hh, Bd.state]; rfl
 have N0 := Fr.nil n0
 have hn0 : Z.heap.size = n0 := O0.1
 have KT0 : Keep h0 h0 [it] := Keep.refl _ _
 refine own_enter (Φ := fun oo_ UV_ => ∃ vv_ LL_, oo_ = .returned vv_ ∧ Q_rmUNx Z wC cC wD kD mA mL mR x1 it al t kE b h0 n0 vv_ UV_.heap LL_ ∧ FrameEnd s oo_ UV_ LL_ (⟨2, 0, 0, 26⟩ : Room).cells (⟨2, 0, 0, 26⟩ : Room).slots) (own_ef_rmUNx m x1) ?_
 refine own_b s₁ m 1 #[vr x1] [.ref x1] (fun _ k_ => XS.aloadN X0.here hx rfl (hb hby d29_0) rfl rfl k_) ?_
 obtain ⟨T1, X1, e1, st1⟩ := getF X0 hx hZ hown (host := "") (Or.inl (ww hw 206 rfl)) Via.refl e0 Fi (g := (mkF m 1 #[vr x1] [.ref x1])) rfl rfl (hb hby d29_1)
 refine own_b T1 m 4 #[vr x1] [.ref it] st1 ?_
 have la2 : @LT.lt Nat instLTNat it h0.size := E_i.lt
 obtain ⟨cq3, kq3, q3a, q3b, q3c⟩ := isOf hZ e1 E_i
 obtain ⟨_, _, ⟨T3, L3, k3, n3⟩, -, X3, ⟨Lc3, hQ3, l3, y3, z3⟩, st3⟩ := X1.interfaceBack hx (xi := (⟨"java/util/Iterator", "next", "()Ljava/lang/Object;"⟩ : MethodName)) (y := (⟨cn5, "next", "()Ljava/lang/Object;"⟩ : MethodName)) hown (mvT hZ (ww hw 235 rfl)) (mvT hZ (ww hw 228 rfl)) (mvT hZ (ww hw 229 rfl)) (mvT hZ (ww hw 236 rfl)) (mvT hZ (ww hw 237 rfl)) (mvT hZ (ww hw 238 rfl)) (mvT hZ (ww hw 239 rfl)) (mvT hZ (ww hw 222 rfl)) (by decide) (backOf (W := 0) (rmINx l Z a0 hw [] wC cC wD kD mA mL mR GS it al t kE b h0 n0 (by omega) O0 E_i (by omega) If0 If1 If2 If3 E_l Fm Fs Fe Vt nit ntt) hZ (ww hw 240 rfl) (ww hw 193 rfl) (by decide) (by decide)) q3a q3b q3c (g := (mkF m 4 #[vr x1] [.ref it])) rfl (by rw [hml]; rfl) (Steps.refl _) (argsL := []) (rest := []) (lenOf own_pd_16 rfl) rfl (by show 2 * 0 + _ ≤ _; exact Nat.le_of_eq rfl) (hb hby d29_4) (fun _ _ => ⟨rfl, e1, (by decide : 0 + 0 ≤ _), (by decide : 0 + 0 ≤ _)⟩)
 dsimp only [Pt.U, Pt.locs, Pt.cells, Pt.slots] at X3 l3 y3 z3 st3 hQ3
 subst l3 y3 z3
 obtain ⟨rfl, N3q, K3, p3_0, p3_1, p3_2, p3_3⟩ := hQ3
 have N4 := Fr.app N0 N3q
 have zzK3 : h0.size ≤ T3.heap.size := K3.1
 have oo5 : Old Z n0 T3.heap := O0.keep K3 (allS (by omega : n0 ≤ it) all0)
 have kt6 : Keep h0 T3.heap [it] := KT0.trans K3 (allS (Or.inl (List.mem_of_getElem? (i := 0) rfl)) all0)
 refine own_b T3 m 9 #[vr x1] [.ref b] (fun _ k_ => st3.trans k_) ?_
 obtain ⟨fs7, hr7, hrun7, hended7, hW7, hsame7⟩ := X3.leave (v := some (.ref b)) (fun h => by rw [Bd.returns] at h; cases h)
 refine ⟨_, _, retOut X3 hx (t := (.object "java/lang/Object")) Bd.returns rfl (Or.inr (Or.inr (Or.inr (Or.inr ⟨rfl, rfl, rfl⟩)))) (hb hby d29_9) hr7, hrun7, hended7, _, _, rfl, ?_, ⟨_, rfl⟩, hW7, hsame7.mono (by decide) (by decide)⟩
 show Q_rmUNx Z wC cC wD kD mA mL mR x1 it al t kE b h0 n0 _ T3.heap _
 exact ⟨rfl, N4, kt6, p3_0, p3_1, p3_2, p3_3⟩
theorem d33_0 : decode prog_34_method_5_code 0 = .ok (.aload_n 0, 1) := by decide +kernel
theorem d33_1 : decode prog_34_method_5_code 1 = .ok (.iload_n 1, 1) := by decide +kernel
theorem d33_2 : decode prog_34_method_5_code 2 = .ok (.invokevirtual 35, 3) := by decide +kernel
theorem d33_5 : decode prog_34_method_5_code 5 = .ok (.aload_n 0, 1) := by decide +kernel
theorem d33_6 : decode prog_34_method_5_code 6 = .ok (.getfield 27, 3) := by decide +kernel
theorem d33_9 : decode prog_34_method_5_code 9 = .ok (.iload_n 1, 1) := by decide +kernel
theorem d33_10 : decode prog_34_method_5_code 10 = .ok (.iaload, 1) := by decide +kernel
theorem d33_11 : decode prog_34_method_5_code 11 = .ok (.ireturn, 1) := by decide +kernel
theorem own_ef_rmZg (m : MethodId) (x0 : Addr) (x1 : Int32) : entryFrame m #[.ref x0, .int x1] 2 = mkF m 0 #[.val (.ref x0), .val (.int x1)] [] := by first | (simp [entryFrame, mkF, argsToLocals, Value.category]; done) | rfl
def Q_rmZg (Z : State) (wC : Addr) (cC : Cell) (wD : Addr) (kD : ClassId) (mA : Addr) (mL : Addr) (mR : Addr) (a : Addr) (ct : Addr) (kC : ClassId) (v0 : Int32) (v1 : Int32) (h0 : Heap) (n0 : Nat) (vv_ : Option Value) (hh_ : Heap) (LL_ : List Loc) : Prop := vv_ = some (.int v1) ∧ Fr n0 LL_ ∧ hh_ = h0
theorem rmZg (l : Launch) (Z : State) (a0 : Array Value) (hw : ∀ d ∈ tables_1, d.before a0 Z = true) (ws : List Jvm.Cond) (wC : Addr) (cC : Cell) (wD : Addr) (kD : ClassId) (mA : Addr) (mL : Addr) (mR : Addr) (GS : Glob Z wC cC wD kD mA mL mR) (a : Addr) (ct : Addr) (kC : ClassId) (v0 : Int32) (v1 : Int32) (h0 : Heap) (n0 : Nat) (Z0 : n0 ≤ h0.size) (O0 : Old Z n0 h0) (E_a : Exa Z h0 a cn1) (Fc : Fld Z h0 a cn1 "counts" "[I" (.ref ct)) (Vc : Arv Z h0 ct kC .int (2 : Int32) [.int v0, .int v1] (.int 0)) :
  MetFree l (⟨cn1, "get", "(I)I"⟩ : MethodName) (head1 (Jvm.Cond.code (⟨cn1, "get", "(I)I"⟩ : MethodName) prog_34_method_5_code 2 (some .int) :: ws) (⟨2, 0, 0, 26⟩ : Room)) (fun aa_ UU_ => aa_ = #[.ref a, .int 1] ∧ Z.Warmed39 UU_.vm ∧ UU_.heap = h0) (fun _ _ _ _ _ => True) (fun _ UU_ oo_ UV_ => ∃ vv_ LL_, oo_ = .returned vv_ ∧ Q_rmZg Z wC cC wD kD mA mL mR a ct kC v0 v1 h0 n0 vv_ UV_.heap LL_ ∧ FrameEnd UU_ oo_ UV_ LL_ (⟨2, 0, 0, 26⟩ : Room).cells (⟨2, 0, 0, 26⟩ : Room).slots) := by
 refine MetFree.of_bodySF (plainFor_of_name own_p1) hisR ?_
 intro p e s m args below meth c s₁ Bd hml0 hP hK
 obtain ⟨rfl, hZ, hh⟩ := hP
 have hx := Bd.exec
 have hby := Bd.bytes
 have hml : c.maxLocals = 2 := hml0
 have hown : s.vm.findClass cn1 = some m.cls := findClass_of_methodNamed Bd.named
 have hnm := (name_of_methodNamed Bd.named Bd.method).1
 have X0 : Stand p l e (⟨2, 0, 0, 26⟩ : Room) s m #[.ref a, .int 1] below meth c s₁ [] 0 0 := Stand.of_body Bd
 have e0 : s₁.heap = h0 := by rw [← hh, Bd.state]; rfl
 have N0 := Fr.nil n0
 have hn0 : Z.heap.size = n0 := O0.1
 have KT0 : Keep h0 h0 [] := Keep.refl _ _
 refine own_enter (Φ := fun oo_ UV_ => ∃ vv_ LL_, oo_ = .returned vv_ ∧ Q_rmZg Z wC cC wD kD mA mL mR a ct kC v0 v1 h0 n0 vv_ UV_.heap LL_ ∧ FrameEnd s oo_ UV_ LL_ (⟨2, 0, 0, 26⟩ : Room).cells (⟨2, 0, 0, 26⟩ : Room).slots) (own_ef_rmZg m a (1 : Int32)) ?_
 refine own_b s₁ m 2 #[vr a, vi 1] [.int 1, .ref a] (fun _ k_ => XS.aloadN X0.here hx rfl (hb hby d33_0) rfl rfl (XS.iloadN X0.here hx rfl (hb hby d33_1) rfl k_)) ?_
 obtain ⟨cq1, q1, q1'⟩ := E_a.cell
 obtain ⟨_, _, ⟨T1, L1, k1, n1⟩, -, X1, ⟨Lc1, hQ1, l1, y1, z1⟩, st1⟩ := X0.privateBack hx (y := (⟨cn1, "checkZone", "(I)V"⟩ : MethodName)) hown (mvT hZ (ww hw 47 rfl)) (mvT hZ (ww hw 48 rfl)) (own_selP hZ (ww hw 49 rfl) (ww hw 3 rfl) (ww hw 48 rfl) (by decide)) (Cond.privateMethod_at (mvP hZ (ww hw 49 rfl) (args := #[]))) (mvT hZ (ww hw 50 rfl)) (by decide) (backOf (W := 0) (rmCz l Z a0 hw [] wC cC wD kD mA mL mR GS a ct kC v0 v1 h0 n0 (by omega) O0 E_a Fc Vc) hZ (ww hw 50 rfl) (ww hw 4 rfl) (by decide) (by decide)) (g := (mkF m 2 #[vr a, vi 1] [.int 1, .ref a])) rfl (by rw [hml]; rfl) (Steps.refl _) (a := a) (by rw [e0]; exact q1) q1' (argsL := [.int 1]) (rest := []) (lenOf own_pd_6 rfl) rfl (by show 2 * 0 + _ ≤ _; exact Nat.le_of_eq rfl) (hb hby d33_2) (fun _ _ => ⟨rfl, e0, (by decide : 0 + 0 ≤ _), (by decide : 0 + 0 ≤ _)⟩)
 dsimp only [Pt.U, Pt.locs, Pt.cells, Pt.slots] at X1 l1 y1 z1 st1 hQ1
 subst l1 y1 z1
 obtain ⟨rfl, N1q, e1⟩ := hQ1
 have N2 := Fr.app N0 N1q
 refine own_b T1 m 5 #[vr a, vi 1] [] (fun _ k_ => st1.trans k_) ?_
 refine own_b T1 m 6 #[vr a, vi 1] [.ref a] (fun _ k_ => XS.aloadN X1.here hx rfl (hb hby d33_5) rfl rfl k_) ?_
 obtain ⟨T3, X3, e3, st3⟩ := getF X1 hx hZ hown (host := "") (Or.inl (ww hw 37 rfl)) Via.refl e1 Fc (g := (mkF m 6 #[vr a, vi 1] [.ref a])) rfl rfl (hb hby d33_6)
 refine own_b T3 m 9 #[vr a, vi 1] [.ref ct] st3 ?_
 refine own_b T3 m 10 #[vr a, vi 1] [.int 1, .ref ct] (fun _ k_ => XS.iloadN X3.here hx rfl (hb hby d33_9) rfl k_) ?_
 obtain ⟨cl4, Ar4, q4, S4, M4, H4, G4⟩ := id Vc
 have hin4 : ¬ ((1 : Int32) < 0 ∨ cl4.slots.size ≤ ((1 : Int32)).toNatClampNeg) := inb_of S4 ⟨by decide, by decide⟩
 have hat4 : cl4.slots[((1 : Int32)).toNatClampNeg]? = some (.int v1) := H4.at hin4 rfl
 refine own_b T3 m 11 #[vr a, vi 1] [.int v1] (fun _ k_ => X3.iaload hx (j := (1 : Int32)) (v := (.int v1)) (by rw [e3]; exact Ar4.1) (State.isArrayOf_alike hZ.alike Ar4.2.1) Ar4.2.2 hin4 hat4 (g := (mkF m 10 #[vr a, vi 1] [.int 1, .ref ct])) rfl rfl (hb hby d33_10) _ k_) ?_
 obtain ⟨fs5, hr5, hrun5, hended5, hW5, hsame5⟩ := X3.leave (v := some (.int v1)) (fun h => by rw [Bd.returns] at h; cases h)
 refine ⟨_, _, retOut X3 hx (t := .int) Bd.returns rfl (Or.inl ⟨rfl, Or.inl rfl, _, rfl⟩) (hb hby d33_11) hr5, hrun5, hended5, _, _, rfl, ?_, ⟨_, rfl⟩, hW5, hsame5.mono (by decide) (by decide)⟩
 show Q_rmZg Z wC cC wD kD mA mL mR a ct kC v0 v1 h0 n0 _ T3.heap _
 exact ⟨rfl, N2, e3⟩
theorem d35_0 : decode jdk_65_method_30_code 0 = .ok (.iload_n 1, 1) := by decide +kernel
theorem d35_1 : decode jdk_65_method_30_code 1 = .ok (.iload_n 2, 1) := by decide +kernel
theorem d35_2 : decode jdk_65_method_30_code 2 = .ok (.if_icmp .le 44, 3) := by decide +kernel
theorem d35_46 : decode jdk_65_method_30_code 46 = .ok (.iload_n 1, 1) := by decide +kernel
theorem d35_47 : decode jdk_65_method_30_code 47 = .ok (.ifCond .ge 12, 3) := by decide +kernel
theorem d35_59 : decode jdk_65_method_30_code 59 = .ok (.iload_n 2, 1) := by decide +kernel
theorem d35_60 : decode jdk_65_method_30_code 60 = .ok (.iload_n 0, 1) := by decide +kernel
theorem d35_61 : decode jdk_65_method_30_code 61 = .ok (.if_icmp .le 12, 3) := by decide +kernel
theorem d35_73 : decode jdk_65_method_30_code 73 = .ok (.return_, 1) := by decide +kernel
theorem own_p13 : plainName "java/util/Arrays" = true := by first | (simp [plainName, overriddenIn]; done) | decide +kernel
theorem own_ef_rmRc_0 (m : MethodId) (x0 : Int32) (x1 : Int32) (x2 : Int32) : entryFrame m #[.int x0, .int x1, .int x2] 3 = mkF m 0 #[.val (.int x0), .val (.int x1), .val (.int x2)] [] := by first | (simp [entryFrame, mkF, argsToLocals, Value.category]; done) | rfl
def Q_rmRc_0 (Z : State) (wC : Addr) (cC : Cell) (wD : Addr) (kD : ClassId) (mA : Addr) (mL : Addr) (mR : Addr) (h0 : Heap) (n0 : Nat) (vv_ : Option Value) (hh_ : Heap) (LL_ : List Loc) : Prop := vv_ = none ∧ Fr n0 LL_ ∧ hh_ = h0
theorem rmRc_0 (l : Launch) (Z : State) (a0 : Array Value) (hw : ∀ d ∈ tables_1, d.before a0 Z = true) (ws : List Jvm.Cond) (wC : Addr) (cC : Cell) (wD : Addr) (kD : ClassId) (mA : Addr) (mL : Addr) (mR : Addr) (GS : Glob Z wC cC wD kD mA mL mR)  (h0 : Heap) (n0 : Nat) (Z0 : n0 ≤ h0.size) (O0 : Old Z n0 h0) :
  MetFree l (⟨"java/util/Arrays", "rangeCheck", "(III)V"⟩ : MethodName) (head1 (Jvm.Cond.code (⟨"java/util/Arrays", "rangeCheck", "(III)V"⟩ : MethodName) jdk_65_method_30_code 3 none :: ws) (⟨0, 0, 0, 0⟩ : Room)) (fun aa_ UU_ => aa_ = #[.int 0, .int 0, .int 0] ∧ Z.Warmed39 UU_.vm ∧ UU_.heap = h0) (fun _ _ _ _ _ => True) (fun _ UU_ oo_ UV_ => ∃ vv_ LL_, oo_ = .returned vv_ ∧ Q_rmRc_0 Z wC cC wD kD mA mL mR h0 n0 vv_ UV_.heap LL_ ∧ FrameEnd UU_ oo_ UV_ LL_ (⟨0, 0, 0, 0⟩ : Room).cells (⟨0, 0, 0, 0⟩ : Room).slots) := by
 refine MetFree.of_bodySF (plainFor_of_name own_p13) hisR ?_
 intro p e s m args below meth c s₁ Bd hml0 hP hK
 obtain ⟨rfl, hZ, hh⟩ := hP
 have hx := Bd.exec
 have hby := Bd.bytes
 have hml : c.maxLocals = 3 := hml0
 have hown : s.vm.findClass "java/util/Arrays" = some m.cls := findClass_of_methodNamed Bd.named
 have hnm := (name_of_methodNamed Bd.named Bd.method).1
 have X0 : Stand p l e (⟨0, 0, 0, 0⟩ : Room) s m #[.int 0, .int 0, .int 0] below meth c s₁ [] 0 0 := Stand.of_body Bd
 have e0 : s₁.heap = h0 := by rw [← hh, Bd.state]; rfl
 have N0 := Fr.nil n0
 have hn0 : Z.heap.size = n0 := O0.1
 have KT0 : Keep h0 h0 [] := Keep.refl _ _
 refine own_enter (Φ := fun oo_ UV_ => ∃ vv_ LL_, oo_ = .returned vv_ ∧ Q_rmRc_0 Z wC cC wD kD mA mL mR h0 n0 vv_ UV_.heap LL_ ∧ FrameEnd s oo_ UV_ LL_ (⟨0, 0, 0, 0⟩ : Room).cells (⟨0, 0, 0, 0⟩ : Room).slots) (own_ef_rmRc_0 m (0 : Int32) (0 : Int32) (0 : Int32)) ?_
 refine own_b s₁ m 73 #[vi 0, vi 0, vi 0] [] (fun _ k_ => XS.iloadN X0.here hx rfl (hb hby d35_0) rfl (XS.iloadN X0.here hx rfl (hb hby d35_1) rfl (XS.icmpYes X0.here hx rfl (pc0 := 2) (pc' := 46) rfl (hb hby d35_2) rfl (XT.ii_le_t (by decide)) (by decide) (by decide) (XS.iloadN X0.here hx rfl (hb hby d35_46) rfl (XS.ifYes X0.here hx rfl (pc0 := 47) (pc' := 59) rfl (hb hby d35_47) rfl (XT.i0_ge_t (by decide)) (by decide) (by decide) (XS.iloadN X0.here hx rfl (hb hby d35_59) rfl (XS.iloadN X0.here hx rfl (hb hby d35_60) rfl (XS.icmpYes X0.here hx rfl (pc0 := 61) (pc' := 73) rfl (hb hby d35_61) rfl (XT.ii_le_t (by decide)) (by decide) (by decide) k_)))))))) ?_
 obtain ⟨fs1, hr1, hrun1, hended1, hW1, hsame1⟩ := X0.leave (v := none) (fun _ => rfl)
 refine ⟨_, _, X0.returnOut hx Bd.returns (hb hby d35_73) hr1, hrun1, hended1, _, _, rfl, ?_, ⟨_, rfl⟩, hW1, hsame1.mono (by decide) (by decide)⟩
 show Q_rmRc_0 Z wC cC wD kD mA mL mR h0 n0 _ s₁.heap _
 exact ⟨rfl, N0, e0⟩
theorem own_pd_17 : parseMethodDescriptor "(III)V" = some ⟨[.int, .int, .int], none⟩ := by decide +kernel
theorem d34_0 : decode jdk_65_method_104_code 0 = .ok (.aload_n 0, 1) := by decide +kernel
theorem d34_1 : decode jdk_65_method_104_code 1 = .ok (.arraylength, 1) := by decide +kernel
theorem d34_2 : decode jdk_65_method_104_code 2 = .ok (.iload_n 1, 1) := by decide +kernel
theorem d34_3 : decode jdk_65_method_104_code 3 = .ok (.iload_n 2, 1) := by decide +kernel
theorem d34_4 : decode jdk_65_method_104_code 4 = .ok (.invokestatic 13, 3) := by decide +kernel
theorem d34_7 : decode jdk_65_method_104_code 7 = .ok (.iload_n 1, 1) := by decide +kernel
theorem d34_8 : decode jdk_65_method_104_code 8 = .ok (.istore 4, 2) := by decide +kernel
theorem d34_10 : decode jdk_65_method_104_code 10 = .ok (.iload 4, 2) := by decide +kernel
theorem d34_12 : decode jdk_65_method_104_code 12 = .ok (.iload_n 2, 1) := by decide +kernel
theorem d34_13 : decode jdk_65_method_104_code 13 = .ok (.if_icmp .ge 14, 3) := by decide +kernel
theorem d34_27 : decode jdk_65_method_104_code 27 = .ok (.return_, 1) := by decide +kernel
theorem own_ef_rmFill_0 (m : MethodId) (x0 : Addr) (x1 : Int32) (x2 : Int32) (x3 : Int32) : entryFrame m #[.ref x0, .int x1, .int x2, .int x3] 5 = mkF m 0 #[.val (.ref x0), .val (.int x1), .val (.int x2), .val (.int x3), .unset] [] := by first | (simp [entryFrame, mkF, argsToLocals, Value.category]; done) | rfl
def Q_rmFill_0 (Z : State) (wC : Addr) (cC : Cell) (wD : Addr) (kD : ClassId) (mA : Addr) (mL : Addr) (mR : Addr) (h : Addr) (kH : ClassId) (h0 : Heap) (n0 : Nat) (vv_ : Option Value) (hh_ : Heap) (LL_ : List Loc) : Prop := vv_ = none ∧ Fr n0 LL_ ∧ Keep h0 hh_ [h] ∧ Arv Z hh_ h kH .int (0 : Int32) [] (.int 0)
theorem rmFill_0 (l : Launch) (Z : State) (a0 : Array Value) (hw : ∀ d ∈ tables_1, d.before a0 Z = true) (ws : List Jvm.Cond) (wC : Addr) (cC : Cell) (wD : Addr) (kD : ClassId) (mA : Addr) (mL : Addr) (mR : Addr) (GS : Glob Z wC cC wD kD mA mL mR) (h : Addr) (kH : ClassId) (h0 : Heap) (n0 : Nat) (Z0 : n0 ≤ h0.size) (O0 : Old Z n0 h0) (g_h : n0 ≤ h) (Vh : Arv Z h0 h kH .int (0 : Int32) [] (.int 0)) :
  MetFree l (⟨"java/util/Arrays", "fill", "([IIII)V"⟩ : MethodName) (head1 (Jvm.Cond.code (⟨"java/util/Arrays", "fill", "([IIII)V"⟩ : MethodName) jdk_65_method_104_code 5 none :: ws) (⟨1, 0, 0, 14⟩ : Room)) (fun aa_ UU_ => aa_ = #[.ref h, .int 0, .int 0, .int 1] ∧ Z.Warmed39 UU_.vm ∧ UU_.heap = h0) (fun _ _ _ _ _ => True) (fun _ UU_ oo_ UV_ => ∃ vv_ LL_, oo_ = .returned vv_ ∧ Q_rmFill_0 Z wC cC wD kD mA mL mR h kH h0 n0 vv_ UV_.heap LL_ ∧ FrameEnd UU_ oo_ UV_ LL_ (⟨1, 0, 0, 14⟩ : Room).cells (⟨1, 0, 0, 14⟩ : Room).slots) := by
 refine MetFree.of_bodySF (plainFor_of_name own_p13) hisR ?_
 intro p e s m args below meth c s₁ Bd hml0 hP hK
 obtain ⟨rfl, hZ, hh⟩ := hP
 have hx := Bd.exec
 have hby := Bd.bytes
 have hml : c.maxLocals = 5 := hml0
 have hown : s.vm.findClass "java/util/Arrays" = some m.cls := findClass_of_methodNamed Bd.named
 have hnm := (name_of_methodNamed Bd.named Bd.method).1
 have X0 : Stand p l e (⟨1, 0, 0, 14⟩ : Room) s m #[.ref h, .int 0, .int 0, .int 1] below meth c s₁ [] 0 0 := Stand.of_body Bd
 have e0 : s₁.heap = h0 := by rw [← hh, Bd.state]; rfl
 have N0 := Fr.nil n0
 have hn0 : Z.heap.size = n0 := O0.1
 have KT0 : Keep h0 h0 [h] := Keep.refl _ _
 refine own_enter (Φ := fun oo_ UV_ => ∃ vv_ LL_, oo_ = .returned vv_ ∧ Q_rmFill_0 Z wC cC wD kD mA mL mR h kH h0 n0 vv_ UV_.heap LL_ ∧ FrameEnd s oo_ UV_ LL_ (⟨1, 0, 0, 14⟩ : Room).cells (⟨1, 0, 0, 14⟩ : Room).slots) (own_ef_rmFill_0 m h (0 : Int32) (0 : Int32) (1 : Int32)) ?_
 refine own_b s₁ m 1 #[vr h, vi 0, vi 0, vi 1, un] [.ref h] (fun _ k_ => XS.aloadN X0.here hx rfl (hb hby d34_0) rfl rfl k_) ?_
 obtain ⟨cl1, Ar1, q1, S1, M1, H1, G1⟩ := id Vh
 refine own_b s₁ m 2 #[vr h, vi 0, vi 0, vi 1, un] [.int 0] (fun _ k_ => X0.arraylength hx (by rw [e0]; exact Ar1.1) (State.isArrayOf_alike hZ.alike Ar1.2.1) (g := (mkF m 1 #[vr h, vi 0, vi 0, vi 1, un] [.ref h])) rfl rfl (hb hby d34_1) _ (by rw [len_of S1 M1]; exact k_)) ?_
 refine own_b s₁ m 4 #[vr h, vi 0, vi 0, vi 1, un] [.int 0, .int 0, .int 0] (fun _ k_ => XS.iloadN X0.here hx rfl (hb hby d34_2) rfl (XS.iloadN X0.here hx rfl (hb hby d34_3) rfl k_)) ?_
 obtain ⟨_, _, ⟨T2, L2, k2, n2⟩, -, X2, ⟨Lc2, hQ2, l2, y2, z2⟩, st2⟩ := Jvm.LawKit.callS X0 hx (y := (⟨"java/util/Arrays", "rangeCheck", "(III)V"⟩ : MethodName)) hown (mvT hZ (ww hw 265 rfl)) (mvT hZ (ww hw 266 rfl)) (mvT hZ (ww hw 263 rfl)) (mvT hZ (ww hw 267 rfl)) (by decide) (backOf (W := 0) (rmRc_0 l Z a0 hw [] wC cC wD kD mA mL mR GS  h0 n0 (by omega) O0 ) hZ (ww hw 267 rfl) (ww hw 263 rfl) (by decide) (by decide)) (g := (mkF m 4 #[vr h, vi 0, vi 0, vi 1, un] [.int 0, .int 0, .int 0])) rfl (by rw [hml]; rfl) (argsL := [.int 0, .int 0, .int 0]) (rest := []) (lenOf own_pd_17 rfl) rfl (by show 2 * 0 + _ ≤ _; exact Nat.le_of_eq rfl) (hb hby d34_4) (fun _ _ => ⟨rfl, e0, (by decide : 0 + 0 ≤ _), (by decide : 0 + 0 ≤ _)⟩)
 dsimp only [Pt.U, Pt.locs, Pt.cells, Pt.slots] at X2 l2 y2 z2 st2 hQ2
 subst l2 y2 z2
 obtain ⟨rfl, N2q, e2⟩ := hQ2
 have N3 := Fr.app N0 N2q
 refine own_b T2 m 7 #[vr h, vi 0, vi 0, vi 1, un] [] st2 ?_
 refine own_b T2 m 27 #[vr h, vi 0, vi 0, vi 1, vi 0] [] (fun _ k_ => XS.iloadN X2.here hx rfl (hb hby d34_7) rfl (XS.istore X2.here hx rfl (hb hby d34_8) rfl (l' := #[vr h, vi 0, vi 0, vi 1, vi 0]) rfl (XS.iload X2.here hx rfl (hb hby d34_10) rfl (XS.iloadN X2.here hx rfl (hb hby d34_12) rfl (XS.icmpYes X2.here hx rfl (pc0 := 13) (pc' := 27) rfl (hb hby d34_13) rfl (XT.ii_ge_t (by decide)) (by decide) (by decide) k_))))) ?_
 obtain ⟨fs4, hr4, hrun4, hended4, hW4, hsame4⟩ := X2.leave (v := none) (fun _ => rfl)
 refine ⟨_, _, X2.returnOut hx Bd.returns (hb hby d34_27) hr4, hrun4, hended4, _, _, rfl, ?_, ⟨_, rfl⟩, hW4, hsame4.mono (by decide) (by decide)⟩
 show Q_rmFill_0 Z wC cC wD kD mA mL mR h kH h0 n0 _ T2.heap _
 rw [e2]
 exact ⟨rfl, N3, KT0, Vh⟩
theorem own_pd_18 : parseMethodDescriptor "()Ljava/util/List;" = some ⟨[], some (.object "java/util/List")⟩ := by decide +kernel
theorem own_pd_19 : parseMethodDescriptor "(I)I" = some ⟨[.int], some .int⟩ := by decide +kernel
theorem own_pd_20 : parseMethodDescriptor "([IIII)V" = some ⟨[(.array .int), .int, .int, .int], none⟩ := by decide +kernel
theorem d16_0 : decode prog_29_method_14_code 0 = .ok (.aload_n 0, 1) := by decide +kernel
theorem d16_1 : decode prog_29_method_14_code 1 = .ok (.invokevirtual 63, 3) := by decide +kernel
theorem d16_4 : decode prog_29_method_14_code 4 = .ok (.newarray .int, 2) := by decide +kernel
theorem d16_6 : decode prog_29_method_14_code 6 = .ok (.astore_n 1, 1) := by decide +kernel
theorem d16_7 : decode prog_29_method_14_code 7 = .ok (.iconst 0, 1) := by decide +kernel
theorem d16_8 : decode prog_29_method_14_code 8 = .ok (.istore_n 2, 1) := by decide +kernel
theorem d16_9 : decode prog_29_method_14_code 9 = .ok (.aload_n 0, 1) := by decide +kernel
theorem d16_10 : decode prog_29_method_14_code 10 = .ok (.invokevirtual 68, 3) := by decide +kernel
theorem d16_13 : decode prog_29_method_14_code 13 = .ok (.invokeinterface 72 1, 5) := by decide +kernel
theorem d16_18 : decode prog_29_method_14_code 18 = .ok (.astore_n 3, 1) := by decide +kernel
theorem d16_19 : decode prog_29_method_14_code 19 = .ok (.aload_n 3, 1) := by decide +kernel
theorem d16_20 : decode prog_29_method_14_code 20 = .ok (.invokeinterface 76 1, 5) := by decide +kernel
theorem d16_25 : decode prog_29_method_14_code 25 = .ok (.ifCond .eq 42, 3) := by decide +kernel
theorem d16_28 : decode prog_29_method_14_code 28 = .ok (.aload_n 3, 1) := by decide +kernel
theorem d16_29 : decode prog_29_method_14_code 29 = .ok (.invokeinterface 82 1, 5) := by decide +kernel
theorem d16_34 : decode prog_29_method_14_code 34 = .ok (.checkcast 57, 3) := by decide +kernel
theorem d16_37 : decode prog_29_method_14_code 37 = .ok (.invokevirtual 85, 3) := by decide +kernel
theorem d16_40 : decode prog_29_method_14_code 40 = .ok (.istore 4, 2) := by decide +kernel
theorem d16_42 : decode prog_29_method_14_code 42 = .ok (.iload_n 2, 1) := by decide +kernel
theorem d16_43 : decode prog_29_method_14_code 43 = .ok (.aload_n 0, 1) := by decide +kernel
theorem d16_44 : decode prog_29_method_14_code 44 = .ok (.iload 4, 2) := by decide +kernel
theorem d16_46 : decode prog_29_method_14_code 46 = .ok (.invokevirtual 88, 3) := by decide +kernel
theorem d16_49 : decode prog_29_method_14_code 49 = .ok (.iadd, 1) := by decide +kernel
theorem d16_50 : decode prog_29_method_14_code 50 = .ok (.istore 5, 2) := by decide +kernel
theorem d16_52 : decode prog_29_method_14_code 52 = .ok (.aload_n 1, 1) := by decide +kernel
theorem d16_53 : decode prog_29_method_14_code 53 = .ok (.iload_n 2, 1) := by decide +kernel
theorem d16_54 : decode prog_29_method_14_code 54 = .ok (.iload 5, 2) := by decide +kernel
theorem d16_56 : decode prog_29_method_14_code 56 = .ok (.iload 4, 2) := by decide +kernel
theorem d16_58 : decode prog_29_method_14_code 58 = .ok (.invokestatic 92, 3) := by decide +kernel
theorem d16_61 : decode prog_29_method_14_code 61 = .ok (.iload 5, 2) := by decide +kernel
theorem d16_63 : decode prog_29_method_14_code 63 = .ok (.istore_n 2, 1) := by decide +kernel
theorem d16_64 : decode prog_29_method_14_code 64 = .ok (.goto (-45), 3) := by decide +kernel
theorem d16_67 : decode prog_29_method_14_code 67 = .ok (.aload_n 1, 1) := by decide +kernel
theorem d16_68 : decode prog_29_method_14_code 68 = .ok (.areturn, 1) := by decide +kernel
theorem own_p2 : plainName "com/example/even_commute/evencommute/demand/Workers" = true := by first | (simp [plainName, overriddenIn]; done) | decide +kernel
theorem own_ef_rmHz_0 (m : MethodId) (x0 : Addr) : entryFrame m #[.ref x0] 6 = mkF m 0 #[.val (.ref x0), .unset, .unset, .unset, .unset, .unset] [] := by first | (simp [entryFrame, mkF, argsToLocals, Value.category]; done) | rfl
def Q_rmHz_0 (Z : State) (wC : Addr) (cC : Cell) (wD : Addr) (kD : ClassId) (mA : Addr) (mL : Addr) (mR : Addr) (a : Addr) (al : Addr) (ct : Addr) (kC : ClassId) (t : Addr) (kE : ClassId) (b : Addr) (h0 : Heap) (n0 : Nat) (vv_ : Option Value) (hh_ : Heap) (LL_ : List Loc) : Prop := ∃ h : Addr, vv_ = some (.ref h) ∧ Fr n0 LL_ ∧ Keep h0 hh_ [] ∧ h0.size ≤ h
theorem rmHz_0 (l : Launch) (Z : State) (a0 : Array Value) (hw : ∀ d ∈ tables_1, d.before a0 Z = true) (ws : List Jvm.Cond) (wC : Addr) (cC : Cell) (wD : Addr) (kD : ClassId) (mA : Addr) (mL : Addr) (mR : Addr) (GS : Glob Z wC cC wD kD mA mL mR) (a : Addr) (al : Addr) (ct : Addr) (kC : ClassId) (t : Addr) (kE : ClassId) (b : Addr) (h0 : Heap) (n0 : Nat) (Z0 : n0 ≤ h0.size) (O0 : Old Z n0 h0) (E_a : Exa Z h0 a cn1) (Ft : Fld Z h0 a cn1 "total" "I" (.int 0)) (Fz : Fld Z h0 a cn1 "zones" "Ljava/util/List;" (.ref al)) (Fc : Fld Z h0 a cn1 "counts" "[I" (.ref ct)) (Vc : Arv Z h0 ct kC .int (2 : Int32) [.int 0, .int 0] (.int 0)) (E_l : Exa Z h0 al cn2) (Fm : Fld Z h0 al "java/util/AbstractList" "modCount" "I" (.int 1)) (Fs : Fld Z h0 al cn2 "size" "I" (.int 1)) (Fe : Fld Z h0 al cn2 "elementData" "[Ljava/lang/Object;" (.ref t)) (Vt : Arv Z h0 t kE (.object "java/lang/Object") (10 : Int32) [.ref b, .null, .null, .null, .null, .null, .null, .null, .null, .null] .null) (E_b : Exa Z h0 b "java/lang/Integer") (F_b : Fld Z h0 b "java/lang/Integer" "value" "I" (.int 1)) :
  MetFree l (⟨cn0, "homeZones", "(Lcom/example/even_commute/evencommute/demand/ZoneCounts;)[I"⟩ : MethodName) (head1 (Jvm.Cond.code (⟨cn0, "homeZones", "(Lcom/example/even_commute/evencommute/demand/ZoneCounts;)[I"⟩ : MethodName) prog_29_method_14_code 6 (some (.array .int)) :: ws) (⟨6, 4, 8, 76⟩ : Room)) (fun aa_ UU_ => aa_ = #[.ref a] ∧ Z.Warmed39 UU_.vm ∧ UU_.heap = h0) (fun _ _ _ _ _ => True) (fun _ UU_ oo_ UV_ => ∃ vv_ LL_, oo_ = .returned vv_ ∧ Q_rmHz_0 Z wC cC wD kD mA mL mR a al ct kC t kE b h0 n0 vv_ UV_.heap LL_ ∧ FrameEnd UU_ oo_ UV_ LL_ (⟨6, 4, 8, 76⟩ : Room).cells (⟨6, 4, 8, 76⟩ : Room).slots) := by
 refine MetFree.of_bodySF (plainFor_of_name own_p2) hisR ?_
 intro p e s m args below meth c s₁ Bd hml0 hP hK
 obtain ⟨rfl, hZ, hh⟩ := hP
 have hx := Bd.exec
 have hby := Bd.bytes
 have hml : c.maxLocals = 6 := hml0
 have hown : s.vm.findClass cn0 = some m.cls := findClass_of_methodNamed Bd.named
 have hnm := (name_of_methodNamed Bd.named Bd.method).1
 have X0 : Stand p l e (⟨6, 4, 8, 76⟩ : Room) s m #[.ref a] below meth c s₁ [] 0 0 := Stand.of_body Bd
 have e0 : s₁.heap = h0 := by rw [← hh, Bd.state]; rfl
 have N0 := Fr.nil n0
 have hn0 : Z.heap.size = n0 := O0.1
 have KT0 : Keep h0 h0 [] := Keep.refl _ _
 refine own_enter (Φ := fun oo_ UV_ => ∃ vv_ LL_, oo_ = .returned vv_ ∧ Q_rmHz_0 Z wC cC wD kD mA mL mR a al ct kC t kE b h0 n0 vv_ UV_.heap LL_ ∧ FrameEnd s oo_ UV_ LL_ (⟨6, 4, 8, 76⟩ : Room).cells (⟨6, 4, 8, 76⟩ : Room).slots) (own_ef_rmHz_0 m a) ?_
 refine own_b s₁ m 1 #[vr a, un, un, un, un, un] [.ref a] (fun _ k_ => XS.aloadN X0.here hx rfl (hb hby d16_0) rfl rfl k_) ?_
 obtain ⟨cq1, kq1, q1a, q1b, q1c⟩ := isOf hZ e0 E_a
 obtain ⟨_, _, ⟨T1, L1, k1, n1⟩, -, X1, ⟨Lc1, hQ1, l1, y1, z1⟩, st1⟩ := X0.virtualBack hx (y := (⟨cn1, "getTotal", "()I"⟩ : MethodName)) (z := (⟨cn1, "getTotal", "()I"⟩ : MethodName)) hown (mvT hZ (ww hw 110 rfl)) (mvT hZ (ww hw 111 rfl)) (notFace_of_selects (args := #[]) (mvT hZ (ww hw 113 rfl))) (mvT hZ (ww hw 113 rfl)) (mvT hZ (ww hw 112 rfl)) (by decide) (backOf (W := 0) (rmTot l Z a0 hw [] wC cC wD kD mA mL mR GS a (0 : Int32) h0 n0 (by omega) O0 Ft) hZ (ww hw 114 rfl) (ww hw 4 rfl) (by decide) (by decide)) q1a q1c (g := (mkF m 1 #[vr a, un, un, un, un, un] [.ref a])) rfl (by rw [hml]; rfl) (Steps.refl _) (argsL := []) (rest := []) (lenOf own_pd_5 rfl) rfl (by show 2 * 0 + _ ≤ _; exact Nat.le_of_eq rfl) (hb hby d16_1) (fun _ _ => ⟨rfl, e0, (by decide : 0 + 0 ≤ _), (by decide : 0 + 0 ≤ _)⟩)
 dsimp only [Pt.U, Pt.locs, Pt.cells, Pt.slots] at X1 l1 y1 z1 st1 hQ1
 subst l1 y1 z1
 obtain ⟨rfl, N1q, e1⟩ := hQ1
 have N2 := Fr.app N0 N1q
 refine own_b T1 m 4 #[vr a, un, un, un, un, un] [.int 0] (fun _ k_ => st1.trans k_) ?_
 obtain ⟨T3, h3, k3, X3, e3, E3, A3, st3⟩ := newP X1 hx hZ (ww hw 1 rfl) e1 (g := (mkF m 4 #[vr a, un, un, un, un, un] [.int 0])) rfl (hb hby d16_4) rfl (by decide) (cap := 0) (by decide) (by decide) (by decide) (by decide)
 obtain ⟨b3, g3⟩ : ∃ z, z = h0.size := ⟨_, rfl⟩
 rw [← g3] at A3 st3
 have K4 : Keep h0 h3 [] := own_kext E3
 have zzK4 : h0.size ≤ h3.size := K4.1
 have oo5 : Old Z n0 h3 := O0.keep K4 all0
 have kt6 : Keep h0 h3 [] := KT0.trans K4 all0
 have lab3 : b3 < h3.size := A3.lt
 have f7 : Arv Z h3 b3 k3 .int (0 : Int32) [] (.int 0) := (Arv.new A3 (by decide)).pad (pad_rep [] (.int 0) 0)
 refine own_b T3 m 6 #[vr a, un, un, un, un, un] [.ref b3] st3 ?_
 refine own_b T3 m 10 #[vr a, vr b3, vi 0, un, un, un] [.ref a] (fun _ k_ => XS.astoreN X3.here hx rfl (hb hby d16_6) rfl rfl (l' := #[vr a, vr b3, un, un, un, un]) rfl (XS.iconst X3.here hx rfl (hb hby d16_7) (XS.istoreN X3.here hx rfl (hb hby d16_8) rfl (l' := #[vr a, vr b3, vi 0, un, un, un]) rfl (XS.aloadN X3.here hx rfl (hb hby d16_9) rfl rfl k_)))) ?_
 have f8 : Exa Z h3 a cn1 := (E_a.keep K4)
 have f9 : Exa Z h3 al cn2 := (E_l.keep K4)
 have f10 : Fld Z h3 a cn1 "zones" "Ljava/util/List;" (.ref al) := (Fz.keep K4 nin0)
 obtain ⟨cq11, kq11, q11a, q11b, q11c⟩ := isOf hZ e3 f8
 obtain ⟨_, _, ⟨T11, L11, k11, n11⟩, -, X11, ⟨Lc11, hQ11, l11, y11, z11⟩, st11⟩ := X3.virtualBack hx (y := (⟨cn1, "getZones", "()Ljava/util/List;"⟩ : MethodName)) (z := (⟨cn1, "getZones", "()Ljava/util/List;"⟩ : MethodName)) hown (mvT hZ (ww hw 115 rfl)) (mvT hZ (ww hw 116 rfl)) (notFace_of_selects (args := #[]) (mvT hZ (ww hw 118 rfl))) (mvT hZ (ww hw 118 rfl)) (mvT hZ (ww hw 117 rfl)) (by decide) (backOf (W := 0) (rmGz l Z a0 hw [] wC cC wD kD mA mL mR GS a al h3 n0 (by omega) oo5 f8 f9 f10) hZ (ww hw 119 rfl) (ww hw 4 rfl) (by decide) (by decide)) q11a q11c (g := (mkF m 10 #[vr a, vr b3, vi 0, un, un, un] [.ref a])) rfl (by rw [hml]; rfl) (Steps.refl _) (argsL := []) (rest := []) (lenOf own_pd_18 rfl) rfl (by show 2 * 0 + _ ≤ _; exact Nat.le_of_eq rfl) (hb hby d16_10) (fun _ _ => ⟨rfl, e3, (by decide : 1 + 1 ≤ _), (by decide : 0 + 2 ≤ _)⟩)
 dsimp only [Pt.U, Pt.locs, Pt.cells, Pt.slots] at X11 l11 y11 z11 st11 hQ11
 subst l11 y11 z11
 obtain ⟨u_12, rfl, N11q, K11, p11_0, p11_1, p11_2, p11_3⟩ := hQ11
 have N13 := Fr.app N2 N11q
 have gu_12 : h3.size ≤ u_12 := p11_0
 have zzK11 : h3.size ≤ T11.heap.size := K11.1
 have oo14 : Old Z n0 T11.heap := oo5.keep K11 all0
 have kt15 : Keep h0 T11.heap [] := kt6.trans K11 all0
 refine own_b T11 m 13 #[vr a, vr b3, vi 0, un, un, un] [.ref u_12] (fun _ k_ => st11.trans k_) ?_
 have f16 : Exa Z T11.heap al cn2 := (f9.keep K11)
 have f17 : Fld Z T11.heap al "java/util/AbstractList" "modCount" "I" (.int 1) := ((Fm.keep K4 nin0).keep K11 nin0)
 obtain ⟨cq18, kq18, q18a, q18b, q18c⟩ := isOf hZ rfl p11_1
 obtain ⟨_, _, ⟨T18, L18, k18, n18⟩, -, X18, ⟨Lc18, hQ18, l18, y18, z18⟩, st18⟩ := X11.interfaceBack hx (xi := (⟨"java/util/List", "iterator", "()Ljava/util/Iterator;"⟩ : MethodName)) (y := (⟨"java/util/Collections$UnmodifiableCollection", "iterator", "()Ljava/util/Iterator;"⟩ : MethodName)) hown (mvT hZ (ww hw 162 rfl)) (mvT hZ (ww hw 163 rfl)) (mvT hZ (ww hw 164 rfl)) (mvT hZ (ww hw 165 rfl)) (mvT hZ (ww hw 166 rfl)) (mvT hZ (ww hw 167 rfl)) (mvT hZ (ww hw 168 rfl)) (mvT hZ (ww hw 169 rfl)) (by decide) (backOf (W := 0) (rmUIt l Z a0 hw [] wC cC wD kD mA mL mR GS u_12 al T11.heap n0 (by omega) oo14 p11_1 f16 p11_2 f17) hZ (ww hw 170 rfl) (ww hw 155 rfl) (by decide) (by decide)) q18a q18b q18c (g := (mkF m 13 #[vr a, vr b3, vi 0, un, un, un] [.ref u_12])) rfl (by rw [hml]; rfl) (Steps.refl _) (argsL := []) (rest := []) (lenOf own_pd_13 rfl) rfl (by show 2 * 0 + _ ≤ _; exact Nat.le_of_eq rfl) (hb hby d16_13) (fun _ _ => ⟨rfl, rfl, (by decide : 2 + 2 ≤ _), (by decide : 2 + 6 ≤ _)⟩)
 dsimp only [Pt.U, Pt.locs, Pt.cells, Pt.slots] at X18 l18 y18 z18 st18 hQ18
 subst l18 y18 z18
 obtain ⟨x1_19, it_20, rfl, N18q, K18, p18_0, p18_1, p18_2, p18_3, p18_4, p18_5, p18_6, p18_7, p18_8, p18_9⟩ := hQ18
 have N21 := Fr.app N13 N18q
 have gx1_19 : T11.heap.size ≤ x1_19 := p18_0
 have git_20 : T11.heap.size ≤ it_20 := p18_4
 have zzK18 : T11.heap.size ≤ T18.heap.size := K18.1
 have oo22 : Old Z n0 T18.heap := oo14.keep K18 all0
 have kt23 : Keep h0 T18.heap [] := kt15.trans K18 all0
 refine own_b T18 m 18 #[vr a, vr b3, vi 0, un, un, un] [.ref x1_19] (fun _ k_ => st18.trans k_) ?_
 refine own_b T18 m 20 #[vr a, vr b3, vi 0, vr x1_19, un, un] [.ref x1_19] (fun _ k_ => XS.astoreN X18.here hx rfl (hb hby d16_18) rfl rfl (l' := #[vr a, vr b3, vi 0, vr x1_19, un, un]) rfl (XS.aloadN X18.here hx rfl (hb hby d16_19) rfl rfl k_)) ?_
 have f24 : Fld Z T18.heap al cn2 "size" "I" (.int 1) := (((Fs.keep K4 nin0).keep K11 nin0).keep K18 nin0)
 obtain ⟨cq25, kq25, q25a, q25b, q25c⟩ := isOf hZ rfl p18_1
 obtain ⟨_, _, ⟨T25, L25, k25, n25⟩, -, X25, ⟨Lc25, hQ25, l25, y25, z25⟩, st25⟩ := X18.interfaceBack hx (xi := (⟨"java/util/Iterator", "hasNext", "()Z"⟩ : MethodName)) (y := (⟨cn3, "hasNext", "()Z"⟩ : MethodName)) hown (mvT hZ (ww hw 208 rfl)) (mvT hZ (ww hw 209 rfl)) (mvT hZ (ww hw 210 rfl)) (mvT hZ (ww hw 211 rfl)) (mvT hZ (ww hw 212 rfl)) (mvT hZ (ww hw 213 rfl)) (mvT hZ (ww hw 214 rfl)) (mvT hZ (ww hw 215 rfl)) (by decide) (backOf (W := 0) (rmUHn0 l Z a0 hw [] wC cC wD kD mA mL mR GS x1_19 it_20 al T18.heap n0 (by omega) oo22 p18_1 p18_2 p18_5 p18_6 p18_9 f24) hZ (ww hw 216 rfl) (ww hw 173 rfl) (by decide) (by decide)) q25a q25b q25c (g := (mkF m 20 #[vr a, vr b3, vi 0, vr x1_19, un, un] [.ref x1_19])) rfl (by rw [hml]; rfl) (Steps.refl _) (argsL := []) (rest := []) (lenOf own_pd_15 rfl) rfl (by show 2 * 0 + _ ≤ _; exact Nat.le_of_eq rfl) (hb hby d16_20) (fun _ _ => ⟨rfl, rfl, (by decide : 4 + 0 ≤ _), (by decide : 8 + 0 ≤ _)⟩)
 dsimp only [Pt.U, Pt.locs, Pt.cells, Pt.slots] at X25 l25 y25 z25 st25 hQ25
 subst l25 y25 z25
 obtain ⟨rfl, N25q, e25⟩ := hQ25
 have N26 := Fr.app N21 N25q
 refine own_b T25 m 25 #[vr a, vr b3, vi 0, vr x1_19, un, un] [.int 1] (fun _ k_ => st25.trans k_) ?_
 refine own_b T25 m 29 #[vr a, vr b3, vi 0, vr x1_19, un, un] [.ref x1_19] (fun _ k_ => XS.ifNo X25.here hx rfl (hb hby d16_25) rfl (XT.i0_eq_f (by decide)) (XS.aloadN X25.here hx rfl (hb hby d16_28) rfl rfl k_)) ?_
 have la27 : @LT.lt Nat instLTNat it_20 T18.heap.size := p18_5.lt
 have f28 : Exa Z T18.heap al cn2 := (f16.keep K18)
 have f29 : Fld Z T18.heap al "java/util/AbstractList" "modCount" "I" (.int 1) := (f17.keep K18 nin0)
 have f30 : Fld Z T18.heap al cn2 "elementData" "[Ljava/lang/Object;" (.ref t) := (((Fe.keep K4 nin0).keep K11 nin0).keep K18 nin0)
 have f31 : Arv Z T18.heap t kE (.object "java/lang/Object") (10 : Int32) [.ref b, .null, .null, .null, .null, .null, .null, .null, .null, .null] .null := (((Vt.keep K4 nin0).keep K11 nin0).keep K18 nin0)
 have la32 : @LT.lt Nat instLTNat al h0.size := E_l.lt
 have ne33 : @Ne Nat al it_20 := by omega
 have la34 : @LT.lt Nat instLTNat t h0.size := Vt.lt
 have ne35 : @Ne Nat t it_20 := by omega
 obtain ⟨cq36, kq36, q36a, q36b, q36c⟩ := isOf hZ e25 p18_1
 obtain ⟨_, _, ⟨T36, L36, k36, n36⟩, -, X36, ⟨Lc36, hQ36, l36, y36, z36⟩, st36⟩ := X25.interfaceBack hx (xi := (⟨"java/util/Iterator", "next", "()Ljava/lang/Object;"⟩ : MethodName)) (y := (⟨cn3, "next", "()Ljava/lang/Object;"⟩ : MethodName)) hown (mvT hZ (ww hw 227 rfl)) (mvT hZ (ww hw 228 rfl)) (mvT hZ (ww hw 229 rfl)) (mvT hZ (ww hw 230 rfl)) (mvT hZ (ww hw 231 rfl)) (mvT hZ (ww hw 232 rfl)) (mvT hZ (ww hw 233 rfl)) (mvT hZ (ww hw 215 rfl)) (by decide) (backOf (W := 0) (rmUNx l Z a0 hw [] wC cC wD kD mA mL mR GS x1_19 it_20 al t kE b T18.heap n0 (by omega) oo22 p18_1 p18_2 p18_5 (by omega) p18_6 p18_7 p18_8 p18_9 f28 f29 f24 f30 f31 ne33 ne35) hZ (ww hw 234 rfl) (ww hw 173 rfl) (by decide) (by decide)) q36a q36b q36c (g := (mkF m 29 #[vr a, vr b3, vi 0, vr x1_19, un, un] [.ref x1_19])) rfl (by rw [hml]; rfl) (Steps.refl _) (argsL := []) (rest := []) (lenOf own_pd_16 rfl) rfl (by show 2 * 0 + _ ≤ _; exact Nat.le_of_eq rfl) (hb hby d16_29) (fun _ _ => ⟨rfl, e25, (by decide : 4 + 0 ≤ _), (by decide : 8 + 0 ≤ _)⟩)
 dsimp only [Pt.U, Pt.locs, Pt.cells, Pt.slots] at X36 l36 y36 z36 st36 hQ36
 subst l36 y36 z36
 obtain ⟨rfl, N36q, K36, p36_0, p36_1, p36_2, p36_3⟩ := hQ36
 have N37 := Fr.app N26 N36q
 have zzK36 : T18.heap.size ≤ T36.heap.size := K36.1
 have oo38 : Old Z n0 T36.heap := oo22.keep K36 (allS (by omega : n0 ≤ it_20) all0)
 have kt39 : Keep h0 T36.heap [] := kt23.trans K36 (allS (Or.inr (by omega : h0.size ≤ it_20)) all0)
 refine own_b T36 m 34 #[vr a, vr b3, vi 0, vr x1_19, un, un] [.ref b] (fun _ k_ => st36.trans k_) ?_
 have f41 : Exa Z T36.heap b "java/lang/Integer" := ((((E_b.keep K4).keep K11).keep K18).keep K36)
 obtain ⟨T40, X40, e40, st40⟩ := castY X36 hx hZ hown (ww hw 247 rfl) rfl (Ins.self f41) (g := (mkF m 34 #[vr a, vr b3, vi 0, vr x1_19, un, un] [.ref b])) rfl rfl (hb hby d16_34)
 refine own_b T40 m 37 #[vr a, vr b3, vi 0, vr x1_19, un, un] [.ref b] st40 ?_
 have la42 : @LT.lt Nat instLTNat b h0.size := E_b.lt
 have ne43 : @Ne Nat b it_20 := by omega
 have f44 : Fld Z T36.heap b "java/lang/Integer" "value" "I" (.int 1) := ((((F_b.keep K4 nin0).keep K11 nin0).keep K18 nin0).keep K36 (ninS ne43 nin0))
 obtain ⟨cq45, kq45, q45a, q45b, q45c⟩ := isOf hZ e40 f41
 obtain ⟨_, _, ⟨T45, L45, k45, n45⟩, -, X45, ⟨Lc45, hQ45, l45, y45, z45⟩, st45⟩ := X40.virtualBack hx (y := (⟨"java/lang/Integer", "intValue", "()I"⟩ : MethodName)) (z := (⟨"java/lang/Integer", "intValue", "()I"⟩ : MethodName)) hown (mvT hZ (ww hw 249 rfl)) (mvT hZ (ww hw 250 rfl)) (notFace_of_selects (args := #[]) (mvT hZ (ww hw 252 rfl))) (mvT hZ (ww hw 252 rfl)) (mvT hZ (ww hw 251 rfl)) (by decide) (backOf (W := 0) (rmIv l Z a0 hw [] wC cC wD kD mA mL mR GS b (1 : Int32) T36.heap n0 (by omega) oo38 f44) hZ (ww hw 253 rfl) (ww hw 61 rfl) (by decide) (by decide)) q45a q45c (g := (mkF m 37 #[vr a, vr b3, vi 0, vr x1_19, un, un] [.ref b])) rfl (by rw [hml]; rfl) (Steps.refl _) (argsL := []) (rest := []) (lenOf own_pd_5 rfl) rfl (by show 2 * 0 + _ ≤ _; exact Nat.le_of_eq rfl) (hb hby d16_37) (fun _ _ => ⟨rfl, e40, (by decide : 4 + 0 ≤ _), (by decide : 8 + 0 ≤ _)⟩)
 dsimp only [Pt.U, Pt.locs, Pt.cells, Pt.slots] at X45 l45 y45 z45 st45 hQ45
 subst l45 y45 z45
 obtain ⟨rfl, N45q, e45⟩ := hQ45
 have N46 := Fr.app N37 N45q
 refine own_b T45 m 40 #[vr a, vr b3, vi 0, vr x1_19, un, un] [.int 1] (fun _ k_ => st45.trans k_) ?_
 refine own_b T45 m 46 #[vr a, vr b3, vi 0, vr x1_19, vi 1, un] [.int 1, .ref a, .int 0] (fun _ k_ => XS.istore X45.here hx rfl (hb hby d16_40) rfl (l' := #[vr a, vr b3, vi 0, vr x1_19, vi 1, un]) rfl (XS.iloadN X45.here hx rfl (hb hby d16_42) rfl (XS.aloadN X45.here hx rfl (hb hby d16_43) rfl rfl (XS.iload X45.here hx rfl (hb hby d16_44) rfl k_)))) ?_
 have f47 : Exa Z T36.heap a cn1 := (((f8.keep K11).keep K18).keep K36)
 have la48 : @LT.lt Nat instLTNat a h0.size := E_a.lt
 have ne49 : @Ne Nat a it_20 := by omega
 have f50 : Fld Z T36.heap a cn1 "counts" "[I" (.ref ct) := ((((Fc.keep K4 nin0).keep K11 nin0).keep K18 nin0).keep K36 (ninS ne49 nin0))
 have la51 : @LT.lt Nat instLTNat ct h0.size := Vc.lt
 have ne52 : @Ne Nat ct it_20 := by omega
 have f53 : Arv Z T36.heap ct kC .int (2 : Int32) [.int 0, .int 0] (.int 0) := ((((Vc.keep K4 nin0).keep K11 nin0).keep K18 nin0).keep K36 (ninS ne52 nin0))
 obtain ⟨cq54, kq54, q54a, q54b, q54c⟩ := isOf hZ e45 f47
 obtain ⟨_, _, ⟨T54, L54, k54, n54⟩, -, X54, ⟨Lc54, hQ54, l54, y54, z54⟩, st54⟩ := X45.virtualBack hx (y := (⟨cn1, "get", "(I)I"⟩ : MethodName)) (z := (⟨cn1, "get", "(I)I"⟩ : MethodName)) hown (mvT hZ (ww hw 256 rfl)) (mvT hZ (ww hw 257 rfl)) (notFace_of_selects (args := #[]) (mvT hZ (ww hw 259 rfl))) (mvT hZ (ww hw 259 rfl)) (mvT hZ (ww hw 258 rfl)) (by decide) (backOf (W := 1) (rmZg l Z a0 hw [] wC cC wD kD mA mL mR GS a ct kC (0 : Int32) (0 : Int32) T36.heap n0 (by omega) oo38 f47 f50 f53) hZ (ww hw 260 rfl) (ww hw 4 rfl) (by decide) (by decide)) q54a q54c (g := (mkF m 46 #[vr a, vr b3, vi 0, vr x1_19, vi 1, un] [.int 1, .ref a, .int 0])) rfl (by rw [hml]; rfl) (Steps.refl _) (argsL := [.int 1]) (rest := [.int 0]) (lenOf own_pd_19 rfl) rfl (by show 2 * 0 + _ ≤ _; exact Nat.le_of_eq rfl) (hb hby d16_46) (fun _ _ => ⟨rfl, e45, (by decide : 4 + 0 ≤ _), (by decide : 8 + 0 ≤ _)⟩)
 dsimp only [Pt.U, Pt.locs, Pt.cells, Pt.slots] at X54 l54 y54 z54 st54 hQ54
 subst l54 y54 z54
 obtain ⟨rfl, N54q, e54⟩ := hQ54
 have N55 := Fr.app N46 N54q
 refine own_b T54 m 49 #[vr a, vr b3, vi 0, vr x1_19, vi 1, un] [.int 0, .int 0] (fun _ k_ => st54.trans k_) ?_
 refine own_b T54 m 50 #[vr a, vr b3, vi 0, vr x1_19, vi 1, un] [(.int ((0 : Int32) + (0 : Int32)))] (fun _ k_ => XS.iadd X54.here hx rfl (hb hby d16_49) rfl k_) ?_
 rw [show ((0 : Int32) + (0 : Int32)) = (0 : Int32) from by decide]
 refine own_b T54 m 58 #[vr a, vr b3, vi 0, vr x1_19, vi 1, vi 0] [.int 1, .int 0, .int 0, .ref b3] (fun _ k_ => XS.istore X54.here hx rfl (hb hby d16_50) rfl (l' := #[vr a, vr b3, vi 0, vr x1_19, vi 1, vi 0]) rfl (XS.aloadN X54.here hx rfl (hb hby d16_52) rfl rfl (XS.iloadN X54.here hx rfl (hb hby d16_53) rfl (XS.iload X54.here hx rfl (hb hby d16_54) rfl (XS.iload X54.here hx rfl (hb hby d16_56) rfl k_))))) ?_
 have ne56 : @Ne Nat b3 it_20 := by omega
 have f57 : Arv Z T36.heap b3 k3 .int (0 : Int32) [] (.int 0) := (((f7.keep K11 nin0).keep K18 nin0).keep K36 (ninS ne56 nin0))
 obtain ⟨_, _, ⟨T58, L58, k58, n58⟩, -, X58, ⟨Lc58, hQ58, l58, y58, z58⟩, st58⟩ := Jvm.LawKit.callS X54 hx (y := (⟨"java/util/Arrays", "fill", "([IIII)V"⟩ : MethodName)) hown (mvT hZ (ww hw 261 rfl)) (mvT hZ (ww hw 262 rfl)) (mvT hZ (ww hw 263 rfl)) (mvT hZ (ww hw 264 rfl)) (by decide) (backOf (W := 0) (rmFill_0 l Z a0 hw [] wC cC wD kD mA mL mR GS b3 k3 T36.heap n0 (by omega) oo38 (by omega) f57) hZ (ww hw 264 rfl) (ww hw 263 rfl) (by decide) (by decide)) (g := (mkF m 58 #[vr a, vr b3, vi 0, vr x1_19, vi 1, vi 0] [.int 1, .int 0, .int 0, .ref b3])) rfl (by rw [hml]; rfl) (argsL := [.ref b3, .int 0, .int 0, .int 1]) (rest := []) (lenOf own_pd_20 rfl) rfl (by show 2 * 0 + _ ≤ _; exact Nat.le_of_eq rfl) (hb hby d16_58) (fun _ _ => ⟨rfl, e54, (by decide : 4 + 0 ≤ _), (by decide : 8 + 0 ≤ _)⟩)
 dsimp only [Pt.U, Pt.locs, Pt.cells, Pt.slots] at X58 l58 y58 z58 st58 hQ58
 subst l58 y58 z58
 obtain ⟨rfl, N58q, K58, p58_0⟩ := hQ58
 have N59 := Fr.app N55 N58q
 have zzK58 : T36.heap.size ≤ T58.heap.size := K58.1
 have oo60 : Old Z n0 T58.heap := oo38.keep K58 (allS (by omega : n0 ≤ b3) all0)
 have kt61 : Keep h0 T58.heap [] := kt39.trans K58 (allS (Or.inr (by omega : h0.size ≤ b3)) all0)
 refine own_b T58 m 61 #[vr a, vr b3, vi 0, vr x1_19, vi 1, vi 0] [] st58 ?_
 refine own_b T58 m 20 #[vr a, vr b3, vi 0, vr x1_19, vi 1, vi 0] [.ref x1_19] (fun _ k_ => XS.iload X58.here hx rfl (hb hby d16_61) rfl (XS.istoreN X58.here hx rfl (hb hby d16_63) rfl (l' := #[vr a, vr b3, vi 0, vr x1_19, vi 1, vi 0]) rfl (XS.goto X58.here hx rfl (pc0 := 64) (pc' := 19) rfl (hb hby d16_64) (by decide) (by decide) (XS.aloadN X58.here hx rfl (hb hby d16_19) rfl rfl k_)))) ?_
 have f62 : Exa Z T58.heap x1_19 cn3 := ((p18_1.keep K36).keep K58)
 have la63 : @LT.lt Nat instLTNat x1_19 T18.heap.size := p18_1.lt
 have ne64 : @Ne Nat x1_19 it_20 := by omega
 have ne65 : @Ne Nat x1_19 b3 := by omega
 have f66 : Fld Z T58.heap x1_19 cn3 "i" "Ljava/util/Iterator;" (.ref it_20) := ((p18_2.keep K36 (ninS ne64 nin0)).keep K58 (ninS ne65 nin0))
 have f67 : Exa Z T58.heap it_20 cn5 := ((p18_5.keep K36).keep K58)
 have ne68 : @Ne Nat it_20 b3 := by omega
 have f69 : Fld Z T58.heap it_20 cn5 "this$0" "Ljava/util/ArrayList;" (.ref al) := (p36_0.keep K58 (ninS ne68 nin0))
 have f70 : Fld Z T58.heap it_20 cn5 "cursor" "I" (.int 1) := (p36_3.keep K58 (ninS ne68 nin0))
 have ne71 : @Ne Nat al b3 := by omega
 have f72 : Fld Z T58.heap al cn2 "size" "I" (.int 1) := ((f24.keep K36 (ninS ne33 nin0)).keep K58 (ninS ne71 nin0))
 obtain ⟨cq73, kq73, q73a, q73b, q73c⟩ := isOf hZ rfl f62
 obtain ⟨_, _, ⟨T73, L73, k73, n73⟩, -, X73, ⟨Lc73, hQ73, l73, y73, z73⟩, st73⟩ := X58.interfaceBack hx (xi := (⟨"java/util/Iterator", "hasNext", "()Z"⟩ : MethodName)) (y := (⟨cn3, "hasNext", "()Z"⟩ : MethodName)) hown (mvT hZ (ww hw 208 rfl)) (mvT hZ (ww hw 209 rfl)) (mvT hZ (ww hw 210 rfl)) (mvT hZ (ww hw 211 rfl)) (mvT hZ (ww hw 212 rfl)) (mvT hZ (ww hw 213 rfl)) (mvT hZ (ww hw 214 rfl)) (mvT hZ (ww hw 215 rfl)) (by decide) (backOf (W := 0) (rmUHn1 l Z a0 hw [] wC cC wD kD mA mL mR GS x1_19 it_20 al T58.heap n0 (by omega) oo60 f62 f66 f67 f69 f70 f72) hZ (ww hw 216 rfl) (ww hw 173 rfl) (by decide) (by decide)) q73a q73b q73c (g := (mkF m 20 #[vr a, vr b3, vi 0, vr x1_19, vi 1, vi 0] [.ref x1_19])) rfl (by rw [hml]; rfl) (Steps.refl _) (argsL := []) (rest := []) (lenOf own_pd_15 rfl) rfl (by show 2 * 0 + _ ≤ _; exact Nat.le_of_eq rfl) (hb hby d16_20) (fun _ _ => ⟨rfl, rfl, (by decide : 4 + 0 ≤ _), (by decide : 8 + 0 ≤ _)⟩)
 dsimp only [Pt.U, Pt.locs, Pt.cells, Pt.slots] at X73 l73 y73 z73 st73 hQ73
 subst l73 y73 z73
 obtain ⟨rfl, N73q, e73⟩ := hQ73
 have N74 := Fr.app N59 N73q
 refine own_b T73 m 25 #[vr a, vr b3, vi 0, vr x1_19, vi 1, vi 0] [.int 0] (fun _ k_ => st73.trans k_) ?_
 refine own_b T73 m 68 #[vr a, vr b3, vi 0, vr x1_19, vi 1, vi 0] [.ref b3] (fun _ k_ => XS.ifYes X73.here hx rfl (pc0 := 25) (pc' := 67) rfl (hb hby d16_25) rfl (XT.i0_eq_t (by decide)) (by decide) (by decide) (XS.aloadN X73.here hx rfl (hb hby d16_67) rfl rfl k_)) ?_
 obtain ⟨fs75, hr75, hrun75, hended75, hW75, hsame75⟩ := X73.leave (v := some (.ref b3)) (fun h => by rw [Bd.returns] at h; cases h)
 refine ⟨_, _, retOut X73 hx (t := (.array .int)) Bd.returns rfl (Or.inr (Or.inr (Or.inr (Or.inr ⟨rfl, rfl, rfl⟩)))) (hb hby d16_68) hr75, hrun75, hended75, _, _, rfl, ?_, ⟨_, rfl⟩, hW75, hsame75.mono (by decide) (by decide)⟩
 show Q_rmHz_0 Z wC cC wD kD mA mL mR a al ct kC t kE b h0 n0 _ T73.heap _
 rw [e73]
 exact ⟨b3, rfl, N74, kt61, (by omega)⟩
theorem own_ef_rmRc_1 (m : MethodId) (x0 : Int32) (x1 : Int32) (x2 : Int32) : entryFrame m #[.int x0, .int x1, .int x2] 3 = mkF m 0 #[.val (.int x0), .val (.int x1), .val (.int x2)] [] := by first | (simp [entryFrame, mkF, argsToLocals, Value.category]; done) | rfl
def Q_rmRc_1 (Z : State) (wC : Addr) (cC : Cell) (wD : Addr) (kD : ClassId) (mA : Addr) (mL : Addr) (mR : Addr) (h0 : Heap) (n0 : Nat) (vv_ : Option Value) (hh_ : Heap) (LL_ : List Loc) : Prop := vv_ = none ∧ Fr n0 LL_ ∧ hh_ = h0
theorem rmRc_1 (l : Launch) (Z : State) (a0 : Array Value) (hw : ∀ d ∈ tables_1, d.before a0 Z = true) (ws : List Jvm.Cond) (wC : Addr) (cC : Cell) (wD : Addr) (kD : ClassId) (mA : Addr) (mL : Addr) (mR : Addr) (GS : Glob Z wC cC wD kD mA mL mR)  (h0 : Heap) (n0 : Nat) (Z0 : n0 ≤ h0.size) (O0 : Old Z n0 h0) :
  MetFree l (⟨"java/util/Arrays", "rangeCheck", "(III)V"⟩ : MethodName) (head1 (Jvm.Cond.code (⟨"java/util/Arrays", "rangeCheck", "(III)V"⟩ : MethodName) jdk_65_method_30_code 3 none :: ws) (⟨0, 0, 0, 0⟩ : Room)) (fun aa_ UU_ => aa_ = #[.int 1, .int 0, .int 1] ∧ Z.Warmed39 UU_.vm ∧ UU_.heap = h0) (fun _ _ _ _ _ => True) (fun _ UU_ oo_ UV_ => ∃ vv_ LL_, oo_ = .returned vv_ ∧ Q_rmRc_1 Z wC cC wD kD mA mL mR h0 n0 vv_ UV_.heap LL_ ∧ FrameEnd UU_ oo_ UV_ LL_ (⟨0, 0, 0, 0⟩ : Room).cells (⟨0, 0, 0, 0⟩ : Room).slots) := by
 refine MetFree.of_bodySF (plainFor_of_name own_p13) hisR ?_
 intro p e s m args below meth c s₁ Bd hml0 hP hK
 obtain ⟨rfl, hZ, hh⟩ := hP
 have hx := Bd.exec
 have hby := Bd.bytes
 have hml : c.maxLocals = 3 := hml0
 have hown : s.vm.findClass "java/util/Arrays" = some m.cls := findClass_of_methodNamed Bd.named
 have hnm := (name_of_methodNamed Bd.named Bd.method).1
 have X0 : Stand p l e (⟨0, 0, 0, 0⟩ : Room) s m #[.int 1, .int 0, .int 1] below meth c s₁ [] 0 0 := Stand.of_body Bd
 have e0 : s₁.heap = h0 := by rw [← hh, Bd.state]; rfl
 have N0 := Fr.nil n0
 have hn0 : Z.heap.size = n0 := O0.1
 have KT0 : Keep h0 h0 [] := Keep.refl _ _
 refine own_enter (Φ := fun oo_ UV_ => ∃ vv_ LL_, oo_ = .returned vv_ ∧ Q_rmRc_1 Z wC cC wD kD mA mL mR h0 n0 vv_ UV_.heap LL_ ∧ FrameEnd s oo_ UV_ LL_ (⟨0, 0, 0, 0⟩ : Room).cells (⟨0, 0, 0, 0⟩ : Room).slots) (own_ef_rmRc_1 m (1 : Int32) (0 : Int32) (1 : Int32)) ?_
 refine own_b s₁ m 73 #[vi 1, vi 0, vi 1] [] (fun _ k_ => XS.iloadN X0.here hx rfl (hb hby d35_0) rfl (XS.iloadN X0.here hx rfl (hb hby d35_1) rfl (XS.icmpYes X0.here hx rfl (pc0 := 2) (pc' := 46) rfl (hb hby d35_2) rfl (XT.ii_le_t (by decide)) (by decide) (by decide) (XS.iloadN X0.here hx rfl (hb hby d35_46) rfl (XS.ifYes X0.here hx rfl (pc0 := 47) (pc' := 59) rfl (hb hby d35_47) rfl (XT.i0_ge_t (by decide)) (by decide) (by decide) (XS.iloadN X0.here hx rfl (hb hby d35_59) rfl (XS.iloadN X0.here hx rfl (hb hby d35_60) rfl (XS.icmpYes X0.here hx rfl (pc0 := 61) (pc' := 73) rfl (hb hby d35_61) rfl (XT.ii_le_t (by decide)) (by decide) (by decide) k_)))))))) ?_
 obtain ⟨fs1, hr1, hrun1, hended1, hW1, hsame1⟩ := X0.leave (v := none) (fun _ => rfl)
 refine ⟨_, _, X0.returnOut hx Bd.returns (hb hby d35_73) hr1, hrun1, hended1, _, _, rfl, ?_, ⟨_, rfl⟩, hW1, hsame1.mono (by decide) (by decide)⟩
 show Q_rmRc_1 Z wC cC wD kD mA mL mR h0 n0 _ s₁.heap _
 exact ⟨rfl, N0, e0⟩
theorem d34_16 : decode jdk_65_method_104_code 16 = .ok (.aload_n 0, 1) := by decide +kernel
theorem d34_17 : decode jdk_65_method_104_code 17 = .ok (.iload 4, 2) := by decide +kernel
theorem d34_19 : decode jdk_65_method_104_code 19 = .ok (.iload_n 3, 1) := by decide +kernel
theorem d34_20 : decode jdk_65_method_104_code 20 = .ok (.iastore, 1) := by decide +kernel
theorem d34_21 : decode jdk_65_method_104_code 21 = .ok (.iinc 4 1, 3) := by decide +kernel
theorem d34_24 : decode jdk_65_method_104_code 24 = .ok (.goto (-14), 3) := by decide +kernel
theorem own_ef_rmFill_1 (m : MethodId) (x0 : Addr) (x1 : Int32) (x2 : Int32) (x3 : Int32) : entryFrame m #[.ref x0, .int x1, .int x2, .int x3] 5 = mkF m 0 #[.val (.ref x0), .val (.int x1), .val (.int x2), .val (.int x3), .unset] [] := by first | (simp [entryFrame, mkF, argsToLocals, Value.category]; done) | rfl
def Q_rmFill_1 (Z : State) (wC : Addr) (cC : Cell) (wD : Addr) (kD : ClassId) (mA : Addr) (mL : Addr) (mR : Addr) (h : Addr) (kH : ClassId) (h0 : Heap) (n0 : Nat) (vv_ : Option Value) (hh_ : Heap) (LL_ : List Loc) : Prop := vv_ = none ∧ Fr n0 LL_ ∧ Keep h0 hh_ [h] ∧ Arv Z hh_ h kH .int (1 : Int32) [.int 1] (.int 0)
theorem rmFill_1 (l : Launch) (Z : State) (a0 : Array Value) (hw : ∀ d ∈ tables_1, d.before a0 Z = true) (ws : List Jvm.Cond) (wC : Addr) (cC : Cell) (wD : Addr) (kD : ClassId) (mA : Addr) (mL : Addr) (mR : Addr) (GS : Glob Z wC cC wD kD mA mL mR) (h : Addr) (kH : ClassId) (h0 : Heap) (n0 : Nat) (Z0 : n0 ≤ h0.size) (O0 : Old Z n0 h0) (g_h : n0 ≤ h) (Vh : Arv Z h0 h kH .int (1 : Int32) [.int 0] (.int 0)) :
  MetFree l (⟨"java/util/Arrays", "fill", "([IIII)V"⟩ : MethodName) (head1 (Jvm.Cond.code (⟨"java/util/Arrays", "fill", "([IIII)V"⟩ : MethodName) jdk_65_method_104_code 5 none :: ws) (⟨1, 0, 0, 14⟩ : Room)) (fun aa_ UU_ => aa_ = #[.ref h, .int 0, .int 1, .int 1] ∧ Z.Warmed39 UU_.vm ∧ UU_.heap = h0) (fun _ _ _ _ _ => True) (fun _ UU_ oo_ UV_ => ∃ vv_ LL_, oo_ = .returned vv_ ∧ Q_rmFill_1 Z wC cC wD kD mA mL mR h kH h0 n0 vv_ UV_.heap LL_ ∧ FrameEnd UU_ oo_ UV_ LL_ (⟨1, 0, 0, 14⟩ : Room).cells (⟨1, 0, 0, 14⟩ : Room).slots) := by
 refine MetFree.of_bodySF (plainFor_of_name own_p13) hisR ?_
 intro p e s m args below meth c s₁ Bd hml0 hP hK
 obtain ⟨rfl, hZ, hh⟩ := hP
 have hx := Bd.exec
 have hby := Bd.bytes
 have hml : c.maxLocals = 5 := hml0
 have hown : s.vm.findClass "java/util/Arrays" = some m.cls := findClass_of_methodNamed Bd.named
 have hnm := (name_of_methodNamed Bd.named Bd.method).1
 have X0 : Stand p l e (⟨1, 0, 0, 14⟩ : Room) s m #[.ref h, .int 0, .int 1, .int 1] below meth c s₁ [] 0 0 := Stand.of_body Bd
 have e0 : s₁.heap = h0 := by rw [← hh, Bd.state]; rfl
 have N0 := Fr.nil n0
 have hn0 : Z.heap.size = n0 := O0.1
 have KT0 : Keep h0 h0 [h] := Keep.refl _ _
 refine own_enter (Φ := fun oo_ UV_ => ∃ vv_ LL_, oo_ = .returned vv_ ∧ Q_rmFill_1 Z wC cC wD kD mA mL mR h kH h0 n0 vv_ UV_.heap LL_ ∧ FrameEnd s oo_ UV_ LL_ (⟨1, 0, 0, 14⟩ : Room).cells (⟨1, 0, 0, 14⟩ : Room).slots) (own_ef_rmFill_1 m h (0 : Int32) (1 : Int32) (1 : Int32)) ?_
 refine own_b s₁ m 1 #[vr h, vi 0, vi 1, vi 1, un] [.ref h] (fun _ k_ => XS.aloadN X0.here hx rfl (hb hby d34_0) rfl rfl k_) ?_
 obtain ⟨cl1, Ar1, q1, S1, M1, H1, G1⟩ := id Vh
 refine own_b s₁ m 2 #[vr h, vi 0, vi 1, vi 1, un] [.int 1] (fun _ k_ => X0.arraylength hx (by rw [e0]; exact Ar1.1) (State.isArrayOf_alike hZ.alike Ar1.2.1) (g := (mkF m 1 #[vr h, vi 0, vi 1, vi 1, un] [.ref h])) rfl rfl (hb hby d34_1) _ (by rw [len_of S1 M1]; exact k_)) ?_
 refine own_b s₁ m 4 #[vr h, vi 0, vi 1, vi 1, un] [.int 1, .int 0, .int 1] (fun _ k_ => XS.iloadN X0.here hx rfl (hb hby d34_2) rfl (XS.iloadN X0.here hx rfl (hb hby d34_3) rfl k_)) ?_
 obtain ⟨_, _, ⟨T2, L2, k2, n2⟩, -, X2, ⟨Lc2, hQ2, l2, y2, z2⟩, st2⟩ := Jvm.LawKit.callS X0 hx (y := (⟨"java/util/Arrays", "rangeCheck", "(III)V"⟩ : MethodName)) hown (mvT hZ (ww hw 265 rfl)) (mvT hZ (ww hw 266 rfl)) (mvT hZ (ww hw 263 rfl)) (mvT hZ (ww hw 267 rfl)) (by decide) (backOf (W := 0) (rmRc_1 l Z a0 hw [] wC cC wD kD mA mL mR GS  h0 n0 (by omega) O0 ) hZ (ww hw 267 rfl) (ww hw 263 rfl) (by decide) (by decide)) (g := (mkF m 4 #[vr h, vi 0, vi 1, vi 1, un] [.int 1, .int 0, .int 1])) rfl (by rw [hml]; rfl) (argsL := [.int 1, .int 0, .int 1]) (rest := []) (lenOf own_pd_17 rfl) rfl (by show 2 * 0 + _ ≤ _; exact Nat.le_of_eq rfl) (hb hby d34_4) (fun _ _ => ⟨rfl, e0, (by decide : 0 + 0 ≤ _), (by decide : 0 + 0 ≤ _)⟩)
 dsimp only [Pt.U, Pt.locs, Pt.cells, Pt.slots] at X2 l2 y2 z2 st2 hQ2
 subst l2 y2 z2
 obtain ⟨rfl, N2q, e2⟩ := hQ2
 have N3 := Fr.app N0 N2q
 refine own_b T2 m 7 #[vr h, vi 0, vi 1, vi 1, un] [] st2 ?_
 refine own_b T2 m 20 #[vr h, vi 0, vi 1, vi 1, vi 0] [.int 1, .int 0, .ref h] (fun _ k_ => XS.iloadN X2.here hx rfl (hb hby d34_7) rfl (XS.istore X2.here hx rfl (hb hby d34_8) rfl (l' := #[vr h, vi 0, vi 1, vi 1, vi 0]) rfl (XS.iload X2.here hx rfl (hb hby d34_10) rfl (XS.iloadN X2.here hx rfl (hb hby d34_12) rfl (XS.icmpNo X2.here hx rfl (hb hby d34_13) rfl (XT.ii_ge_f (by decide)) (XS.aloadN X2.here hx rfl (hb hby d34_16) rfl rfl (XS.iload X2.here hx rfl (hb hby d34_17) rfl (XS.iloadN X2.here hx rfl (hb hby d34_19) rfl k_)))))))) ?_
 obtain ⟨cl4, Ar4, q4, S4, M4, H4, G4⟩ := id Vh
 have hin4 : ¬ ((0 : Int32) < 0 ∨ cl4.slots.size ≤ ((0 : Int32)).toNatClampNeg) := inb_of S4 ⟨by decide, by decide⟩
 obtain ⟨T4, h4, X4, e4, W4, st4⟩ := stI X2 hx hZ e2 Ar4 (j := (0 : Int32)) hin4 (g := (mkF m 20 #[vr h, vi 0, vi 1, vi 1, vi 0] [.int 1, .int 0, .ref h])) rfl rfl (hb hby d34_20)
 have K5 : Keep h0 h4 [h] := Keep.of_wr W4
 have zzK5 : h0.size ≤ h4.size := K5.1
 have oo6 : Old Z n0 h4 := O0.keep K5 (allS (by omega : n0 ≤ h) all0)
 have kt7 : Keep h0 h4 [h] := KT0.trans K5 (allS (Or.inl (List.mem_of_getElem? (i := 0) rfl)) all0)
 have f8 : Arv Z h4 h kH .int (1 : Int32) [.int 1] (.int 0) := Arv.set Ar4 q4 S4 M4 H4 G4 rfl W4 0 rfl (Nat.le_of_ble_eq_true rfl)
 have N9 := Fr.snoc X4 N3 (by omega : n0 ≤ h)
 refine own_b T4 m 21 #[vr h, vi 0, vi 1, vi 1, vi 0] [] st4 ?_
 refine own_b T4 m 24 #[vr h, vi 0, vi 1, vi 1, .val (.int ((0 : Int32) + (1 : Int32)))] [] (fun _ k_ => XS.iinc X4.here hx rfl (hb hby d34_21) rfl rfl k_) ?_
 rw [show ((0 : Int32) + (1 : Int32)) = (1 : Int32) from by decide]
 refine own_b T4 m 27 #[vr h, vi 0, vi 1, vi 1, vi 1] [] (fun _ k_ => XS.goto X4.here hx rfl (pc0 := 24) (pc' := 10) rfl (hb hby d34_24) (by decide) (by decide) (XS.iload X4.here hx rfl (hb hby d34_10) rfl (XS.iloadN X4.here hx rfl (hb hby d34_12) rfl (XS.icmpYes X4.here hx rfl (pc0 := 13) (pc' := 27) rfl (hb hby d34_13) rfl (XT.ii_ge_t (by decide)) (by decide) (by decide) k_)))) ?_
 obtain ⟨fs10, hr10, hrun10, hended10, hW10, hsame10⟩ := X4.leave (v := none) (fun _ => rfl)
 refine ⟨_, _, X4.returnOut hx Bd.returns (hb hby d34_27) hr10, hrun10, hended10, _, _, rfl, ?_, ⟨_, rfl⟩, hW10, hsame10.mono (by decide) (by decide)⟩
 show Q_rmFill_1 Z wC cC wD kD mA mL mR h kH h0 n0 _ T4.heap _
 rw [e4]
 exact ⟨rfl, N9, kt7, f8⟩
theorem own_ef_rmHz_1 (m : MethodId) (x0 : Addr) : entryFrame m #[.ref x0] 6 = mkF m 0 #[.val (.ref x0), .unset, .unset, .unset, .unset, .unset] [] := by first | (simp [entryFrame, mkF, argsToLocals, Value.category]; done) | rfl
def Q_rmHz_1 (Z : State) (wC : Addr) (cC : Cell) (wD : Addr) (kD : ClassId) (mA : Addr) (mL : Addr) (mR : Addr) (a : Addr) (al : Addr) (ct : Addr) (kC : ClassId) (t : Addr) (kE : ClassId) (b : Addr) (h0 : Heap) (n0 : Nat) (vv_ : Option Value) (hh_ : Heap) (LL_ : List Loc) : Prop := ∃ h : Addr, vv_ = some (.ref h) ∧ Fr n0 LL_ ∧ Keep h0 hh_ [] ∧ h0.size ≤ h
theorem rmHz_1 (l : Launch) (Z : State) (a0 : Array Value) (hw : ∀ d ∈ tables_1, d.before a0 Z = true) (ws : List Jvm.Cond) (wC : Addr) (cC : Cell) (wD : Addr) (kD : ClassId) (mA : Addr) (mL : Addr) (mR : Addr) (GS : Glob Z wC cC wD kD mA mL mR) (a : Addr) (al : Addr) (ct : Addr) (kC : ClassId) (t : Addr) (kE : ClassId) (b : Addr) (h0 : Heap) (n0 : Nat) (Z0 : n0 ≤ h0.size) (O0 : Old Z n0 h0) (E_a : Exa Z h0 a cn1) (Ft : Fld Z h0 a cn1 "total" "I" (.int 1)) (Fz : Fld Z h0 a cn1 "zones" "Ljava/util/List;" (.ref al)) (Fc : Fld Z h0 a cn1 "counts" "[I" (.ref ct)) (Vc : Arv Z h0 ct kC .int (2 : Int32) [.int 0, .int 1] (.int 0)) (E_l : Exa Z h0 al cn2) (Fm : Fld Z h0 al "java/util/AbstractList" "modCount" "I" (.int 1)) (Fs : Fld Z h0 al cn2 "size" "I" (.int 1)) (Fe : Fld Z h0 al cn2 "elementData" "[Ljava/lang/Object;" (.ref t)) (Vt : Arv Z h0 t kE (.object "java/lang/Object") (10 : Int32) [.ref b, .null, .null, .null, .null, .null, .null, .null, .null, .null] .null) (E_b : Exa Z h0 b "java/lang/Integer") (F_b : Fld Z h0 b "java/lang/Integer" "value" "I" (.int 1)) :
  MetFree l (⟨cn0, "homeZones", "(Lcom/example/even_commute/evencommute/demand/ZoneCounts;)[I"⟩ : MethodName) (head1 (Jvm.Cond.code (⟨cn0, "homeZones", "(Lcom/example/even_commute/evencommute/demand/ZoneCounts;)[I"⟩ : MethodName) prog_29_method_14_code 6 (some (.array .int)) :: ws) (⟨6, 4, 9, 76⟩ : Room)) (fun aa_ UU_ => aa_ = #[.ref a] ∧ Z.Warmed39 UU_.vm ∧ UU_.heap = h0) (fun _ _ _ _ _ => True) (fun _ UU_ oo_ UV_ => ∃ vv_ LL_, oo_ = .returned vv_ ∧ Q_rmHz_1 Z wC cC wD kD mA mL mR a al ct kC t kE b h0 n0 vv_ UV_.heap LL_ ∧ FrameEnd UU_ oo_ UV_ LL_ (⟨6, 4, 9, 76⟩ : Room).cells (⟨6, 4, 9, 76⟩ : Room).slots) := by
 refine MetFree.of_bodySF (plainFor_of_name own_p2) hisR ?_
 intro p e s m args below meth c s₁ Bd hml0 hP hK
 obtain ⟨rfl, hZ, hh⟩ := hP
 have hx := Bd.exec
 have hby := Bd.bytes
 have hml : c.maxLocals = 6 := hml0
 have hown : s.vm.findClass cn0 = some m.cls := findClass_of_methodNamed Bd.named
 have hnm := (name_of_methodNamed Bd.named Bd.method).1
 have X0 : Stand p l e (⟨6, 4, 9, 76⟩ : Room) s m #[.ref a] below meth c s₁ [] 0 0 := Stand.of_body Bd
 have e0 : s₁.heap = h0 := by rw [← hh, Bd.state]; rfl
 have N0 := Fr.nil n0
 have hn0 : Z.heap.size = n0 := O0.1
 have KT0 : Keep h0 h0 [] := Keep.refl _ _
 refine own_enter (Φ := fun oo_ UV_ => ∃ vv_ LL_, oo_ = .returned vv_ ∧ Q_rmHz_1 Z wC cC wD kD mA mL mR a al ct kC t kE b h0 n0 vv_ UV_.heap LL_ ∧ FrameEnd s oo_ UV_ LL_ (⟨6, 4, 9, 76⟩ : Room).cells (⟨6, 4, 9, 76⟩ : Room).slots) (own_ef_rmHz_1 m a) ?_
 refine own_b s₁ m 1 #[vr a, un, un, un, un, un] [.ref a] (fun _ k_ => XS.aloadN X0.here hx rfl (hb hby d16_0) rfl rfl k_) ?_
 obtain ⟨cq1, kq1, q1a, q1b, q1c⟩ := isOf hZ e0 E_a
 obtain ⟨_, _, ⟨T1, L1, k1, n1⟩, -, X1, ⟨Lc1, hQ1, l1, y1, z1⟩, st1⟩ := X0.virtualBack hx (y := (⟨cn1, "getTotal", "()I"⟩ : MethodName)) (z := (⟨cn1, "getTotal", "()I"⟩ : MethodName)) hown (mvT hZ (ww hw 110 rfl)) (mvT hZ (ww hw 111 rfl)) (notFace_of_selects (args := #[]) (mvT hZ (ww hw 113 rfl))) (mvT hZ (ww hw 113 rfl)) (mvT hZ (ww hw 112 rfl)) (by decide) (backOf (W := 0) (rmTot l Z a0 hw [] wC cC wD kD mA mL mR GS a (1 : Int32) h0 n0 (by omega) O0 Ft) hZ (ww hw 114 rfl) (ww hw 4 rfl) (by decide) (by decide)) q1a q1c (g := (mkF m 1 #[vr a, un, un, un, un, un] [.ref a])) rfl (by rw [hml]; rfl) (Steps.refl _) (argsL := []) (rest := []) (lenOf own_pd_5 rfl) rfl (by show 2 * 0 + _ ≤ _; exact Nat.le_of_eq rfl) (hb hby d16_1) (fun _ _ => ⟨rfl, e0, (by decide : 0 + 0 ≤ _), (by decide : 0 + 0 ≤ _)⟩)
 dsimp only [Pt.U, Pt.locs, Pt.cells, Pt.slots] at X1 l1 y1 z1 st1 hQ1
 subst l1 y1 z1
 obtain ⟨rfl, N1q, e1⟩ := hQ1
 have N2 := Fr.app N0 N1q
 refine own_b T1 m 4 #[vr a, un, un, un, un, un] [.int 1] (fun _ k_ => st1.trans k_) ?_
 obtain ⟨T3, h3, k3, X3, e3, E3, A3, st3⟩ := newP X1 hx hZ (ww hw 1 rfl) e1 (g := (mkF m 4 #[vr a, un, un, un, un, un] [.int 1])) rfl (hb hby d16_4) rfl (by decide) (cap := 1) (by decide) (by decide) (by decide) (by decide)
 obtain ⟨b3, g3⟩ : ∃ z, z = h0.size := ⟨_, rfl⟩
 rw [← g3] at A3 st3
 have K4 : Keep h0 h3 [] := own_kext E3
 have zzK4 : h0.size ≤ h3.size := K4.1
 have oo5 : Old Z n0 h3 := O0.keep K4 all0
 have kt6 : Keep h0 h3 [] := KT0.trans K4 all0
 have lab3 : b3 < h3.size := A3.lt
 have f7 : Arv Z h3 b3 k3 .int (1 : Int32) [.int 0] (.int 0) := (Arv.new A3 (by decide)).pad (pad_rep [] (.int 0) 1)
 refine own_b T3 m 6 #[vr a, un, un, un, un, un] [.ref b3] st3 ?_
 refine own_b T3 m 10 #[vr a, vr b3, vi 0, un, un, un] [.ref a] (fun _ k_ => XS.astoreN X3.here hx rfl (hb hby d16_6) rfl rfl (l' := #[vr a, vr b3, un, un, un, un]) rfl (XS.iconst X3.here hx rfl (hb hby d16_7) (XS.istoreN X3.here hx rfl (hb hby d16_8) rfl (l' := #[vr a, vr b3, vi 0, un, un, un]) rfl (XS.aloadN X3.here hx rfl (hb hby d16_9) rfl rfl k_)))) ?_
 have f8 : Exa Z h3 a cn1 := (E_a.keep K4)
 have f9 : Exa Z h3 al cn2 := (E_l.keep K4)
 have f10 : Fld Z h3 a cn1 "zones" "Ljava/util/List;" (.ref al) := (Fz.keep K4 nin0)
 obtain ⟨cq11, kq11, q11a, q11b, q11c⟩ := isOf hZ e3 f8
 obtain ⟨_, _, ⟨T11, L11, k11, n11⟩, -, X11, ⟨Lc11, hQ11, l11, y11, z11⟩, st11⟩ := X3.virtualBack hx (y := (⟨cn1, "getZones", "()Ljava/util/List;"⟩ : MethodName)) (z := (⟨cn1, "getZones", "()Ljava/util/List;"⟩ : MethodName)) hown (mvT hZ (ww hw 115 rfl)) (mvT hZ (ww hw 116 rfl)) (notFace_of_selects (args := #[]) (mvT hZ (ww hw 118 rfl))) (mvT hZ (ww hw 118 rfl)) (mvT hZ (ww hw 117 rfl)) (by decide) (backOf (W := 0) (rmGz l Z a0 hw [] wC cC wD kD mA mL mR GS a al h3 n0 (by omega) oo5 f8 f9 f10) hZ (ww hw 119 rfl) (ww hw 4 rfl) (by decide) (by decide)) q11a q11c (g := (mkF m 10 #[vr a, vr b3, vi 0, un, un, un] [.ref a])) rfl (by rw [hml]; rfl) (Steps.refl _) (argsL := []) (rest := []) (lenOf own_pd_18 rfl) rfl (by show 2 * 0 + _ ≤ _; exact Nat.le_of_eq rfl) (hb hby d16_10) (fun _ _ => ⟨rfl, e3, (by decide : 1 + 1 ≤ _), (by decide : 1 + 2 ≤ _)⟩)
 dsimp only [Pt.U, Pt.locs, Pt.cells, Pt.slots] at X11 l11 y11 z11 st11 hQ11
 subst l11 y11 z11
 obtain ⟨u_12, rfl, N11q, K11, p11_0, p11_1, p11_2, p11_3⟩ := hQ11
 have N13 := Fr.app N2 N11q
 have gu_12 : h3.size ≤ u_12 := p11_0
 have zzK11 : h3.size ≤ T11.heap.size := K11.1
 have oo14 : Old Z n0 T11.heap := oo5.keep K11 all0
 have kt15 : Keep h0 T11.heap [] := kt6.trans K11 all0
 refine own_b T11 m 13 #[vr a, vr b3, vi 0, un, un, un] [.ref u_12] (fun _ k_ => st11.trans k_) ?_
 have f16 : Exa Z T11.heap al cn2 := (f9.keep K11)
 have f17 : Fld Z T11.heap al "java/util/AbstractList" "modCount" "I" (.int 1) := ((Fm.keep K4 nin0).keep K11 nin0)
 obtain ⟨cq18, kq18, q18a, q18b, q18c⟩ := isOf hZ rfl p11_1
 obtain ⟨_, _, ⟨T18, L18, k18, n18⟩, -, X18, ⟨Lc18, hQ18, l18, y18, z18⟩, st18⟩ := X11.interfaceBack hx (xi := (⟨"java/util/List", "iterator", "()Ljava/util/Iterator;"⟩ : MethodName)) (y := (⟨"java/util/Collections$UnmodifiableCollection", "iterator", "()Ljava/util/Iterator;"⟩ : MethodName)) hown (mvT hZ (ww hw 162 rfl)) (mvT hZ (ww hw 163 rfl)) (mvT hZ (ww hw 164 rfl)) (mvT hZ (ww hw 165 rfl)) (mvT hZ (ww hw 166 rfl)) (mvT hZ (ww hw 167 rfl)) (mvT hZ (ww hw 168 rfl)) (mvT hZ (ww hw 169 rfl)) (by decide) (backOf (W := 0) (rmUIt l Z a0 hw [] wC cC wD kD mA mL mR GS u_12 al T11.heap n0 (by omega) oo14 p11_1 f16 p11_2 f17) hZ (ww hw 170 rfl) (ww hw 155 rfl) (by decide) (by decide)) q18a q18b q18c (g := (mkF m 13 #[vr a, vr b3, vi 0, un, un, un] [.ref u_12])) rfl (by rw [hml]; rfl) (Steps.refl _) (argsL := []) (rest := []) (lenOf own_pd_13 rfl) rfl (by show 2 * 0 + _ ≤ _; exact Nat.le_of_eq rfl) (hb hby d16_13) (fun _ _ => ⟨rfl, rfl, (by decide : 2 + 2 ≤ _), (by decide : 3 + 6 ≤ _)⟩)
 dsimp only [Pt.U, Pt.locs, Pt.cells, Pt.slots] at X18 l18 y18 z18 st18 hQ18
 subst l18 y18 z18
 obtain ⟨x1_19, it_20, rfl, N18q, K18, p18_0, p18_1, p18_2, p18_3, p18_4, p18_5, p18_6, p18_7, p18_8, p18_9⟩ := hQ18
 have N21 := Fr.app N13 N18q
 have gx1_19 : T11.heap.size ≤ x1_19 := p18_0
 have git_20 : T11.heap.size ≤ it_20 := p18_4
 have zzK18 : T11.heap.size ≤ T18.heap.size := K18.1
 have oo22 : Old Z n0 T18.heap := oo14.keep K18 all0
 have kt23 : Keep h0 T18.heap [] := kt15.trans K18 all0
 refine own_b T18 m 18 #[vr a, vr b3, vi 0, un, un, un] [.ref x1_19] (fun _ k_ => st18.trans k_) ?_
 refine own_b T18 m 20 #[vr a, vr b3, vi 0, vr x1_19, un, un] [.ref x1_19] (fun _ k_ => XS.astoreN X18.here hx rfl (hb hby d16_18) rfl rfl (l' := #[vr a, vr b3, vi 0, vr x1_19, un, un]) rfl (XS.aloadN X18.here hx rfl (hb hby d16_19) rfl rfl k_)) ?_
 have f24 : Fld Z T18.heap al cn2 "size" "I" (.int 1) := (((Fs.keep K4 nin0).keep K11 nin0).keep K18 nin0)
 obtain ⟨cq25, kq25, q25a, q25b, q25c⟩ := isOf hZ rfl p18_1
 obtain ⟨_, _, ⟨T25, L25, k25, n25⟩, -, X25, ⟨Lc25, hQ25, l25, y25, z25⟩, st25⟩ := X18.interfaceBack hx (xi := (⟨"java/util/Iterator", "hasNext", "()Z"⟩ : MethodName)) (y := (⟨cn3, "hasNext", "()Z"⟩ : MethodName)) hown (mvT hZ (ww hw 208 rfl)) (mvT hZ (ww hw 209 rfl)) (mvT hZ (ww hw 210 rfl)) (mvT hZ (ww hw 211 rfl)) (mvT hZ (ww hw 212 rfl)) (mvT hZ (ww hw 213 rfl)) (mvT hZ (ww hw 214 rfl)) (mvT hZ (ww hw 215 rfl)) (by decide) (backOf (W := 0) (rmUHn0 l Z a0 hw [] wC cC wD kD mA mL mR GS x1_19 it_20 al T18.heap n0 (by omega) oo22 p18_1 p18_2 p18_5 p18_6 p18_9 f24) hZ (ww hw 216 rfl) (ww hw 173 rfl) (by decide) (by decide)) q25a q25b q25c (g := (mkF m 20 #[vr a, vr b3, vi 0, vr x1_19, un, un] [.ref x1_19])) rfl (by rw [hml]; rfl) (Steps.refl _) (argsL := []) (rest := []) (lenOf own_pd_15 rfl) rfl (by show 2 * 0 + _ ≤ _; exact Nat.le_of_eq rfl) (hb hby d16_20) (fun _ _ => ⟨rfl, rfl, (by decide : 4 + 0 ≤ _), (by decide : 9 + 0 ≤ _)⟩)
 dsimp only [Pt.U, Pt.locs, Pt.cells, Pt.slots] at X25 l25 y25 z25 st25 hQ25
 subst l25 y25 z25
 obtain ⟨rfl, N25q, e25⟩ := hQ25
 have N26 := Fr.app N21 N25q
 refine own_b T25 m 25 #[vr a, vr b3, vi 0, vr x1_19, un, un] [.int 1] (fun _ k_ => st25.trans k_) ?_
 refine own_b T25 m 29 #[vr a, vr b3, vi 0, vr x1_19, un, un] [.ref x1_19] (fun _ k_ => XS.ifNo X25.here hx rfl (hb hby d16_25) rfl (XT.i0_eq_f (by decide)) (XS.aloadN X25.here hx rfl (hb hby d16_28) rfl rfl k_)) ?_
 have la27 : @LT.lt Nat instLTNat it_20 T18.heap.size := p18_5.lt
 have f28 : Exa Z T18.heap al cn2 := (f16.keep K18)
 have f29 : Fld Z T18.heap al "java/util/AbstractList" "modCount" "I" (.int 1) := (f17.keep K18 nin0)
 have f30 : Fld Z T18.heap al cn2 "elementData" "[Ljava/lang/Object;" (.ref t) := (((Fe.keep K4 nin0).keep K11 nin0).keep K18 nin0)
 have f31 : Arv Z T18.heap t kE (.object "java/lang/Object") (10 : Int32) [.ref b, .null, .null, .null, .null, .null, .null, .null, .null, .null] .null := (((Vt.keep K4 nin0).keep K11 nin0).keep K18 nin0)
 have la32 : @LT.lt Nat instLTNat al h0.size := E_l.lt
 have ne33 : @Ne Nat al it_20 := by omega
 have la34 : @LT.lt Nat instLTNat t h0.size := Vt.lt
 have ne35 : @Ne Nat t it_20 := by omega
 obtain ⟨cq36, kq36, q36a, q36b, q36c⟩ := isOf hZ e25 p18_1
 obtain ⟨_, _, ⟨T36, L36, k36, n36⟩, -, X36, ⟨Lc36, hQ36, l36, y36, z36⟩, st36⟩ := X25.interfaceBack hx (xi := (⟨"java/util/Iterator", "next", "()Ljava/lang/Object;"⟩ : MethodName)) (y := (⟨cn3, "next", "()Ljava/lang/Object;"⟩ : MethodName)) hown (mvT hZ (ww hw 227 rfl)) (mvT hZ (ww hw 228 rfl)) (mvT hZ (ww hw 229 rfl)) (mvT hZ (ww hw 230 rfl)) (mvT hZ (ww hw 231 rfl)) (mvT hZ (ww hw 232 rfl)) (mvT hZ (ww hw 233 rfl)) (mvT hZ (ww hw 215 rfl)) (by decide) (backOf (W := 0) (rmUNx l Z a0 hw [] wC cC wD kD mA mL mR GS x1_19 it_20 al t kE b T18.heap n0 (by omega) oo22 p18_1 p18_2 p18_5 (by omega) p18_6 p18_7 p18_8 p18_9 f28 f29 f24 f30 f31 ne33 ne35) hZ (ww hw 234 rfl) (ww hw 173 rfl) (by decide) (by decide)) q36a q36b q36c (g := (mkF m 29 #[vr a, vr b3, vi 0, vr x1_19, un, un] [.ref x1_19])) rfl (by rw [hml]; rfl) (Steps.refl _) (argsL := []) (rest := []) (lenOf own_pd_16 rfl) rfl (by show 2 * 0 + _ ≤ _; exact Nat.le_of_eq rfl) (hb hby d16_29) (fun _ _ => ⟨rfl, e25, (by decide : 4 + 0 ≤ _), (by decide : 9 + 0 ≤ _)⟩)
 dsimp only [Pt.U, Pt.locs, Pt.cells, Pt.slots] at X36 l36 y36 z36 st36 hQ36
 subst l36 y36 z36
 obtain ⟨rfl, N36q, K36, p36_0, p36_1, p36_2, p36_3⟩ := hQ36
 have N37 := Fr.app N26 N36q
 have zzK36 : T18.heap.size ≤ T36.heap.size := K36.1
 have oo38 : Old Z n0 T36.heap := oo22.keep K36 (allS (by omega : n0 ≤ it_20) all0)
 have kt39 : Keep h0 T36.heap [] := kt23.trans K36 (allS (Or.inr (by omega : h0.size ≤ it_20)) all0)
 refine own_b T36 m 34 #[vr a, vr b3, vi 0, vr x1_19, un, un] [.ref b] (fun _ k_ => st36.trans k_) ?_
 have f41 : Exa Z T36.heap b "java/lang/Integer" := ((((E_b.keep K4).keep K11).keep K18).keep K36)
 obtain ⟨T40, X40, e40, st40⟩ := castY X36 hx hZ hown (ww hw 247 rfl) rfl (Ins.self f41) (g := (mkF m 34 #[vr a, vr b3, vi 0, vr x1_19, un, un] [.ref b])) rfl rfl (hb hby d16_34)
 refine own_b T40 m 37 #[vr a, vr b3, vi 0, vr x1_19, un, un] [.ref b] st40 ?_
 have la42 : @LT.lt Nat instLTNat b h0.size := E_b.lt
 have ne43 : @Ne Nat b it_20 := by omega
 have f44 : Fld Z T36.heap b "java/lang/Integer" "value" "I" (.int 1) := ((((F_b.keep K4 nin0).keep K11 nin0).keep K18 nin0).keep K36 (ninS ne43 nin0))
 obtain ⟨cq45, kq45, q45a, q45b, q45c⟩ := isOf hZ e40 f41
 obtain ⟨_, _, ⟨T45, L45, k45, n45⟩, -, X45, ⟨Lc45, hQ45, l45, y45, z45⟩, st45⟩ := X40.virtualBack hx (y := (⟨"java/lang/Integer", "intValue", "()I"⟩ : MethodName)) (z := (⟨"java/lang/Integer", "intValue", "()I"⟩ : MethodName)) hown (mvT hZ (ww hw 249 rfl)) (mvT hZ (ww hw 250 rfl)) (notFace_of_selects (args := #[]) (mvT hZ (ww hw 252 rfl))) (mvT hZ (ww hw 252 rfl)) (mvT hZ (ww hw 251 rfl)) (by decide) (backOf (W := 0) (rmIv l Z a0 hw [] wC cC wD kD mA mL mR GS b (1 : Int32) T36.heap n0 (by omega) oo38 f44) hZ (ww hw 253 rfl) (ww hw 61 rfl) (by decide) (by decide)) q45a q45c (g := (mkF m 37 #[vr a, vr b3, vi 0, vr x1_19, un, un] [.ref b])) rfl (by rw [hml]; rfl) (Steps.refl _) (argsL := []) (rest := []) (lenOf own_pd_5 rfl) rfl (by show 2 * 0 + _ ≤ _; exact Nat.le_of_eq rfl) (hb hby d16_37) (fun _ _ => ⟨rfl, e40, (by decide : 4 + 0 ≤ _), (by decide : 9 + 0 ≤ _)⟩)
 dsimp only [Pt.U, Pt.locs, Pt.cells, Pt.slots] at X45 l45 y45 z45 st45 hQ45
 subst l45 y45 z45
 obtain ⟨rfl, N45q, e45⟩ := hQ45
 have N46 := Fr.app N37 N45q
 refine own_b T45 m 40 #[vr a, vr b3, vi 0, vr x1_19, un, un] [.int 1] (fun _ k_ => st45.trans k_) ?_
 refine own_b T45 m 46 #[vr a, vr b3, vi 0, vr x1_19, vi 1, un] [.int 1, .ref a, .int 0] (fun _ k_ => XS.istore X45.here hx rfl (hb hby d16_40) rfl (l' := #[vr a, vr b3, vi 0, vr x1_19, vi 1, un]) rfl (XS.iloadN X45.here hx rfl (hb hby d16_42) rfl (XS.aloadN X45.here hx rfl (hb hby d16_43) rfl rfl (XS.iload X45.here hx rfl (hb hby d16_44) rfl k_)))) ?_
 have f47 : Exa Z T36.heap a cn1 := (((f8.keep K11).keep K18).keep K36)
 have la48 : @LT.lt Nat instLTNat a h0.size := E_a.lt
 have ne49 : @Ne Nat a it_20 := by omega
 have f50 : Fld Z T36.heap a cn1 "counts" "[I" (.ref ct) := ((((Fc.keep K4 nin0).keep K11 nin0).keep K18 nin0).keep K36 (ninS ne49 nin0))
 have la51 : @LT.lt Nat instLTNat ct h0.size := Vc.lt
 have ne52 : @Ne Nat ct it_20 := by omega
 have f53 : Arv Z T36.heap ct kC .int (2 : Int32) [.int 0, .int 1] (.int 0) := ((((Vc.keep K4 nin0).keep K11 nin0).keep K18 nin0).keep K36 (ninS ne52 nin0))
 obtain ⟨cq54, kq54, q54a, q54b, q54c⟩ := isOf hZ e45 f47
 obtain ⟨_, _, ⟨T54, L54, k54, n54⟩, -, X54, ⟨Lc54, hQ54, l54, y54, z54⟩, st54⟩ := X45.virtualBack hx (y := (⟨cn1, "get", "(I)I"⟩ : MethodName)) (z := (⟨cn1, "get", "(I)I"⟩ : MethodName)) hown (mvT hZ (ww hw 256 rfl)) (mvT hZ (ww hw 257 rfl)) (notFace_of_selects (args := #[]) (mvT hZ (ww hw 259 rfl))) (mvT hZ (ww hw 259 rfl)) (mvT hZ (ww hw 258 rfl)) (by decide) (backOf (W := 1) (rmZg l Z a0 hw [] wC cC wD kD mA mL mR GS a ct kC (0 : Int32) (1 : Int32) T36.heap n0 (by omega) oo38 f47 f50 f53) hZ (ww hw 260 rfl) (ww hw 4 rfl) (by decide) (by decide)) q54a q54c (g := (mkF m 46 #[vr a, vr b3, vi 0, vr x1_19, vi 1, un] [.int 1, .ref a, .int 0])) rfl (by rw [hml]; rfl) (Steps.refl _) (argsL := [.int 1]) (rest := [.int 0]) (lenOf own_pd_19 rfl) rfl (by show 2 * 0 + _ ≤ _; exact Nat.le_of_eq rfl) (hb hby d16_46) (fun _ _ => ⟨rfl, e45, (by decide : 4 + 0 ≤ _), (by decide : 9 + 0 ≤ _)⟩)
 dsimp only [Pt.U, Pt.locs, Pt.cells, Pt.slots] at X54 l54 y54 z54 st54 hQ54
 subst l54 y54 z54
 obtain ⟨rfl, N54q, e54⟩ := hQ54
 have N55 := Fr.app N46 N54q
 refine own_b T54 m 49 #[vr a, vr b3, vi 0, vr x1_19, vi 1, un] [.int 1, .int 0] (fun _ k_ => st54.trans k_) ?_
 refine own_b T54 m 50 #[vr a, vr b3, vi 0, vr x1_19, vi 1, un] [(.int ((0 : Int32) + (1 : Int32)))] (fun _ k_ => XS.iadd X54.here hx rfl (hb hby d16_49) rfl k_) ?_
 rw [show ((0 : Int32) + (1 : Int32)) = (1 : Int32) from by decide]
 refine own_b T54 m 58 #[vr a, vr b3, vi 0, vr x1_19, vi 1, vi 1] [.int 1, .int 1, .int 0, .ref b3] (fun _ k_ => XS.istore X54.here hx rfl (hb hby d16_50) rfl (l' := #[vr a, vr b3, vi 0, vr x1_19, vi 1, vi 1]) rfl (XS.aloadN X54.here hx rfl (hb hby d16_52) rfl rfl (XS.iloadN X54.here hx rfl (hb hby d16_53) rfl (XS.iload X54.here hx rfl (hb hby d16_54) rfl (XS.iload X54.here hx rfl (hb hby d16_56) rfl k_))))) ?_
 have ne56 : @Ne Nat b3 it_20 := by omega
 have f57 : Arv Z T36.heap b3 k3 .int (1 : Int32) [.int 0] (.int 0) := (((f7.keep K11 nin0).keep K18 nin0).keep K36 (ninS ne56 nin0))
 obtain ⟨_, _, ⟨T58, L58, k58, n58⟩, -, X58, ⟨Lc58, hQ58, l58, y58, z58⟩, st58⟩ := Jvm.LawKit.callS X54 hx (y := (⟨"java/util/Arrays", "fill", "([IIII)V"⟩ : MethodName)) hown (mvT hZ (ww hw 261 rfl)) (mvT hZ (ww hw 262 rfl)) (mvT hZ (ww hw 263 rfl)) (mvT hZ (ww hw 264 rfl)) (by decide) (backOf (W := 0) (rmFill_1 l Z a0 hw [] wC cC wD kD mA mL mR GS b3 k3 T36.heap n0 (by omega) oo38 (by omega) f57) hZ (ww hw 264 rfl) (ww hw 263 rfl) (by decide) (by decide)) (g := (mkF m 58 #[vr a, vr b3, vi 0, vr x1_19, vi 1, vi 1] [.int 1, .int 1, .int 0, .ref b3])) rfl (by rw [hml]; rfl) (argsL := [.ref b3, .int 0, .int 1, .int 1]) (rest := []) (lenOf own_pd_20 rfl) rfl (by show 2 * 0 + _ ≤ _; exact Nat.le_of_eq rfl) (hb hby d16_58) (fun _ _ => ⟨rfl, e54, (by decide : 4 + 0 ≤ _), (by decide : 9 + 0 ≤ _)⟩)
 dsimp only [Pt.U, Pt.locs, Pt.cells, Pt.slots] at X58 l58 y58 z58 st58 hQ58
 subst l58 y58 z58
 obtain ⟨rfl, N58q, K58, p58_0⟩ := hQ58
 have N59 := Fr.app N55 N58q
 have zzK58 : T36.heap.size ≤ T58.heap.size := K58.1
 have oo60 : Old Z n0 T58.heap := oo38.keep K58 (allS (by omega : n0 ≤ b3) all0)
 have kt61 : Keep h0 T58.heap [] := kt39.trans K58 (allS (Or.inr (by omega : h0.size ≤ b3)) all0)
 refine own_b T58 m 61 #[vr a, vr b3, vi 0, vr x1_19, vi 1, vi 1] [] st58 ?_
 refine own_b T58 m 20 #[vr a, vr b3, vi 1, vr x1_19, vi 1, vi 1] [.ref x1_19] (fun _ k_ => XS.iload X58.here hx rfl (hb hby d16_61) rfl (XS.istoreN X58.here hx rfl (hb hby d16_63) rfl (l' := #[vr a, vr b3, vi 1, vr x1_19, vi 1, vi 1]) rfl (XS.goto X58.here hx rfl (pc0 := 64) (pc' := 19) rfl (hb hby d16_64) (by decide) (by decide) (XS.aloadN X58.here hx rfl (hb hby d16_19) rfl rfl k_)))) ?_
 have f62 : Exa Z T58.heap x1_19 cn3 := ((p18_1.keep K36).keep K58)
 have la63 : @LT.lt Nat instLTNat x1_19 T18.heap.size := p18_1.lt
 have ne64 : @Ne Nat x1_19 it_20 := by omega
 have ne65 : @Ne Nat x1_19 b3 := by omega
 have f66 : Fld Z T58.heap x1_19 cn3 "i" "Ljava/util/Iterator;" (.ref it_20) := ((p18_2.keep K36 (ninS ne64 nin0)).keep K58 (ninS ne65 nin0))
 have f67 : Exa Z T58.heap it_20 cn5 := ((p18_5.keep K36).keep K58)
 have ne68 : @Ne Nat it_20 b3 := by omega
 have f69 : Fld Z T58.heap it_20 cn5 "this$0" "Ljava/util/ArrayList;" (.ref al) := (p36_0.keep K58 (ninS ne68 nin0))
 have f70 : Fld Z T58.heap it_20 cn5 "cursor" "I" (.int 1) := (p36_3.keep K58 (ninS ne68 nin0))
 have ne71 : @Ne Nat al b3 := by omega
 have f72 : Fld Z T58.heap al cn2 "size" "I" (.int 1) := ((f24.keep K36 (ninS ne33 nin0)).keep K58 (ninS ne71 nin0))
 obtain ⟨cq73, kq73, q73a, q73b, q73c⟩ := isOf hZ rfl f62
 obtain ⟨_, _, ⟨T73, L73, k73, n73⟩, -, X73, ⟨Lc73, hQ73, l73, y73, z73⟩, st73⟩ := X58.interfaceBack hx (xi := (⟨"java/util/Iterator", "hasNext", "()Z"⟩ : MethodName)) (y := (⟨cn3, "hasNext", "()Z"⟩ : MethodName)) hown (mvT hZ (ww hw 208 rfl)) (mvT hZ (ww hw 209 rfl)) (mvT hZ (ww hw 210 rfl)) (mvT hZ (ww hw 211 rfl)) (mvT hZ (ww hw 212 rfl)) (mvT hZ (ww hw 213 rfl)) (mvT hZ (ww hw 214 rfl)) (mvT hZ (ww hw 215 rfl)) (by decide) (backOf (W := 0) (rmUHn1 l Z a0 hw [] wC cC wD kD mA mL mR GS x1_19 it_20 al T58.heap n0 (by omega) oo60 f62 f66 f67 f69 f70 f72) hZ (ww hw 216 rfl) (ww hw 173 rfl) (by decide) (by decide)) q73a q73b q73c (g := (mkF m 20 #[vr a, vr b3, vi 1, vr x1_19, vi 1, vi 1] [.ref x1_19])) rfl (by rw [hml]; rfl) (Steps.refl _) (argsL := []) (rest := []) (lenOf own_pd_15 rfl) rfl (by show 2 * 0 + _ ≤ _; exact Nat.le_of_eq rfl) (hb hby d16_20) (fun _ _ => ⟨rfl, rfl, (by decide : 4 + 0 ≤ _), (by decide : 9 + 0 ≤ _)⟩)
 dsimp only [Pt.U, Pt.locs, Pt.cells, Pt.slots] at X73 l73 y73 z73 st73 hQ73
 subst l73 y73 z73
 obtain ⟨rfl, N73q, e73⟩ := hQ73
 have N74 := Fr.app N59 N73q
 refine own_b T73 m 25 #[vr a, vr b3, vi 1, vr x1_19, vi 1, vi 1] [.int 0] (fun _ k_ => st73.trans k_) ?_
 refine own_b T73 m 68 #[vr a, vr b3, vi 1, vr x1_19, vi 1, vi 1] [.ref b3] (fun _ k_ => XS.ifYes X73.here hx rfl (pc0 := 25) (pc' := 67) rfl (hb hby d16_25) rfl (XT.i0_eq_t (by decide)) (by decide) (by decide) (XS.aloadN X73.here hx rfl (hb hby d16_67) rfl rfl k_)) ?_
 obtain ⟨fs75, hr75, hrun75, hended75, hW75, hsame75⟩ := X73.leave (v := some (.ref b3)) (fun h => by rw [Bd.returns] at h; cases h)
 refine ⟨_, _, retOut X73 hx (t := (.array .int)) Bd.returns rfl (Or.inr (Or.inr (Or.inr (Or.inr ⟨rfl, rfl, rfl⟩)))) (hb hby d16_68) hr75, hrun75, hended75, _, _, rfl, ?_, ⟨_, rfl⟩, hW75, hsame75.mono (by decide) (by decide)⟩
 show Q_rmHz_1 Z wC cC wD kD mA mL mR a al ct kC t kE b h0 n0 _ T73.heap _
 rw [e73]
 exact ⟨b3, rfl, N74, kt61, (by omega)⟩
theorem own_ef_rmRc_2 (m : MethodId) (x0 : Int32) (x1 : Int32) (x2 : Int32) : entryFrame m #[.int x0, .int x1, .int x2] 3 = mkF m 0 #[.val (.int x0), .val (.int x1), .val (.int x2)] [] := by first | (simp [entryFrame, mkF, argsToLocals, Value.category]; done) | rfl
def Q_rmRc_2 (Z : State) (wC : Addr) (cC : Cell) (wD : Addr) (kD : ClassId) (mA : Addr) (mL : Addr) (mR : Addr) (h0 : Heap) (n0 : Nat) (vv_ : Option Value) (hh_ : Heap) (LL_ : List Loc) : Prop := vv_ = none ∧ Fr n0 LL_ ∧ hh_ = h0
theorem rmRc_2 (l : Launch) (Z : State) (a0 : Array Value) (hw : ∀ d ∈ tables_1, d.before a0 Z = true) (ws : List Jvm.Cond) (wC : Addr) (cC : Cell) (wD : Addr) (kD : ClassId) (mA : Addr) (mL : Addr) (mR : Addr) (GS : Glob Z wC cC wD kD mA mL mR)  (h0 : Heap) (n0 : Nat) (Z0 : n0 ≤ h0.size) (O0 : Old Z n0 h0) :
  MetFree l (⟨"java/util/Arrays", "rangeCheck", "(III)V"⟩ : MethodName) (head1 (Jvm.Cond.code (⟨"java/util/Arrays", "rangeCheck", "(III)V"⟩ : MethodName) jdk_65_method_30_code 3 none :: ws) (⟨0, 0, 0, 0⟩ : Room)) (fun aa_ UU_ => aa_ = #[.int 2, .int 0, .int 2] ∧ Z.Warmed39 UU_.vm ∧ UU_.heap = h0) (fun _ _ _ _ _ => True) (fun _ UU_ oo_ UV_ => ∃ vv_ LL_, oo_ = .returned vv_ ∧ Q_rmRc_2 Z wC cC wD kD mA mL mR h0 n0 vv_ UV_.heap LL_ ∧ FrameEnd UU_ oo_ UV_ LL_ (⟨0, 0, 0, 0⟩ : Room).cells (⟨0, 0, 0, 0⟩ : Room).slots) := by
 refine MetFree.of_bodySF (plainFor_of_name own_p13) hisR ?_
 intro p e s m args below meth c s₁ Bd hml0 hP hK
 obtain ⟨rfl, hZ, hh⟩ := hP
 have hx := Bd.exec
 have hby := Bd.bytes
 have hml : c.maxLocals = 3 := hml0
 have hown : s.vm.findClass "java/util/Arrays" = some m.cls := findClass_of_methodNamed Bd.named
 have hnm := (name_of_methodNamed Bd.named Bd.method).1
 have X0 : Stand p l e (⟨0, 0, 0, 0⟩ : Room) s m #[.int 2, .int 0, .int 2] below meth c s₁ [] 0 0 := Stand.of_body Bd
 have e0 : s₁.heap = h0 := by rw [← hh, Bd.state]; rfl
 have N0 := Fr.nil n0
 have hn0 : Z.heap.size = n0 := O0.1
 have KT0 : Keep h0 h0 [] := Keep.refl _ _
 refine own_enter (Φ := fun oo_ UV_ => ∃ vv_ LL_, oo_ = .returned vv_ ∧ Q_rmRc_2 Z wC cC wD kD mA mL mR h0 n0 vv_ UV_.heap LL_ ∧ FrameEnd s oo_ UV_ LL_ (⟨0, 0, 0, 0⟩ : Room).cells (⟨0, 0, 0, 0⟩ : Room).slots) (own_ef_rmRc_2 m (2 : Int32) (0 : Int32) (2 : Int32)) ?_
 refine own_b s₁ m 73 #[vi 2, vi 0, vi 2] [] (fun _ k_ => XS.iloadN X0.here hx rfl (hb hby d35_0) rfl (XS.iloadN X0.here hx rfl (hb hby d35_1) rfl (XS.icmpYes X0.here hx rfl (pc0 := 2) (pc' := 46) rfl (hb hby d35_2) rfl (XT.ii_le_t (by decide)) (by decide) (by decide) (XS.iloadN X0.here hx rfl (hb hby d35_46) rfl (XS.ifYes X0.here hx rfl (pc0 := 47) (pc' := 59) rfl (hb hby d35_47) rfl (XT.i0_ge_t (by decide)) (by decide) (by decide) (XS.iloadN X0.here hx rfl (hb hby d35_59) rfl (XS.iloadN X0.here hx rfl (hb hby d35_60) rfl (XS.icmpYes X0.here hx rfl (pc0 := 61) (pc' := 73) rfl (hb hby d35_61) rfl (XT.ii_le_t (by decide)) (by decide) (by decide) k_)))))))) ?_
 obtain ⟨fs1, hr1, hrun1, hended1, hW1, hsame1⟩ := X0.leave (v := none) (fun _ => rfl)
 refine ⟨_, _, X0.returnOut hx Bd.returns (hb hby d35_73) hr1, hrun1, hended1, _, _, rfl, ?_, ⟨_, rfl⟩, hW1, hsame1.mono (by decide) (by decide)⟩
 show Q_rmRc_2 Z wC cC wD kD mA mL mR h0 n0 _ s₁.heap _
 exact ⟨rfl, N0, e0⟩
theorem own_ef_rmFill_2 (m : MethodId) (x0 : Addr) (x1 : Int32) (x2 : Int32) (x3 : Int32) : entryFrame m #[.ref x0, .int x1, .int x2, .int x3] 5 = mkF m 0 #[.val (.ref x0), .val (.int x1), .val (.int x2), .val (.int x3), .unset] [] := by first | (simp [entryFrame, mkF, argsToLocals, Value.category]; done) | rfl
def Q_rmFill_2 (Z : State) (wC : Addr) (cC : Cell) (wD : Addr) (kD : ClassId) (mA : Addr) (mL : Addr) (mR : Addr) (h : Addr) (kH : ClassId) (h0 : Heap) (n0 : Nat) (vv_ : Option Value) (hh_ : Heap) (LL_ : List Loc) : Prop := vv_ = none ∧ Fr n0 LL_ ∧ Keep h0 hh_ [h] ∧ Arv Z hh_ h kH .int (2 : Int32) [.int 1, .int 1] (.int 0)
theorem rmFill_2 (l : Launch) (Z : State) (a0 : Array Value) (hw : ∀ d ∈ tables_1, d.before a0 Z = true) (ws : List Jvm.Cond) (wC : Addr) (cC : Cell) (wD : Addr) (kD : ClassId) (mA : Addr) (mL : Addr) (mR : Addr) (GS : Glob Z wC cC wD kD mA mL mR) (h : Addr) (kH : ClassId) (h0 : Heap) (n0 : Nat) (Z0 : n0 ≤ h0.size) (O0 : Old Z n0 h0) (g_h : n0 ≤ h) (Vh : Arv Z h0 h kH .int (2 : Int32) [.int 0, .int 0] (.int 0)) :
  MetFree l (⟨"java/util/Arrays", "fill", "([IIII)V"⟩ : MethodName) (head1 (Jvm.Cond.code (⟨"java/util/Arrays", "fill", "([IIII)V"⟩ : MethodName) jdk_65_method_104_code 5 none :: ws) (⟨1, 0, 0, 14⟩ : Room)) (fun aa_ UU_ => aa_ = #[.ref h, .int 0, .int 2, .int 1] ∧ Z.Warmed39 UU_.vm ∧ UU_.heap = h0) (fun _ _ _ _ _ => True) (fun _ UU_ oo_ UV_ => ∃ vv_ LL_, oo_ = .returned vv_ ∧ Q_rmFill_2 Z wC cC wD kD mA mL mR h kH h0 n0 vv_ UV_.heap LL_ ∧ FrameEnd UU_ oo_ UV_ LL_ (⟨1, 0, 0, 14⟩ : Room).cells (⟨1, 0, 0, 14⟩ : Room).slots) := by
 refine MetFree.of_bodySF (plainFor_of_name own_p13) hisR ?_
 intro p e s m args below meth c s₁ Bd hml0 hP hK
 obtain ⟨rfl, hZ, hh⟩ := hP
 have hx := Bd.exec
 have hby := Bd.bytes
 have hml : c.maxLocals = 5 := hml0
 have hown : s.vm.findClass "java/util/Arrays" = some m.cls := findClass_of_methodNamed Bd.named
 have hnm := (name_of_methodNamed Bd.named Bd.method).1
 have X0 : Stand p l e (⟨1, 0, 0, 14⟩ : Room) s m #[.ref h, .int 0, .int 2, .int 1] below meth c s₁ [] 0 0 := Stand.of_body Bd
 have e0 : s₁.heap = h0 := by rw [← hh, Bd.state]; rfl
 have N0 := Fr.nil n0
 have hn0 : Z.heap.size = n0 := O0.1
 have KT0 : Keep h0 h0 [h] := Keep.refl _ _
 refine own_enter (Φ := fun oo_ UV_ => ∃ vv_ LL_, oo_ = .returned vv_ ∧ Q_rmFill_2 Z wC cC wD kD mA mL mR h kH h0 n0 vv_ UV_.heap LL_ ∧ FrameEnd s oo_ UV_ LL_ (⟨1, 0, 0, 14⟩ : Room).cells (⟨1, 0, 0, 14⟩ : Room).slots) (own_ef_rmFill_2 m h (0 : Int32) (2 : Int32) (1 : Int32)) ?_
 refine own_b s₁ m 1 #[vr h, vi 0, vi 2, vi 1, un] [.ref h] (fun _ k_ => XS.aloadN X0.here hx rfl (hb hby d34_0) rfl rfl k_) ?_
 obtain ⟨cl1, Ar1, q1, S1, M1, H1, G1⟩ := id Vh
 refine own_b s₁ m 2 #[vr h, vi 0, vi 2, vi 1, un] [.int 2] (fun _ k_ => X0.arraylength hx (by rw [e0]; exact Ar1.1) (State.isArrayOf_alike hZ.alike Ar1.2.1) (g := (mkF m 1 #[vr h, vi 0, vi 2, vi 1, un] [.ref h])) rfl rfl (hb hby d34_1) _ (by rw [len_of S1 M1]; exact k_)) ?_
 refine own_b s₁ m 4 #[vr h, vi 0, vi 2, vi 1, un] [.int 2, .int 0, .int 2] (fun _ k_ => XS.iloadN X0.here hx rfl (hb hby d34_2) rfl (XS.iloadN X0.here hx rfl (hb hby d34_3) rfl k_)) ?_
 obtain ⟨_, _, ⟨T2, L2, k2, n2⟩, -, X2, ⟨Lc2, hQ2, l2, y2, z2⟩, st2⟩ := Jvm.LawKit.callS X0 hx (y := (⟨"java/util/Arrays", "rangeCheck", "(III)V"⟩ : MethodName)) hown (mvT hZ (ww hw 265 rfl)) (mvT hZ (ww hw 266 rfl)) (mvT hZ (ww hw 263 rfl)) (mvT hZ (ww hw 267 rfl)) (by decide) (backOf (W := 0) (rmRc_2 l Z a0 hw [] wC cC wD kD mA mL mR GS  h0 n0 (by omega) O0 ) hZ (ww hw 267 rfl) (ww hw 263 rfl) (by decide) (by decide)) (g := (mkF m 4 #[vr h, vi 0, vi 2, vi 1, un] [.int 2, .int 0, .int 2])) rfl (by rw [hml]; rfl) (argsL := [.int 2, .int 0, .int 2]) (rest := []) (lenOf own_pd_17 rfl) rfl (by show 2 * 0 + _ ≤ _; exact Nat.le_of_eq rfl) (hb hby d34_4) (fun _ _ => ⟨rfl, e0, (by decide : 0 + 0 ≤ _), (by decide : 0 + 0 ≤ _)⟩)
 dsimp only [Pt.U, Pt.locs, Pt.cells, Pt.slots] at X2 l2 y2 z2 st2 hQ2
 subst l2 y2 z2
 obtain ⟨rfl, N2q, e2⟩ := hQ2
 have N3 := Fr.app N0 N2q
 refine own_b T2 m 7 #[vr h, vi 0, vi 2, vi 1, un] [] st2 ?_
 refine own_b T2 m 20 #[vr h, vi 0, vi 2, vi 1, vi 0] [.int 1, .int 0, .ref h] (fun _ k_ => XS.iloadN X2.here hx rfl (hb hby d34_7) rfl (XS.istore X2.here hx rfl (hb hby d34_8) rfl (l' := #[vr h, vi 0, vi 2, vi 1, vi 0]) rfl (XS.iload X2.here hx rfl (hb hby d34_10) rfl (XS.iloadN X2.here hx rfl (hb hby d34_12) rfl (XS.icmpNo X2.here hx rfl (hb hby d34_13) rfl (XT.ii_ge_f (by decide)) (XS.aloadN X2.here hx rfl (hb hby d34_16) rfl rfl (XS.iload X2.here hx rfl (hb hby d34_17) rfl (XS.iloadN X2.here hx rfl (hb hby d34_19) rfl k_)))))))) ?_
 obtain ⟨cl4, Ar4, q4, S4, M4, H4, G4⟩ := id Vh
 have hin4 : ¬ ((0 : Int32) < 0 ∨ cl4.slots.size ≤ ((0 : Int32)).toNatClampNeg) := inb_of S4 ⟨by decide, by decide⟩
 obtain ⟨T4, h4, X4, e4, W4, st4⟩ := stI X2 hx hZ e2 Ar4 (j := (0 : Int32)) hin4 (g := (mkF m 20 #[vr h, vi 0, vi 2, vi 1, vi 0] [.int 1, .int 0, .ref h])) rfl rfl (hb hby d34_20)
 have K5 : Keep h0 h4 [h] := Keep.of_wr W4
 have zzK5 : h0.size ≤ h4.size := K5.1
 have oo6 : Old Z n0 h4 := O0.keep K5 (allS (by omega : n0 ≤ h) all0)
 have kt7 : Keep h0 h4 [h] := KT0.trans K5 (allS (Or.inl (List.mem_of_getElem? (i := 0) rfl)) all0)
 have f8 : Arv Z h4 h kH .int (2 : Int32) [.int 1, .int 0] (.int 0) := Arv.set Ar4 q4 S4 M4 H4 G4 rfl W4 0 rfl (Nat.le_of_ble_eq_true rfl)
 have N9 := Fr.snoc X4 N3 (by omega : n0 ≤ h)
 refine own_b T4 m 21 #[vr h, vi 0, vi 2, vi 1, vi 0] [] st4 ?_
 refine own_b T4 m 24 #[vr h, vi 0, vi 2, vi 1, .val (.int ((0 : Int32) + (1 : Int32)))] [] (fun _ k_ => XS.iinc X4.here hx rfl (hb hby d34_21) rfl rfl k_) ?_
 rw [show ((0 : Int32) + (1 : Int32)) = (1 : Int32) from by decide]
 refine own_b T4 m 20 #[vr h, vi 0, vi 2, vi 1, vi 1] [.int 1, .int 1, .ref h] (fun _ k_ => XS.goto X4.here hx rfl (pc0 := 24) (pc' := 10) rfl (hb hby d34_24) (by decide) (by decide) (XS.iload X4.here hx rfl (hb hby d34_10) rfl (XS.iloadN X4.here hx rfl (hb hby d34_12) rfl (XS.icmpNo X4.here hx rfl (hb hby d34_13) rfl (XT.ii_ge_f (by decide)) (XS.aloadN X4.here hx rfl (hb hby d34_16) rfl rfl (XS.iload X4.here hx rfl (hb hby d34_17) rfl (XS.iloadN X4.here hx rfl (hb hby d34_19) rfl k_))))))) ?_
 obtain ⟨cl10, Ar10, q10, S10, M10, H10, G10⟩ := id f8
 have hin10 : ¬ ((1 : Int32) < 0 ∨ cl10.slots.size ≤ ((1 : Int32)).toNatClampNeg) := inb_of S10 ⟨by decide, by decide⟩
 obtain ⟨T10, h10, X10, e10, W10, st10⟩ := stI X4 hx hZ e4 Ar10 (j := (1 : Int32)) hin10 (g := (mkF m 20 #[vr h, vi 0, vi 2, vi 1, vi 1] [.int 1, .int 1, .ref h])) rfl rfl (hb hby d34_20)
 have K11 : Keep h4 h10 [h] := Keep.of_wr W10
 have zzK11 : h4.size ≤ h10.size := K11.1
 have oo12 : Old Z n0 h10 := oo6.keep K11 (allS (by omega : n0 ≤ h) all0)
 have kt13 : Keep h0 h10 [h] := kt7.trans K11 (allS (Or.inl (List.mem_of_getElem? (i := 0) rfl)) all0)
 have f14 : Arv Z h10 h kH .int (2 : Int32) [.int 1, .int 1] (.int 0) := Arv.set Ar10 q10 S10 M10 H10 G10 rfl W10 1 rfl (Nat.le_of_ble_eq_true rfl)
 have N15 := Fr.snoc X10 N9 (by omega : n0 ≤ h)
 refine own_b T10 m 21 #[vr h, vi 0, vi 2, vi 1, vi 1] [] st10 ?_
 refine own_b T10 m 24 #[vr h, vi 0, vi 2, vi 1, .val (.int ((1 : Int32) + (1 : Int32)))] [] (fun _ k_ => XS.iinc X10.here hx rfl (hb hby d34_21) rfl rfl k_) ?_
 rw [show ((1 : Int32) + (1 : Int32)) = (2 : Int32) from by decide]
 refine own_b T10 m 27 #[vr h, vi 0, vi 2, vi 1, vi 2] [] (fun _ k_ => XS.goto X10.here hx rfl (pc0 := 24) (pc' := 10) rfl (hb hby d34_24) (by decide) (by decide) (XS.iload X10.here hx rfl (hb hby d34_10) rfl (XS.iloadN X10.here hx rfl (hb hby d34_12) rfl (XS.icmpYes X10.here hx rfl (pc0 := 13) (pc' := 27) rfl (hb hby d34_13) rfl (XT.ii_ge_t (by decide)) (by decide) (by decide) k_)))) ?_
 obtain ⟨fs16, hr16, hrun16, hended16, hW16, hsame16⟩ := X10.leave (v := none) (fun _ => rfl)
 refine ⟨_, _, X10.returnOut hx Bd.returns (hb hby d34_27) hr16, hrun16, hended16, _, _, rfl, ?_, ⟨_, rfl⟩, hW16, hsame16.mono (by decide) (by decide)⟩
 show Q_rmFill_2 Z wC cC wD kD mA mL mR h kH h0 n0 _ T10.heap _
 rw [e10]
 exact ⟨rfl, N15, kt13, f14⟩
theorem own_ef_rmHz_2 (m : MethodId) (x0 : Addr) : entryFrame m #[.ref x0] 6 = mkF m 0 #[.val (.ref x0), .unset, .unset, .unset, .unset, .unset] [] := by first | (simp [entryFrame, mkF, argsToLocals, Value.category]; done) | rfl
def Q_rmHz_2 (Z : State) (wC : Addr) (cC : Cell) (wD : Addr) (kD : ClassId) (mA : Addr) (mL : Addr) (mR : Addr) (a : Addr) (al : Addr) (ct : Addr) (kC : ClassId) (t : Addr) (kE : ClassId) (b : Addr) (h0 : Heap) (n0 : Nat) (vv_ : Option Value) (hh_ : Heap) (LL_ : List Loc) : Prop := ∃ h : Addr, vv_ = some (.ref h) ∧ Fr n0 LL_ ∧ Keep h0 hh_ [] ∧ h0.size ≤ h
theorem rmHz_2 (l : Launch) (Z : State) (a0 : Array Value) (hw : ∀ d ∈ tables_1, d.before a0 Z = true) (ws : List Jvm.Cond) (wC : Addr) (cC : Cell) (wD : Addr) (kD : ClassId) (mA : Addr) (mL : Addr) (mR : Addr) (GS : Glob Z wC cC wD kD mA mL mR) (a : Addr) (al : Addr) (ct : Addr) (kC : ClassId) (t : Addr) (kE : ClassId) (b : Addr) (h0 : Heap) (n0 : Nat) (Z0 : n0 ≤ h0.size) (O0 : Old Z n0 h0) (E_a : Exa Z h0 a cn1) (Ft : Fld Z h0 a cn1 "total" "I" (.int 2)) (Fz : Fld Z h0 a cn1 "zones" "Ljava/util/List;" (.ref al)) (Fc : Fld Z h0 a cn1 "counts" "[I" (.ref ct)) (Vc : Arv Z h0 ct kC .int (2 : Int32) [.int 0, .int 2] (.int 0)) (E_l : Exa Z h0 al cn2) (Fm : Fld Z h0 al "java/util/AbstractList" "modCount" "I" (.int 1)) (Fs : Fld Z h0 al cn2 "size" "I" (.int 1)) (Fe : Fld Z h0 al cn2 "elementData" "[Ljava/lang/Object;" (.ref t)) (Vt : Arv Z h0 t kE (.object "java/lang/Object") (10 : Int32) [.ref b, .null, .null, .null, .null, .null, .null, .null, .null, .null] .null) (E_b : Exa Z h0 b "java/lang/Integer") (F_b : Fld Z h0 b "java/lang/Integer" "value" "I" (.int 1)) :
  MetFree l (⟨cn0, "homeZones", "(Lcom/example/even_commute/evencommute/demand/ZoneCounts;)[I"⟩ : MethodName) (head1 (Jvm.Cond.code (⟨cn0, "homeZones", "(Lcom/example/even_commute/evencommute/demand/ZoneCounts;)[I"⟩ : MethodName) prog_29_method_14_code 6 (some (.array .int)) :: ws) (⟨6, 4, 10, 76⟩ : Room)) (fun aa_ UU_ => aa_ = #[.ref a] ∧ Z.Warmed39 UU_.vm ∧ UU_.heap = h0) (fun _ _ _ _ _ => True) (fun _ UU_ oo_ UV_ => ∃ vv_ LL_, oo_ = .returned vv_ ∧ Q_rmHz_2 Z wC cC wD kD mA mL mR a al ct kC t kE b h0 n0 vv_ UV_.heap LL_ ∧ FrameEnd UU_ oo_ UV_ LL_ (⟨6, 4, 10, 76⟩ : Room).cells (⟨6, 4, 10, 76⟩ : Room).slots) := by
 refine MetFree.of_bodySF (plainFor_of_name own_p2) hisR ?_
 intro p e s m args below meth c s₁ Bd hml0 hP hK
 obtain ⟨rfl, hZ, hh⟩ := hP
 have hx := Bd.exec
 have hby := Bd.bytes
 have hml : c.maxLocals = 6 := hml0
 have hown : s.vm.findClass cn0 = some m.cls := findClass_of_methodNamed Bd.named
 have hnm := (name_of_methodNamed Bd.named Bd.method).1
 have X0 : Stand p l e (⟨6, 4, 10, 76⟩ : Room) s m #[.ref a] below meth c s₁ [] 0 0 := Stand.of_body Bd
 have e0 : s₁.heap = h0 := by rw [← hh, Bd.state]; rfl
 have N0 := Fr.nil n0
 have hn0 : Z.heap.size = n0 := O0.1
 have KT0 : Keep h0 h0 [] := Keep.refl _ _
 refine own_enter (Φ := fun oo_ UV_ => ∃ vv_ LL_, oo_ = .returned vv_ ∧ Q_rmHz_2 Z wC cC wD kD mA mL mR a al ct kC t kE b h0 n0 vv_ UV_.heap LL_ ∧ FrameEnd s oo_ UV_ LL_ (⟨6, 4, 10, 76⟩ : Room).cells (⟨6, 4, 10, 76⟩ : Room).slots) (own_ef_rmHz_2 m a) ?_
 refine own_b s₁ m 1 #[vr a, un, un, un, un, un] [.ref a] (fun _ k_ => XS.aloadN X0.here hx rfl (hb hby d16_0) rfl rfl k_) ?_
 obtain ⟨cq1, kq1, q1a, q1b, q1c⟩ := isOf hZ e0 E_a
 obtain ⟨_, _, ⟨T1, L1, k1, n1⟩, -, X1, ⟨Lc1, hQ1, l1, y1, z1⟩, st1⟩ := X0.virtualBack hx (y := (⟨cn1, "getTotal", "()I"⟩ : MethodName)) (z := (⟨cn1, "getTotal", "()I"⟩ : MethodName)) hown (mvT hZ (ww hw 110 rfl)) (mvT hZ (ww hw 111 rfl)) (notFace_of_selects (args := #[]) (mvT hZ (ww hw 113 rfl))) (mvT hZ (ww hw 113 rfl)) (mvT hZ (ww hw 112 rfl)) (by decide) (backOf (W := 0) (rmTot l Z a0 hw [] wC cC wD kD mA mL mR GS a (2 : Int32) h0 n0 (by omega) O0 Ft) hZ (ww hw 114 rfl) (ww hw 4 rfl) (by decide) (by decide)) q1a q1c (g := (mkF m 1 #[vr a, un, un, un, un, un] [.ref a])) rfl (by rw [hml]; rfl) (Steps.refl _) (argsL := []) (rest := []) (lenOf own_pd_5 rfl) rfl (by show 2 * 0 + _ ≤ _; exact Nat.le_of_eq rfl) (hb hby d16_1) (fun _ _ => ⟨rfl, e0, (by decide : 0 + 0 ≤ _), (by decide : 0 + 0 ≤ _)⟩)
 dsimp only [Pt.U, Pt.locs, Pt.cells, Pt.slots] at X1 l1 y1 z1 st1 hQ1
 subst l1 y1 z1
 obtain ⟨rfl, N1q, e1⟩ := hQ1
 have N2 := Fr.app N0 N1q
 refine own_b T1 m 4 #[vr a, un, un, un, un, un] [.int 2] (fun _ k_ => st1.trans k_) ?_
 obtain ⟨T3, h3, k3, X3, e3, E3, A3, st3⟩ := newP X1 hx hZ (ww hw 1 rfl) e1 (g := (mkF m 4 #[vr a, un, un, un, un, un] [.int 2])) rfl (hb hby d16_4) rfl (by decide) (cap := 2) (by decide) (by decide) (by decide) (by decide)
 obtain ⟨b3, g3⟩ : ∃ z, z = h0.size := ⟨_, rfl⟩
 rw [← g3] at A3 st3
 have K4 : Keep h0 h3 [] := own_kext E3
 have zzK4 : h0.size ≤ h3.size := K4.1
 have oo5 : Old Z n0 h3 := O0.keep K4 all0
 have kt6 : Keep h0 h3 [] := KT0.trans K4 all0
 have lab3 : b3 < h3.size := A3.lt
 have f7 : Arv Z h3 b3 k3 .int (2 : Int32) [.int 0, .int 0] (.int 0) := (Arv.new A3 (by decide)).pad (pad_rep [] (.int 0) 2)
 refine own_b T3 m 6 #[vr a, un, un, un, un, un] [.ref b3] st3 ?_
 refine own_b T3 m 10 #[vr a, vr b3, vi 0, un, un, un] [.ref a] (fun _ k_ => XS.astoreN X3.here hx rfl (hb hby d16_6) rfl rfl (l' := #[vr a, vr b3, un, un, un, un]) rfl (XS.iconst X3.here hx rfl (hb hby d16_7) (XS.istoreN X3.here hx rfl (hb hby d16_8) rfl (l' := #[vr a, vr b3, vi 0, un, un, un]) rfl (XS.aloadN X3.here hx rfl (hb hby d16_9) rfl rfl k_)))) ?_
 have f8 : Exa Z h3 a cn1 := (E_a.keep K4)
 have f9 : Exa Z h3 al cn2 := (E_l.keep K4)
 have f10 : Fld Z h3 a cn1 "zones" "Ljava/util/List;" (.ref al) := (Fz.keep K4 nin0)
 obtain ⟨cq11, kq11, q11a, q11b, q11c⟩ := isOf hZ e3 f8
 obtain ⟨_, _, ⟨T11, L11, k11, n11⟩, -, X11, ⟨Lc11, hQ11, l11, y11, z11⟩, st11⟩ := X3.virtualBack hx (y := (⟨cn1, "getZones", "()Ljava/util/List;"⟩ : MethodName)) (z := (⟨cn1, "getZones", "()Ljava/util/List;"⟩ : MethodName)) hown (mvT hZ (ww hw 115 rfl)) (mvT hZ (ww hw 116 rfl)) (notFace_of_selects (args := #[]) (mvT hZ (ww hw 118 rfl))) (mvT hZ (ww hw 118 rfl)) (mvT hZ (ww hw 117 rfl)) (by decide) (backOf (W := 0) (rmGz l Z a0 hw [] wC cC wD kD mA mL mR GS a al h3 n0 (by omega) oo5 f8 f9 f10) hZ (ww hw 119 rfl) (ww hw 4 rfl) (by decide) (by decide)) q11a q11c (g := (mkF m 10 #[vr a, vr b3, vi 0, un, un, un] [.ref a])) rfl (by rw [hml]; rfl) (Steps.refl _) (argsL := []) (rest := []) (lenOf own_pd_18 rfl) rfl (by show 2 * 0 + _ ≤ _; exact Nat.le_of_eq rfl) (hb hby d16_10) (fun _ _ => ⟨rfl, e3, (by decide : 1 + 1 ≤ _), (by decide : 2 + 2 ≤ _)⟩)
 dsimp only [Pt.U, Pt.locs, Pt.cells, Pt.slots] at X11 l11 y11 z11 st11 hQ11
 subst l11 y11 z11
 obtain ⟨u_12, rfl, N11q, K11, p11_0, p11_1, p11_2, p11_3⟩ := hQ11
 have N13 := Fr.app N2 N11q
 have gu_12 : h3.size ≤ u_12 := p11_0
 have zzK11 : h3.size ≤ T11.heap.size := K11.1
 have oo14 : Old Z n0 T11.heap := oo5.keep K11 all0
 have kt15 : Keep h0 T11.heap [] := kt6.trans K11 all0
 refine own_b T11 m 13 #[vr a, vr b3, vi 0, un, un, un] [.ref u_12] (fun _ k_ => st11.trans k_) ?_
 have f16 : Exa Z T11.heap al cn2 := (f9.keep K11)
 have f17 : Fld Z T11.heap al "java/util/AbstractList" "modCount" "I" (.int 1) := ((Fm.keep K4 nin0).keep K11 nin0)
 obtain ⟨cq18, kq18, q18a, q18b, q18c⟩ := isOf hZ rfl p11_1
 obtain ⟨_, _, ⟨T18, L18, k18, n18⟩, -, X18, ⟨Lc18, hQ18, l18, y18, z18⟩, st18⟩ := X11.interfaceBack hx (xi := (⟨"java/util/List", "iterator", "()Ljava/util/Iterator;"⟩ : MethodName)) (y := (⟨"java/util/Collections$UnmodifiableCollection", "iterator", "()Ljava/util/Iterator;"⟩ : MethodName)) hown (mvT hZ (ww hw 162 rfl)) (mvT hZ (ww hw 163 rfl)) (mvT hZ (ww hw 164 rfl)) (mvT hZ (ww hw 165 rfl)) (mvT hZ (ww hw 166 rfl)) (mvT hZ (ww hw 167 rfl)) (mvT hZ (ww hw 168 rfl)) (mvT hZ (ww hw 169 rfl)) (by decide) (backOf (W := 0) (rmUIt l Z a0 hw [] wC cC wD kD mA mL mR GS u_12 al T11.heap n0 (by omega) oo14 p11_1 f16 p11_2 f17) hZ (ww hw 170 rfl) (ww hw 155 rfl) (by decide) (by decide)) q18a q18b q18c (g := (mkF m 13 #[vr a, vr b3, vi 0, un, un, un] [.ref u_12])) rfl (by rw [hml]; rfl) (Steps.refl _) (argsL := []) (rest := []) (lenOf own_pd_13 rfl) rfl (by show 2 * 0 + _ ≤ _; exact Nat.le_of_eq rfl) (hb hby d16_13) (fun _ _ => ⟨rfl, rfl, (by decide : 2 + 2 ≤ _), (by decide : 4 + 6 ≤ _)⟩)
 dsimp only [Pt.U, Pt.locs, Pt.cells, Pt.slots] at X18 l18 y18 z18 st18 hQ18
 subst l18 y18 z18
 obtain ⟨x1_19, it_20, rfl, N18q, K18, p18_0, p18_1, p18_2, p18_3, p18_4, p18_5, p18_6, p18_7, p18_8, p18_9⟩ := hQ18
 have N21 := Fr.app N13 N18q
 have gx1_19 : T11.heap.size ≤ x1_19 := p18_0
 have git_20 : T11.heap.size ≤ it_20 := p18_4
 have zzK18 : T11.heap.size ≤ T18.heap.size := K18.1
 have oo22 : Old Z n0 T18.heap := oo14.keep K18 all0
 have kt23 : Keep h0 T18.heap [] := kt15.trans K18 all0
 refine own_b T18 m 18 #[vr a, vr b3, vi 0, un, un, un] [.ref x1_19] (fun _ k_ => st18.trans k_) ?_
 refine own_b T18 m 20 #[vr a, vr b3, vi 0, vr x1_19, un, un] [.ref x1_19] (fun _ k_ => XS.astoreN X18.here hx rfl (hb hby d16_18) rfl rfl (l' := #[vr a, vr b3, vi 0, vr x1_19, un, un]) rfl (XS.aloadN X18.here hx rfl (hb hby d16_19) rfl rfl k_)) ?_
 have f24 : Fld Z T18.heap al cn2 "size" "I" (.int 1) := (((Fs.keep K4 nin0).keep K11 nin0).keep K18 nin0)
 obtain ⟨cq25, kq25, q25a, q25b, q25c⟩ := isOf hZ rfl p18_1
 obtain ⟨_, _, ⟨T25, L25, k25, n25⟩, -, X25, ⟨Lc25, hQ25, l25, y25, z25⟩, st25⟩ := X18.interfaceBack hx (xi := (⟨"java/util/Iterator", "hasNext", "()Z"⟩ : MethodName)) (y := (⟨cn3, "hasNext", "()Z"⟩ : MethodName)) hown (mvT hZ (ww hw 208 rfl)) (mvT hZ (ww hw 209 rfl)) (mvT hZ (ww hw 210 rfl)) (mvT hZ (ww hw 211 rfl)) (mvT hZ (ww hw 212 rfl)) (mvT hZ (ww hw 213 rfl)) (mvT hZ (ww hw 214 rfl)) (mvT hZ (ww hw 215 rfl)) (by decide) (backOf (W := 0) (rmUHn0 l Z a0 hw [] wC cC wD kD mA mL mR GS x1_19 it_20 al T18.heap n0 (by omega) oo22 p18_1 p18_2 p18_5 p18_6 p18_9 f24) hZ (ww hw 216 rfl) (ww hw 173 rfl) (by decide) (by decide)) q25a q25b q25c (g := (mkF m 20 #[vr a, vr b3, vi 0, vr x1_19, un, un] [.ref x1_19])) rfl (by rw [hml]; rfl) (Steps.refl _) (argsL := []) (rest := []) (lenOf own_pd_15 rfl) rfl (by show 2 * 0 + _ ≤ _; exact Nat.le_of_eq rfl) (hb hby d16_20) (fun _ _ => ⟨rfl, rfl, (by decide : 4 + 0 ≤ _), (by decide : 10 + 0 ≤ _)⟩)
 dsimp only [Pt.U, Pt.locs, Pt.cells, Pt.slots] at X25 l25 y25 z25 st25 hQ25
 subst l25 y25 z25
 obtain ⟨rfl, N25q, e25⟩ := hQ25
 have N26 := Fr.app N21 N25q
 refine own_b T25 m 25 #[vr a, vr b3, vi 0, vr x1_19, un, un] [.int 1] (fun _ k_ => st25.trans k_) ?_
 refine own_b T25 m 29 #[vr a, vr b3, vi 0, vr x1_19, un, un] [.ref x1_19] (fun _ k_ => XS.ifNo X25.here hx rfl (hb hby d16_25) rfl (XT.i0_eq_f (by decide)) (XS.aloadN X25.here hx rfl (hb hby d16_28) rfl rfl k_)) ?_
 have la27 : @LT.lt Nat instLTNat it_20 T18.heap.size := p18_5.lt
 have f28 : Exa Z T18.heap al cn2 := (f16.keep K18)
 have f29 : Fld Z T18.heap al "java/util/AbstractList" "modCount" "I" (.int 1) := (f17.keep K18 nin0)
 have f30 : Fld Z T18.heap al cn2 "elementData" "[Ljava/lang/Object;" (.ref t) := (((Fe.keep K4 nin0).keep K11 nin0).keep K18 nin0)
 have f31 : Arv Z T18.heap t kE (.object "java/lang/Object") (10 : Int32) [.ref b, .null, .null, .null, .null, .null, .null, .null, .null, .null] .null := (((Vt.keep K4 nin0).keep K11 nin0).keep K18 nin0)
 have la32 : @LT.lt Nat instLTNat al h0.size := E_l.lt
 have ne33 : @Ne Nat al it_20 := by omega
 have la34 : @LT.lt Nat instLTNat t h0.size := Vt.lt
 have ne35 : @Ne Nat t it_20 := by omega
 obtain ⟨cq36, kq36, q36a, q36b, q36c⟩ := isOf hZ e25 p18_1
 obtain ⟨_, _, ⟨T36, L36, k36, n36⟩, -, X36, ⟨Lc36, hQ36, l36, y36, z36⟩, st36⟩ := X25.interfaceBack hx (xi := (⟨"java/util/Iterator", "next", "()Ljava/lang/Object;"⟩ : MethodName)) (y := (⟨cn3, "next", "()Ljava/lang/Object;"⟩ : MethodName)) hown (mvT hZ (ww hw 227 rfl)) (mvT hZ (ww hw 228 rfl)) (mvT hZ (ww hw 229 rfl)) (mvT hZ (ww hw 230 rfl)) (mvT hZ (ww hw 231 rfl)) (mvT hZ (ww hw 232 rfl)) (mvT hZ (ww hw 233 rfl)) (mvT hZ (ww hw 215 rfl)) (by decide) (backOf (W := 0) (rmUNx l Z a0 hw [] wC cC wD kD mA mL mR GS x1_19 it_20 al t kE b T18.heap n0 (by omega) oo22 p18_1 p18_2 p18_5 (by omega) p18_6 p18_7 p18_8 p18_9 f28 f29 f24 f30 f31 ne33 ne35) hZ (ww hw 234 rfl) (ww hw 173 rfl) (by decide) (by decide)) q36a q36b q36c (g := (mkF m 29 #[vr a, vr b3, vi 0, vr x1_19, un, un] [.ref x1_19])) rfl (by rw [hml]; rfl) (Steps.refl _) (argsL := []) (rest := []) (lenOf own_pd_16 rfl) rfl (by show 2 * 0 + _ ≤ _; exact Nat.le_of_eq rfl) (hb hby d16_29) (fun _ _ => ⟨rfl, e25, (by decide : 4 + 0 ≤ _), (by decide : 10 + 0 ≤ _)⟩)
 dsimp only [Pt.U, Pt.locs, Pt.cells, Pt.slots] at X36 l36 y36 z36 st36 hQ36
 subst l36 y36 z36
 obtain ⟨rfl, N36q, K36, p36_0, p36_1, p36_2, p36_3⟩ := hQ36
 have N37 := Fr.app N26 N36q
 have zzK36 : T18.heap.size ≤ T36.heap.size := K36.1
 have oo38 : Old Z n0 T36.heap := oo22.keep K36 (allS (by omega : n0 ≤ it_20) all0)
 have kt39 : Keep h0 T36.heap [] := kt23.trans K36 (allS (Or.inr (by omega : h0.size ≤ it_20)) all0)
 refine own_b T36 m 34 #[vr a, vr b3, vi 0, vr x1_19, un, un] [.ref b] (fun _ k_ => st36.trans k_) ?_
 have f41 : Exa Z T36.heap b "java/lang/Integer" := ((((E_b.keep K4).keep K11).keep K18).keep K36)
 obtain ⟨T40, X40, e40, st40⟩ := castY X36 hx hZ hown (ww hw 247 rfl) rfl (Ins.self f41) (g := (mkF m 34 #[vr a, vr b3, vi 0, vr x1_19, un, un] [.ref b])) rfl rfl (hb hby d16_34)
 refine own_b T40 m 37 #[vr a, vr b3, vi 0, vr x1_19, un, un] [.ref b] st40 ?_
 have la42 : @LT.lt Nat instLTNat b h0.size := E_b.lt
 have ne43 : @Ne Nat b it_20 := by omega
 have f44 : Fld Z T36.heap b "java/lang/Integer" "value" "I" (.int 1) := ((((F_b.keep K4 nin0).keep K11 nin0).keep K18 nin0).keep K36 (ninS ne43 nin0))
 obtain ⟨cq45, kq45, q45a, q45b, q45c⟩ := isOf hZ e40 f41
 obtain ⟨_, _, ⟨T45, L45, k45, n45⟩, -, X45, ⟨Lc45, hQ45, l45, y45, z45⟩, st45⟩ := X40.virtualBack hx (y := (⟨"java/lang/Integer", "intValue", "()I"⟩ : MethodName)) (z := (⟨"java/lang/Integer", "intValue", "()I"⟩ : MethodName)) hown (mvT hZ (ww hw 249 rfl)) (mvT hZ (ww hw 250 rfl)) (notFace_of_selects (args := #[]) (mvT hZ (ww hw 252 rfl))) (mvT hZ (ww hw 252 rfl)) (mvT hZ (ww hw 251 rfl)) (by decide) (backOf (W := 0) (rmIv l Z a0 hw [] wC cC wD kD mA mL mR GS b (1 : Int32) T36.heap n0 (by omega) oo38 f44) hZ (ww hw 253 rfl) (ww hw 61 rfl) (by decide) (by decide)) q45a q45c (g := (mkF m 37 #[vr a, vr b3, vi 0, vr x1_19, un, un] [.ref b])) rfl (by rw [hml]; rfl) (Steps.refl _) (argsL := []) (rest := []) (lenOf own_pd_5 rfl) rfl (by show 2 * 0 + _ ≤ _; exact Nat.le_of_eq rfl) (hb hby d16_37) (fun _ _ => ⟨rfl, e40, (by decide : 4 + 0 ≤ _), (by decide : 10 + 0 ≤ _)⟩)
 dsimp only [Pt.U, Pt.locs, Pt.cells, Pt.slots] at X45 l45 y45 z45 st45 hQ45
 subst l45 y45 z45
 obtain ⟨rfl, N45q, e45⟩ := hQ45
 have N46 := Fr.app N37 N45q
 refine own_b T45 m 40 #[vr a, vr b3, vi 0, vr x1_19, un, un] [.int 1] (fun _ k_ => st45.trans k_) ?_
 refine own_b T45 m 46 #[vr a, vr b3, vi 0, vr x1_19, vi 1, un] [.int 1, .ref a, .int 0] (fun _ k_ => XS.istore X45.here hx rfl (hb hby d16_40) rfl (l' := #[vr a, vr b3, vi 0, vr x1_19, vi 1, un]) rfl (XS.iloadN X45.here hx rfl (hb hby d16_42) rfl (XS.aloadN X45.here hx rfl (hb hby d16_43) rfl rfl (XS.iload X45.here hx rfl (hb hby d16_44) rfl k_)))) ?_
 have f47 : Exa Z T36.heap a cn1 := (((f8.keep K11).keep K18).keep K36)
 have la48 : @LT.lt Nat instLTNat a h0.size := E_a.lt
 have ne49 : @Ne Nat a it_20 := by omega
 have f50 : Fld Z T36.heap a cn1 "counts" "[I" (.ref ct) := ((((Fc.keep K4 nin0).keep K11 nin0).keep K18 nin0).keep K36 (ninS ne49 nin0))
 have la51 : @LT.lt Nat instLTNat ct h0.size := Vc.lt
 have ne52 : @Ne Nat ct it_20 := by omega
 have f53 : Arv Z T36.heap ct kC .int (2 : Int32) [.int 0, .int 2] (.int 0) := ((((Vc.keep K4 nin0).keep K11 nin0).keep K18 nin0).keep K36 (ninS ne52 nin0))
 obtain ⟨cq54, kq54, q54a, q54b, q54c⟩ := isOf hZ e45 f47
 obtain ⟨_, _, ⟨T54, L54, k54, n54⟩, -, X54, ⟨Lc54, hQ54, l54, y54, z54⟩, st54⟩ := X45.virtualBack hx (y := (⟨cn1, "get", "(I)I"⟩ : MethodName)) (z := (⟨cn1, "get", "(I)I"⟩ : MethodName)) hown (mvT hZ (ww hw 256 rfl)) (mvT hZ (ww hw 257 rfl)) (notFace_of_selects (args := #[]) (mvT hZ (ww hw 259 rfl))) (mvT hZ (ww hw 259 rfl)) (mvT hZ (ww hw 258 rfl)) (by decide) (backOf (W := 1) (rmZg l Z a0 hw [] wC cC wD kD mA mL mR GS a ct kC (0 : Int32) (2 : Int32) T36.heap n0 (by omega) oo38 f47 f50 f53) hZ (ww hw 260 rfl) (ww hw 4 rfl) (by decide) (by decide)) q54a q54c (g := (mkF m 46 #[vr a, vr b3, vi 0, vr x1_19, vi 1, un] [.int 1, .ref a, .int 0])) rfl (by rw [hml]; rfl) (Steps.refl _) (argsL := [.int 1]) (rest := [.int 0]) (lenOf own_pd_19 rfl) rfl (by show 2 * 0 + _ ≤ _; exact Nat.le_of_eq rfl) (hb hby d16_46) (fun _ _ => ⟨rfl, e45, (by decide : 4 + 0 ≤ _), (by decide : 10 + 0 ≤ _)⟩)
 dsimp only [Pt.U, Pt.locs, Pt.cells, Pt.slots] at X54 l54 y54 z54 st54 hQ54
 subst l54 y54 z54
 obtain ⟨rfl, N54q, e54⟩ := hQ54
 have N55 := Fr.app N46 N54q
 refine own_b T54 m 49 #[vr a, vr b3, vi 0, vr x1_19, vi 1, un] [.int 2, .int 0] (fun _ k_ => st54.trans k_) ?_
 refine own_b T54 m 50 #[vr a, vr b3, vi 0, vr x1_19, vi 1, un] [(.int ((0 : Int32) + (2 : Int32)))] (fun _ k_ => XS.iadd X54.here hx rfl (hb hby d16_49) rfl k_) ?_
 rw [show ((0 : Int32) + (2 : Int32)) = (2 : Int32) from by decide]
 refine own_b T54 m 58 #[vr a, vr b3, vi 0, vr x1_19, vi 1, vi 2] [.int 1, .int 2, .int 0, .ref b3] (fun _ k_ => XS.istore X54.here hx rfl (hb hby d16_50) rfl (l' := #[vr a, vr b3, vi 0, vr x1_19, vi 1, vi 2]) rfl (XS.aloadN X54.here hx rfl (hb hby d16_52) rfl rfl (XS.iloadN X54.here hx rfl (hb hby d16_53) rfl (XS.iload X54.here hx rfl (hb hby d16_54) rfl (XS.iload X54.here hx rfl (hb hby d16_56) rfl k_))))) ?_
 have ne56 : @Ne Nat b3 it_20 := by omega
 have f57 : Arv Z T36.heap b3 k3 .int (2 : Int32) [.int 0, .int 0] (.int 0) := (((f7.keep K11 nin0).keep K18 nin0).keep K36 (ninS ne56 nin0))
 obtain ⟨_, _, ⟨T58, L58, k58, n58⟩, -, X58, ⟨Lc58, hQ58, l58, y58, z58⟩, st58⟩ := Jvm.LawKit.callS X54 hx (y := (⟨"java/util/Arrays", "fill", "([IIII)V"⟩ : MethodName)) hown (mvT hZ (ww hw 261 rfl)) (mvT hZ (ww hw 262 rfl)) (mvT hZ (ww hw 263 rfl)) (mvT hZ (ww hw 264 rfl)) (by decide) (backOf (W := 0) (rmFill_2 l Z a0 hw [] wC cC wD kD mA mL mR GS b3 k3 T36.heap n0 (by omega) oo38 (by omega) f57) hZ (ww hw 264 rfl) (ww hw 263 rfl) (by decide) (by decide)) (g := (mkF m 58 #[vr a, vr b3, vi 0, vr x1_19, vi 1, vi 2] [.int 1, .int 2, .int 0, .ref b3])) rfl (by rw [hml]; rfl) (argsL := [.ref b3, .int 0, .int 2, .int 1]) (rest := []) (lenOf own_pd_20 rfl) rfl (by show 2 * 0 + _ ≤ _; exact Nat.le_of_eq rfl) (hb hby d16_58) (fun _ _ => ⟨rfl, e54, (by decide : 4 + 0 ≤ _), (by decide : 10 + 0 ≤ _)⟩)
 dsimp only [Pt.U, Pt.locs, Pt.cells, Pt.slots] at X58 l58 y58 z58 st58 hQ58
 subst l58 y58 z58
 obtain ⟨rfl, N58q, K58, p58_0⟩ := hQ58
 have N59 := Fr.app N55 N58q
 have zzK58 : T36.heap.size ≤ T58.heap.size := K58.1
 have oo60 : Old Z n0 T58.heap := oo38.keep K58 (allS (by omega : n0 ≤ b3) all0)
 have kt61 : Keep h0 T58.heap [] := kt39.trans K58 (allS (Or.inr (by omega : h0.size ≤ b3)) all0)
 refine own_b T58 m 61 #[vr a, vr b3, vi 0, vr x1_19, vi 1, vi 2] [] st58 ?_
 refine own_b T58 m 20 #[vr a, vr b3, vi 2, vr x1_19, vi 1, vi 2] [.ref x1_19] (fun _ k_ => XS.iload X58.here hx rfl (hb hby d16_61) rfl (XS.istoreN X58.here hx rfl (hb hby d16_63) rfl (l' := #[vr a, vr b3, vi 2, vr x1_19, vi 1, vi 2]) rfl (XS.goto X58.here hx rfl (pc0 := 64) (pc' := 19) rfl (hb hby d16_64) (by decide) (by decide) (XS.aloadN X58.here hx rfl (hb hby d16_19) rfl rfl k_)))) ?_
 have f62 : Exa Z T58.heap x1_19 cn3 := ((p18_1.keep K36).keep K58)
 have la63 : @LT.lt Nat instLTNat x1_19 T18.heap.size := p18_1.lt
 have ne64 : @Ne Nat x1_19 it_20 := by omega
 have ne65 : @Ne Nat x1_19 b3 := by omega
 have f66 : Fld Z T58.heap x1_19 cn3 "i" "Ljava/util/Iterator;" (.ref it_20) := ((p18_2.keep K36 (ninS ne64 nin0)).keep K58 (ninS ne65 nin0))
 have f67 : Exa Z T58.heap it_20 cn5 := ((p18_5.keep K36).keep K58)
 have ne68 : @Ne Nat it_20 b3 := by omega
 have f69 : Fld Z T58.heap it_20 cn5 "this$0" "Ljava/util/ArrayList;" (.ref al) := (p36_0.keep K58 (ninS ne68 nin0))
 have f70 : Fld Z T58.heap it_20 cn5 "cursor" "I" (.int 1) := (p36_3.keep K58 (ninS ne68 nin0))
 have ne71 : @Ne Nat al b3 := by omega
 have f72 : Fld Z T58.heap al cn2 "size" "I" (.int 1) := ((f24.keep K36 (ninS ne33 nin0)).keep K58 (ninS ne71 nin0))
 obtain ⟨cq73, kq73, q73a, q73b, q73c⟩ := isOf hZ rfl f62
 obtain ⟨_, _, ⟨T73, L73, k73, n73⟩, -, X73, ⟨Lc73, hQ73, l73, y73, z73⟩, st73⟩ := X58.interfaceBack hx (xi := (⟨"java/util/Iterator", "hasNext", "()Z"⟩ : MethodName)) (y := (⟨cn3, "hasNext", "()Z"⟩ : MethodName)) hown (mvT hZ (ww hw 208 rfl)) (mvT hZ (ww hw 209 rfl)) (mvT hZ (ww hw 210 rfl)) (mvT hZ (ww hw 211 rfl)) (mvT hZ (ww hw 212 rfl)) (mvT hZ (ww hw 213 rfl)) (mvT hZ (ww hw 214 rfl)) (mvT hZ (ww hw 215 rfl)) (by decide) (backOf (W := 0) (rmUHn1 l Z a0 hw [] wC cC wD kD mA mL mR GS x1_19 it_20 al T58.heap n0 (by omega) oo60 f62 f66 f67 f69 f70 f72) hZ (ww hw 216 rfl) (ww hw 173 rfl) (by decide) (by decide)) q73a q73b q73c (g := (mkF m 20 #[vr a, vr b3, vi 2, vr x1_19, vi 1, vi 2] [.ref x1_19])) rfl (by rw [hml]; rfl) (Steps.refl _) (argsL := []) (rest := []) (lenOf own_pd_15 rfl) rfl (by show 2 * 0 + _ ≤ _; exact Nat.le_of_eq rfl) (hb hby d16_20) (fun _ _ => ⟨rfl, rfl, (by decide : 4 + 0 ≤ _), (by decide : 10 + 0 ≤ _)⟩)
 dsimp only [Pt.U, Pt.locs, Pt.cells, Pt.slots] at X73 l73 y73 z73 st73 hQ73
 subst l73 y73 z73
 obtain ⟨rfl, N73q, e73⟩ := hQ73
 have N74 := Fr.app N59 N73q
 refine own_b T73 m 25 #[vr a, vr b3, vi 2, vr x1_19, vi 1, vi 2] [.int 0] (fun _ k_ => st73.trans k_) ?_
 refine own_b T73 m 68 #[vr a, vr b3, vi 2, vr x1_19, vi 1, vi 2] [.ref b3] (fun _ k_ => XS.ifYes X73.here hx rfl (pc0 := 25) (pc' := 67) rfl (hb hby d16_25) rfl (XT.i0_eq_t (by decide)) (by decide) (by decide) (XS.aloadN X73.here hx rfl (hb hby d16_67) rfl rfl k_)) ?_
 obtain ⟨fs75, hr75, hrun75, hended75, hW75, hsame75⟩ := X73.leave (v := some (.ref b3)) (fun h => by rw [Bd.returns] at h; cases h)
 refine ⟨_, _, retOut X73 hx (t := (.array .int)) Bd.returns rfl (Or.inr (Or.inr (Or.inr (Or.inr ⟨rfl, rfl, rfl⟩)))) (hb hby d16_68) hr75, hrun75, hended75, _, _, rfl, ?_, ⟨_, rfl⟩, hW75, hsame75.mono (by decide) (by decide)⟩
 show Q_rmHz_2 Z wC cC wD kD mA mL mR a al ct kC t kE b h0 n0 _ T73.heap _
 rw [e73]
 exact ⟨b3, rfl, N74, kt61, (by omega)⟩
theorem own_ef_rmRc_3 (m : MethodId) (x0 : Int32) (x1 : Int32) (x2 : Int32) : entryFrame m #[.int x0, .int x1, .int x2] 3 = mkF m 0 #[.val (.int x0), .val (.int x1), .val (.int x2)] [] := by first | (simp [entryFrame, mkF, argsToLocals, Value.category]; done) | rfl
def Q_rmRc_3 (Z : State) (wC : Addr) (cC : Cell) (wD : Addr) (kD : ClassId) (mA : Addr) (mL : Addr) (mR : Addr) (h0 : Heap) (n0 : Nat) (vv_ : Option Value) (hh_ : Heap) (LL_ : List Loc) : Prop := vv_ = none ∧ Fr n0 LL_ ∧ hh_ = h0
theorem rmRc_3 (l : Launch) (Z : State) (a0 : Array Value) (hw : ∀ d ∈ tables_1, d.before a0 Z = true) (ws : List Jvm.Cond) (wC : Addr) (cC : Cell) (wD : Addr) (kD : ClassId) (mA : Addr) (mL : Addr) (mR : Addr) (GS : Glob Z wC cC wD kD mA mL mR)  (h0 : Heap) (n0 : Nat) (Z0 : n0 ≤ h0.size) (O0 : Old Z n0 h0) :
  MetFree l (⟨"java/util/Arrays", "rangeCheck", "(III)V"⟩ : MethodName) (head1 (Jvm.Cond.code (⟨"java/util/Arrays", "rangeCheck", "(III)V"⟩ : MethodName) jdk_65_method_30_code 3 none :: ws) (⟨0, 0, 0, 0⟩ : Room)) (fun aa_ UU_ => aa_ = #[.int 3, .int 0, .int 3] ∧ Z.Warmed39 UU_.vm ∧ UU_.heap = h0) (fun _ _ _ _ _ => True) (fun _ UU_ oo_ UV_ => ∃ vv_ LL_, oo_ = .returned vv_ ∧ Q_rmRc_3 Z wC cC wD kD mA mL mR h0 n0 vv_ UV_.heap LL_ ∧ FrameEnd UU_ oo_ UV_ LL_ (⟨0, 0, 0, 0⟩ : Room).cells (⟨0, 0, 0, 0⟩ : Room).slots) := by
 refine MetFree.of_bodySF (plainFor_of_name own_p13) hisR ?_
 intro p e s m args below meth c s₁ Bd hml0 hP hK
 obtain ⟨rfl, hZ, hh⟩ := hP
 have hx := Bd.exec
 have hby := Bd.bytes
 have hml : c.maxLocals = 3 := hml0
 have hown : s.vm.findClass "java/util/Arrays" = some m.cls := findClass_of_methodNamed Bd.named
 have hnm := (name_of_methodNamed Bd.named Bd.method).1
 have X0 : Stand p l e (⟨0, 0, 0, 0⟩ : Room) s m #[.int 3, .int 0, .int 3] below meth c s₁ [] 0 0 := Stand.of_body Bd
 have e0 : s₁.heap = h0 := by rw [← hh, Bd.state]; rfl
 have N0 := Fr.nil n0
 have hn0 : Z.heap.size = n0 := O0.1
 have KT0 : Keep h0 h0 [] := Keep.refl _ _
 refine own_enter (Φ := fun oo_ UV_ => ∃ vv_ LL_, oo_ = .returned vv_ ∧ Q_rmRc_3 Z wC cC wD kD mA mL mR h0 n0 vv_ UV_.heap LL_ ∧ FrameEnd s oo_ UV_ LL_ (⟨0, 0, 0, 0⟩ : Room).cells (⟨0, 0, 0, 0⟩ : Room).slots) (own_ef_rmRc_3 m (3 : Int32) (0 : Int32) (3 : Int32)) ?_
 refine own_b s₁ m 73 #[vi 3, vi 0, vi 3] [] (fun _ k_ => XS.iloadN X0.here hx rfl (hb hby d35_0) rfl (XS.iloadN X0.here hx rfl (hb hby d35_1) rfl (XS.icmpYes X0.here hx rfl (pc0 := 2) (pc' := 46) rfl (hb hby d35_2) rfl (XT.ii_le_t (by decide)) (by decide) (by decide) (XS.iloadN X0.here hx rfl (hb hby d35_46) rfl (XS.ifYes X0.here hx rfl (pc0 := 47) (pc' := 59) rfl (hb hby d35_47) rfl (XT.i0_ge_t (by decide)) (by decide) (by decide) (XS.iloadN X0.here hx rfl (hb hby d35_59) rfl (XS.iloadN X0.here hx rfl (hb hby d35_60) rfl (XS.icmpYes X0.here hx rfl (pc0 := 61) (pc' := 73) rfl (hb hby d35_61) rfl (XT.ii_le_t (by decide)) (by decide) (by decide) k_)))))))) ?_
 obtain ⟨fs1, hr1, hrun1, hended1, hW1, hsame1⟩ := X0.leave (v := none) (fun _ => rfl)
 refine ⟨_, _, X0.returnOut hx Bd.returns (hb hby d35_73) hr1, hrun1, hended1, _, _, rfl, ?_, ⟨_, rfl⟩, hW1, hsame1.mono (by decide) (by decide)⟩
 show Q_rmRc_3 Z wC cC wD kD mA mL mR h0 n0 _ s₁.heap _
 exact ⟨rfl, N0, e0⟩
theorem own_ef_rmFill_3 (m : MethodId) (x0 : Addr) (x1 : Int32) (x2 : Int32) (x3 : Int32) : entryFrame m #[.ref x0, .int x1, .int x2, .int x3] 5 = mkF m 0 #[.val (.ref x0), .val (.int x1), .val (.int x2), .val (.int x3), .unset] [] := by first | (simp [entryFrame, mkF, argsToLocals, Value.category]; done) | rfl
def Q_rmFill_3 (Z : State) (wC : Addr) (cC : Cell) (wD : Addr) (kD : ClassId) (mA : Addr) (mL : Addr) (mR : Addr) (h : Addr) (kH : ClassId) (h0 : Heap) (n0 : Nat) (vv_ : Option Value) (hh_ : Heap) (LL_ : List Loc) : Prop := vv_ = none ∧ Fr n0 LL_ ∧ Keep h0 hh_ [h] ∧ Arv Z hh_ h kH .int (3 : Int32) [.int 1, .int 1, .int 1] (.int 0)
theorem rmFill_3 (l : Launch) (Z : State) (a0 : Array Value) (hw : ∀ d ∈ tables_1, d.before a0 Z = true) (ws : List Jvm.Cond) (wC : Addr) (cC : Cell) (wD : Addr) (kD : ClassId) (mA : Addr) (mL : Addr) (mR : Addr) (GS : Glob Z wC cC wD kD mA mL mR) (h : Addr) (kH : ClassId) (h0 : Heap) (n0 : Nat) (Z0 : n0 ≤ h0.size) (O0 : Old Z n0 h0) (g_h : n0 ≤ h) (Vh : Arv Z h0 h kH .int (3 : Int32) [.int 0, .int 0, .int 0] (.int 0)) :
  MetFree l (⟨"java/util/Arrays", "fill", "([IIII)V"⟩ : MethodName) (head1 (Jvm.Cond.code (⟨"java/util/Arrays", "fill", "([IIII)V"⟩ : MethodName) jdk_65_method_104_code 5 none :: ws) (⟨1, 0, 0, 14⟩ : Room)) (fun aa_ UU_ => aa_ = #[.ref h, .int 0, .int 3, .int 1] ∧ Z.Warmed39 UU_.vm ∧ UU_.heap = h0) (fun _ _ _ _ _ => True) (fun _ UU_ oo_ UV_ => ∃ vv_ LL_, oo_ = .returned vv_ ∧ Q_rmFill_3 Z wC cC wD kD mA mL mR h kH h0 n0 vv_ UV_.heap LL_ ∧ FrameEnd UU_ oo_ UV_ LL_ (⟨1, 0, 0, 14⟩ : Room).cells (⟨1, 0, 0, 14⟩ : Room).slots) := by
 refine MetFree.of_bodySF (plainFor_of_name own_p13) hisR ?_
 intro p e s m args below meth c s₁ Bd hml0 hP hK
 obtain ⟨rfl, hZ, hh⟩ := hP
 have hx := Bd.exec
 have hby := Bd.bytes
 have hml : c.maxLocals = 5 := hml0
 have hown : s.vm.findClass "java/util/Arrays" = some m.cls := findClass_of_methodNamed Bd.named
 have hnm := (name_of_methodNamed Bd.named Bd.method).1
 have X0 : Stand p l e (⟨1, 0, 0, 14⟩ : Room) s m #[.ref h, .int 0, .int 3, .int 1] below meth c s₁ [] 0 0 := Stand.of_body Bd
 have e0 : s₁.heap = h0 := by rw [← hh, Bd.state]; rfl
 have N0 := Fr.nil n0
 have hn0 : Z.heap.size = n0 := O0.1
 have KT0 : Keep h0 h0 [h] := Keep.refl _ _
 refine own_enter (Φ := fun oo_ UV_ => ∃ vv_ LL_, oo_ = .returned vv_ ∧ Q_rmFill_3 Z wC cC wD kD mA mL mR h kH h0 n0 vv_ UV_.heap LL_ ∧ FrameEnd s oo_ UV_ LL_ (⟨1, 0, 0, 14⟩ : Room).cells (⟨1, 0, 0, 14⟩ : Room).slots) (own_ef_rmFill_3 m h (0 : Int32) (3 : Int32) (1 : Int32)) ?_
 refine own_b s₁ m 1 #[vr h, vi 0, vi 3, vi 1, un] [.ref h] (fun _ k_ => XS.aloadN X0.here hx rfl (hb hby d34_0) rfl rfl k_) ?_
 obtain ⟨cl1, Ar1, q1, S1, M1, H1, G1⟩ := id Vh
 refine own_b s₁ m 2 #[vr h, vi 0, vi 3, vi 1, un] [.int 3] (fun _ k_ => X0.arraylength hx (by rw [e0]; exact Ar1.1) (State.isArrayOf_alike hZ.alike Ar1.2.1) (g := (mkF m 1 #[vr h, vi 0, vi 3, vi 1, un] [.ref h])) rfl rfl (hb hby d34_1) _ (by rw [len_of S1 M1]; exact k_)) ?_
 refine own_b s₁ m 4 #[vr h, vi 0, vi 3, vi 1, un] [.int 3, .int 0, .int 3] (fun _ k_ => XS.iloadN X0.here hx rfl (hb hby d34_2) rfl (XS.iloadN X0.here hx rfl (hb hby d34_3) rfl k_)) ?_
 obtain ⟨_, _, ⟨T2, L2, k2, n2⟩, -, X2, ⟨Lc2, hQ2, l2, y2, z2⟩, st2⟩ := Jvm.LawKit.callS X0 hx (y := (⟨"java/util/Arrays", "rangeCheck", "(III)V"⟩ : MethodName)) hown (mvT hZ (ww hw 265 rfl)) (mvT hZ (ww hw 266 rfl)) (mvT hZ (ww hw 263 rfl)) (mvT hZ (ww hw 267 rfl)) (by decide) (backOf (W := 0) (rmRc_3 l Z a0 hw [] wC cC wD kD mA mL mR GS  h0 n0 (by omega) O0 ) hZ (ww hw 267 rfl) (ww hw 263 rfl) (by decide) (by decide)) (g := (mkF m 4 #[vr h, vi 0, vi 3, vi 1, un] [.int 3, .int 0, .int 3])) rfl (by rw [hml]; rfl) (argsL := [.int 3, .int 0, .int 3]) (rest := []) (lenOf own_pd_17 rfl) rfl (by show 2 * 0 + _ ≤ _; exact Nat.le_of_eq rfl) (hb hby d34_4) (fun _ _ => ⟨rfl, e0, (by decide : 0 + 0 ≤ _), (by decide : 0 + 0 ≤ _)⟩)
 dsimp only [Pt.U, Pt.locs, Pt.cells, Pt.slots] at X2 l2 y2 z2 st2 hQ2
 subst l2 y2 z2
 obtain ⟨rfl, N2q, e2⟩ := hQ2
 have N3 := Fr.app N0 N2q
 refine own_b T2 m 7 #[vr h, vi 0, vi 3, vi 1, un] [] st2 ?_
 refine own_b T2 m 20 #[vr h, vi 0, vi 3, vi 1, vi 0] [.int 1, .int 0, .ref h] (fun _ k_ => XS.iloadN X2.here hx rfl (hb hby d34_7) rfl (XS.istore X2.here hx rfl (hb hby d34_8) rfl (l' := #[vr h, vi 0, vi 3, vi 1, vi 0]) rfl (XS.iload X2.here hx rfl (hb hby d34_10) rfl (XS.iloadN X2.here hx rfl (hb hby d34_12) rfl (XS.icmpNo X2.here hx rfl (hb hby d34_13) rfl (XT.ii_ge_f (by decide)) (XS.aloadN X2.here hx rfl (hb hby d34_16) rfl rfl (XS.iload X2.here hx rfl (hb hby d34_17) rfl (XS.iloadN X2.here hx rfl (hb hby d34_19) rfl k_)))))))) ?_
 obtain ⟨cl4, Ar4, q4, S4, M4, H4, G4⟩ := id Vh
 have hin4 : ¬ ((0 : Int32) < 0 ∨ cl4.slots.size ≤ ((0 : Int32)).toNatClampNeg) := inb_of S4 ⟨by decide, by decide⟩
 obtain ⟨T4, h4, X4, e4, W4, st4⟩ := stI X2 hx hZ e2 Ar4 (j := (0 : Int32)) hin4 (g := (mkF m 20 #[vr h, vi 0, vi 3, vi 1, vi 0] [.int 1, .int 0, .ref h])) rfl rfl (hb hby d34_20)
 have K5 : Keep h0 h4 [h] := Keep.of_wr W4
 have zzK5 : h0.size ≤ h4.size := K5.1
 have oo6 : Old Z n0 h4 := O0.keep K5 (allS (by omega : n0 ≤ h) all0)
 have kt7 : Keep h0 h4 [h] := KT0.trans K5 (allS (Or.inl (List.mem_of_getElem? (i := 0) rfl)) all0)
 have f8 : Arv Z h4 h kH .int (3 : Int32) [.int 1, .int 0, .int 0] (.int 0) := Arv.set Ar4 q4 S4 M4 H4 G4 rfl W4 0 rfl (Nat.le_of_ble_eq_true rfl)
 have N9 := Fr.snoc X4 N3 (by omega : n0 ≤ h)
 refine own_b T4 m 21 #[vr h, vi 0, vi 3, vi 1, vi 0] [] st4 ?_
 refine own_b T4 m 24 #[vr h, vi 0, vi 3, vi 1, .val (.int ((0 : Int32) + (1 : Int32)))] [] (fun _ k_ => XS.iinc X4.here hx rfl (hb hby d34_21) rfl rfl k_) ?_
 rw [show ((0 : Int32) + (1 : Int32)) = (1 : Int32) from by decide]
 refine own_b T4 m 20 #[vr h, vi 0, vi 3, vi 1, vi 1] [.int 1, .int 1, .ref h] (fun _ k_ => XS.goto X4.here hx rfl (pc0 := 24) (pc' := 10) rfl (hb hby d34_24) (by decide) (by decide) (XS.iload X4.here hx rfl (hb hby d34_10) rfl (XS.iloadN X4.here hx rfl (hb hby d34_12) rfl (XS.icmpNo X4.here hx rfl (hb hby d34_13) rfl (XT.ii_ge_f (by decide)) (XS.aloadN X4.here hx rfl (hb hby d34_16) rfl rfl (XS.iload X4.here hx rfl (hb hby d34_17) rfl (XS.iloadN X4.here hx rfl (hb hby d34_19) rfl k_))))))) ?_
 obtain ⟨cl10, Ar10, q10, S10, M10, H10, G10⟩ := id f8
 have hin10 : ¬ ((1 : Int32) < 0 ∨ cl10.slots.size ≤ ((1 : Int32)).toNatClampNeg) := inb_of S10 ⟨by decide, by decide⟩
 obtain ⟨T10, h10, X10, e10, W10, st10⟩ := stI X4 hx hZ e4 Ar10 (j := (1 : Int32)) hin10 (g := (mkF m 20 #[vr h, vi 0, vi 3, vi 1, vi 1] [.int 1, .int 1, .ref h])) rfl rfl (hb hby d34_20)
 have K11 : Keep h4 h10 [h] := Keep.of_wr W10
 have zzK11 : h4.size ≤ h10.size := K11.1
 have oo12 : Old Z n0 h10 := oo6.keep K11 (allS (by omega : n0 ≤ h) all0)
 have kt13 : Keep h0 h10 [h] := kt7.trans K11 (allS (Or.inl (List.mem_of_getElem? (i := 0) rfl)) all0)
 have f14 : Arv Z h10 h kH .int (3 : Int32) [.int 1, .int 1, .int 0] (.int 0) := Arv.set Ar10 q10 S10 M10 H10 G10 rfl W10 1 rfl (Nat.le_of_ble_eq_true rfl)
 have N15 := Fr.snoc X10 N9 (by omega : n0 ≤ h)
 refine own_b T10 m 21 #[vr h, vi 0, vi 3, vi 1, vi 1] [] st10 ?_
 refine own_b T10 m 24 #[vr h, vi 0, vi 3, vi 1, .val (.int ((1 : Int32) + (1 : Int32)))] [] (fun _ k_ => XS.iinc X10.here hx rfl (hb hby d34_21) rfl rfl k_) ?_
 rw [show ((1 : Int32) + (1 : Int32)) = (2 : Int32) from by decide]
 refine own_b T10 m 20 #[vr h, vi 0, vi 3, vi 1, vi 2] [.int 1, .int 2, .ref h] (fun _ k_ => XS.goto X10.here hx rfl (pc0 := 24) (pc' := 10) rfl (hb hby d34_24) (by decide) (by decide) (XS.iload X10.here hx rfl (hb hby d34_10) rfl (XS.iloadN X10.here hx rfl (hb hby d34_12) rfl (XS.icmpNo X10.here hx rfl (hb hby d34_13) rfl (XT.ii_ge_f (by decide)) (XS.aloadN X10.here hx rfl (hb hby d34_16) rfl rfl (XS.iload X10.here hx rfl (hb hby d34_17) rfl (XS.iloadN X10.here hx rfl (hb hby d34_19) rfl k_))))))) ?_
 obtain ⟨cl16, Ar16, q16, S16, M16, H16, G16⟩ := id f14
 have hin16 : ¬ ((2 : Int32) < 0 ∨ cl16.slots.size ≤ ((2 : Int32)).toNatClampNeg) := inb_of S16 ⟨by decide, by decide⟩
 obtain ⟨T16, h16, X16, e16, W16, st16⟩ := stI X10 hx hZ e10 Ar16 (j := (2 : Int32)) hin16 (g := (mkF m 20 #[vr h, vi 0, vi 3, vi 1, vi 2] [.int 1, .int 2, .ref h])) rfl rfl (hb hby d34_20)
 have K17 : Keep h10 h16 [h] := Keep.of_wr W16
 have zzK17 : h10.size ≤ h16.size := K17.1
 have oo18 : Old Z n0 h16 := oo12.keep K17 (allS (by omega : n0 ≤ h) all0)
 have kt19 : Keep h0 h16 [h] := kt13.trans K17 (allS (Or.inl (List.mem_of_getElem? (i := 0) rfl)) all0)
 have f20 : Arv Z h16 h kH .int (3 : Int32) [.int 1, .int 1, .int 1] (.int 0) := Arv.set Ar16 q16 S16 M16 H16 G16 rfl W16 2 rfl (Nat.le_of_ble_eq_true rfl)
 have N21 := Fr.snoc X16 N15 (by omega : n0 ≤ h)
 refine own_b T16 m 21 #[vr h, vi 0, vi 3, vi 1, vi 2] [] st16 ?_
 refine own_b T16 m 24 #[vr h, vi 0, vi 3, vi 1, .val (.int ((2 : Int32) + (1 : Int32)))] [] (fun _ k_ => XS.iinc X16.here hx rfl (hb hby d34_21) rfl rfl k_) ?_
 rw [show ((2 : Int32) + (1 : Int32)) = (3 : Int32) from by decide]
 refine own_b T16 m 27 #[vr h, vi 0, vi 3, vi 1, vi 3] [] (fun _ k_ => XS.goto X16.here hx rfl (pc0 := 24) (pc' := 10) rfl (hb hby d34_24) (by decide) (by decide) (XS.iload X16.here hx rfl (hb hby d34_10) rfl (XS.iloadN X16.here hx rfl (hb hby d34_12) rfl (XS.icmpYes X16.here hx rfl (pc0 := 13) (pc' := 27) rfl (hb hby d34_13) rfl (XT.ii_ge_t (by decide)) (by decide) (by decide) k_)))) ?_
 obtain ⟨fs22, hr22, hrun22, hended22, hW22, hsame22⟩ := X16.leave (v := none) (fun _ => rfl)
 refine ⟨_, _, X16.returnOut hx Bd.returns (hb hby d34_27) hr22, hrun22, hended22, _, _, rfl, ?_, ⟨_, rfl⟩, hW22, hsame22.mono (by decide) (by decide)⟩
 show Q_rmFill_3 Z wC cC wD kD mA mL mR h kH h0 n0 _ T16.heap _
 rw [e16]
 exact ⟨rfl, N21, kt19, f20⟩
theorem own_ef_rmHz_3 (m : MethodId) (x0 : Addr) : entryFrame m #[.ref x0] 6 = mkF m 0 #[.val (.ref x0), .unset, .unset, .unset, .unset, .unset] [] := by first | (simp [entryFrame, mkF, argsToLocals, Value.category]; done) | rfl
def Q_rmHz_3 (Z : State) (wC : Addr) (cC : Cell) (wD : Addr) (kD : ClassId) (mA : Addr) (mL : Addr) (mR : Addr) (a : Addr) (al : Addr) (ct : Addr) (kC : ClassId) (t : Addr) (kE : ClassId) (b : Addr) (h0 : Heap) (n0 : Nat) (vv_ : Option Value) (hh_ : Heap) (LL_ : List Loc) : Prop := ∃ h : Addr, vv_ = some (.ref h) ∧ Fr n0 LL_ ∧ Keep h0 hh_ [] ∧ h0.size ≤ h
theorem rmHz_3 (l : Launch) (Z : State) (a0 : Array Value) (hw : ∀ d ∈ tables_1, d.before a0 Z = true) (ws : List Jvm.Cond) (wC : Addr) (cC : Cell) (wD : Addr) (kD : ClassId) (mA : Addr) (mL : Addr) (mR : Addr) (GS : Glob Z wC cC wD kD mA mL mR) (a : Addr) (al : Addr) (ct : Addr) (kC : ClassId) (t : Addr) (kE : ClassId) (b : Addr) (h0 : Heap) (n0 : Nat) (Z0 : n0 ≤ h0.size) (O0 : Old Z n0 h0) (E_a : Exa Z h0 a cn1) (Ft : Fld Z h0 a cn1 "total" "I" (.int 3)) (Fz : Fld Z h0 a cn1 "zones" "Ljava/util/List;" (.ref al)) (Fc : Fld Z h0 a cn1 "counts" "[I" (.ref ct)) (Vc : Arv Z h0 ct kC .int (2 : Int32) [.int 0, .int 3] (.int 0)) (E_l : Exa Z h0 al cn2) (Fm : Fld Z h0 al "java/util/AbstractList" "modCount" "I" (.int 1)) (Fs : Fld Z h0 al cn2 "size" "I" (.int 1)) (Fe : Fld Z h0 al cn2 "elementData" "[Ljava/lang/Object;" (.ref t)) (Vt : Arv Z h0 t kE (.object "java/lang/Object") (10 : Int32) [.ref b, .null, .null, .null, .null, .null, .null, .null, .null, .null] .null) (E_b : Exa Z h0 b "java/lang/Integer") (F_b : Fld Z h0 b "java/lang/Integer" "value" "I" (.int 1)) :
  MetFree l (⟨cn0, "homeZones", "(Lcom/example/even_commute/evencommute/demand/ZoneCounts;)[I"⟩ : MethodName) (head1 (Jvm.Cond.code (⟨cn0, "homeZones", "(Lcom/example/even_commute/evencommute/demand/ZoneCounts;)[I"⟩ : MethodName) prog_29_method_14_code 6 (some (.array .int)) :: ws) (⟨6, 4, 11, 76⟩ : Room)) (fun aa_ UU_ => aa_ = #[.ref a] ∧ Z.Warmed39 UU_.vm ∧ UU_.heap = h0) (fun _ _ _ _ _ => True) (fun _ UU_ oo_ UV_ => ∃ vv_ LL_, oo_ = .returned vv_ ∧ Q_rmHz_3 Z wC cC wD kD mA mL mR a al ct kC t kE b h0 n0 vv_ UV_.heap LL_ ∧ FrameEnd UU_ oo_ UV_ LL_ (⟨6, 4, 11, 76⟩ : Room).cells (⟨6, 4, 11, 76⟩ : Room).slots) := by
 refine MetFree.of_bodySF (plainFor_of_name own_p2) hisR ?_
 intro p e s m args below meth c s₁ Bd hml0 hP hK
 obtain ⟨rfl, hZ, hh⟩ := hP
 have hx := Bd.exec
 have hby := Bd.bytes
 have hml : c.maxLocals = 6 := hml0
 have hown : s.vm.findClass cn0 = some m.cls := findClass_of_methodNamed Bd.named
 have hnm := (name_of_methodNamed Bd.named Bd.method).1
 have X0 : Stand p l e (⟨6, 4, 11, 76⟩ : Room) s m #[.ref a] below meth c s₁ [] 0 0 := Stand.of_body Bd
 have e0 : s₁.heap = h0 := by rw [← hh, Bd.state]; rfl
 have N0 := Fr.nil n0
 have hn0 : Z.heap.size = n0 := O0.1
 have KT0 : Keep h0 h0 [] := Keep.refl _ _
 refine own_enter (Φ := fun oo_ UV_ => ∃ vv_ LL_, oo_ = .returned vv_ ∧ Q_rmHz_3 Z wC cC wD kD mA mL mR a al ct kC t kE b h0 n0 vv_ UV_.heap LL_ ∧ FrameEnd s oo_ UV_ LL_ (⟨6, 4, 11, 76⟩ : Room).cells (⟨6, 4, 11, 76⟩ : Room).slots) (own_ef_rmHz_3 m a) ?_
 refine own_b s₁ m 1 #[vr a, un, un, un, un, un] [.ref a] (fun _ k_ => XS.aloadN X0.here hx rfl (hb hby d16_0) rfl rfl k_) ?_
 obtain ⟨cq1, kq1, q1a, q1b, q1c⟩ := isOf hZ e0 E_a
 obtain ⟨_, _, ⟨T1, L1, k1, n1⟩, -, X1, ⟨Lc1, hQ1, l1, y1, z1⟩, st1⟩ := X0.virtualBack hx (y := (⟨cn1, "getTotal", "()I"⟩ : MethodName)) (z := (⟨cn1, "getTotal", "()I"⟩ : MethodName)) hown (mvT hZ (ww hw 110 rfl)) (mvT hZ (ww hw 111 rfl)) (notFace_of_selects (args := #[]) (mvT hZ (ww hw 113 rfl))) (mvT hZ (ww hw 113 rfl)) (mvT hZ (ww hw 112 rfl)) (by decide) (backOf (W := 0) (rmTot l Z a0 hw [] wC cC wD kD mA mL mR GS a (3 : Int32) h0 n0 (by omega) O0 Ft) hZ (ww hw 114 rfl) (ww hw 4 rfl) (by decide) (by decide)) q1a q1c (g := (mkF m 1 #[vr a, un, un, un, un, un] [.ref a])) rfl (by rw [hml]; rfl) (Steps.refl _) (argsL := []) (rest := []) (lenOf own_pd_5 rfl) rfl (by show 2 * 0 + _ ≤ _; exact Nat.le_of_eq rfl) (hb hby d16_1) (fun _ _ => ⟨rfl, e0, (by decide : 0 + 0 ≤ _), (by decide : 0 + 0 ≤ _)⟩)
 dsimp only [Pt.U, Pt.locs, Pt.cells, Pt.slots] at X1 l1 y1 z1 st1 hQ1
 subst l1 y1 z1
 obtain ⟨rfl, N1q, e1⟩ := hQ1
 have N2 := Fr.app N0 N1q
 refine own_b T1 m 4 #[vr a, un, un, un, un, un] [.int 3] (fun _ k_ => st1.trans k_) ?_
 obtain ⟨T3, h3, k3, X3, e3, E3, A3, st3⟩ := newP X1 hx hZ (ww hw 1 rfl) e1 (g := (mkF m 4 #[vr a, un, un, un, un, un] [.int 3])) rfl (hb hby d16_4) rfl (by decide) (cap := 3) (by decide) (by decide) (by decide) (by decide)
 obtain ⟨b3, g3⟩ : ∃ z, z = h0.size := ⟨_, rfl⟩
 rw [← g3] at A3 st3
 have K4 : Keep h0 h3 [] := own_kext E3
 have zzK4 : h0.size ≤ h3.size := K4.1
 have oo5 : Old Z n0 h3 := O0.keep K4 all0
 have kt6 : Keep h0 h3 [] := KT0.trans K4 all0
 have lab3 : b3 < h3.size := A3.lt
 have f7 : Arv Z h3 b3 k3 .int (3 : Int32) [.int 0, .int 0, .int 0] (.int 0) := (Arv.new A3 (by decide)).pad (pad_rep [] (.int 0) 3)
 refine own_b T3 m 6 #[vr a, un, un, un, un, un] [.ref b3] st3 ?_
 refine own_b T3 m 10 #[vr a, vr b3, vi 0, un, un, un] [.ref a] (fun _ k_ => XS.astoreN X3.here hx rfl (hb hby d16_6) rfl rfl (l' := #[vr a, vr b3, un, un, un, un]) rfl (XS.iconst X3.here hx rfl (hb hby d16_7) (XS.istoreN X3.here hx rfl (hb hby d16_8) rfl (l' := #[vr a, vr b3, vi 0, un, un, un]) rfl (XS.aloadN X3.here hx rfl (hb hby d16_9) rfl rfl k_)))) ?_
 have f8 : Exa Z h3 a cn1 := (E_a.keep K4)
 have f9 : Exa Z h3 al cn2 := (E_l.keep K4)
 have f10 : Fld Z h3 a cn1 "zones" "Ljava/util/List;" (.ref al) := (Fz.keep K4 nin0)
 obtain ⟨cq11, kq11, q11a, q11b, q11c⟩ := isOf hZ e3 f8
 obtain ⟨_, _, ⟨T11, L11, k11, n11⟩, -, X11, ⟨Lc11, hQ11, l11, y11, z11⟩, st11⟩ := X3.virtualBack hx (y := (⟨cn1, "getZones", "()Ljava/util/List;"⟩ : MethodName)) (z := (⟨cn1, "getZones", "()Ljava/util/List;"⟩ : MethodName)) hown (mvT hZ (ww hw 115 rfl)) (mvT hZ (ww hw 116 rfl)) (notFace_of_selects (args := #[]) (mvT hZ (ww hw 118 rfl))) (mvT hZ (ww hw 118 rfl)) (mvT hZ (ww hw 117 rfl)) (by decide) (backOf (W := 0) (rmGz l Z a0 hw [] wC cC wD kD mA mL mR GS a al h3 n0 (by omega) oo5 f8 f9 f10) hZ (ww hw 119 rfl) (ww hw 4 rfl) (by decide) (by decide)) q11a q11c (g := (mkF m 10 #[vr a, vr b3, vi 0, un, un, un] [.ref a])) rfl (by rw [hml]; rfl) (Steps.refl _) (argsL := []) (rest := []) (lenOf own_pd_18 rfl) rfl (by show 2 * 0 + _ ≤ _; exact Nat.le_of_eq rfl) (hb hby d16_10) (fun _ _ => ⟨rfl, e3, (by decide : 1 + 1 ≤ _), (by decide : 3 + 2 ≤ _)⟩)
 dsimp only [Pt.U, Pt.locs, Pt.cells, Pt.slots] at X11 l11 y11 z11 st11 hQ11
 subst l11 y11 z11
 obtain ⟨u_12, rfl, N11q, K11, p11_0, p11_1, p11_2, p11_3⟩ := hQ11
 have N13 := Fr.app N2 N11q
 have gu_12 : h3.size ≤ u_12 := p11_0
 have zzK11 : h3.size ≤ T11.heap.size := K11.1
 have oo14 : Old Z n0 T11.heap := oo5.keep K11 all0
 have kt15 : Keep h0 T11.heap [] := kt6.trans K11 all0
 refine own_b T11 m 13 #[vr a, vr b3, vi 0, un, un, un] [.ref u_12] (fun _ k_ => st11.trans k_) ?_
 have f16 : Exa Z T11.heap al cn2 := (f9.keep K11)
 have f17 : Fld Z T11.heap al "java/util/AbstractList" "modCount" "I" (.int 1) := ((Fm.keep K4 nin0).keep K11 nin0)
 obtain ⟨cq18, kq18, q18a, q18b, q18c⟩ := isOf hZ rfl p11_1
 obtain ⟨_, _, ⟨T18, L18, k18, n18⟩, -, X18, ⟨Lc18, hQ18, l18, y18, z18⟩, st18⟩ := X11.interfaceBack hx (xi := (⟨"java/util/List", "iterator", "()Ljava/util/Iterator;"⟩ : MethodName)) (y := (⟨"java/util/Collections$UnmodifiableCollection", "iterator", "()Ljava/util/Iterator;"⟩ : MethodName)) hown (mvT hZ (ww hw 162 rfl)) (mvT hZ (ww hw 163 rfl)) (mvT hZ (ww hw 164 rfl)) (mvT hZ (ww hw 165 rfl)) (mvT hZ (ww hw 166 rfl)) (mvT hZ (ww hw 167 rfl)) (mvT hZ (ww hw 168 rfl)) (mvT hZ (ww hw 169 rfl)) (by decide) (backOf (W := 0) (rmUIt l Z a0 hw [] wC cC wD kD mA mL mR GS u_12 al T11.heap n0 (by omega) oo14 p11_1 f16 p11_2 f17) hZ (ww hw 170 rfl) (ww hw 155 rfl) (by decide) (by decide)) q18a q18b q18c (g := (mkF m 13 #[vr a, vr b3, vi 0, un, un, un] [.ref u_12])) rfl (by rw [hml]; rfl) (Steps.refl _) (argsL := []) (rest := []) (lenOf own_pd_13 rfl) rfl (by show 2 * 0 + _ ≤ _; exact Nat.le_of_eq rfl) (hb hby d16_13) (fun _ _ => ⟨rfl, rfl, (by decide : 2 + 2 ≤ _), (by decide : 5 + 6 ≤ _)⟩)
 dsimp only [Pt.U, Pt.locs, Pt.cells, Pt.slots] at X18 l18 y18 z18 st18 hQ18
 subst l18 y18 z18
 obtain ⟨x1_19, it_20, rfl, N18q, K18, p18_0, p18_1, p18_2, p18_3, p18_4, p18_5, p18_6, p18_7, p18_8, p18_9⟩ := hQ18
 have N21 := Fr.app N13 N18q
 have gx1_19 : T11.heap.size ≤ x1_19 := p18_0
 have git_20 : T11.heap.size ≤ it_20 := p18_4
 have zzK18 : T11.heap.size ≤ T18.heap.size := K18.1
 have oo22 : Old Z n0 T18.heap := oo14.keep K18 all0
 have kt23 : Keep h0 T18.heap [] := kt15.trans K18 all0
 refine own_b T18 m 18 #[vr a, vr b3, vi 0, un, un, un] [.ref x1_19] (fun _ k_ => st18.trans k_) ?_
 refine own_b T18 m 20 #[vr a, vr b3, vi 0, vr x1_19, un, un] [.ref x1_19] (fun _ k_ => XS.astoreN X18.here hx rfl (hb hby d16_18) rfl rfl (l' := #[vr a, vr b3, vi 0, vr x1_19, un, un]) rfl (XS.aloadN X18.here hx rfl (hb hby d16_19) rfl rfl k_)) ?_
 have f24 : Fld Z T18.heap al cn2 "size" "I" (.int 1) := (((Fs.keep K4 nin0).keep K11 nin0).keep K18 nin0)
 obtain ⟨cq25, kq25, q25a, q25b, q25c⟩ := isOf hZ rfl p18_1
 obtain ⟨_, _, ⟨T25, L25, k25, n25⟩, -, X25, ⟨Lc25, hQ25, l25, y25, z25⟩, st25⟩ := X18.interfaceBack hx (xi := (⟨"java/util/Iterator", "hasNext", "()Z"⟩ : MethodName)) (y := (⟨cn3, "hasNext", "()Z"⟩ : MethodName)) hown (mvT hZ (ww hw 208 rfl)) (mvT hZ (ww hw 209 rfl)) (mvT hZ (ww hw 210 rfl)) (mvT hZ (ww hw 211 rfl)) (mvT hZ (ww hw 212 rfl)) (mvT hZ (ww hw 213 rfl)) (mvT hZ (ww hw 214 rfl)) (mvT hZ (ww hw 215 rfl)) (by decide) (backOf (W := 0) (rmUHn0 l Z a0 hw [] wC cC wD kD mA mL mR GS x1_19 it_20 al T18.heap n0 (by omega) oo22 p18_1 p18_2 p18_5 p18_6 p18_9 f24) hZ (ww hw 216 rfl) (ww hw 173 rfl) (by decide) (by decide)) q25a q25b q25c (g := (mkF m 20 #[vr a, vr b3, vi 0, vr x1_19, un, un] [.ref x1_19])) rfl (by rw [hml]; rfl) (Steps.refl _) (argsL := []) (rest := []) (lenOf own_pd_15 rfl) rfl (by show 2 * 0 + _ ≤ _; exact Nat.le_of_eq rfl) (hb hby d16_20) (fun _ _ => ⟨rfl, rfl, (by decide : 4 + 0 ≤ _), (by decide : 11 + 0 ≤ _)⟩)
 dsimp only [Pt.U, Pt.locs, Pt.cells, Pt.slots] at X25 l25 y25 z25 st25 hQ25
 subst l25 y25 z25
 obtain ⟨rfl, N25q, e25⟩ := hQ25
 have N26 := Fr.app N21 N25q
 refine own_b T25 m 25 #[vr a, vr b3, vi 0, vr x1_19, un, un] [.int 1] (fun _ k_ => st25.trans k_) ?_
 refine own_b T25 m 29 #[vr a, vr b3, vi 0, vr x1_19, un, un] [.ref x1_19] (fun _ k_ => XS.ifNo X25.here hx rfl (hb hby d16_25) rfl (XT.i0_eq_f (by decide)) (XS.aloadN X25.here hx rfl (hb hby d16_28) rfl rfl k_)) ?_
 have la27 : @LT.lt Nat instLTNat it_20 T18.heap.size := p18_5.lt
 have f28 : Exa Z T18.heap al cn2 := (f16.keep K18)
 have f29 : Fld Z T18.heap al "java/util/AbstractList" "modCount" "I" (.int 1) := (f17.keep K18 nin0)
 have f30 : Fld Z T18.heap al cn2 "elementData" "[Ljava/lang/Object;" (.ref t) := (((Fe.keep K4 nin0).keep K11 nin0).keep K18 nin0)
 have f31 : Arv Z T18.heap t kE (.object "java/lang/Object") (10 : Int32) [.ref b, .null, .null, .null, .null, .null, .null, .null, .null, .null] .null := (((Vt.keep K4 nin0).keep K11 nin0).keep K18 nin0)
 have la32 : @LT.lt Nat instLTNat al h0.size := E_l.lt
 have ne33 : @Ne Nat al it_20 := by omega
 have la34 : @LT.lt Nat instLTNat t h0.size := Vt.lt
 have ne35 : @Ne Nat t it_20 := by omega
 obtain ⟨cq36, kq36, q36a, q36b, q36c⟩ := isOf hZ e25 p18_1
 obtain ⟨_, _, ⟨T36, L36, k36, n36⟩, -, X36, ⟨Lc36, hQ36, l36, y36, z36⟩, st36⟩ := X25.interfaceBack hx (xi := (⟨"java/util/Iterator", "next", "()Ljava/lang/Object;"⟩ : MethodName)) (y := (⟨cn3, "next", "()Ljava/lang/Object;"⟩ : MethodName)) hown (mvT hZ (ww hw 227 rfl)) (mvT hZ (ww hw 228 rfl)) (mvT hZ (ww hw 229 rfl)) (mvT hZ (ww hw 230 rfl)) (mvT hZ (ww hw 231 rfl)) (mvT hZ (ww hw 232 rfl)) (mvT hZ (ww hw 233 rfl)) (mvT hZ (ww hw 215 rfl)) (by decide) (backOf (W := 0) (rmUNx l Z a0 hw [] wC cC wD kD mA mL mR GS x1_19 it_20 al t kE b T18.heap n0 (by omega) oo22 p18_1 p18_2 p18_5 (by omega) p18_6 p18_7 p18_8 p18_9 f28 f29 f24 f30 f31 ne33 ne35) hZ (ww hw 234 rfl) (ww hw 173 rfl) (by decide) (by decide)) q36a q36b q36c (g := (mkF m 29 #[vr a, vr b3, vi 0, vr x1_19, un, un] [.ref x1_19])) rfl (by rw [hml]; rfl) (Steps.refl _) (argsL := []) (rest := []) (lenOf own_pd_16 rfl) rfl (by show 2 * 0 + _ ≤ _; exact Nat.le_of_eq rfl) (hb hby d16_29) (fun _ _ => ⟨rfl, e25, (by decide : 4 + 0 ≤ _), (by decide : 11 + 0 ≤ _)⟩)
 dsimp only [Pt.U, Pt.locs, Pt.cells, Pt.slots] at X36 l36 y36 z36 st36 hQ36
 subst l36 y36 z36
 obtain ⟨rfl, N36q, K36, p36_0, p36_1, p36_2, p36_3⟩ := hQ36
 have N37 := Fr.app N26 N36q
 have zzK36 : T18.heap.size ≤ T36.heap.size := K36.1
 have oo38 : Old Z n0 T36.heap := oo22.keep K36 (allS (by omega : n0 ≤ it_20) all0)
 have kt39 : Keep h0 T36.heap [] := kt23.trans K36 (allS (Or.inr (by omega : h0.size ≤ it_20)) all0)
 refine own_b T36 m 34 #[vr a, vr b3, vi 0, vr x1_19, un, un] [.ref b] (fun _ k_ => st36.trans k_) ?_
 have f41 : Exa Z T36.heap b "java/lang/Integer" := ((((E_b.keep K4).keep K11).keep K18).keep K36)
 obtain ⟨T40, X40, e40, st40⟩ := castY X36 hx hZ hown (ww hw 247 rfl) rfl (Ins.self f41) (g := (mkF m 34 #[vr a, vr b3, vi 0, vr x1_19, un, un] [.ref b])) rfl rfl (hb hby d16_34)
 refine own_b T40 m 37 #[vr a, vr b3, vi 0, vr x1_19, un, un] [.ref b] st40 ?_
 have la42 : @LT.lt Nat instLTNat b h0.size := E_b.lt
 have ne43 : @Ne Nat b it_20 := by omega
 have f44 : Fld Z T36.heap b "java/lang/Integer" "value" "I" (.int 1) := ((((F_b.keep K4 nin0).keep K11 nin0).keep K18 nin0).keep K36 (ninS ne43 nin0))
 obtain ⟨cq45, kq45, q45a, q45b, q45c⟩ := isOf hZ e40 f41
 obtain ⟨_, _, ⟨T45, L45, k45, n45⟩, -, X45, ⟨Lc45, hQ45, l45, y45, z45⟩, st45⟩ := X40.virtualBack hx (y := (⟨"java/lang/Integer", "intValue", "()I"⟩ : MethodName)) (z := (⟨"java/lang/Integer", "intValue", "()I"⟩ : MethodName)) hown (mvT hZ (ww hw 249 rfl)) (mvT hZ (ww hw 250 rfl)) (notFace_of_selects (args := #[]) (mvT hZ (ww hw 252 rfl))) (mvT hZ (ww hw 252 rfl)) (mvT hZ (ww hw 251 rfl)) (by decide) (backOf (W := 0) (rmIv l Z a0 hw [] wC cC wD kD mA mL mR GS b (1 : Int32) T36.heap n0 (by omega) oo38 f44) hZ (ww hw 253 rfl) (ww hw 61 rfl) (by decide) (by decide)) q45a q45c (g := (mkF m 37 #[vr a, vr b3, vi 0, vr x1_19, un, un] [.ref b])) rfl (by rw [hml]; rfl) (Steps.refl _) (argsL := []) (rest := []) (lenOf own_pd_5 rfl) rfl (by show 2 * 0 + _ ≤ _; exact Nat.le_of_eq rfl) (hb hby d16_37) (fun _ _ => ⟨rfl, e40, (by decide : 4 + 0 ≤ _), (by decide : 11 + 0 ≤ _)⟩)
 dsimp only [Pt.U, Pt.locs, Pt.cells, Pt.slots] at X45 l45 y45 z45 st45 hQ45
 subst l45 y45 z45
 obtain ⟨rfl, N45q, e45⟩ := hQ45
 have N46 := Fr.app N37 N45q
 refine own_b T45 m 40 #[vr a, vr b3, vi 0, vr x1_19, un, un] [.int 1] (fun _ k_ => st45.trans k_) ?_
 refine own_b T45 m 46 #[vr a, vr b3, vi 0, vr x1_19, vi 1, un] [.int 1, .ref a, .int 0] (fun _ k_ => XS.istore X45.here hx rfl (hb hby d16_40) rfl (l' := #[vr a, vr b3, vi 0, vr x1_19, vi 1, un]) rfl (XS.iloadN X45.here hx rfl (hb hby d16_42) rfl (XS.aloadN X45.here hx rfl (hb hby d16_43) rfl rfl (XS.iload X45.here hx rfl (hb hby d16_44) rfl k_)))) ?_
 have f47 : Exa Z T36.heap a cn1 := (((f8.keep K11).keep K18).keep K36)
 have la48 : @LT.lt Nat instLTNat a h0.size := E_a.lt
 have ne49 : @Ne Nat a it_20 := by omega
 have f50 : Fld Z T36.heap a cn1 "counts" "[I" (.ref ct) := ((((Fc.keep K4 nin0).keep K11 nin0).keep K18 nin0).keep K36 (ninS ne49 nin0))
 have la51 : @LT.lt Nat instLTNat ct h0.size := Vc.lt
 have ne52 : @Ne Nat ct it_20 := by omega
 have f53 : Arv Z T36.heap ct kC .int (2 : Int32) [.int 0, .int 3] (.int 0) := ((((Vc.keep K4 nin0).keep K11 nin0).keep K18 nin0).keep K36 (ninS ne52 nin0))
 obtain ⟨cq54, kq54, q54a, q54b, q54c⟩ := isOf hZ e45 f47
 obtain ⟨_, _, ⟨T54, L54, k54, n54⟩, -, X54, ⟨Lc54, hQ54, l54, y54, z54⟩, st54⟩ := X45.virtualBack hx (y := (⟨cn1, "get", "(I)I"⟩ : MethodName)) (z := (⟨cn1, "get", "(I)I"⟩ : MethodName)) hown (mvT hZ (ww hw 256 rfl)) (mvT hZ (ww hw 257 rfl)) (notFace_of_selects (args := #[]) (mvT hZ (ww hw 259 rfl))) (mvT hZ (ww hw 259 rfl)) (mvT hZ (ww hw 258 rfl)) (by decide) (backOf (W := 1) (rmZg l Z a0 hw [] wC cC wD kD mA mL mR GS a ct kC (0 : Int32) (3 : Int32) T36.heap n0 (by omega) oo38 f47 f50 f53) hZ (ww hw 260 rfl) (ww hw 4 rfl) (by decide) (by decide)) q54a q54c (g := (mkF m 46 #[vr a, vr b3, vi 0, vr x1_19, vi 1, un] [.int 1, .ref a, .int 0])) rfl (by rw [hml]; rfl) (Steps.refl _) (argsL := [.int 1]) (rest := [.int 0]) (lenOf own_pd_19 rfl) rfl (by show 2 * 0 + _ ≤ _; exact Nat.le_of_eq rfl) (hb hby d16_46) (fun _ _ => ⟨rfl, e45, (by decide : 4 + 0 ≤ _), (by decide : 11 + 0 ≤ _)⟩)
 dsimp only [Pt.U, Pt.locs, Pt.cells, Pt.slots] at X54 l54 y54 z54 st54 hQ54
 subst l54 y54 z54
 obtain ⟨rfl, N54q, e54⟩ := hQ54
 have N55 := Fr.app N46 N54q
 refine own_b T54 m 49 #[vr a, vr b3, vi 0, vr x1_19, vi 1, un] [.int 3, .int 0] (fun _ k_ => st54.trans k_) ?_
 refine own_b T54 m 50 #[vr a, vr b3, vi 0, vr x1_19, vi 1, un] [(.int ((0 : Int32) + (3 : Int32)))] (fun _ k_ => XS.iadd X54.here hx rfl (hb hby d16_49) rfl k_) ?_
 rw [show ((0 : Int32) + (3 : Int32)) = (3 : Int32) from by decide]
 refine own_b T54 m 58 #[vr a, vr b3, vi 0, vr x1_19, vi 1, vi 3] [.int 1, .int 3, .int 0, .ref b3] (fun _ k_ => XS.istore X54.here hx rfl (hb hby d16_50) rfl (l' := #[vr a, vr b3, vi 0, vr x1_19, vi 1, vi 3]) rfl (XS.aloadN X54.here hx rfl (hb hby d16_52) rfl rfl (XS.iloadN X54.here hx rfl (hb hby d16_53) rfl (XS.iload X54.here hx rfl (hb hby d16_54) rfl (XS.iload X54.here hx rfl (hb hby d16_56) rfl k_))))) ?_
 have ne56 : @Ne Nat b3 it_20 := by omega
 have f57 : Arv Z T36.heap b3 k3 .int (3 : Int32) [.int 0, .int 0, .int 0] (.int 0) := (((f7.keep K11 nin0).keep K18 nin0).keep K36 (ninS ne56 nin0))
 obtain ⟨_, _, ⟨T58, L58, k58, n58⟩, -, X58, ⟨Lc58, hQ58, l58, y58, z58⟩, st58⟩ := Jvm.LawKit.callS X54 hx (y := (⟨"java/util/Arrays", "fill", "([IIII)V"⟩ : MethodName)) hown (mvT hZ (ww hw 261 rfl)) (mvT hZ (ww hw 262 rfl)) (mvT hZ (ww hw 263 rfl)) (mvT hZ (ww hw 264 rfl)) (by decide) (backOf (W := 0) (rmFill_3 l Z a0 hw [] wC cC wD kD mA mL mR GS b3 k3 T36.heap n0 (by omega) oo38 (by omega) f57) hZ (ww hw 264 rfl) (ww hw 263 rfl) (by decide) (by decide)) (g := (mkF m 58 #[vr a, vr b3, vi 0, vr x1_19, vi 1, vi 3] [.int 1, .int 3, .int 0, .ref b3])) rfl (by rw [hml]; rfl) (argsL := [.ref b3, .int 0, .int 3, .int 1]) (rest := []) (lenOf own_pd_20 rfl) rfl (by show 2 * 0 + _ ≤ _; exact Nat.le_of_eq rfl) (hb hby d16_58) (fun _ _ => ⟨rfl, e54, (by decide : 4 + 0 ≤ _), (by decide : 11 + 0 ≤ _)⟩)
 dsimp only [Pt.U, Pt.locs, Pt.cells, Pt.slots] at X58 l58 y58 z58 st58 hQ58
 subst l58 y58 z58
 obtain ⟨rfl, N58q, K58, p58_0⟩ := hQ58
 have N59 := Fr.app N55 N58q
 have zzK58 : T36.heap.size ≤ T58.heap.size := K58.1
 have oo60 : Old Z n0 T58.heap := oo38.keep K58 (allS (by omega : n0 ≤ b3) all0)
 have kt61 : Keep h0 T58.heap [] := kt39.trans K58 (allS (Or.inr (by omega : h0.size ≤ b3)) all0)
 refine own_b T58 m 61 #[vr a, vr b3, vi 0, vr x1_19, vi 1, vi 3] [] st58 ?_
 refine own_b T58 m 20 #[vr a, vr b3, vi 3, vr x1_19, vi 1, vi 3] [.ref x1_19] (fun _ k_ => XS.iload X58.here hx rfl (hb hby d16_61) rfl (XS.istoreN X58.here hx rfl (hb hby d16_63) rfl (l' := #[vr a, vr b3, vi 3, vr x1_19, vi 1, vi 3]) rfl (XS.goto X58.here hx rfl (pc0 := 64) (pc' := 19) rfl (hb hby d16_64) (by decide) (by decide) (XS.aloadN X58.here hx rfl (hb hby d16_19) rfl rfl k_)))) ?_
 have f62 : Exa Z T58.heap x1_19 cn3 := ((p18_1.keep K36).keep K58)
 have la63 : @LT.lt Nat instLTNat x1_19 T18.heap.size := p18_1.lt
 have ne64 : @Ne Nat x1_19 it_20 := by omega
 have ne65 : @Ne Nat x1_19 b3 := by omega
 have f66 : Fld Z T58.heap x1_19 cn3 "i" "Ljava/util/Iterator;" (.ref it_20) := ((p18_2.keep K36 (ninS ne64 nin0)).keep K58 (ninS ne65 nin0))
 have f67 : Exa Z T58.heap it_20 cn5 := ((p18_5.keep K36).keep K58)
 have ne68 : @Ne Nat it_20 b3 := by omega
 have f69 : Fld Z T58.heap it_20 cn5 "this$0" "Ljava/util/ArrayList;" (.ref al) := (p36_0.keep K58 (ninS ne68 nin0))
 have f70 : Fld Z T58.heap it_20 cn5 "cursor" "I" (.int 1) := (p36_3.keep K58 (ninS ne68 nin0))
 have ne71 : @Ne Nat al b3 := by omega
 have f72 : Fld Z T58.heap al cn2 "size" "I" (.int 1) := ((f24.keep K36 (ninS ne33 nin0)).keep K58 (ninS ne71 nin0))
 obtain ⟨cq73, kq73, q73a, q73b, q73c⟩ := isOf hZ rfl f62
 obtain ⟨_, _, ⟨T73, L73, k73, n73⟩, -, X73, ⟨Lc73, hQ73, l73, y73, z73⟩, st73⟩ := X58.interfaceBack hx (xi := (⟨"java/util/Iterator", "hasNext", "()Z"⟩ : MethodName)) (y := (⟨cn3, "hasNext", "()Z"⟩ : MethodName)) hown (mvT hZ (ww hw 208 rfl)) (mvT hZ (ww hw 209 rfl)) (mvT hZ (ww hw 210 rfl)) (mvT hZ (ww hw 211 rfl)) (mvT hZ (ww hw 212 rfl)) (mvT hZ (ww hw 213 rfl)) (mvT hZ (ww hw 214 rfl)) (mvT hZ (ww hw 215 rfl)) (by decide) (backOf (W := 0) (rmUHn1 l Z a0 hw [] wC cC wD kD mA mL mR GS x1_19 it_20 al T58.heap n0 (by omega) oo60 f62 f66 f67 f69 f70 f72) hZ (ww hw 216 rfl) (ww hw 173 rfl) (by decide) (by decide)) q73a q73b q73c (g := (mkF m 20 #[vr a, vr b3, vi 3, vr x1_19, vi 1, vi 3] [.ref x1_19])) rfl (by rw [hml]; rfl) (Steps.refl _) (argsL := []) (rest := []) (lenOf own_pd_15 rfl) rfl (by show 2 * 0 + _ ≤ _; exact Nat.le_of_eq rfl) (hb hby d16_20) (fun _ _ => ⟨rfl, rfl, (by decide : 4 + 0 ≤ _), (by decide : 11 + 0 ≤ _)⟩)
 dsimp only [Pt.U, Pt.locs, Pt.cells, Pt.slots] at X73 l73 y73 z73 st73 hQ73
 subst l73 y73 z73
 obtain ⟨rfl, N73q, e73⟩ := hQ73
 have N74 := Fr.app N59 N73q
 refine own_b T73 m 25 #[vr a, vr b3, vi 3, vr x1_19, vi 1, vi 3] [.int 0] (fun _ k_ => st73.trans k_) ?_
 refine own_b T73 m 68 #[vr a, vr b3, vi 3, vr x1_19, vi 1, vi 3] [.ref b3] (fun _ k_ => XS.ifYes X73.here hx rfl (pc0 := 25) (pc' := 67) rfl (hb hby d16_25) rfl (XT.i0_eq_t (by decide)) (by decide) (by decide) (XS.aloadN X73.here hx rfl (hb hby d16_67) rfl rfl k_)) ?_
 obtain ⟨fs75, hr75, hrun75, hended75, hW75, hsame75⟩ := X73.leave (v := some (.ref b3)) (fun h => by rw [Bd.returns] at h; cases h)
 refine ⟨_, _, retOut X73 hx (t := (.array .int)) Bd.returns rfl (Or.inr (Or.inr (Or.inr (Or.inr ⟨rfl, rfl, rfl⟩)))) (hb hby d16_68) hr75, hrun75, hended75, _, _, rfl, ?_, ⟨_, rfl⟩, hW75, hsame75.mono (by decide) (by decide)⟩
 show Q_rmHz_3 Z wC cC wD kD mA mL mR a al ct kC t kE b h0 n0 _ T73.heap _
 rw [e73]
 exact ⟨b3, rfl, N74, kt61, (by omega)⟩
theorem own_ef_rmRc_4 (m : MethodId) (x0 : Int32) (x1 : Int32) (x2 : Int32) : entryFrame m #[.int x0, .int x1, .int x2] 3 = mkF m 0 #[.val (.int x0), .val (.int x1), .val (.int x2)] [] := by first | (simp [entryFrame, mkF, argsToLocals, Value.category]; done) | rfl
def Q_rmRc_4 (Z : State) (wC : Addr) (cC : Cell) (wD : Addr) (kD : ClassId) (mA : Addr) (mL : Addr) (mR : Addr) (h0 : Heap) (n0 : Nat) (vv_ : Option Value) (hh_ : Heap) (LL_ : List Loc) : Prop := vv_ = none ∧ Fr n0 LL_ ∧ hh_ = h0
theorem rmRc_4 (l : Launch) (Z : State) (a0 : Array Value) (hw : ∀ d ∈ tables_1, d.before a0 Z = true) (ws : List Jvm.Cond) (wC : Addr) (cC : Cell) (wD : Addr) (kD : ClassId) (mA : Addr) (mL : Addr) (mR : Addr) (GS : Glob Z wC cC wD kD mA mL mR)  (h0 : Heap) (n0 : Nat) (Z0 : n0 ≤ h0.size) (O0 : Old Z n0 h0) :
  MetFree l (⟨"java/util/Arrays", "rangeCheck", "(III)V"⟩ : MethodName) (head1 (Jvm.Cond.code (⟨"java/util/Arrays", "rangeCheck", "(III)V"⟩ : MethodName) jdk_65_method_30_code 3 none :: ws) (⟨0, 0, 0, 0⟩ : Room)) (fun aa_ UU_ => aa_ = #[.int 4, .int 0, .int 4] ∧ Z.Warmed39 UU_.vm ∧ UU_.heap = h0) (fun _ _ _ _ _ => True) (fun _ UU_ oo_ UV_ => ∃ vv_ LL_, oo_ = .returned vv_ ∧ Q_rmRc_4 Z wC cC wD kD mA mL mR h0 n0 vv_ UV_.heap LL_ ∧ FrameEnd UU_ oo_ UV_ LL_ (⟨0, 0, 0, 0⟩ : Room).cells (⟨0, 0, 0, 0⟩ : Room).slots) := by
 refine MetFree.of_bodySF (plainFor_of_name own_p13) hisR ?_
 intro p e s m args below meth c s₁ Bd hml0 hP hK
 obtain ⟨rfl, hZ, hh⟩ := hP
 have hx := Bd.exec
 have hby := Bd.bytes
 have hml : c.maxLocals = 3 := hml0
 have hown : s.vm.findClass "java/util/Arrays" = some m.cls := findClass_of_methodNamed Bd.named
 have hnm := (name_of_methodNamed Bd.named Bd.method).1
 have X0 : Stand p l e (⟨0, 0, 0, 0⟩ : Room) s m #[.int 4, .int 0, .int 4] below meth c s₁ [] 0 0 := Stand.of_body Bd
 have e0 : s₁.heap = h0 := by rw [← hh, Bd.state]; rfl
 have N0 := Fr.nil n0
 have hn0 : Z.heap.size = n0 := O0.1
 have KT0 : Keep h0 h0 [] := Keep.refl _ _
 refine own_enter (Φ := fun oo_ UV_ => ∃ vv_ LL_, oo_ = .returned vv_ ∧ Q_rmRc_4 Z wC cC wD kD mA mL mR h0 n0 vv_ UV_.heap LL_ ∧ FrameEnd s oo_ UV_ LL_ (⟨0, 0, 0, 0⟩ : Room).cells (⟨0, 0, 0, 0⟩ : Room).slots) (own_ef_rmRc_4 m (4 : Int32) (0 : Int32) (4 : Int32)) ?_
 refine own_b s₁ m 73 #[vi 4, vi 0, vi 4] [] (fun _ k_ => XS.iloadN X0.here hx rfl (hb hby d35_0) rfl (XS.iloadN X0.here hx rfl (hb hby d35_1) rfl (XS.icmpYes X0.here hx rfl (pc0 := 2) (pc' := 46) rfl (hb hby d35_2) rfl (XT.ii_le_t (by decide)) (by decide) (by decide) (XS.iloadN X0.here hx rfl (hb hby d35_46) rfl (XS.ifYes X0.here hx rfl (pc0 := 47) (pc' := 59) rfl (hb hby d35_47) rfl (XT.i0_ge_t (by decide)) (by decide) (by decide) (XS.iloadN X0.here hx rfl (hb hby d35_59) rfl (XS.iloadN X0.here hx rfl (hb hby d35_60) rfl (XS.icmpYes X0.here hx rfl (pc0 := 61) (pc' := 73) rfl (hb hby d35_61) rfl (XT.ii_le_t (by decide)) (by decide) (by decide) k_)))))))) ?_
 obtain ⟨fs1, hr1, hrun1, hended1, hW1, hsame1⟩ := X0.leave (v := none) (fun _ => rfl)
 refine ⟨_, _, X0.returnOut hx Bd.returns (hb hby d35_73) hr1, hrun1, hended1, _, _, rfl, ?_, ⟨_, rfl⟩, hW1, hsame1.mono (by decide) (by decide)⟩
 show Q_rmRc_4 Z wC cC wD kD mA mL mR h0 n0 _ s₁.heap _
 exact ⟨rfl, N0, e0⟩
theorem own_ef_rmFill_4 (m : MethodId) (x0 : Addr) (x1 : Int32) (x2 : Int32) (x3 : Int32) : entryFrame m #[.ref x0, .int x1, .int x2, .int x3] 5 = mkF m 0 #[.val (.ref x0), .val (.int x1), .val (.int x2), .val (.int x3), .unset] [] := by first | (simp [entryFrame, mkF, argsToLocals, Value.category]; done) | rfl
def Q_rmFill_4 (Z : State) (wC : Addr) (cC : Cell) (wD : Addr) (kD : ClassId) (mA : Addr) (mL : Addr) (mR : Addr) (h : Addr) (kH : ClassId) (h0 : Heap) (n0 : Nat) (vv_ : Option Value) (hh_ : Heap) (LL_ : List Loc) : Prop := vv_ = none ∧ Fr n0 LL_ ∧ Keep h0 hh_ [h] ∧ Arv Z hh_ h kH .int (4 : Int32) [.int 1, .int 1, .int 1, .int 1] (.int 0)
theorem rmFill_4 (l : Launch) (Z : State) (a0 : Array Value) (hw : ∀ d ∈ tables_1, d.before a0 Z = true) (ws : List Jvm.Cond) (wC : Addr) (cC : Cell) (wD : Addr) (kD : ClassId) (mA : Addr) (mL : Addr) (mR : Addr) (GS : Glob Z wC cC wD kD mA mL mR) (h : Addr) (kH : ClassId) (h0 : Heap) (n0 : Nat) (Z0 : n0 ≤ h0.size) (O0 : Old Z n0 h0) (g_h : n0 ≤ h) (Vh : Arv Z h0 h kH .int (4 : Int32) [.int 0, .int 0, .int 0, .int 0] (.int 0)) :
  MetFree l (⟨"java/util/Arrays", "fill", "([IIII)V"⟩ : MethodName) (head1 (Jvm.Cond.code (⟨"java/util/Arrays", "fill", "([IIII)V"⟩ : MethodName) jdk_65_method_104_code 5 none :: ws) (⟨1, 0, 0, 14⟩ : Room)) (fun aa_ UU_ => aa_ = #[.ref h, .int 0, .int 4, .int 1] ∧ Z.Warmed39 UU_.vm ∧ UU_.heap = h0) (fun _ _ _ _ _ => True) (fun _ UU_ oo_ UV_ => ∃ vv_ LL_, oo_ = .returned vv_ ∧ Q_rmFill_4 Z wC cC wD kD mA mL mR h kH h0 n0 vv_ UV_.heap LL_ ∧ FrameEnd UU_ oo_ UV_ LL_ (⟨1, 0, 0, 14⟩ : Room).cells (⟨1, 0, 0, 14⟩ : Room).slots) := by
 refine MetFree.of_bodySF (plainFor_of_name own_p13) hisR ?_
 intro p e s m args below meth c s₁ Bd hml0 hP hK
 obtain ⟨rfl, hZ, hh⟩ := hP
 have hx := Bd.exec
 have hby := Bd.bytes
 have hml : c.maxLocals = 5 := hml0
 have hown : s.vm.findClass "java/util/Arrays" = some m.cls := findClass_of_methodNamed Bd.named
 have hnm := (name_of_methodNamed Bd.named Bd.method).1
 have X0 : Stand p l e (⟨1, 0, 0, 14⟩ : Room) s m #[.ref h, .int 0, .int 4, .int 1] below meth c s₁ [] 0 0 := Stand.of_body Bd
 have e0 : s₁.heap = h0 := by rw [← hh, Bd.state]; rfl
 have N0 := Fr.nil n0
 have hn0 : Z.heap.size = n0 := O0.1
 have KT0 : Keep h0 h0 [h] := Keep.refl _ _
 refine own_enter (Φ := fun oo_ UV_ => ∃ vv_ LL_, oo_ = .returned vv_ ∧ Q_rmFill_4 Z wC cC wD kD mA mL mR h kH h0 n0 vv_ UV_.heap LL_ ∧ FrameEnd s oo_ UV_ LL_ (⟨1, 0, 0, 14⟩ : Room).cells (⟨1, 0, 0, 14⟩ : Room).slots) (own_ef_rmFill_4 m h (0 : Int32) (4 : Int32) (1 : Int32)) ?_
 refine own_b s₁ m 1 #[vr h, vi 0, vi 4, vi 1, un] [.ref h] (fun _ k_ => XS.aloadN X0.here hx rfl (hb hby d34_0) rfl rfl k_) ?_
 obtain ⟨cl1, Ar1, q1, S1, M1, H1, G1⟩ := id Vh
 refine own_b s₁ m 2 #[vr h, vi 0, vi 4, vi 1, un] [.int 4] (fun _ k_ => X0.arraylength hx (by rw [e0]; exact Ar1.1) (State.isArrayOf_alike hZ.alike Ar1.2.1) (g := (mkF m 1 #[vr h, vi 0, vi 4, vi 1, un] [.ref h])) rfl rfl (hb hby d34_1) _ (by rw [len_of S1 M1]; exact k_)) ?_
 refine own_b s₁ m 4 #[vr h, vi 0, vi 4, vi 1, un] [.int 4, .int 0, .int 4] (fun _ k_ => XS.iloadN X0.here hx rfl (hb hby d34_2) rfl (XS.iloadN X0.here hx rfl (hb hby d34_3) rfl k_)) ?_
 obtain ⟨_, _, ⟨T2, L2, k2, n2⟩, -, X2, ⟨Lc2, hQ2, l2, y2, z2⟩, st2⟩ := Jvm.LawKit.callS X0 hx (y := (⟨"java/util/Arrays", "rangeCheck", "(III)V"⟩ : MethodName)) hown (mvT hZ (ww hw 265 rfl)) (mvT hZ (ww hw 266 rfl)) (mvT hZ (ww hw 263 rfl)) (mvT hZ (ww hw 267 rfl)) (by decide) (backOf (W := 0) (rmRc_4 l Z a0 hw [] wC cC wD kD mA mL mR GS  h0 n0 (by omega) O0 ) hZ (ww hw 267 rfl) (ww hw 263 rfl) (by decide) (by decide)) (g := (mkF m 4 #[vr h, vi 0, vi 4, vi 1, un] [.int 4, .int 0, .int 4])) rfl (by rw [hml]; rfl) (argsL := [.int 4, .int 0, .int 4]) (rest := []) (lenOf own_pd_17 rfl) rfl (by show 2 * 0 + _ ≤ _; exact Nat.le_of_eq rfl) (hb hby d34_4) (fun _ _ => ⟨rfl, e0, (by decide : 0 + 0 ≤ _), (by decide : 0 + 0 ≤ _)⟩)
 dsimp only [Pt.U, Pt.locs, Pt.cells, Pt.slots] at X2 l2 y2 z2 st2 hQ2
 subst l2 y2 z2
 obtain ⟨rfl, N2q, e2⟩ := hQ2
 have N3 := Fr.app N0 N2q
 refine own_b T2 m 7 #[vr h, vi 0, vi 4, vi 1, un] [] st2 ?_
 refine own_b T2 m 20 #[vr h, vi 0, vi 4, vi 1, vi 0] [.int 1, .int 0, .ref h] (fun _ k_ => XS.iloadN X2.here hx rfl (hb hby d34_7) rfl (XS.istore X2.here hx rfl (hb hby d34_8) rfl (l' := #[vr h, vi 0, vi 4, vi 1, vi 0]) rfl (XS.iload X2.here hx rfl (hb hby d34_10) rfl (XS.iloadN X2.here hx rfl (hb hby d34_12) rfl (XS.icmpNo X2.here hx rfl (hb hby d34_13) rfl (XT.ii_ge_f (by decide)) (XS.aloadN X2.here hx rfl (hb hby d34_16) rfl rfl (XS.iload X2.here hx rfl (hb hby d34_17) rfl (XS.iloadN X2.here hx rfl (hb hby d34_19) rfl k_)))))))) ?_
 obtain ⟨cl4, Ar4, q4, S4, M4, H4, G4⟩ := id Vh
 have hin4 : ¬ ((0 : Int32) < 0 ∨ cl4.slots.size ≤ ((0 : Int32)).toNatClampNeg) := inb_of S4 ⟨by decide, by decide⟩
 obtain ⟨T4, h4, X4, e4, W4, st4⟩ := stI X2 hx hZ e2 Ar4 (j := (0 : Int32)) hin4 (g := (mkF m 20 #[vr h, vi 0, vi 4, vi 1, vi 0] [.int 1, .int 0, .ref h])) rfl rfl (hb hby d34_20)
 have K5 : Keep h0 h4 [h] := Keep.of_wr W4
 have zzK5 : h0.size ≤ h4.size := K5.1
 have oo6 : Old Z n0 h4 := O0.keep K5 (allS (by omega : n0 ≤ h) all0)
 have kt7 : Keep h0 h4 [h] := KT0.trans K5 (allS (Or.inl (List.mem_of_getElem? (i := 0) rfl)) all0)
 have f8 : Arv Z h4 h kH .int (4 : Int32) [.int 1, .int 0, .int 0, .int 0] (.int 0) := Arv.set Ar4 q4 S4 M4 H4 G4 rfl W4 0 rfl (Nat.le_of_ble_eq_true rfl)
 have N9 := Fr.snoc X4 N3 (by omega : n0 ≤ h)
 refine own_b T4 m 21 #[vr h, vi 0, vi 4, vi 1, vi 0] [] st4 ?_
 refine own_b T4 m 24 #[vr h, vi 0, vi 4, vi 1, .val (.int ((0 : Int32) + (1 : Int32)))] [] (fun _ k_ => XS.iinc X4.here hx rfl (hb hby d34_21) rfl rfl k_) ?_
 rw [show ((0 : Int32) + (1 : Int32)) = (1 : Int32) from by decide]
 refine own_b T4 m 20 #[vr h, vi 0, vi 4, vi 1, vi 1] [.int 1, .int 1, .ref h] (fun _ k_ => XS.goto X4.here hx rfl (pc0 := 24) (pc' := 10) rfl (hb hby d34_24) (by decide) (by decide) (XS.iload X4.here hx rfl (hb hby d34_10) rfl (XS.iloadN X4.here hx rfl (hb hby d34_12) rfl (XS.icmpNo X4.here hx rfl (hb hby d34_13) rfl (XT.ii_ge_f (by decide)) (XS.aloadN X4.here hx rfl (hb hby d34_16) rfl rfl (XS.iload X4.here hx rfl (hb hby d34_17) rfl (XS.iloadN X4.here hx rfl (hb hby d34_19) rfl k_))))))) ?_
 obtain ⟨cl10, Ar10, q10, S10, M10, H10, G10⟩ := id f8
 have hin10 : ¬ ((1 : Int32) < 0 ∨ cl10.slots.size ≤ ((1 : Int32)).toNatClampNeg) := inb_of S10 ⟨by decide, by decide⟩
 obtain ⟨T10, h10, X10, e10, W10, st10⟩ := stI X4 hx hZ e4 Ar10 (j := (1 : Int32)) hin10 (g := (mkF m 20 #[vr h, vi 0, vi 4, vi 1, vi 1] [.int 1, .int 1, .ref h])) rfl rfl (hb hby d34_20)
 have K11 : Keep h4 h10 [h] := Keep.of_wr W10
 have zzK11 : h4.size ≤ h10.size := K11.1
 have oo12 : Old Z n0 h10 := oo6.keep K11 (allS (by omega : n0 ≤ h) all0)
 have kt13 : Keep h0 h10 [h] := kt7.trans K11 (allS (Or.inl (List.mem_of_getElem? (i := 0) rfl)) all0)
 have f14 : Arv Z h10 h kH .int (4 : Int32) [.int 1, .int 1, .int 0, .int 0] (.int 0) := Arv.set Ar10 q10 S10 M10 H10 G10 rfl W10 1 rfl (Nat.le_of_ble_eq_true rfl)
 have N15 := Fr.snoc X10 N9 (by omega : n0 ≤ h)
 refine own_b T10 m 21 #[vr h, vi 0, vi 4, vi 1, vi 1] [] st10 ?_
 refine own_b T10 m 24 #[vr h, vi 0, vi 4, vi 1, .val (.int ((1 : Int32) + (1 : Int32)))] [] (fun _ k_ => XS.iinc X10.here hx rfl (hb hby d34_21) rfl rfl k_) ?_
 rw [show ((1 : Int32) + (1 : Int32)) = (2 : Int32) from by decide]
 refine own_b T10 m 20 #[vr h, vi 0, vi 4, vi 1, vi 2] [.int 1, .int 2, .ref h] (fun _ k_ => XS.goto X10.here hx rfl (pc0 := 24) (pc' := 10) rfl (hb hby d34_24) (by decide) (by decide) (XS.iload X10.here hx rfl (hb hby d34_10) rfl (XS.iloadN X10.here hx rfl (hb hby d34_12) rfl (XS.icmpNo X10.here hx rfl (hb hby d34_13) rfl (XT.ii_ge_f (by decide)) (XS.aloadN X10.here hx rfl (hb hby d34_16) rfl rfl (XS.iload X10.here hx rfl (hb hby d34_17) rfl (XS.iloadN X10.here hx rfl (hb hby d34_19) rfl k_))))))) ?_
 obtain ⟨cl16, Ar16, q16, S16, M16, H16, G16⟩ := id f14
 have hin16 : ¬ ((2 : Int32) < 0 ∨ cl16.slots.size ≤ ((2 : Int32)).toNatClampNeg) := inb_of S16 ⟨by decide, by decide⟩
 obtain ⟨T16, h16, X16, e16, W16, st16⟩ := stI X10 hx hZ e10 Ar16 (j := (2 : Int32)) hin16 (g := (mkF m 20 #[vr h, vi 0, vi 4, vi 1, vi 2] [.int 1, .int 2, .ref h])) rfl rfl (hb hby d34_20)
 have K17 : Keep h10 h16 [h] := Keep.of_wr W16
 have zzK17 : h10.size ≤ h16.size := K17.1
 have oo18 : Old Z n0 h16 := oo12.keep K17 (allS (by omega : n0 ≤ h) all0)
 have kt19 : Keep h0 h16 [h] := kt13.trans K17 (allS (Or.inl (List.mem_of_getElem? (i := 0) rfl)) all0)
 have f20 : Arv Z h16 h kH .int (4 : Int32) [.int 1, .int 1, .int 1, .int 0] (.int 0) := Arv.set Ar16 q16 S16 M16 H16 G16 rfl W16 2 rfl (Nat.le_of_ble_eq_true rfl)
 have N21 := Fr.snoc X16 N15 (by omega : n0 ≤ h)
 refine own_b T16 m 21 #[vr h, vi 0, vi 4, vi 1, vi 2] [] st16 ?_
 refine own_b T16 m 24 #[vr h, vi 0, vi 4, vi 1, .val (.int ((2 : Int32) + (1 : Int32)))] [] (fun _ k_ => XS.iinc X16.here hx rfl (hb hby d34_21) rfl rfl k_) ?_
 rw [show ((2 : Int32) + (1 : Int32)) = (3 : Int32) from by decide]
 refine own_b T16 m 20 #[vr h, vi 0, vi 4, vi 1, vi 3] [.int 1, .int 3, .ref h] (fun _ k_ => XS.goto X16.here hx rfl (pc0 := 24) (pc' := 10) rfl (hb hby d34_24) (by decide) (by decide) (XS.iload X16.here hx rfl (hb hby d34_10) rfl (XS.iloadN X16.here hx rfl (hb hby d34_12) rfl (XS.icmpNo X16.here hx rfl (hb hby d34_13) rfl (XT.ii_ge_f (by decide)) (XS.aloadN X16.here hx rfl (hb hby d34_16) rfl rfl (XS.iload X16.here hx rfl (hb hby d34_17) rfl (XS.iloadN X16.here hx rfl (hb hby d34_19) rfl k_))))))) ?_
 obtain ⟨cl22, Ar22, q22, S22, M22, H22, G22⟩ := id f20
 have hin22 : ¬ ((3 : Int32) < 0 ∨ cl22.slots.size ≤ ((3 : Int32)).toNatClampNeg) := inb_of S22 ⟨by decide, by decide⟩
 obtain ⟨T22, h22, X22, e22, W22, st22⟩ := stI X16 hx hZ e16 Ar22 (j := (3 : Int32)) hin22 (g := (mkF m 20 #[vr h, vi 0, vi 4, vi 1, vi 3] [.int 1, .int 3, .ref h])) rfl rfl (hb hby d34_20)
 have K23 : Keep h16 h22 [h] := Keep.of_wr W22
 have zzK23 : h16.size ≤ h22.size := K23.1
 have oo24 : Old Z n0 h22 := oo18.keep K23 (allS (by omega : n0 ≤ h) all0)
 have kt25 : Keep h0 h22 [h] := kt19.trans K23 (allS (Or.inl (List.mem_of_getElem? (i := 0) rfl)) all0)
 have f26 : Arv Z h22 h kH .int (4 : Int32) [.int 1, .int 1, .int 1, .int 1] (.int 0) := Arv.set Ar22 q22 S22 M22 H22 G22 rfl W22 3 rfl (Nat.le_of_ble_eq_true rfl)
 have N27 := Fr.snoc X22 N21 (by omega : n0 ≤ h)
 refine own_b T22 m 21 #[vr h, vi 0, vi 4, vi 1, vi 3] [] st22 ?_
 refine own_b T22 m 24 #[vr h, vi 0, vi 4, vi 1, .val (.int ((3 : Int32) + (1 : Int32)))] [] (fun _ k_ => XS.iinc X22.here hx rfl (hb hby d34_21) rfl rfl k_) ?_
 rw [show ((3 : Int32) + (1 : Int32)) = (4 : Int32) from by decide]
 refine own_b T22 m 27 #[vr h, vi 0, vi 4, vi 1, vi 4] [] (fun _ k_ => XS.goto X22.here hx rfl (pc0 := 24) (pc' := 10) rfl (hb hby d34_24) (by decide) (by decide) (XS.iload X22.here hx rfl (hb hby d34_10) rfl (XS.iloadN X22.here hx rfl (hb hby d34_12) rfl (XS.icmpYes X22.here hx rfl (pc0 := 13) (pc' := 27) rfl (hb hby d34_13) rfl (XT.ii_ge_t (by decide)) (by decide) (by decide) k_)))) ?_
 obtain ⟨fs28, hr28, hrun28, hended28, hW28, hsame28⟩ := X22.leave (v := none) (fun _ => rfl)
 refine ⟨_, _, X22.returnOut hx Bd.returns (hb hby d34_27) hr28, hrun28, hended28, _, _, rfl, ?_, ⟨_, rfl⟩, hW28, hsame28.mono (by decide) (by decide)⟩
 show Q_rmFill_4 Z wC cC wD kD mA mL mR h kH h0 n0 _ T22.heap _
 rw [e22]
 exact ⟨rfl, N27, kt25, f26⟩
theorem own_ef_rmHz_4 (m : MethodId) (x0 : Addr) : entryFrame m #[.ref x0] 6 = mkF m 0 #[.val (.ref x0), .unset, .unset, .unset, .unset, .unset] [] := by first | (simp [entryFrame, mkF, argsToLocals, Value.category]; done) | rfl
def Q_rmHz_4 (Z : State) (wC : Addr) (cC : Cell) (wD : Addr) (kD : ClassId) (mA : Addr) (mL : Addr) (mR : Addr) (a : Addr) (al : Addr) (ct : Addr) (kC : ClassId) (t : Addr) (kE : ClassId) (b : Addr) (h0 : Heap) (n0 : Nat) (vv_ : Option Value) (hh_ : Heap) (LL_ : List Loc) : Prop := ∃ h : Addr, vv_ = some (.ref h) ∧ Fr n0 LL_ ∧ Keep h0 hh_ [] ∧ h0.size ≤ h
theorem rmHz_4 (l : Launch) (Z : State) (a0 : Array Value) (hw : ∀ d ∈ tables_1, d.before a0 Z = true) (ws : List Jvm.Cond) (wC : Addr) (cC : Cell) (wD : Addr) (kD : ClassId) (mA : Addr) (mL : Addr) (mR : Addr) (GS : Glob Z wC cC wD kD mA mL mR) (a : Addr) (al : Addr) (ct : Addr) (kC : ClassId) (t : Addr) (kE : ClassId) (b : Addr) (h0 : Heap) (n0 : Nat) (Z0 : n0 ≤ h0.size) (O0 : Old Z n0 h0) (E_a : Exa Z h0 a cn1) (Ft : Fld Z h0 a cn1 "total" "I" (.int 4)) (Fz : Fld Z h0 a cn1 "zones" "Ljava/util/List;" (.ref al)) (Fc : Fld Z h0 a cn1 "counts" "[I" (.ref ct)) (Vc : Arv Z h0 ct kC .int (2 : Int32) [.int 0, .int 4] (.int 0)) (E_l : Exa Z h0 al cn2) (Fm : Fld Z h0 al "java/util/AbstractList" "modCount" "I" (.int 1)) (Fs : Fld Z h0 al cn2 "size" "I" (.int 1)) (Fe : Fld Z h0 al cn2 "elementData" "[Ljava/lang/Object;" (.ref t)) (Vt : Arv Z h0 t kE (.object "java/lang/Object") (10 : Int32) [.ref b, .null, .null, .null, .null, .null, .null, .null, .null, .null] .null) (E_b : Exa Z h0 b "java/lang/Integer") (F_b : Fld Z h0 b "java/lang/Integer" "value" "I" (.int 1)) :
  MetFree l (⟨cn0, "homeZones", "(Lcom/example/even_commute/evencommute/demand/ZoneCounts;)[I"⟩ : MethodName) (head1 (Jvm.Cond.code (⟨cn0, "homeZones", "(Lcom/example/even_commute/evencommute/demand/ZoneCounts;)[I"⟩ : MethodName) prog_29_method_14_code 6 (some (.array .int)) :: ws) (⟨6, 4, 12, 76⟩ : Room)) (fun aa_ UU_ => aa_ = #[.ref a] ∧ Z.Warmed39 UU_.vm ∧ UU_.heap = h0) (fun _ _ _ _ _ => True) (fun _ UU_ oo_ UV_ => ∃ vv_ LL_, oo_ = .returned vv_ ∧ Q_rmHz_4 Z wC cC wD kD mA mL mR a al ct kC t kE b h0 n0 vv_ UV_.heap LL_ ∧ FrameEnd UU_ oo_ UV_ LL_ (⟨6, 4, 12, 76⟩ : Room).cells (⟨6, 4, 12, 76⟩ : Room).slots) := by
 refine MetFree.of_bodySF (plainFor_of_name own_p2) hisR ?_
 intro p e s m args below meth c s₁ Bd hml0 hP hK
 obtain ⟨rfl, hZ, hh⟩ := hP
 have hx := Bd.exec
 have hby := Bd.bytes
 have hml : c.maxLocals = 6 := hml0
 have hown : s.vm.findClass cn0 = some m.cls := findClass_of_methodNamed Bd.named
 have hnm := (name_of_methodNamed Bd.named Bd.method).1
 have X0 : Stand p l e (⟨6, 4, 12, 76⟩ : Room) s m #[.ref a] below meth c s₁ [] 0 0 := Stand.of_body Bd
 have e0 : s₁.heap = h0 := by rw [← hh, Bd.state]; rfl
 have N0 := Fr.nil n0
 have hn0 : Z.heap.size = n0 := O0.1
 have KT0 : Keep h0 h0 [] := Keep.refl _ _
 refine own_enter (Φ := fun oo_ UV_ => ∃ vv_ LL_, oo_ = .returned vv_ ∧ Q_rmHz_4 Z wC cC wD kD mA mL mR a al ct kC t kE b h0 n0 vv_ UV_.heap LL_ ∧ FrameEnd s oo_ UV_ LL_ (⟨6, 4, 12, 76⟩ : Room).cells (⟨6, 4, 12, 76⟩ : Room).slots) (own_ef_rmHz_4 m a) ?_
 refine own_b s₁ m 1 #[vr a, un, un, un, un, un] [.ref a] (fun _ k_ => XS.aloadN X0.here hx rfl (hb hby d16_0) rfl rfl k_) ?_
 obtain ⟨cq1, kq1, q1a, q1b, q1c⟩ := isOf hZ e0 E_a
 obtain ⟨_, _, ⟨T1, L1, k1, n1⟩, -, X1, ⟨Lc1, hQ1, l1, y1, z1⟩, st1⟩ := X0.virtualBack hx (y := (⟨cn1, "getTotal", "()I"⟩ : MethodName)) (z := (⟨cn1, "getTotal", "()I"⟩ : MethodName)) hown (mvT hZ (ww hw 110 rfl)) (mvT hZ (ww hw 111 rfl)) (notFace_of_selects (args := #[]) (mvT hZ (ww hw 113 rfl))) (mvT hZ (ww hw 113 rfl)) (mvT hZ (ww hw 112 rfl)) (by decide) (backOf (W := 0) (rmTot l Z a0 hw [] wC cC wD kD mA mL mR GS a (4 : Int32) h0 n0 (by omega) O0 Ft) hZ (ww hw 114 rfl) (ww hw 4 rfl) (by decide) (by decide)) q1a q1c (g := (mkF m 1 #[vr a, un, un, un, un, un] [.ref a])) rfl (by rw [hml]; rfl) (Steps.refl _) (argsL := []) (rest := []) (lenOf own_pd_5 rfl) rfl (by show 2 * 0 + _ ≤ _; exact Nat.le_of_eq rfl) (hb hby d16_1) (fun _ _ => ⟨rfl, e0, (by decide : 0 + 0 ≤ _), (by decide : 0 + 0 ≤ _)⟩)
 dsimp only [Pt.U, Pt.locs, Pt.cells, Pt.slots] at X1 l1 y1 z1 st1 hQ1
 subst l1 y1 z1
 obtain ⟨rfl, N1q, e1⟩ := hQ1
 have N2 := Fr.app N0 N1q
 refine own_b T1 m 4 #[vr a, un, un, un, un, un] [.int 4] (fun _ k_ => st1.trans k_) ?_
 obtain ⟨T3, h3, k3, X3, e3, E3, A3, st3⟩ := newP X1 hx hZ (ww hw 1 rfl) e1 (g := (mkF m 4 #[vr a, un, un, un, un, un] [.int 4])) rfl (hb hby d16_4) rfl (by decide) (cap := 4) (by decide) (by decide) (by decide) (by decide)
 obtain ⟨b3, g3⟩ : ∃ z, z = h0.size := ⟨_, rfl⟩
 rw [← g3] at A3 st3
 have K4 : Keep h0 h3 [] := own_kext E3
 have zzK4 : h0.size ≤ h3.size := K4.1
 have oo5 : Old Z n0 h3 := O0.keep K4 all0
 have kt6 : Keep h0 h3 [] := KT0.trans K4 all0
 have lab3 : b3 < h3.size := A3.lt
 have f7 : Arv Z h3 b3 k3 .int (4 : Int32) [.int 0, .int 0, .int 0, .int 0] (.int 0) := (Arv.new A3 (by decide)).pad (pad_rep [] (.int 0) 4)
 refine own_b T3 m 6 #[vr a, un, un, un, un, un] [.ref b3] st3 ?_
 refine own_b T3 m 10 #[vr a, vr b3, vi 0, un, un, un] [.ref a] (fun _ k_ => XS.astoreN X3.here hx rfl (hb hby d16_6) rfl rfl (l' := #[vr a, vr b3, un, un, un, un]) rfl (XS.iconst X3.here hx rfl (hb hby d16_7) (XS.istoreN X3.here hx rfl (hb hby d16_8) rfl (l' := #[vr a, vr b3, vi 0, un, un, un]) rfl (XS.aloadN X3.here hx rfl (hb hby d16_9) rfl rfl k_)))) ?_
 have f8 : Exa Z h3 a cn1 := (E_a.keep K4)
 have f9 : Exa Z h3 al cn2 := (E_l.keep K4)
 have f10 : Fld Z h3 a cn1 "zones" "Ljava/util/List;" (.ref al) := (Fz.keep K4 nin0)
 obtain ⟨cq11, kq11, q11a, q11b, q11c⟩ := isOf hZ e3 f8
 obtain ⟨_, _, ⟨T11, L11, k11, n11⟩, -, X11, ⟨Lc11, hQ11, l11, y11, z11⟩, st11⟩ := X3.virtualBack hx (y := (⟨cn1, "getZones", "()Ljava/util/List;"⟩ : MethodName)) (z := (⟨cn1, "getZones", "()Ljava/util/List;"⟩ : MethodName)) hown (mvT hZ (ww hw 115 rfl)) (mvT hZ (ww hw 116 rfl)) (notFace_of_selects (args := #[]) (mvT hZ (ww hw 118 rfl))) (mvT hZ (ww hw 118 rfl)) (mvT hZ (ww hw 117 rfl)) (by decide) (backOf (W := 0) (rmGz l Z a0 hw [] wC cC wD kD mA mL mR GS a al h3 n0 (by omega) oo5 f8 f9 f10) hZ (ww hw 119 rfl) (ww hw 4 rfl) (by decide) (by decide)) q11a q11c (g := (mkF m 10 #[vr a, vr b3, vi 0, un, un, un] [.ref a])) rfl (by rw [hml]; rfl) (Steps.refl _) (argsL := []) (rest := []) (lenOf own_pd_18 rfl) rfl (by show 2 * 0 + _ ≤ _; exact Nat.le_of_eq rfl) (hb hby d16_10) (fun _ _ => ⟨rfl, e3, (by decide : 1 + 1 ≤ _), (by decide : 4 + 2 ≤ _)⟩)
 dsimp only [Pt.U, Pt.locs, Pt.cells, Pt.slots] at X11 l11 y11 z11 st11 hQ11
 subst l11 y11 z11
 obtain ⟨u_12, rfl, N11q, K11, p11_0, p11_1, p11_2, p11_3⟩ := hQ11
 have N13 := Fr.app N2 N11q
 have gu_12 : h3.size ≤ u_12 := p11_0
 have zzK11 : h3.size ≤ T11.heap.size := K11.1
 have oo14 : Old Z n0 T11.heap := oo5.keep K11 all0
 have kt15 : Keep h0 T11.heap [] := kt6.trans K11 all0
 refine own_b T11 m 13 #[vr a, vr b3, vi 0, un, un, un] [.ref u_12] (fun _ k_ => st11.trans k_) ?_
 have f16 : Exa Z T11.heap al cn2 := (f9.keep K11)
 have f17 : Fld Z T11.heap al "java/util/AbstractList" "modCount" "I" (.int 1) := ((Fm.keep K4 nin0).keep K11 nin0)
 obtain ⟨cq18, kq18, q18a, q18b, q18c⟩ := isOf hZ rfl p11_1
 obtain ⟨_, _, ⟨T18, L18, k18, n18⟩, -, X18, ⟨Lc18, hQ18, l18, y18, z18⟩, st18⟩ := X11.interfaceBack hx (xi := (⟨"java/util/List", "iterator", "()Ljava/util/Iterator;"⟩ : MethodName)) (y := (⟨"java/util/Collections$UnmodifiableCollection", "iterator", "()Ljava/util/Iterator;"⟩ : MethodName)) hown (mvT hZ (ww hw 162 rfl)) (mvT hZ (ww hw 163 rfl)) (mvT hZ (ww hw 164 rfl)) (mvT hZ (ww hw 165 rfl)) (mvT hZ (ww hw 166 rfl)) (mvT hZ (ww hw 167 rfl)) (mvT hZ (ww hw 168 rfl)) (mvT hZ (ww hw 169 rfl)) (by decide) (backOf (W := 0) (rmUIt l Z a0 hw [] wC cC wD kD mA mL mR GS u_12 al T11.heap n0 (by omega) oo14 p11_1 f16 p11_2 f17) hZ (ww hw 170 rfl) (ww hw 155 rfl) (by decide) (by decide)) q18a q18b q18c (g := (mkF m 13 #[vr a, vr b3, vi 0, un, un, un] [.ref u_12])) rfl (by rw [hml]; rfl) (Steps.refl _) (argsL := []) (rest := []) (lenOf own_pd_13 rfl) rfl (by show 2 * 0 + _ ≤ _; exact Nat.le_of_eq rfl) (hb hby d16_13) (fun _ _ => ⟨rfl, rfl, (by decide : 2 + 2 ≤ _), (by decide : 6 + 6 ≤ _)⟩)
 dsimp only [Pt.U, Pt.locs, Pt.cells, Pt.slots] at X18 l18 y18 z18 st18 hQ18
 subst l18 y18 z18
 obtain ⟨x1_19, it_20, rfl, N18q, K18, p18_0, p18_1, p18_2, p18_3, p18_4, p18_5, p18_6, p18_7, p18_8, p18_9⟩ := hQ18
 have N21 := Fr.app N13 N18q
 have gx1_19 : T11.heap.size ≤ x1_19 := p18_0
 have git_20 : T11.heap.size ≤ it_20 := p18_4
 have zzK18 : T11.heap.size ≤ T18.heap.size := K18.1
 have oo22 : Old Z n0 T18.heap := oo14.keep K18 all0
 have kt23 : Keep h0 T18.heap [] := kt15.trans K18 all0
 refine own_b T18 m 18 #[vr a, vr b3, vi 0, un, un, un] [.ref x1_19] (fun _ k_ => st18.trans k_) ?_
 refine own_b T18 m 20 #[vr a, vr b3, vi 0, vr x1_19, un, un] [.ref x1_19] (fun _ k_ => XS.astoreN X18.here hx rfl (hb hby d16_18) rfl rfl (l' := #[vr a, vr b3, vi 0, vr x1_19, un, un]) rfl (XS.aloadN X18.here hx rfl (hb hby d16_19) rfl rfl k_)) ?_
 have f24 : Fld Z T18.heap al cn2 "size" "I" (.int 1) := (((Fs.keep K4 nin0).keep K11 nin0).keep K18 nin0)
 obtain ⟨cq25, kq25, q25a, q25b, q25c⟩ := isOf hZ rfl p18_1
 obtain ⟨_, _, ⟨T25, L25, k25, n25⟩, -, X25, ⟨Lc25, hQ25, l25, y25, z25⟩, st25⟩ := X18.interfaceBack hx (xi := (⟨"java/util/Iterator", "hasNext", "()Z"⟩ : MethodName)) (y := (⟨cn3, "hasNext", "()Z"⟩ : MethodName)) hown (mvT hZ (ww hw 208 rfl)) (mvT hZ (ww hw 209 rfl)) (mvT hZ (ww hw 210 rfl)) (mvT hZ (ww hw 211 rfl)) (mvT hZ (ww hw 212 rfl)) (mvT hZ (ww hw 213 rfl)) (mvT hZ (ww hw 214 rfl)) (mvT hZ (ww hw 215 rfl)) (by decide) (backOf (W := 0) (rmUHn0 l Z a0 hw [] wC cC wD kD mA mL mR GS x1_19 it_20 al T18.heap n0 (by omega) oo22 p18_1 p18_2 p18_5 p18_6 p18_9 f24) hZ (ww hw 216 rfl) (ww hw 173 rfl) (by decide) (by decide)) q25a q25b q25c (g := (mkF m 20 #[vr a, vr b3, vi 0, vr x1_19, un, un] [.ref x1_19])) rfl (by rw [hml]; rfl) (Steps.refl _) (argsL := []) (rest := []) (lenOf own_pd_15 rfl) rfl (by show 2 * 0 + _ ≤ _; exact Nat.le_of_eq rfl) (hb hby d16_20) (fun _ _ => ⟨rfl, rfl, (by decide : 4 + 0 ≤ _), (by decide : 12 + 0 ≤ _)⟩)
 dsimp only [Pt.U, Pt.locs, Pt.cells, Pt.slots] at X25 l25 y25 z25 st25 hQ25
 subst l25 y25 z25
 obtain ⟨rfl, N25q, e25⟩ := hQ25
 have N26 := Fr.app N21 N25q
 refine own_b T25 m 25 #[vr a, vr b3, vi 0, vr x1_19, un, un] [.int 1] (fun _ k_ => st25.trans k_) ?_
 refine own_b T25 m 29 #[vr a, vr b3, vi 0, vr x1_19, un, un] [.ref x1_19] (fun _ k_ => XS.ifNo X25.here hx rfl (hb hby d16_25) rfl (XT.i0_eq_f (by decide)) (XS.aloadN X25.here hx rfl (hb hby d16_28) rfl rfl k_)) ?_
 have la27 : @LT.lt Nat instLTNat it_20 T18.heap.size := p18_5.lt
 have f28 : Exa Z T18.heap al cn2 := (f16.keep K18)
 have f29 : Fld Z T18.heap al "java/util/AbstractList" "modCount" "I" (.int 1) := (f17.keep K18 nin0)
 have f30 : Fld Z T18.heap al cn2 "elementData" "[Ljava/lang/Object;" (.ref t) := (((Fe.keep K4 nin0).keep K11 nin0).keep K18 nin0)
 have f31 : Arv Z T18.heap t kE (.object "java/lang/Object") (10 : Int32) [.ref b, .null, .null, .null, .null, .null, .null, .null, .null, .null] .null := (((Vt.keep K4 nin0).keep K11 nin0).keep K18 nin0)
 have la32 : @LT.lt Nat instLTNat al h0.size := E_l.lt
 have ne33 : @Ne Nat al it_20 := by omega
 have la34 : @LT.lt Nat instLTNat t h0.size := Vt.lt
 have ne35 : @Ne Nat t it_20 := by omega
 obtain ⟨cq36, kq36, q36a, q36b, q36c⟩ := isOf hZ e25 p18_1
 obtain ⟨_, _, ⟨T36, L36, k36, n36⟩, -, X36, ⟨Lc36, hQ36, l36, y36, z36⟩, st36⟩ := X25.interfaceBack hx (xi := (⟨"java/util/Iterator", "next", "()Ljava/lang/Object;"⟩ : MethodName)) (y := (⟨cn3, "next", "()Ljava/lang/Object;"⟩ : MethodName)) hown (mvT hZ (ww hw 227 rfl)) (mvT hZ (ww hw 228 rfl)) (mvT hZ (ww hw 229 rfl)) (mvT hZ (ww hw 230 rfl)) (mvT hZ (ww hw 231 rfl)) (mvT hZ (ww hw 232 rfl)) (mvT hZ (ww hw 233 rfl)) (mvT hZ (ww hw 215 rfl)) (by decide) (backOf (W := 0) (rmUNx l Z a0 hw [] wC cC wD kD mA mL mR GS x1_19 it_20 al t kE b T18.heap n0 (by omega) oo22 p18_1 p18_2 p18_5 (by omega) p18_6 p18_7 p18_8 p18_9 f28 f29 f24 f30 f31 ne33 ne35) hZ (ww hw 234 rfl) (ww hw 173 rfl) (by decide) (by decide)) q36a q36b q36c (g := (mkF m 29 #[vr a, vr b3, vi 0, vr x1_19, un, un] [.ref x1_19])) rfl (by rw [hml]; rfl) (Steps.refl _) (argsL := []) (rest := []) (lenOf own_pd_16 rfl) rfl (by show 2 * 0 + _ ≤ _; exact Nat.le_of_eq rfl) (hb hby d16_29) (fun _ _ => ⟨rfl, e25, (by decide : 4 + 0 ≤ _), (by decide : 12 + 0 ≤ _)⟩)
 dsimp only [Pt.U, Pt.locs, Pt.cells, Pt.slots] at X36 l36 y36 z36 st36 hQ36
 subst l36 y36 z36
 obtain ⟨rfl, N36q, K36, p36_0, p36_1, p36_2, p36_3⟩ := hQ36
 have N37 := Fr.app N26 N36q
 have zzK36 : T18.heap.size ≤ T36.heap.size := K36.1
 have oo38 : Old Z n0 T36.heap := oo22.keep K36 (allS (by omega : n0 ≤ it_20) all0)
 have kt39 : Keep h0 T36.heap [] := kt23.trans K36 (allS (Or.inr (by omega : h0.size ≤ it_20)) all0)
 refine own_b T36 m 34 #[vr a, vr b3, vi 0, vr x1_19, un, un] [.ref b] (fun _ k_ => st36.trans k_) ?_
 have f41 : Exa Z T36.heap b "java/lang/Integer" := ((((E_b.keep K4).keep K11).keep K18).keep K36)
 obtain ⟨T40, X40, e40, st40⟩ := castY X36 hx hZ hown (ww hw 247 rfl) rfl (Ins.self f41) (g := (mkF m 34 #[vr a, vr b3, vi 0, vr x1_19, un, un] [.ref b])) rfl rfl (hb hby d16_34)
 refine own_b T40 m 37 #[vr a, vr b3, vi 0, vr x1_19, un, un] [.ref b] st40 ?_
 have la42 : @LT.lt Nat instLTNat b h0.size := E_b.lt
 have ne43 : @Ne Nat b it_20 := by omega
 have f44 : Fld Z T36.heap b "java/lang/Integer" "value" "I" (.int 1) := ((((F_b.keep K4 nin0).keep K11 nin0).keep K18 nin0).keep K36 (ninS ne43 nin0))
 obtain ⟨cq45, kq45, q45a, q45b, q45c⟩ := isOf hZ e40 f41
 obtain ⟨_, _, ⟨T45, L45, k45, n45⟩, -, X45, ⟨Lc45, hQ45, l45, y45, z45⟩, st45⟩ := X40.virtualBack hx (y := (⟨"java/lang/Integer", "intValue", "()I"⟩ : MethodName)) (z := (⟨"java/lang/Integer", "intValue", "()I"⟩ : MethodName)) hown (mvT hZ (ww hw 249 rfl)) (mvT hZ (ww hw 250 rfl)) (notFace_of_selects (args := #[]) (mvT hZ (ww hw 252 rfl))) (mvT hZ (ww hw 252 rfl)) (mvT hZ (ww hw 251 rfl)) (by decide) (backOf (W := 0) (rmIv l Z a0 hw [] wC cC wD kD mA mL mR GS b (1 : Int32) T36.heap n0 (by omega) oo38 f44) hZ (ww hw 253 rfl) (ww hw 61 rfl) (by decide) (by decide)) q45a q45c (g := (mkF m 37 #[vr a, vr b3, vi 0, vr x1_19, un, un] [.ref b])) rfl (by rw [hml]; rfl) (Steps.refl _) (argsL := []) (rest := []) (lenOf own_pd_5 rfl) rfl (by show 2 * 0 + _ ≤ _; exact Nat.le_of_eq rfl) (hb hby d16_37) (fun _ _ => ⟨rfl, e40, (by decide : 4 + 0 ≤ _), (by decide : 12 + 0 ≤ _)⟩)
 dsimp only [Pt.U, Pt.locs, Pt.cells, Pt.slots] at X45 l45 y45 z45 st45 hQ45
 subst l45 y45 z45
 obtain ⟨rfl, N45q, e45⟩ := hQ45
 have N46 := Fr.app N37 N45q
 refine own_b T45 m 40 #[vr a, vr b3, vi 0, vr x1_19, un, un] [.int 1] (fun _ k_ => st45.trans k_) ?_
 refine own_b T45 m 46 #[vr a, vr b3, vi 0, vr x1_19, vi 1, un] [.int 1, .ref a, .int 0] (fun _ k_ => XS.istore X45.here hx rfl (hb hby d16_40) rfl (l' := #[vr a, vr b3, vi 0, vr x1_19, vi 1, un]) rfl (XS.iloadN X45.here hx rfl (hb hby d16_42) rfl (XS.aloadN X45.here hx rfl (hb hby d16_43) rfl rfl (XS.iload X45.here hx rfl (hb hby d16_44) rfl k_)))) ?_
 have f47 : Exa Z T36.heap a cn1 := (((f8.keep K11).keep K18).keep K36)
 have la48 : @LT.lt Nat instLTNat a h0.size := E_a.lt
 have ne49 : @Ne Nat a it_20 := by omega
 have f50 : Fld Z T36.heap a cn1 "counts" "[I" (.ref ct) := ((((Fc.keep K4 nin0).keep K11 nin0).keep K18 nin0).keep K36 (ninS ne49 nin0))
 have la51 : @LT.lt Nat instLTNat ct h0.size := Vc.lt
 have ne52 : @Ne Nat ct it_20 := by omega
 have f53 : Arv Z T36.heap ct kC .int (2 : Int32) [.int 0, .int 4] (.int 0) := ((((Vc.keep K4 nin0).keep K11 nin0).keep K18 nin0).keep K36 (ninS ne52 nin0))
 obtain ⟨cq54, kq54, q54a, q54b, q54c⟩ := isOf hZ e45 f47
 obtain ⟨_, _, ⟨T54, L54, k54, n54⟩, -, X54, ⟨Lc54, hQ54, l54, y54, z54⟩, st54⟩ := X45.virtualBack hx (y := (⟨cn1, "get", "(I)I"⟩ : MethodName)) (z := (⟨cn1, "get", "(I)I"⟩ : MethodName)) hown (mvT hZ (ww hw 256 rfl)) (mvT hZ (ww hw 257 rfl)) (notFace_of_selects (args := #[]) (mvT hZ (ww hw 259 rfl))) (mvT hZ (ww hw 259 rfl)) (mvT hZ (ww hw 258 rfl)) (by decide) (backOf (W := 1) (rmZg l Z a0 hw [] wC cC wD kD mA mL mR GS a ct kC (0 : Int32) (4 : Int32) T36.heap n0 (by omega) oo38 f47 f50 f53) hZ (ww hw 260 rfl) (ww hw 4 rfl) (by decide) (by decide)) q54a q54c (g := (mkF m 46 #[vr a, vr b3, vi 0, vr x1_19, vi 1, un] [.int 1, .ref a, .int 0])) rfl (by rw [hml]; rfl) (Steps.refl _) (argsL := [.int 1]) (rest := [.int 0]) (lenOf own_pd_19 rfl) rfl (by show 2 * 0 + _ ≤ _; exact Nat.le_of_eq rfl) (hb hby d16_46) (fun _ _ => ⟨rfl, e45, (by decide : 4 + 0 ≤ _), (by decide : 12 + 0 ≤ _)⟩)
 dsimp only [Pt.U, Pt.locs, Pt.cells, Pt.slots] at X54 l54 y54 z54 st54 hQ54
 subst l54 y54 z54
 obtain ⟨rfl, N54q, e54⟩ := hQ54
 have N55 := Fr.app N46 N54q
 refine own_b T54 m 49 #[vr a, vr b3, vi 0, vr x1_19, vi 1, un] [.int 4, .int 0] (fun _ k_ => st54.trans k_) ?_
 refine own_b T54 m 50 #[vr a, vr b3, vi 0, vr x1_19, vi 1, un] [(.int ((0 : Int32) + (4 : Int32)))] (fun _ k_ => XS.iadd X54.here hx rfl (hb hby d16_49) rfl k_) ?_
 rw [show ((0 : Int32) + (4 : Int32)) = (4 : Int32) from by decide]
 refine own_b T54 m 58 #[vr a, vr b3, vi 0, vr x1_19, vi 1, vi 4] [.int 1, .int 4, .int 0, .ref b3] (fun _ k_ => XS.istore X54.here hx rfl (hb hby d16_50) rfl (l' := #[vr a, vr b3, vi 0, vr x1_19, vi 1, vi 4]) rfl (XS.aloadN X54.here hx rfl (hb hby d16_52) rfl rfl (XS.iloadN X54.here hx rfl (hb hby d16_53) rfl (XS.iload X54.here hx rfl (hb hby d16_54) rfl (XS.iload X54.here hx rfl (hb hby d16_56) rfl k_))))) ?_
 have ne56 : @Ne Nat b3 it_20 := by omega
 have f57 : Arv Z T36.heap b3 k3 .int (4 : Int32) [.int 0, .int 0, .int 0, .int 0] (.int 0) := (((f7.keep K11 nin0).keep K18 nin0).keep K36 (ninS ne56 nin0))
 obtain ⟨_, _, ⟨T58, L58, k58, n58⟩, -, X58, ⟨Lc58, hQ58, l58, y58, z58⟩, st58⟩ := Jvm.LawKit.callS X54 hx (y := (⟨"java/util/Arrays", "fill", "([IIII)V"⟩ : MethodName)) hown (mvT hZ (ww hw 261 rfl)) (mvT hZ (ww hw 262 rfl)) (mvT hZ (ww hw 263 rfl)) (mvT hZ (ww hw 264 rfl)) (by decide) (backOf (W := 0) (rmFill_4 l Z a0 hw [] wC cC wD kD mA mL mR GS b3 k3 T36.heap n0 (by omega) oo38 (by omega) f57) hZ (ww hw 264 rfl) (ww hw 263 rfl) (by decide) (by decide)) (g := (mkF m 58 #[vr a, vr b3, vi 0, vr x1_19, vi 1, vi 4] [.int 1, .int 4, .int 0, .ref b3])) rfl (by rw [hml]; rfl) (argsL := [.ref b3, .int 0, .int 4, .int 1]) (rest := []) (lenOf own_pd_20 rfl) rfl (by show 2 * 0 + _ ≤ _; exact Nat.le_of_eq rfl) (hb hby d16_58) (fun _ _ => ⟨rfl, e54, (by decide : 4 + 0 ≤ _), (by decide : 12 + 0 ≤ _)⟩)
 dsimp only [Pt.U, Pt.locs, Pt.cells, Pt.slots] at X58 l58 y58 z58 st58 hQ58
 subst l58 y58 z58
 obtain ⟨rfl, N58q, K58, p58_0⟩ := hQ58
 have N59 := Fr.app N55 N58q
 have zzK58 : T36.heap.size ≤ T58.heap.size := K58.1
 have oo60 : Old Z n0 T58.heap := oo38.keep K58 (allS (by omega : n0 ≤ b3) all0)
 have kt61 : Keep h0 T58.heap [] := kt39.trans K58 (allS (Or.inr (by omega : h0.size ≤ b3)) all0)
 refine own_b T58 m 61 #[vr a, vr b3, vi 0, vr x1_19, vi 1, vi 4] [] st58 ?_
 refine own_b T58 m 20 #[vr a, vr b3, vi 4, vr x1_19, vi 1, vi 4] [.ref x1_19] (fun _ k_ => XS.iload X58.here hx rfl (hb hby d16_61) rfl (XS.istoreN X58.here hx rfl (hb hby d16_63) rfl (l' := #[vr a, vr b3, vi 4, vr x1_19, vi 1, vi 4]) rfl (XS.goto X58.here hx rfl (pc0 := 64) (pc' := 19) rfl (hb hby d16_64) (by decide) (by decide) (XS.aloadN X58.here hx rfl (hb hby d16_19) rfl rfl k_)))) ?_
 have f62 : Exa Z T58.heap x1_19 cn3 := ((p18_1.keep K36).keep K58)
 have la63 : @LT.lt Nat instLTNat x1_19 T18.heap.size := p18_1.lt
 have ne64 : @Ne Nat x1_19 it_20 := by omega
 have ne65 : @Ne Nat x1_19 b3 := by omega
 have f66 : Fld Z T58.heap x1_19 cn3 "i" "Ljava/util/Iterator;" (.ref it_20) := ((p18_2.keep K36 (ninS ne64 nin0)).keep K58 (ninS ne65 nin0))
 have f67 : Exa Z T58.heap it_20 cn5 := ((p18_5.keep K36).keep K58)
 have ne68 : @Ne Nat it_20 b3 := by omega
 have f69 : Fld Z T58.heap it_20 cn5 "this$0" "Ljava/util/ArrayList;" (.ref al) := (p36_0.keep K58 (ninS ne68 nin0))
 have f70 : Fld Z T58.heap it_20 cn5 "cursor" "I" (.int 1) := (p36_3.keep K58 (ninS ne68 nin0))
 have ne71 : @Ne Nat al b3 := by omega
 have f72 : Fld Z T58.heap al cn2 "size" "I" (.int 1) := ((f24.keep K36 (ninS ne33 nin0)).keep K58 (ninS ne71 nin0))
 obtain ⟨cq73, kq73, q73a, q73b, q73c⟩ := isOf hZ rfl f62
 obtain ⟨_, _, ⟨T73, L73, k73, n73⟩, -, X73, ⟨Lc73, hQ73, l73, y73, z73⟩, st73⟩ := X58.interfaceBack hx (xi := (⟨"java/util/Iterator", "hasNext", "()Z"⟩ : MethodName)) (y := (⟨cn3, "hasNext", "()Z"⟩ : MethodName)) hown (mvT hZ (ww hw 208 rfl)) (mvT hZ (ww hw 209 rfl)) (mvT hZ (ww hw 210 rfl)) (mvT hZ (ww hw 211 rfl)) (mvT hZ (ww hw 212 rfl)) (mvT hZ (ww hw 213 rfl)) (mvT hZ (ww hw 214 rfl)) (mvT hZ (ww hw 215 rfl)) (by decide) (backOf (W := 0) (rmUHn1 l Z a0 hw [] wC cC wD kD mA mL mR GS x1_19 it_20 al T58.heap n0 (by omega) oo60 f62 f66 f67 f69 f70 f72) hZ (ww hw 216 rfl) (ww hw 173 rfl) (by decide) (by decide)) q73a q73b q73c (g := (mkF m 20 #[vr a, vr b3, vi 4, vr x1_19, vi 1, vi 4] [.ref x1_19])) rfl (by rw [hml]; rfl) (Steps.refl _) (argsL := []) (rest := []) (lenOf own_pd_15 rfl) rfl (by show 2 * 0 + _ ≤ _; exact Nat.le_of_eq rfl) (hb hby d16_20) (fun _ _ => ⟨rfl, rfl, (by decide : 4 + 0 ≤ _), (by decide : 12 + 0 ≤ _)⟩)
 dsimp only [Pt.U, Pt.locs, Pt.cells, Pt.slots] at X73 l73 y73 z73 st73 hQ73
 subst l73 y73 z73
 obtain ⟨rfl, N73q, e73⟩ := hQ73
 have N74 := Fr.app N59 N73q
 refine own_b T73 m 25 #[vr a, vr b3, vi 4, vr x1_19, vi 1, vi 4] [.int 0] (fun _ k_ => st73.trans k_) ?_
 refine own_b T73 m 68 #[vr a, vr b3, vi 4, vr x1_19, vi 1, vi 4] [.ref b3] (fun _ k_ => XS.ifYes X73.here hx rfl (pc0 := 25) (pc' := 67) rfl (hb hby d16_25) rfl (XT.i0_eq_t (by decide)) (by decide) (by decide) (XS.aloadN X73.here hx rfl (hb hby d16_67) rfl rfl k_)) ?_
 obtain ⟨fs75, hr75, hrun75, hended75, hW75, hsame75⟩ := X73.leave (v := some (.ref b3)) (fun h => by rw [Bd.returns] at h; cases h)
 refine ⟨_, _, retOut X73 hx (t := (.array .int)) Bd.returns rfl (Or.inr (Or.inr (Or.inr (Or.inr ⟨rfl, rfl, rfl⟩)))) (hb hby d16_68) hr75, hrun75, hended75, _, _, rfl, ?_, ⟨_, rfl⟩, hW75, hsame75.mono (by decide) (by decide)⟩
 show Q_rmHz_4 Z wC cC wD kD mA mL mR a al ct kC t kE b h0 n0 _ T73.heap _
 rw [e73]
 exact ⟨b3, rfl, N74, kt61, (by omega)⟩
theorem d36_0 : decode prog_29_method_2_code 0 = .ok (.aload_n 0, 1) := by decide +kernel
theorem d36_1 : decode prog_29_method_2_code 1 = .ok (.invokespecial 11, 3) := by decide +kernel
theorem d36_4 : decode prog_29_method_2_code 4 = .ok (.aload_n 0, 1) := by decide +kernel
theorem d36_5 : decode prog_29_method_2_code 5 = .ok (.aload_n 1, 1) := by decide +kernel
theorem d36_6 : decode prog_29_method_2_code 6 = .ok (.putfield 16, 3) := by decide +kernel
theorem d36_9 : decode prog_29_method_2_code 9 = .ok (.aload_n 0, 1) := by decide +kernel
theorem d36_10 : decode prog_29_method_2_code 10 = .ok (.aload_n 2, 1) := by decide +kernel
theorem d36_11 : decode prog_29_method_2_code 11 = .ok (.putfield 20, 3) := by decide +kernel
theorem d36_14 : decode prog_29_method_2_code 14 = .ok (.aload_n 0, 1) := by decide +kernel
theorem d36_15 : decode prog_29_method_2_code 15 = .ok (.aload_n 3, 1) := by decide +kernel
theorem d36_16 : decode prog_29_method_2_code 16 = .ok (.putfield 23, 3) := by decide +kernel
theorem d36_19 : decode prog_29_method_2_code 19 = .ok (.aload_n 0, 1) := by decide +kernel
theorem d36_20 : decode prog_29_method_2_code 20 = .ok (.aload 4, 2) := by decide +kernel
theorem d36_22 : decode prog_29_method_2_code 22 = .ok (.putfield 26, 3) := by decide +kernel
theorem d36_25 : decode prog_29_method_2_code 25 = .ok (.return_, 1) := by decide +kernel
theorem own_ef_rmWI4 (m : MethodId) (x0 : Addr) (x1 : Addr) (x2 : Addr) (x3 : Addr) (x4 : Addr) : entryFrame m #[.ref x0, .ref x1, .ref x2, .ref x3, .ref x4] 5 = mkF m 0 #[.val (.ref x0), .val (.ref x1), .val (.ref x2), .val (.ref x3), .val (.ref x4)] [] := by first | (simp [entryFrame, mkF, argsToLocals, Value.category]; done) | rfl
def Q_rmWI4 (Z : State) (wC : Addr) (cC : Cell) (wD : Addr) (kD : ClassId) (mA : Addr) (mL : Addr) (mR : Addr) (wk : Addr) (a : Addr) (h : Addr) (dp : Addr) (wp : Addr) (h0 : Heap) (n0 : Nat) (vv_ : Option Value) (hh_ : Heap) (LL_ : List Loc) : Prop := vv_ = none ∧ Fr n0 LL_ ∧ Keep h0 hh_ [wk] ∧ Fld Z hh_ wk "com/example/even_commute/evencommute/demand/Workers" "jobs" "Lcom/example/even_commute/evencommute/demand/ZoneCounts;" (.ref a) ∧ Fld Z hh_ wk "com/example/even_commute/evencommute/demand/Workers" "homeZones" "[I" (.ref h) ∧ Fld Z hh_ wk "com/example/even_commute/evencommute/demand/Workers" "departures" "[I" (.ref dp) ∧ Fld Z hh_ wk "com/example/even_commute/evencommute/demand/Workers" "workplaces" "[I" (.ref wp)
theorem rmWI4 (l : Launch) (Z : State) (a0 : Array Value) (hw : ∀ d ∈ tables_1, d.before a0 Z = true) (ws : List Jvm.Cond) (wC : Addr) (cC : Cell) (wD : Addr) (kD : ClassId) (mA : Addr) (mL : Addr) (mR : Addr) (GS : Glob Z wC cC wD kD mA mL mR) (wk : Addr) (a : Addr) (h : Addr) (dp : Addr) (wp : Addr) (h0 : Heap) (n0 : Nat) (Z0 : n0 ≤ h0.size) (O0 : Old Z n0 h0) (E_w : Exa Z h0 wk cn0) (g_w : n0 ≤ wk) (Wf0 : Fld Z h0 wk cn0 "jobs" cn4 .null) (Wf1 : Fld Z h0 wk cn0 "homeZones" "[I" .null) (Wf2 : Fld Z h0 wk cn0 "departures" "[I" .null) (Wf3 : Fld Z h0 wk cn0 "workplaces" "[I" .null) :
  MetFree l (⟨cn0, "<init>", "(Lcom/example/even_commute/evencommute/demand/ZoneCounts;[I[I[I)V"⟩ : MethodName) (head1 (Jvm.Cond.code (⟨cn0, "<init>", "(Lcom/example/even_commute/evencommute/demand/ZoneCounts;[I[I[I)V"⟩ : MethodName) prog_29_method_2_code 5 none :: ws) (⟨1, 0, 0, 12⟩ : Room)) (fun aa_ UU_ => aa_ = #[.ref wk, .ref a, .ref h, .ref dp, .ref wp] ∧ Z.Warmed39 UU_.vm ∧ UU_.heap = h0) (fun _ _ _ _ _ => True) (fun _ UU_ oo_ UV_ => ∃ vv_ LL_, oo_ = .returned vv_ ∧ Q_rmWI4 Z wC cC wD kD mA mL mR wk a h dp wp h0 n0 vv_ UV_.heap LL_ ∧ FrameEnd UU_ oo_ UV_ LL_ (⟨1, 0, 0, 12⟩ : Room).cells (⟨1, 0, 0, 12⟩ : Room).slots) := by
 refine MetFree.of_bodySF (plainFor_of_name own_p2) hisR ?_
 intro p e s m args below meth c s₁ Bd hml0 hP hK
 obtain ⟨rfl, hZ, hh⟩ := hP
 have hx := Bd.exec
 have hby := Bd.bytes
 have hml : c.maxLocals = 5 := hml0
 have hown : s.vm.findClass cn0 = some m.cls := findClass_of_methodNamed Bd.named
 have hnm := (name_of_methodNamed Bd.named Bd.method).1
 have X0 : Stand p l e (⟨1, 0, 0, 12⟩ : Room) s m #[.ref wk, .ref a, .ref h, .ref dp, .ref wp] below meth c s₁ [] 0 0 := Stand.of_body Bd
 have e0 : s₁.heap = h0 := by rw [← hh, Bd.state]; rfl
 have N0 := Fr.nil n0
 have hn0 : Z.heap.size = n0 := O0.1
 have KT0 : Keep h0 h0 [wk] := Keep.refl _ _
 refine own_enter (Φ := fun oo_ UV_ => ∃ vv_ LL_, oo_ = .returned vv_ ∧ Q_rmWI4 Z wC cC wD kD mA mL mR wk a h dp wp h0 n0 vv_ UV_.heap LL_ ∧ FrameEnd s oo_ UV_ LL_ (⟨1, 0, 0, 12⟩ : Room).cells (⟨1, 0, 0, 12⟩ : Room).slots) (own_ef_rmWI4 m wk a h dp wp) ?_
 refine own_b s₁ m 1 #[vr wk, vr a, vr h, vr dp, vr wp] [.ref wk] (fun _ k_ => XS.aloadN X0.here hx rfl (hb hby d36_0) rfl rfl k_) ?_
 obtain ⟨T1, X1, e1, st1⟩ := initO X0 hx hZ hown (ww hw 271 rfl) (ww hw 9 rfl) (ww hw 10 rfl) e0 (g := (mkF m 1 #[vr wk, vr a, vr h, vr dp, vr wp] [.ref wk])) rfl (by rw [hml]; rfl) rfl (hb hby d36_1) (by decide) (W := 0) (by show 2 * 0 + _ ≤ _; exact Nat.le_of_eq rfl) (by decide)
 refine own_b T1 m 4 #[vr wk, vr a, vr h, vr dp, vr wp] [] st1 ?_
 refine own_b T1 m 6 #[vr wk, vr a, vr h, vr dp, vr wp] [.ref a, .ref wk] (fun _ k_ => XS.aloadN X1.here hx rfl (hb hby d36_4) rfl rfl (XS.aloadN X1.here hx rfl (hb hby d36_5) rfl rfl k_)) ?_
 obtain ⟨T2, h2, X2, e2, W2, st2⟩ := putF X1 hx hZ hown (host := "") (Or.inl (ww hw 272 rfl)) Via.refl e1 Wf0 E_w (Or.inr ⟨(ww hw 273 rfl), rfl, hnm⟩) (ww hw 102 rfl) (ty := (.object cn1)) (by decide) rfl rfl (g := (mkF m 6 #[vr wk, vr a, vr h, vr dp, vr wp] [.ref a, .ref wk])) rfl rfl (hb hby d36_6)
 have K3 : Keep h0 h2 [wk] := Keep.of_wr W2
 have zzK3 : h0.size ≤ h2.size := K3.1
 have oo4 : Old Z n0 h2 := O0.keep K3 (allS (by omega : n0 ≤ wk) all0)
 have kt5 : Keep h0 h2 [wk] := KT0.trans K3 (allS (Or.inl (List.mem_of_getElem? (i := 0) rfl)) all0)
 have f6 : Fld Z h2 wk cn0 "jobs" cn4 (.ref a) := Wf0.same W2
 have f7 : Fld Z h2 wk cn0 "homeZones" "[I" .null := Wf1.other W2 (Or.inr (slot_ne (Or.inr (ww hw 275 rfl)) (Or.inr (ww hw 273 rfl)) (by decide) (t := (.array .int)) (t' := (.object cn1)) (by decide) (by decide)))
 have f8 : Fld Z h2 wk cn0 "departures" "[I" .null := Wf2.other W2 (Or.inr (slot_ne (Or.inr (ww hw 277 rfl)) (Or.inr (ww hw 273 rfl)) (by decide) (t := (.array .int)) (t' := (.object cn1)) (by decide) (by decide)))
 have f9 : Fld Z h2 wk cn0 "workplaces" "[I" .null := Wf3.other W2 (Or.inr (slot_ne (Or.inr (ww hw 279 rfl)) (Or.inr (ww hw 273 rfl)) (by decide) (t := (.array .int)) (t' := (.object cn1)) (by decide) (by decide)))
 have N10 := Fr.snoc X2 N0 (by omega : n0 ≤ wk)
 refine own_b T2 m 9 #[vr wk, vr a, vr h, vr dp, vr wp] [] st2 ?_
 refine own_b T2 m 11 #[vr wk, vr a, vr h, vr dp, vr wp] [.ref h, .ref wk] (fun _ k_ => XS.aloadN X2.here hx rfl (hb hby d36_9) rfl rfl (XS.aloadN X2.here hx rfl (hb hby d36_10) rfl rfl k_)) ?_
 have f11 : Exa Z h2 wk cn0 := (E_w.keep K3)
 obtain ⟨T12, h12, X12, e12, W12, st12⟩ := putF X2 hx hZ hown (host := "") (Or.inl (ww hw 274 rfl)) Via.refl e2 f7 f11 (Or.inr ⟨(ww hw 275 rfl), rfl, hnm⟩) (ww hw 102 rfl) (ty := (.array .int)) (by decide) rfl rfl (g := (mkF m 11 #[vr wk, vr a, vr h, vr dp, vr wp] [.ref h, .ref wk])) rfl rfl (hb hby d36_11)
 have K13 : Keep h2 h12 [wk] := Keep.of_wr W12
 have zzK13 : h2.size ≤ h12.size := K13.1
 have oo14 : Old Z n0 h12 := oo4.keep K13 (allS (by omega : n0 ≤ wk) all0)
 have kt15 : Keep h0 h12 [wk] := kt5.trans K13 (allS (Or.inl (List.mem_of_getElem? (i := 0) rfl)) all0)
 have f16 : Fld Z h12 wk cn0 "jobs" cn4 (.ref a) := f6.other W12 (Or.inr (slot_ne (Or.inr (ww hw 273 rfl)) (Or.inr (ww hw 275 rfl)) (by decide) (t := (.object cn1)) (t' := (.array .int)) (by decide) (by decide)))
 have f17 : Fld Z h12 wk cn0 "homeZones" "[I" (.ref h) := f7.same W12
 have f18 : Fld Z h12 wk cn0 "departures" "[I" .null := f8.other W12 (Or.inr (slot_ne (Or.inr (ww hw 277 rfl)) (Or.inr (ww hw 275 rfl)) (by decide) (t := (.array .int)) (t' := (.array .int)) (by decide) (by decide)))
 have f19 : Fld Z h12 wk cn0 "workplaces" "[I" .null := f9.other W12 (Or.inr (slot_ne (Or.inr (ww hw 279 rfl)) (Or.inr (ww hw 275 rfl)) (by decide) (t := (.array .int)) (t' := (.array .int)) (by decide) (by decide)))
 have N20 := Fr.snoc X12 N10 (by omega : n0 ≤ wk)
 refine own_b T12 m 14 #[vr wk, vr a, vr h, vr dp, vr wp] [] st12 ?_
 refine own_b T12 m 16 #[vr wk, vr a, vr h, vr dp, vr wp] [.ref dp, .ref wk] (fun _ k_ => XS.aloadN X12.here hx rfl (hb hby d36_14) rfl rfl (XS.aloadN X12.here hx rfl (hb hby d36_15) rfl rfl k_)) ?_
 have f21 : Exa Z h12 wk cn0 := (f11.keep K13)
 obtain ⟨T22, h22, X22, e22, W22, st22⟩ := putF X12 hx hZ hown (host := "") (Or.inl (ww hw 276 rfl)) Via.refl e12 f18 f21 (Or.inr ⟨(ww hw 277 rfl), rfl, hnm⟩) (ww hw 102 rfl) (ty := (.array .int)) (by decide) rfl rfl (g := (mkF m 16 #[vr wk, vr a, vr h, vr dp, vr wp] [.ref dp, .ref wk])) rfl rfl (hb hby d36_16)
 have K23 : Keep h12 h22 [wk] := Keep.of_wr W22
 have zzK23 : h12.size ≤ h22.size := K23.1
 have oo24 : Old Z n0 h22 := oo14.keep K23 (allS (by omega : n0 ≤ wk) all0)
 have kt25 : Keep h0 h22 [wk] := kt15.trans K23 (allS (Or.inl (List.mem_of_getElem? (i := 0) rfl)) all0)
 have f26 : Fld Z h22 wk cn0 "jobs" cn4 (.ref a) := f16.other W22 (Or.inr (slot_ne (Or.inr (ww hw 273 rfl)) (Or.inr (ww hw 277 rfl)) (by decide) (t := (.object cn1)) (t' := (.array .int)) (by decide) (by decide)))
 have f27 : Fld Z h22 wk cn0 "homeZones" "[I" (.ref h) := f17.other W22 (Or.inr (slot_ne (Or.inr (ww hw 275 rfl)) (Or.inr (ww hw 277 rfl)) (by decide) (t := (.array .int)) (t' := (.array .int)) (by decide) (by decide)))
 have f28 : Fld Z h22 wk cn0 "departures" "[I" (.ref dp) := f18.same W22
 have f29 : Fld Z h22 wk cn0 "workplaces" "[I" .null := f19.other W22 (Or.inr (slot_ne (Or.inr (ww hw 279 rfl)) (Or.inr (ww hw 277 rfl)) (by decide) (t := (.array .int)) (t' := (.array .int)) (by decide) (by decide)))
 have N30 := Fr.snoc X22 N20 (by omega : n0 ≤ wk)
 refine own_b T22 m 19 #[vr wk, vr a, vr h, vr dp, vr wp] [] st22 ?_
 refine own_b T22 m 22 #[vr wk, vr a, vr h, vr dp, vr wp] [.ref wp, .ref wk] (fun _ k_ => XS.aloadN X22.here hx rfl (hb hby d36_19) rfl rfl (XS.aload X22.here hx rfl (hb hby d36_20) rfl rfl k_)) ?_
 have f31 : Exa Z h22 wk cn0 := (f21.keep K23)
 obtain ⟨T32, h32, X32, e32, W32, st32⟩ := putF X22 hx hZ hown (host := "") (Or.inl (ww hw 278 rfl)) Via.refl e22 f29 f31 (Or.inr ⟨(ww hw 279 rfl), rfl, hnm⟩) (ww hw 102 rfl) (ty := (.array .int)) (by decide) rfl rfl (g := (mkF m 22 #[vr wk, vr a, vr h, vr dp, vr wp] [.ref wp, .ref wk])) rfl rfl (hb hby d36_22)
 have K33 : Keep h22 h32 [wk] := Keep.of_wr W32
 have zzK33 : h22.size ≤ h32.size := K33.1
 have oo34 : Old Z n0 h32 := oo24.keep K33 (allS (by omega : n0 ≤ wk) all0)
 have kt35 : Keep h0 h32 [wk] := kt25.trans K33 (allS (Or.inl (List.mem_of_getElem? (i := 0) rfl)) all0)
 have f36 : Fld Z h32 wk cn0 "jobs" cn4 (.ref a) := f26.other W32 (Or.inr (slot_ne (Or.inr (ww hw 273 rfl)) (Or.inr (ww hw 279 rfl)) (by decide) (t := (.object cn1)) (t' := (.array .int)) (by decide) (by decide)))
 have f37 : Fld Z h32 wk cn0 "homeZones" "[I" (.ref h) := f27.other W32 (Or.inr (slot_ne (Or.inr (ww hw 275 rfl)) (Or.inr (ww hw 279 rfl)) (by decide) (t := (.array .int)) (t' := (.array .int)) (by decide) (by decide)))
 have f38 : Fld Z h32 wk cn0 "departures" "[I" (.ref dp) := f28.other W32 (Or.inr (slot_ne (Or.inr (ww hw 277 rfl)) (Or.inr (ww hw 279 rfl)) (by decide) (t := (.array .int)) (t' := (.array .int)) (by decide) (by decide)))
 have f39 : Fld Z h32 wk cn0 "workplaces" "[I" (.ref wp) := f29.same W32
 have N40 := Fr.snoc X32 N30 (by omega : n0 ≤ wk)
 refine own_b T32 m 25 #[vr wk, vr a, vr h, vr dp, vr wp] [] st32 ?_
 obtain ⟨fs41, hr41, hrun41, hended41, hW41, hsame41⟩ := X32.leave (v := none) (fun _ => rfl)
 refine ⟨_, _, X32.returnOut hx Bd.returns (hb hby d36_25) hr41, hrun41, hended41, _, _, rfl, ?_, ⟨_, rfl⟩, hW41, hsame41.mono (by decide) (by decide)⟩
 show Q_rmWI4 Z wC cC wD kD mA mL mR wk a h dp wp h0 n0 _ T32.heap _
 rw [e32]
 exact ⟨rfl, N40, kt35, f36, f37, f38, f39⟩
theorem own_pd_21 : parseMethodDescriptor "(Lcom/example/even_commute/evencommute/demand/ZoneCounts;)[I" = some ⟨[(.object "com/example/even_commute/evencommute/demand/ZoneCounts")], some (.array .int)⟩ := by decide +kernel
theorem own_pd_22 : parseMethodDescriptor "(Lcom/example/even_commute/evencommute/demand/ZoneCounts;[I[I[I)V" = some ⟨[(.object "com/example/even_commute/evencommute/demand/ZoneCounts"), (.array .int), (.array .int), (.array .int)], none⟩ := by decide +kernel
theorem d15_0 : decode prog_29_method_1_code 0 = .ok (.aload_n 0, 1) := by decide +kernel
theorem d15_1 : decode prog_29_method_1_code 1 = .ok (.aload_n 2, 1) := by decide +kernel
theorem d15_2 : decode prog_29_method_1_code 2 = .ok (.aload_n 1, 1) := by decide +kernel
theorem d15_3 : decode prog_29_method_1_code 3 = .ok (.invokestatic 1, 3) := by decide +kernel
theorem d15_6 : decode prog_29_method_1_code 6 = .ok (.aload_n 3, 1) := by decide +kernel
theorem d15_7 : decode prog_29_method_1_code 7 = .ok (.aload_n 3, 1) := by decide +kernel
theorem d15_8 : decode prog_29_method_1_code 8 = .ok (.arraylength, 1) := by decide +kernel
theorem d15_9 : decode prog_29_method_1_code 9 = .ok (.newarray .int, 2) := by decide +kernel
theorem d15_11 : decode prog_29_method_1_code 11 = .ok (.invokespecial 7, 3) := by decide +kernel
theorem d15_14 : decode prog_29_method_1_code 14 = .ok (.return_, 1) := by decide +kernel
theorem own_ef_rmWI3_0 (m : MethodId) (x0 : Addr) (x1 : Addr) (x2 : Addr) (x3 : Addr) : entryFrame m #[.ref x0, .ref x1, .ref x2, .ref x3] 4 = mkF m 0 #[.val (.ref x0), .val (.ref x1), .val (.ref x2), .val (.ref x3)] [] := by first | (simp [entryFrame, mkF, argsToLocals, Value.category]; done) | rfl
def Q_rmWI3_0 (Z : State) (wC : Addr) (cC : Cell) (wD : Addr) (kD : ClassId) (mA : Addr) (mL : Addr) (mR : Addr) (wk : Addr) (dp : Addr) (kP : ClassId) (a : Addr) (al : Addr) (ct : Addr) (kC : ClassId) (t : Addr) (kE : ClassId) (b : Addr) (h0 : Heap) (n0 : Nat) (vv_ : Option Value) (hh_ : Heap) (LL_ : List Loc) : Prop := ∃ h : Addr, ∃ wp : Addr, ∃ kW : ClassId, vv_ = none ∧ Fr n0 LL_ ∧ Keep h0 hh_ [wk] ∧ h0.size ≤ wp ∧ Fld Z hh_ wk "com/example/even_commute/evencommute/demand/Workers" "jobs" "Lcom/example/even_commute/evencommute/demand/ZoneCounts;" (.ref a) ∧ Fld Z hh_ wk "com/example/even_commute/evencommute/demand/Workers" "homeZones" "[I" (.ref h) ∧ Fld Z hh_ wk "com/example/even_commute/evencommute/demand/Workers" "departures" "[I" (.ref dp) ∧ Fld Z hh_ wk "com/example/even_commute/evencommute/demand/Workers" "workplaces" "[I" (.ref wp) ∧ Arv Z hh_ wp kW .int (0 : Int32) [] (.int 0)
theorem rmWI3_0 (l : Launch) (Z : State) (a0 : Array Value) (hw : ∀ d ∈ tables_1, d.before a0 Z = true) (ws : List Jvm.Cond) (wC : Addr) (cC : Cell) (wD : Addr) (kD : ClassId) (mA : Addr) (mL : Addr) (mR : Addr) (GS : Glob Z wC cC wD kD mA mL mR) (wk : Addr) (dp : Addr) (kP : ClassId) (a : Addr) (al : Addr) (ct : Addr) (kC : ClassId) (t : Addr) (kE : ClassId) (b : Addr) (h0 : Heap) (n0 : Nat) (Z0 : n0 ≤ h0.size) (O0 : Old Z n0 h0) (E_w : Exa Z h0 wk cn0) (g_w : n0 ≤ wk) (Wf0 : Fld Z h0 wk cn0 "jobs" cn4 .null) (Wf1 : Fld Z h0 wk cn0 "homeZones" "[I" .null) (Wf2 : Fld Z h0 wk cn0 "departures" "[I" .null) (Wf3 : Fld Z h0 wk cn0 "workplaces" "[I" .null) (Vd : Arv Z h0 dp kP .int (0 : Int32) [] (.int 0)) (E_a : Exa Z h0 a cn1) (Ft : Fld Z h0 a cn1 "total" "I" (.int 0)) (Fz : Fld Z h0 a cn1 "zones" "Ljava/util/List;" (.ref al)) (Fc : Fld Z h0 a cn1 "counts" "[I" (.ref ct)) (Vc : Arv Z h0 ct kC .int (2 : Int32) [.int 0, .int 0] (.int 0)) (E_l : Exa Z h0 al cn2) (Fm : Fld Z h0 al "java/util/AbstractList" "modCount" "I" (.int 1)) (Fs : Fld Z h0 al cn2 "size" "I" (.int 1)) (Fe : Fld Z h0 al cn2 "elementData" "[Ljava/lang/Object;" (.ref t)) (Vt : Arv Z h0 t kE (.object "java/lang/Object") (10 : Int32) [.ref b, .null, .null, .null, .null, .null, .null, .null, .null, .null] .null) (E_b : Exa Z h0 b "java/lang/Integer") (F_b : Fld Z h0 b "java/lang/Integer" "value" "I" (.int 1)) :
  MetFree l (⟨cn0, "<init>", cn6⟩ : MethodName) (head1 (Jvm.Cond.code (⟨cn0, "<init>", cn6⟩ : MethodName) prog_29_method_1_code 4 none :: ws) (⟨7, 5, 8, 95⟩ : Room)) (fun aa_ UU_ => aa_ = #[.ref wk, .ref a, .ref a, .ref dp] ∧ Z.Warmed39 UU_.vm ∧ UU_.heap = h0) (fun _ _ _ _ _ => True) (fun _ UU_ oo_ UV_ => ∃ vv_ LL_, oo_ = .returned vv_ ∧ Q_rmWI3_0 Z wC cC wD kD mA mL mR wk dp kP a al ct kC t kE b h0 n0 vv_ UV_.heap LL_ ∧ FrameEnd UU_ oo_ UV_ LL_ (⟨7, 5, 8, 95⟩ : Room).cells (⟨7, 5, 8, 95⟩ : Room).slots) := by
 refine MetFree.of_bodySF (plainFor_of_name own_p2) hisR ?_
 intro p e s m args below meth c s₁ Bd hml0 hP hK
 obtain ⟨rfl, hZ, hh⟩ := hP
 have hx := Bd.exec
 have hby := Bd.bytes
 have hml : c.maxLocals = 4 := hml0
 have hown : s.vm.findClass cn0 = some m.cls := findClass_of_methodNamed Bd.named
 have hnm := (name_of_methodNamed Bd.named Bd.method).1
 have X0 : Stand p l e (⟨7, 5, 8, 95⟩ : Room) s m #[.ref wk, .ref a, .ref a, .ref dp] below meth c s₁ [] 0 0 := Stand.of_body Bd
 have e0 : s₁.heap = h0 := by rw [← hh, Bd.state]; rfl
 have N0 := Fr.nil n0
 have hn0 : Z.heap.size = n0 := O0.1
 have KT0 : Keep h0 h0 [wk] := Keep.refl _ _
 refine own_enter (Φ := fun oo_ UV_ => ∃ vv_ LL_, oo_ = .returned vv_ ∧ Q_rmWI3_0 Z wC cC wD kD mA mL mR wk dp kP a al ct kC t kE b h0 n0 vv_ UV_.heap LL_ ∧ FrameEnd s oo_ UV_ LL_ (⟨7, 5, 8, 95⟩ : Room).cells (⟨7, 5, 8, 95⟩ : Room).slots) (own_ef_rmWI3_0 m wk a a dp) ?_
 refine own_b s₁ m 3 #[vr wk, vr a, vr a, vr dp] [.ref a, .ref a, .ref wk] (fun _ k_ => XS.aloadN X0.here hx rfl (hb hby d15_0) rfl rfl (XS.aloadN X0.here hx rfl (hb hby d15_1) rfl rfl (XS.aloadN X0.here hx rfl (hb hby d15_2) rfl rfl k_))) ?_
 obtain ⟨_, _, ⟨T1, L1, k1, n1⟩, -, X1, ⟨Lc1, hQ1, l1, y1, z1⟩, st1⟩ := Jvm.LawKit.callS X0 hx (y := (⟨cn0, "homeZones", "(Lcom/example/even_commute/evencommute/demand/ZoneCounts;)[I"⟩ : MethodName)) hown (mvT hZ (ww hw 107 rfl)) (mvT hZ (ww hw 108 rfl)) (mvT hZ (ww hw 103 rfl)) (mvT hZ (ww hw 109 rfl)) (by decide) (backOf (W := 2) (rmHz_0 l Z a0 hw [] wC cC wD kD mA mL mR GS a al ct kC t kE b h0 n0 (by omega) O0 E_a Ft Fz Fc Vc E_l Fm Fs Fe Vt E_b F_b) hZ (ww hw 109 rfl) (ww hw 103 rfl) (by decide) (by decide)) (g := (mkF m 3 #[vr wk, vr a, vr a, vr dp] [.ref a, .ref a, .ref wk])) rfl (by rw [hml]; rfl) (argsL := [.ref a]) (rest := [.ref a, .ref wk]) (lenOf own_pd_21 rfl) rfl (by show 2 * 0 + _ ≤ _; exact Nat.le_of_eq rfl) (hb hby d15_3) (fun _ _ => ⟨rfl, e0, (by decide : 0 + 4 ≤ _), (by decide : 0 + 8 ≤ _)⟩)
 dsimp only [Pt.U, Pt.locs, Pt.cells, Pt.slots] at X1 l1 y1 z1 st1 hQ1
 subst l1 y1 z1
 obtain ⟨h_2, rfl, N1q, K1, p1_0⟩ := hQ1
 have N3 := Fr.app N0 N1q
 have gh_2 : h0.size ≤ h_2 := p1_0
 have zzK1 : h0.size ≤ T1.heap.size := K1.1
 have oo4 : Old Z n0 T1.heap := O0.keep K1 all0
 have kt5 : Keep h0 T1.heap [wk] := KT0.trans K1 all0
 refine own_b T1 m 6 #[vr wk, vr a, vr a, vr dp] [.ref h_2, .ref a, .ref wk] st1 ?_
 refine own_b T1 m 8 #[vr wk, vr a, vr a, vr dp] [.ref dp, .ref dp, .ref h_2, .ref a, .ref wk] (fun _ k_ => XS.aloadN X1.here hx rfl (hb hby d15_6) rfl rfl (XS.aloadN X1.here hx rfl (hb hby d15_7) rfl rfl k_)) ?_
 have f7 : Arv Z T1.heap dp kP .int (0 : Int32) [] (.int 0) := (Vd.keep K1 nin0)
 obtain ⟨cl6, Ar6, q6, S6, M6, H6, G6⟩ := id f7
 refine own_b T1 m 9 #[vr wk, vr a, vr a, vr dp] [.int 0, .ref dp, .ref h_2, .ref a, .ref wk] (fun _ k_ => X1.arraylength hx (by exact Ar6.1) (State.isArrayOf_alike hZ.alike Ar6.2.1) (g := (mkF m 8 #[vr wk, vr a, vr a, vr dp] [.ref dp, .ref dp, .ref h_2, .ref a, .ref wk])) rfl rfl (hb hby d15_8) _ (by rw [len_of S6 M6]; exact k_)) ?_
 obtain ⟨T8, h8, k8, X8, e8, E8, A8, st8⟩ := newP X1 hx hZ (ww hw 1 rfl) rfl (g := (mkF m 9 #[vr wk, vr a, vr a, vr dp] [.int 0, .ref dp, .ref h_2, .ref a, .ref wk])) rfl (hb hby d15_9) rfl (by decide) (cap := 0) (by decide) (by decide) (by decide) (by decide)
 obtain ⟨b8, g8⟩ : ∃ z, z = T1.heap.size := ⟨_, rfl⟩
 rw [← g8] at A8 st8
 have K9 : Keep T1.heap h8 [] := own_kext E8
 have zzK9 : T1.heap.size ≤ h8.size := K9.1
 have oo10 : Old Z n0 h8 := oo4.keep K9 all0
 have kt11 : Keep h0 h8 [wk] := kt5.trans K9 all0
 have lab8 : b8 < h8.size := A8.lt
 have f12 : Arv Z h8 b8 k8 .int (0 : Int32) [] (.int 0) := (Arv.new A8 (by decide)).pad (pad_rep [] (.int 0) 0)
 refine own_b T8 m 11 #[vr wk, vr a, vr a, vr dp] [.ref b8, .ref dp, .ref h_2, .ref a, .ref wk] st8 ?_
 have f13 : Exa Z h8 wk cn0 := ((E_w.keep K1).keep K9)
 have la14 : @LT.lt Nat instLTNat wk h0.size := E_w.lt
 have f15 : Fld Z h8 wk cn0 "jobs" cn4 .null := ((Wf0.keep K1 nin0).keep K9 nin0)
 have f16 : Fld Z h8 wk cn0 "homeZones" "[I" .null := ((Wf1.keep K1 nin0).keep K9 nin0)
 have f17 : Fld Z h8 wk cn0 "departures" "[I" .null := ((Wf2.keep K1 nin0).keep K9 nin0)
 have f18 : Fld Z h8 wk cn0 "workplaces" "[I" .null := ((Wf3.keep K1 nin0).keep K9 nin0)
 obtain ⟨_, _, ⟨T19, L19, k19, n19⟩, -, X19, ⟨Lc19, hQ19, l19, y19, z19⟩, st19⟩ := X8.specialBack hx (y := (⟨cn0, "<init>", "(Lcom/example/even_commute/evencommute/demand/ZoneCounts;[I[I[I)V"⟩ : MethodName)) rfl hown (mvT hZ (ww hw 268 rfl)) (mvT hZ (ww hw 269 rfl)) (mvT hZ (ww hw 270 rfl)) (by decide) (backOf (W := 0) (rmWI4 l Z a0 hw [] wC cC wD kD mA mL mR GS wk a h_2 dp b8 h8 n0 (by omega) oo10 f13 (by omega) f15 f16 f17 f18) hZ (ww hw 270 rfl) (ww hw 103 rfl) (by decide) (by decide)) (g := (mkF m 11 #[vr wk, vr a, vr a, vr dp] [.ref b8, .ref dp, .ref h_2, .ref a, .ref wk])) rfl (by rw [hml]; rfl) (Steps.refl _) (a := wk) (argsL := [.ref a, .ref h_2, .ref dp, .ref b8]) (rest := []) (lenOf own_pd_22 rfl) rfl (by show 2 * 0 + _ ≤ _; exact Nat.le_of_eq rfl) (hb hby d15_11) (fun _ _ => ⟨rfl, e8, (by decide : 5 + 0 ≤ _), (by decide : 8 + 0 ≤ _)⟩)
 dsimp only [Pt.U, Pt.locs, Pt.cells, Pt.slots] at X19 l19 y19 z19 st19 hQ19
 subst l19 y19 z19
 obtain ⟨rfl, N19q, K19, p19_0, p19_1, p19_2, p19_3⟩ := hQ19
 have N20 := Fr.app N3 N19q
 have zzK19 : h8.size ≤ T19.heap.size := K19.1
 have oo21 : Old Z n0 T19.heap := oo10.keep K19 (allS (by omega : n0 ≤ wk) all0)
 have kt22 : Keep h0 T19.heap [wk] := kt11.trans K19 (allS (Or.inl (List.mem_of_getElem? (i := 0) rfl)) all0)
 refine own_b T19 m 14 #[vr wk, vr a, vr a, vr dp] [] (fun _ k_ => st19.trans k_) ?_
 have ne23 : @Ne Nat b8 wk := by omega
 have f24 : Arv Z T19.heap b8 k8 .int (0 : Int32) [] (.int 0) := (f12.keep K19 (ninS ne23 nin0))
 obtain ⟨fs25, hr25, hrun25, hended25, hW25, hsame25⟩ := X19.leave (v := none) (fun _ => rfl)
 refine ⟨_, _, X19.returnOut hx Bd.returns (hb hby d15_14) hr25, hrun25, hended25, _, _, rfl, ?_, ⟨_, rfl⟩, hW25, hsame25.mono (by decide) (by decide)⟩
 show Q_rmWI3_0 Z wC cC wD kD mA mL mR wk dp kP a al ct kC t kE b h0 n0 _ T19.heap _
 exact ⟨h_2, b8, k8, rfl, N20, kt22, (by omega), p19_0, p19_1, p19_2, p19_3, f24⟩
theorem d37_0 : decode prog_29_method_3_code 0 = .ok (.new 2, 3) := by decide +kernel
theorem d37_3 : decode prog_29_method_3_code 3 = .ok (.dup, 1) := by decide +kernel
theorem d37_4 : decode prog_29_method_3_code 4 = .ok (.aload_n 0, 1) := by decide +kernel
theorem d37_5 : decode prog_29_method_3_code 5 = .ok (.getfield 16, 3) := by decide +kernel
theorem d37_8 : decode prog_29_method_3_code 8 = .ok (.aload_n 0, 1) := by decide +kernel
theorem d37_9 : decode prog_29_method_3_code 9 = .ok (.getfield 20, 3) := by decide +kernel
theorem d37_12 : decode prog_29_method_3_code 12 = .ok (.aload_n 0, 1) := by decide +kernel
theorem d37_13 : decode prog_29_method_3_code 13 = .ok (.getfield 23, 3) := by decide +kernel
theorem d37_16 : decode prog_29_method_3_code 16 = .ok (.aload_n 1, 1) := by decide +kernel
theorem d37_17 : decode prog_29_method_3_code 17 = .ok (.invokevirtual 29, 3) := by decide +kernel
theorem d37_20 : decode prog_29_method_3_code 20 = .ok (.checkcast 30, 3) := by decide +kernel
theorem d37_23 : decode prog_29_method_3_code 23 = .ok (.invokespecial 7, 3) := by decide +kernel
theorem d37_26 : decode prog_29_method_3_code 26 = .ok (.areturn, 1) := by decide +kernel
theorem own_ef_rmWw_0 (m : MethodId) (x0 : Addr) (x1 : Addr) : entryFrame m #[.ref x0, .ref x1] 2 = mkF m 0 #[.val (.ref x0), .val (.ref x1)] [] := by first | (simp [entryFrame, mkF, argsToLocals, Value.category]; done) | rfl
def Q_rmWw_0 (Z : State) (wC : Addr) (cC : Cell) (wD : Addr) (kD : ClassId) (mA : Addr) (mL : Addr) (mR : Addr) (wk : Addr) (wp : Addr) (kW : ClassId) (a : Addr) (h : Addr) (dp : Addr) (wq : Addr) (h0 : Heap) (n0 : Nat) (vv_ : Option Value) (hh_ : Heap) (LL_ : List Loc) : Prop := ∃ r : Addr, ∃ wr : Addr, ∃ kR : ClassId, vv_ = some (.ref r) ∧ Fr n0 LL_ ∧ Keep h0 hh_ [] ∧ h0.size ≤ r ∧ h0.size ≤ wr ∧ Exa Z hh_ r "com/example/even_commute/evencommute/demand/Workers" ∧ Fld Z hh_ r "com/example/even_commute/evencommute/demand/Workers" "workplaces" "[I" (.ref wr) ∧ Arv Z hh_ wr kR .int (0 : Int32) [] (.int 0)
theorem rmWw_0 (l : Launch) (Z : State) (a0 : Array Value) (hw : ∀ d ∈ tables_1, d.before a0 Z = true) (ws : List Jvm.Cond) (wC : Addr) (cC : Cell) (wD : Addr) (kD : ClassId) (mA : Addr) (mL : Addr) (mR : Addr) (GS : Glob Z wC cC wD kD mA mL mR) (wk : Addr) (wp : Addr) (kW : ClassId) (a : Addr) (h : Addr) (dp : Addr) (wq : Addr) (h0 : Heap) (n0 : Nat) (Z0 : n0 ≤ h0.size) (O0 : Old Z n0 h0) (E_w : Exa Z h0 wk cn0) (E_p : Exa Z h0 wp "[I") (Vp : Arv Z h0 wp kW .int (0 : Int32) [] (.int 0)) (Wf0 : Fld Z h0 wk cn0 "jobs" cn4 (.ref a)) (Wf1 : Fld Z h0 wk cn0 "homeZones" "[I" (.ref h)) (Wf2 : Fld Z h0 wk cn0 "departures" "[I" (.ref dp)) (Wf3 : Fld Z h0 wk cn0 "workplaces" "[I" (.ref wq)) :
  MetFree l (⟨cn0, "withWorkplaces", "([I)Lcom/example/even_commute/evencommute/demand/Workers;"⟩ : MethodName) (head1 (Jvm.Cond.code (⟨cn0, "withWorkplaces", "([I)Lcom/example/even_commute/evencommute/demand/Workers;"⟩ : MethodName) prog_29_method_3_code 2 (some (.object cn0)) :: ws) (⟨2, 2, 4, 29⟩ : Room)) (fun aa_ UU_ => aa_ = #[.ref wk, .ref wp] ∧ Z.Warmed39 UU_.vm ∧ UU_.heap = h0) (fun _ _ _ _ _ => True) (fun _ UU_ oo_ UV_ => ∃ vv_ LL_, oo_ = .returned vv_ ∧ Q_rmWw_0 Z wC cC wD kD mA mL mR wk wp kW a h dp wq h0 n0 vv_ UV_.heap LL_ ∧ FrameEnd UU_ oo_ UV_ LL_ (⟨2, 2, 4, 29⟩ : Room).cells (⟨2, 2, 4, 29⟩ : Room).slots) := by
 refine MetFree.of_bodySF (plainFor_of_name own_p2) hisR ?_
 intro p e s m args below meth c s₁ Bd hml0 hP hK
 obtain ⟨rfl, hZ, hh⟩ := hP
 have hx := Bd.exec
 have hby := Bd.bytes
 have hml : c.maxLocals = 2 := hml0
 have hown : s.vm.findClass cn0 = some m.cls := findClass_of_methodNamed Bd.named
 have hnm := (name_of_methodNamed Bd.named Bd.method).1
 have X0 : Stand p l e (⟨2, 2, 4, 29⟩ : Room) s m #[.ref wk, .ref wp] below meth c s₁ [] 0 0 := Stand.of_body Bd
 have e0 : s₁.heap = h0 := by rw [← hh, Bd.state]; rfl
 have N0 := Fr.nil n0
 have hn0 : Z.heap.size = n0 := O0.1
 have KT0 : Keep h0 h0 [] := Keep.refl _ _
 refine own_enter (Φ := fun oo_ UV_ => ∃ vv_ LL_, oo_ = .returned vv_ ∧ Q_rmWw_0 Z wC cC wD kD mA mL mR wk wp kW a h dp wq h0 n0 vv_ UV_.heap LL_ ∧ FrameEnd s oo_ UV_ LL_ (⟨2, 2, 4, 29⟩ : Room).cells (⟨2, 2, 4, 29⟩ : Room).slots) (own_ef_rmWw_0 m wk wp) ?_
 obtain ⟨T1, h1, X1, e1, E1, A1, D1, -, st1⟩ := newO X0 hx hZ hown (ww hw 285 rfl) (ww hw 102 rfl) (ww hw 103 rfl) e0 (g := (mkF m 0 #[vr wk, vr wp] [])) rfl (hb hby d37_0) (by decide) (by decide)
 obtain ⟨b1, g1⟩ : ∃ z, z = h0.size := ⟨_, rfl⟩
 rw [← g1] at A1 D1 st1
 have K2 : Keep h0 h1 [] := own_kext E1
 have zzK2 : h0.size ≤ h1.size := K2.1
 have oo3 : Old Z n0 h1 := O0.keep K2 all0
 have kt4 : Keep h0 h1 [] := KT0.trans K2 all0
 have lab1 : b1 < h1.size := A1.lt
 have f5 : Fld Z h1 b1 cn0 "jobs" cn4 .null := D1 (Or.inr (ww hw 273 rfl)) (ty := (.object cn1)) (by decide)
 have f6 : Fld Z h1 b1 cn0 "homeZones" "[I" .null := D1 (Or.inr (ww hw 275 rfl)) (ty := (.array .int)) (by decide)
 have f7 : Fld Z h1 b1 cn0 "departures" "[I" .null := D1 (Or.inr (ww hw 277 rfl)) (ty := (.array .int)) (by decide)
 have f8 : Fld Z h1 b1 cn0 "workplaces" "[I" .null := D1 (Or.inr (ww hw 279 rfl)) (ty := (.array .int)) (by decide)
 refine own_b T1 m 3 #[vr wk, vr wp] [.ref b1] st1 ?_
 refine own_b T1 m 5 #[vr wk, vr wp] [.ref wk, .ref b1, .ref b1] (fun _ k_ => XS.dup X1.here hx rfl (hb hby d37_3) rfl rfl (XS.aloadN X1.here hx rfl (hb hby d37_4) rfl rfl k_)) ?_
 have f9 : Fld Z h1 wk cn0 "jobs" cn4 (.ref a) := (Wf0.keep K2 nin0)
 obtain ⟨T10, X10, e10, st10⟩ := getF X1 hx hZ hown (host := "") (Or.inl (ww hw 272 rfl)) Via.refl e1 f9 (g := (mkF m 5 #[vr wk, vr wp] [.ref wk, .ref b1, .ref b1])) rfl rfl (hb hby d37_5)
 refine own_b T10 m 8 #[vr wk, vr wp] [.ref a, .ref b1, .ref b1] st10 ?_
 refine own_b T10 m 9 #[vr wk, vr wp] [.ref wk, .ref a, .ref b1, .ref b1] (fun _ k_ => XS.aloadN X10.here hx rfl (hb hby d37_8) rfl rfl k_) ?_
 have f11 : Fld Z h1 wk cn0 "homeZones" "[I" (.ref h) := (Wf1.keep K2 nin0)
 obtain ⟨T12, X12, e12, st12⟩ := getF X10 hx hZ hown (host := "") (Or.inl (ww hw 274 rfl)) Via.refl e10 f11 (g := (mkF m 9 #[vr wk, vr wp] [.ref wk, .ref a, .ref b1, .ref b1])) rfl rfl (hb hby d37_9)
 refine own_b T12 m 12 #[vr wk, vr wp] [.ref h, .ref a, .ref b1, .ref b1] st12 ?_
 refine own_b T12 m 13 #[vr wk, vr wp] [.ref wk, .ref h, .ref a, .ref b1, .ref b1] (fun _ k_ => XS.aloadN X12.here hx rfl (hb hby d37_12) rfl rfl k_) ?_
 have f13 : Fld Z h1 wk cn0 "departures" "[I" (.ref dp) := (Wf2.keep K2 nin0)
 obtain ⟨T14, X14, e14, st14⟩ := getF X12 hx hZ hown (host := "") (Or.inl (ww hw 276 rfl)) Via.refl e12 f13 (g := (mkF m 13 #[vr wk, vr wp] [.ref wk, .ref h, .ref a, .ref b1, .ref b1])) rfl rfl (hb hby d37_13)
 refine own_b T14 m 16 #[vr wk, vr wp] [.ref dp, .ref h, .ref a, .ref b1, .ref b1] st14 ?_
 refine own_b T14 m 17 #[vr wk, vr wp] [.ref wp, .ref dp, .ref h, .ref a, .ref b1, .ref b1] (fun _ k_ => XS.aloadN X14.here hx rfl (hb hby d37_16) rfl rfl k_) ?_
 have f16 : Arv Z h1 wp kW .int (0 : Int32) [] (.int 0) := (Vp.keep K2 nin0)
 obtain ⟨cl15, Ar15, q15, S15, M15, H15, G15⟩ := id f16
 have f17 : Exa Z h1 wp "[I" := (E_p.keep K2)
 obtain ⟨T15, h15, X15, e15, E15, A15, B15, st15⟩ := cloneA X14 hx hZ hown (ww hw 286 rfl) (ww hw 287 rfl) (ww hw 291 rfl) (ww hw 289 rfl) (ww hw 290 rfl) (ww hw 292 rfl) e14 Ar15 f17 (fitC_of Ar15 fun i hi v hv => by rw [H15 i hi] at hv; cases hv; exact G15 i hi) (g := (mkF m 17 #[vr wk, vr wp] [.ref wp, .ref dp, .ref h, .ref a, .ref b1, .ref b1])) rfl (by rw [hml]; rfl) rfl (hb hby d37_17) (by decide) (W := 5) (cap := 0) (by show 2 * 0 + _ ≤ _; exact Nat.le_of_eq rfl) (by decide) (by rw [S15]; decide) (by decide) (by decide)
 obtain ⟨b15, g15⟩ : ∃ z, z = h1.size := ⟨_, rfl⟩
 rw [← g15] at A15 B15 st15
 have K18 : Keep h1 h15 [] := own_kext E15
 have zzK18 : h1.size ≤ h15.size := K18.1
 have oo19 : Old Z n0 h15 := oo3.keep K18 all0
 have kt20 : Keep h0 h15 [] := kt4.trans K18 all0
 have lab15 : b15 < h15.size := A15.lt
 have f21 : Arv Z h15 b15 kW .int (0 : Int32) [] (.int 0) := ⟨_, A15, q15, S15, M15, H15, G15⟩
 refine own_b T15 m 20 #[vr wk, vr wp] [.ref b15, .ref dp, .ref h, .ref a, .ref b1, .ref b1] st15 ?_
 obtain ⟨T22, X22, e22, st22⟩ := castY X15 hx hZ hown (ww hw 293 rfl) e15 (Ins.self B15) (g := (mkF m 20 #[vr wk, vr wp] [.ref b15, .ref dp, .ref h, .ref a, .ref b1, .ref b1])) rfl rfl (hb hby d37_20)
 refine own_b T22 m 23 #[vr wk, vr wp] [.ref b15, .ref dp, .ref h, .ref a, .ref b1, .ref b1] st22 ?_
 have f23 : Exa Z h15 b1 cn0 := (A1.keep K18)
 have f24 : Fld Z h15 b1 cn0 "jobs" cn4 .null := (f5.keep K18 nin0)
 have f25 : Fld Z h15 b1 cn0 "homeZones" "[I" .null := (f6.keep K18 nin0)
 have f26 : Fld Z h15 b1 cn0 "departures" "[I" .null := (f7.keep K18 nin0)
 have f27 : Fld Z h15 b1 cn0 "workplaces" "[I" .null := (f8.keep K18 nin0)
 obtain ⟨_, _, ⟨T28, L28, k28, n28⟩, -, X28, ⟨Lc28, hQ28, l28, y28, z28⟩, st28⟩ := X22.specialBack hx (y := (⟨cn0, "<init>", "(Lcom/example/even_commute/evencommute/demand/ZoneCounts;[I[I[I)V"⟩ : MethodName)) rfl hown (mvT hZ (ww hw 268 rfl)) (mvT hZ (ww hw 269 rfl)) (mvT hZ (ww hw 270 rfl)) (by decide) (backOf (W := 1) (rmWI4 l Z a0 hw [] wC cC wD kD mA mL mR GS b1 a h dp b15 h15 n0 (by omega) oo19 f23 (by omega) f24 f25 f26 f27) hZ (ww hw 270 rfl) (ww hw 103 rfl) (by decide) (by decide)) (g := (mkF m 23 #[vr wk, vr wp] [.ref b15, .ref dp, .ref h, .ref a, .ref b1, .ref b1])) rfl (by rw [hml]; rfl) (Steps.refl _) (a := b1) (argsL := [.ref a, .ref h, .ref dp, .ref b15]) (rest := [.ref b1]) (lenOf own_pd_22 rfl) rfl (by show 2 * 0 + _ ≤ _; exact Nat.le_of_eq rfl) (hb hby d37_23) (fun _ _ => ⟨rfl, e22, (by decide : 2 + 0 ≤ _), (by decide : 4 + 0 ≤ _)⟩)
 dsimp only [Pt.U, Pt.locs, Pt.cells, Pt.slots] at X28 l28 y28 z28 st28 hQ28
 subst l28 y28 z28
 obtain ⟨rfl, N28q, K28, p28_0, p28_1, p28_2, p28_3⟩ := hQ28
 have N29 := Fr.app N0 N28q
 have zzK28 : h15.size ≤ T28.heap.size := K28.1
 have oo30 : Old Z n0 T28.heap := oo19.keep K28 (allS (by omega : n0 ≤ b1) all0)
 have kt31 : Keep h0 T28.heap [] := kt20.trans K28 (allS (Or.inr (by omega : h0.size ≤ b1)) all0)
 refine own_b T28 m 26 #[vr wk, vr wp] [.ref b1] (fun _ k_ => st28.trans k_) ?_
 have ne32 : @Ne Nat b15 b1 := by omega
 have f33 : Arv Z T28.heap b15 kW .int (0 : Int32) [] (.int 0) := (f21.keep K28 (ninS ne32 nin0))
 have f34 : Exa Z T28.heap b1 cn0 := (f23.keep K28)
 obtain ⟨fs35, hr35, hrun35, hended35, hW35, hsame35⟩ := X28.leave (v := some (.ref b1)) (fun h => by rw [Bd.returns] at h; cases h)
 refine ⟨_, _, retOut X28 hx (t := (.object cn0)) Bd.returns rfl (Or.inr (Or.inr (Or.inr (Or.inr ⟨rfl, rfl, rfl⟩)))) (hb hby d37_26) hr35, hrun35, hended35, _, _, rfl, ?_, ⟨_, rfl⟩, hW35, hsame35.mono (by decide) (by decide)⟩
 show Q_rmWw_0 Z wC cC wD kD mA mL mR wk wp kW a h dp wq h0 n0 _ T28.heap _
 exact ⟨b1, b15, kW, rfl, N29, kt31, (by omega), (by omega), f34, p28_3, f33⟩
theorem d38_0 : decode prog_29_method_10_code 0 = .ok (.iconst 0, 1) := by decide +kernel
theorem d38_1 : decode prog_29_method_10_code 1 = .ok (.istore_n 1, 1) := by decide +kernel
theorem d38_2 : decode prog_29_method_10_code 2 = .ok (.aload_n 0, 1) := by decide +kernel
theorem d38_3 : decode prog_29_method_10_code 3 = .ok (.getfield 26, 3) := by decide +kernel
theorem d38_6 : decode prog_29_method_10_code 6 = .ok (.astore_n 2, 1) := by decide +kernel
theorem d38_7 : decode prog_29_method_10_code 7 = .ok (.aload_n 2, 1) := by decide +kernel
theorem d38_8 : decode prog_29_method_10_code 8 = .ok (.arraylength, 1) := by decide +kernel
theorem d38_9 : decode prog_29_method_10_code 9 = .ok (.istore_n 3, 1) := by decide +kernel
theorem d38_10 : decode prog_29_method_10_code 10 = .ok (.iconst 0, 1) := by decide +kernel
theorem d38_11 : decode prog_29_method_10_code 11 = .ok (.istore 4, 2) := by decide +kernel
theorem d38_13 : decode prog_29_method_10_code 13 = .ok (.iload 4, 2) := by decide +kernel
theorem d38_15 : decode prog_29_method_10_code 15 = .ok (.iload_n 3, 1) := by decide +kernel
theorem d38_16 : decode prog_29_method_10_code 16 = .ok (.if_icmp .ge 23, 3) := by decide +kernel
theorem d38_39 : decode prog_29_method_10_code 39 = .ok (.iload_n 1, 1) := by decide +kernel
theorem d38_40 : decode prog_29_method_10_code 40 = .ok (.ireturn, 1) := by decide +kernel
theorem own_ef_rmC0_0 (m : MethodId) (x0 : Addr) : entryFrame m #[.ref x0] 6 = mkF m 0 #[.val (.ref x0), .unset, .unset, .unset, .unset, .unset] [] := by first | (simp [entryFrame, mkF, argsToLocals, Value.category]; done) | rfl
def Q_rmC0_0 (Z : State) (wC : Addr) (cC : Cell) (wD : Addr) (kD : ClassId) (mA : Addr) (mL : Addr) (mR : Addr) (wk : Addr) (wp : Addr) (kW : ClassId) (h0 : Heap) (n0 : Nat) (vv_ : Option Value) (hh_ : Heap) (LL_ : List Loc) : Prop := vv_ = some (.int 0) ∧ Fr n0 LL_ ∧ hh_ = h0
theorem rmC0_0 (l : Launch) (Z : State) (a0 : Array Value) (hw : ∀ d ∈ tables_1, d.before a0 Z = true) (ws : List Jvm.Cond) (wC : Addr) (cC : Cell) (wD : Addr) (kD : ClassId) (mA : Addr) (mL : Addr) (mR : Addr) (GS : Glob Z wC cC wD kD mA mL mR) (wk : Addr) (wp : Addr) (kW : ClassId) (h0 : Heap) (n0 : Nat) (Z0 : n0 ≤ h0.size) (O0 : Old Z n0 h0) (E_w : Exa Z h0 wk cn0) (Wf3 : Fld Z h0 wk cn0 "workplaces" "[I" (.ref wp)) (Vp : Arv Z h0 wp kW .int (0 : Int32) [] (.int 0)) :
  MetFree l (⟨cn0, "getAssignedCount", "()I"⟩ : MethodName) (head1 (Jvm.Cond.code (⟨cn0, "getAssignedCount", "()I"⟩ : MethodName) prog_29_method_10_code 6 (some .int) :: ws) (⟨0, 0, 0, 0⟩ : Room)) (fun aa_ UU_ => aa_ = #[.ref wk] ∧ Z.Warmed39 UU_.vm ∧ UU_.heap = h0) (fun _ _ _ _ _ => True) (fun _ UU_ oo_ UV_ => ∃ vv_ LL_, oo_ = .returned vv_ ∧ Q_rmC0_0 Z wC cC wD kD mA mL mR wk wp kW h0 n0 vv_ UV_.heap LL_ ∧ FrameEnd UU_ oo_ UV_ LL_ (⟨0, 0, 0, 0⟩ : Room).cells (⟨0, 0, 0, 0⟩ : Room).slots) := by
 refine MetFree.of_bodySF (plainFor_of_name own_p2) hisR ?_
 intro p e s m args below meth c s₁ Bd hml0 hP hK
 obtain ⟨rfl, hZ, hh⟩ := hP
 have hx := Bd.exec
 have hby := Bd.bytes
 have hml : c.maxLocals = 6 := hml0
 have hown : s.vm.findClass cn0 = some m.cls := findClass_of_methodNamed Bd.named
 have hnm := (name_of_methodNamed Bd.named Bd.method).1
 have X0 : Stand p l e (⟨0, 0, 0, 0⟩ : Room) s m #[.ref wk] below meth c s₁ [] 0 0 := Stand.of_body Bd
 have e0 : s₁.heap = h0 := by rw [← hh, Bd.state]; rfl
 have N0 := Fr.nil n0
 have hn0 : Z.heap.size = n0 := O0.1
 have KT0 : Keep h0 h0 [] := Keep.refl _ _
 refine own_enter (Φ := fun oo_ UV_ => ∃ vv_ LL_, oo_ = .returned vv_ ∧ Q_rmC0_0 Z wC cC wD kD mA mL mR wk wp kW h0 n0 vv_ UV_.heap LL_ ∧ FrameEnd s oo_ UV_ LL_ (⟨0, 0, 0, 0⟩ : Room).cells (⟨0, 0, 0, 0⟩ : Room).slots) (own_ef_rmC0_0 m wk) ?_
 refine own_b s₁ m 3 #[vr wk, vi 0, un, un, un, un] [.ref wk] (fun _ k_ => XS.iconst X0.here hx rfl (hb hby d38_0) (XS.istoreN X0.here hx rfl (hb hby d38_1) rfl (l' := #[vr wk, vi 0, un, un, un, un]) rfl (XS.aloadN X0.here hx rfl (hb hby d38_2) rfl rfl k_))) ?_
 obtain ⟨T1, X1, e1, st1⟩ := getF X0 hx hZ hown (host := "") (Or.inl (ww hw 278 rfl)) Via.refl e0 Wf3 (g := (mkF m 3 #[vr wk, vi 0, un, un, un, un] [.ref wk])) rfl rfl (hb hby d38_3)
 refine own_b T1 m 6 #[vr wk, vi 0, un, un, un, un] [.ref wp] st1 ?_
 refine own_b T1 m 8 #[vr wk, vi 0, vr wp, un, un, un] [.ref wp] (fun _ k_ => XS.astoreN X1.here hx rfl (hb hby d38_6) rfl rfl (l' := #[vr wk, vi 0, vr wp, un, un, un]) rfl (XS.aloadN X1.here hx rfl (hb hby d38_7) rfl rfl k_)) ?_
 obtain ⟨cl2, Ar2, q2, S2, M2, H2, G2⟩ := id Vp
 refine own_b T1 m 9 #[vr wk, vi 0, vr wp, un, un, un] [.int 0] (fun _ k_ => X1.arraylength hx (by rw [e1]; exact Ar2.1) (State.isArrayOf_alike hZ.alike Ar2.2.1) (g := (mkF m 8 #[vr wk, vi 0, vr wp, un, un, un] [.ref wp])) rfl rfl (hb hby d38_8) _ (by rw [len_of S2 M2]; exact k_)) ?_
 refine own_b T1 m 40 #[vr wk, vi 0, vr wp, vi 0, vi 0, un] [.int 0] (fun _ k_ => XS.istoreN X1.here hx rfl (hb hby d38_9) rfl (l' := #[vr wk, vi 0, vr wp, vi 0, un, un]) rfl (XS.iconst X1.here hx rfl (hb hby d38_10) (XS.istore X1.here hx rfl (hb hby d38_11) rfl (l' := #[vr wk, vi 0, vr wp, vi 0, vi 0, un]) rfl (XS.iload X1.here hx rfl (hb hby d38_13) rfl (XS.iloadN X1.here hx rfl (hb hby d38_15) rfl (XS.icmpYes X1.here hx rfl (pc0 := 16) (pc' := 39) rfl (hb hby d38_16) rfl (XT.ii_ge_t (by decide)) (by decide) (by decide) (XS.iloadN X1.here hx rfl (hb hby d38_39) rfl k_))))))) ?_
 obtain ⟨fs3, hr3, hrun3, hended3, hW3, hsame3⟩ := X1.leave (v := some (.int 0)) (fun h => by rw [Bd.returns] at h; cases h)
 refine ⟨_, _, retOut X1 hx (t := .int) Bd.returns rfl (Or.inl ⟨rfl, Or.inl rfl, _, rfl⟩) (hb hby d38_40) hr3, hrun3, hended3, _, _, rfl, ?_, ⟨_, rfl⟩, hW3, hsame3.mono (by decide) (by decide)⟩
 show Q_rmC0_0 Z wC cC wD kD mA mL mR wk wp kW h0 n0 _ T1.heap _
 exact ⟨rfl, N0, e1⟩
theorem own_ef_rmCn_0 (m : MethodId) (x0 : Addr) : entryFrame m #[.ref x0] 6 = mkF m 0 #[.val (.ref x0), .unset, .unset, .unset, .unset, .unset] [] := by first | (simp [entryFrame, mkF, argsToLocals, Value.category]; done) | rfl
def Q_rmCn_0 (Z : State) (wC : Addr) (cC : Cell) (wD : Addr) (kD : ClassId) (mA : Addr) (mL : Addr) (mR : Addr) (wk : Addr) (wp : Addr) (kW : ClassId) (h0 : Heap) (n0 : Nat) (vv_ : Option Value) (hh_ : Heap) (LL_ : List Loc) : Prop := vv_ = some (.int 0) ∧ Fr n0 LL_ ∧ hh_ = h0
theorem rmCn_0 (l : Launch) (Z : State) (a0 : Array Value) (hw : ∀ d ∈ tables_1, d.before a0 Z = true) (ws : List Jvm.Cond) (wC : Addr) (cC : Cell) (wD : Addr) (kD : ClassId) (mA : Addr) (mL : Addr) (mR : Addr) (GS : Glob Z wC cC wD kD mA mL mR) (wk : Addr) (wp : Addr) (kW : ClassId) (h0 : Heap) (n0 : Nat) (Z0 : n0 ≤ h0.size) (O0 : Old Z n0 h0) (E_w : Exa Z h0 wk cn0) (Wf3 : Fld Z h0 wk cn0 "workplaces" "[I" (.ref wp)) (Vp : Arv Z h0 wp kW .int (0 : Int32) [] (.int 0)) :
  MetFree l (⟨cn0, "getAssignedCount", "()I"⟩ : MethodName) (head1 (Jvm.Cond.code (⟨cn0, "getAssignedCount", "()I"⟩ : MethodName) prog_29_method_10_code 6 (some .int) :: ws) (⟨0, 0, 0, 0⟩ : Room)) (fun aa_ UU_ => aa_ = #[.ref wk] ∧ Z.Warmed39 UU_.vm ∧ UU_.heap = h0) (fun _ _ _ _ _ => True) (fun _ UU_ oo_ UV_ => ∃ vv_ LL_, oo_ = .returned vv_ ∧ Q_rmCn_0 Z wC cC wD kD mA mL mR wk wp kW h0 n0 vv_ UV_.heap LL_ ∧ FrameEnd UU_ oo_ UV_ LL_ (⟨0, 0, 0, 0⟩ : Room).cells (⟨0, 0, 0, 0⟩ : Room).slots) := by
 refine MetFree.of_bodySF (plainFor_of_name own_p2) hisR ?_
 intro p e s m args below meth c s₁ Bd hml0 hP hK
 obtain ⟨rfl, hZ, hh⟩ := hP
 have hx := Bd.exec
 have hby := Bd.bytes
 have hml : c.maxLocals = 6 := hml0
 have hown : s.vm.findClass cn0 = some m.cls := findClass_of_methodNamed Bd.named
 have hnm := (name_of_methodNamed Bd.named Bd.method).1
 have X0 : Stand p l e (⟨0, 0, 0, 0⟩ : Room) s m #[.ref wk] below meth c s₁ [] 0 0 := Stand.of_body Bd
 have e0 : s₁.heap = h0 := by rw [← hh, Bd.state]; rfl
 have N0 := Fr.nil n0
 have hn0 : Z.heap.size = n0 := O0.1
 have KT0 : Keep h0 h0 [] := Keep.refl _ _
 refine own_enter (Φ := fun oo_ UV_ => ∃ vv_ LL_, oo_ = .returned vv_ ∧ Q_rmCn_0 Z wC cC wD kD mA mL mR wk wp kW h0 n0 vv_ UV_.heap LL_ ∧ FrameEnd s oo_ UV_ LL_ (⟨0, 0, 0, 0⟩ : Room).cells (⟨0, 0, 0, 0⟩ : Room).slots) (own_ef_rmCn_0 m wk) ?_
 refine own_b s₁ m 3 #[vr wk, vi 0, un, un, un, un] [.ref wk] (fun _ k_ => XS.iconst X0.here hx rfl (hb hby d38_0) (XS.istoreN X0.here hx rfl (hb hby d38_1) rfl (l' := #[vr wk, vi 0, un, un, un, un]) rfl (XS.aloadN X0.here hx rfl (hb hby d38_2) rfl rfl k_))) ?_
 obtain ⟨T1, X1, e1, st1⟩ := getF X0 hx hZ hown (host := "") (Or.inl (ww hw 278 rfl)) Via.refl e0 Wf3 (g := (mkF m 3 #[vr wk, vi 0, un, un, un, un] [.ref wk])) rfl rfl (hb hby d38_3)
 refine own_b T1 m 6 #[vr wk, vi 0, un, un, un, un] [.ref wp] st1 ?_
 refine own_b T1 m 8 #[vr wk, vi 0, vr wp, un, un, un] [.ref wp] (fun _ k_ => XS.astoreN X1.here hx rfl (hb hby d38_6) rfl rfl (l' := #[vr wk, vi 0, vr wp, un, un, un]) rfl (XS.aloadN X1.here hx rfl (hb hby d38_7) rfl rfl k_)) ?_
 obtain ⟨cl2, Ar2, q2, S2, M2, H2, G2⟩ := id Vp
 refine own_b T1 m 9 #[vr wk, vi 0, vr wp, un, un, un] [.int 0] (fun _ k_ => X1.arraylength hx (by rw [e1]; exact Ar2.1) (State.isArrayOf_alike hZ.alike Ar2.2.1) (g := (mkF m 8 #[vr wk, vi 0, vr wp, un, un, un] [.ref wp])) rfl rfl (hb hby d38_8) _ (by rw [len_of S2 M2]; exact k_)) ?_
 refine own_b T1 m 40 #[vr wk, vi 0, vr wp, vi 0, vi 0, un] [.int 0] (fun _ k_ => XS.istoreN X1.here hx rfl (hb hby d38_9) rfl (l' := #[vr wk, vi 0, vr wp, vi 0, un, un]) rfl (XS.iconst X1.here hx rfl (hb hby d38_10) (XS.istore X1.here hx rfl (hb hby d38_11) rfl (l' := #[vr wk, vi 0, vr wp, vi 0, vi 0, un]) rfl (XS.iload X1.here hx rfl (hb hby d38_13) rfl (XS.iloadN X1.here hx rfl (hb hby d38_15) rfl (XS.icmpYes X1.here hx rfl (pc0 := 16) (pc' := 39) rfl (hb hby d38_16) rfl (XT.ii_ge_t (by decide)) (by decide) (by decide) (XS.iloadN X1.here hx rfl (hb hby d38_39) rfl k_))))))) ?_
 obtain ⟨fs3, hr3, hrun3, hended3, hW3, hsame3⟩ := X1.leave (v := some (.int 0)) (fun h => by rw [Bd.returns] at h; cases h)
 refine ⟨_, _, retOut X1 hx (t := .int) Bd.returns rfl (Or.inl ⟨rfl, Or.inl rfl, _, rfl⟩) (hb hby d38_40) hr3, hrun3, hended3, _, _, rfl, ?_, ⟨_, rfl⟩, hW3, hsame3.mono (by decide) (by decide)⟩
 show Q_rmCn_0 Z wC cC wD kD mA mL mR wk wp kW h0 n0 _ T1.heap _
 exact ⟨rfl, N0, e1⟩
theorem own_ef_rmWI3_1 (m : MethodId) (x0 : Addr) (x1 : Addr) (x2 : Addr) (x3 : Addr) : entryFrame m #[.ref x0, .ref x1, .ref x2, .ref x3] 4 = mkF m 0 #[.val (.ref x0), .val (.ref x1), .val (.ref x2), .val (.ref x3)] [] := by first | (simp [entryFrame, mkF, argsToLocals, Value.category]; done) | rfl
def Q_rmWI3_1 (Z : State) (wC : Addr) (cC : Cell) (wD : Addr) (kD : ClassId) (mA : Addr) (mL : Addr) (mR : Addr) (wk : Addr) (dp : Addr) (kP : ClassId) (a : Addr) (al : Addr) (ct : Addr) (kC : ClassId) (t : Addr) (kE : ClassId) (b : Addr) (h0 : Heap) (n0 : Nat) (vv_ : Option Value) (hh_ : Heap) (LL_ : List Loc) : Prop := ∃ h : Addr, ∃ wp : Addr, ∃ kW : ClassId, vv_ = none ∧ Fr n0 LL_ ∧ Keep h0 hh_ [wk] ∧ h0.size ≤ wp ∧ Fld Z hh_ wk "com/example/even_commute/evencommute/demand/Workers" "jobs" "Lcom/example/even_commute/evencommute/demand/ZoneCounts;" (.ref a) ∧ Fld Z hh_ wk "com/example/even_commute/evencommute/demand/Workers" "homeZones" "[I" (.ref h) ∧ Fld Z hh_ wk "com/example/even_commute/evencommute/demand/Workers" "departures" "[I" (.ref dp) ∧ Fld Z hh_ wk "com/example/even_commute/evencommute/demand/Workers" "workplaces" "[I" (.ref wp) ∧ Arv Z hh_ wp kW .int (1 : Int32) [.int 0] (.int 0)
theorem rmWI3_1 (l : Launch) (Z : State) (a0 : Array Value) (hw : ∀ d ∈ tables_1, d.before a0 Z = true) (ws : List Jvm.Cond) (wC : Addr) (cC : Cell) (wD : Addr) (kD : ClassId) (mA : Addr) (mL : Addr) (mR : Addr) (GS : Glob Z wC cC wD kD mA mL mR) (wk : Addr) (dp : Addr) (kP : ClassId) (a : Addr) (al : Addr) (ct : Addr) (kC : ClassId) (t : Addr) (kE : ClassId) (b : Addr) (h0 : Heap) (n0 : Nat) (Z0 : n0 ≤ h0.size) (O0 : Old Z n0 h0) (E_w : Exa Z h0 wk cn0) (g_w : n0 ≤ wk) (Wf0 : Fld Z h0 wk cn0 "jobs" cn4 .null) (Wf1 : Fld Z h0 wk cn0 "homeZones" "[I" .null) (Wf2 : Fld Z h0 wk cn0 "departures" "[I" .null) (Wf3 : Fld Z h0 wk cn0 "workplaces" "[I" .null) (Vd : Arv Z h0 dp kP .int (1 : Int32) [.int 0] (.int 0)) (E_a : Exa Z h0 a cn1) (Ft : Fld Z h0 a cn1 "total" "I" (.int 1)) (Fz : Fld Z h0 a cn1 "zones" "Ljava/util/List;" (.ref al)) (Fc : Fld Z h0 a cn1 "counts" "[I" (.ref ct)) (Vc : Arv Z h0 ct kC .int (2 : Int32) [.int 0, .int 1] (.int 0)) (E_l : Exa Z h0 al cn2) (Fm : Fld Z h0 al "java/util/AbstractList" "modCount" "I" (.int 1)) (Fs : Fld Z h0 al cn2 "size" "I" (.int 1)) (Fe : Fld Z h0 al cn2 "elementData" "[Ljava/lang/Object;" (.ref t)) (Vt : Arv Z h0 t kE (.object "java/lang/Object") (10 : Int32) [.ref b, .null, .null, .null, .null, .null, .null, .null, .null, .null] .null) (E_b : Exa Z h0 b "java/lang/Integer") (F_b : Fld Z h0 b "java/lang/Integer" "value" "I" (.int 1)) :
  MetFree l (⟨cn0, "<init>", cn6⟩ : MethodName) (head1 (Jvm.Cond.code (⟨cn0, "<init>", cn6⟩ : MethodName) prog_29_method_1_code 4 none :: ws) (⟨7, 5, 10, 95⟩ : Room)) (fun aa_ UU_ => aa_ = #[.ref wk, .ref a, .ref a, .ref dp] ∧ Z.Warmed39 UU_.vm ∧ UU_.heap = h0) (fun _ _ _ _ _ => True) (fun _ UU_ oo_ UV_ => ∃ vv_ LL_, oo_ = .returned vv_ ∧ Q_rmWI3_1 Z wC cC wD kD mA mL mR wk dp kP a al ct kC t kE b h0 n0 vv_ UV_.heap LL_ ∧ FrameEnd UU_ oo_ UV_ LL_ (⟨7, 5, 10, 95⟩ : Room).cells (⟨7, 5, 10, 95⟩ : Room).slots) := by
 refine MetFree.of_bodySF (plainFor_of_name own_p2) hisR ?_
 intro p e s m args below meth c s₁ Bd hml0 hP hK
 obtain ⟨rfl, hZ, hh⟩ := hP
 have hx := Bd.exec
 have hby := Bd.bytes
 have hml : c.maxLocals = 4 := hml0
 have hown : s.vm.findClass cn0 = some m.cls := findClass_of_methodNamed Bd.named
 have hnm := (name_of_methodNamed Bd.named Bd.method).1
 have X0 : Stand p l e (⟨7, 5, 10, 95⟩ : Room) s m #[.ref wk, .ref a, .ref a, .ref dp] below meth c s₁ [] 0 0 := Stand.of_body Bd
 have e0 : s₁.heap = h0 := by rw [← hh, Bd.state]; rfl
 have N0 := Fr.nil n0
 have hn0 : Z.heap.size = n0 := O0.1
 have KT0 : Keep h0 h0 [wk] := Keep.refl _ _
 refine own_enter (Φ := fun oo_ UV_ => ∃ vv_ LL_, oo_ = .returned vv_ ∧ Q_rmWI3_1 Z wC cC wD kD mA mL mR wk dp kP a al ct kC t kE b h0 n0 vv_ UV_.heap LL_ ∧ FrameEnd s oo_ UV_ LL_ (⟨7, 5, 10, 95⟩ : Room).cells (⟨7, 5, 10, 95⟩ : Room).slots) (own_ef_rmWI3_1 m wk a a dp) ?_
 refine own_b s₁ m 3 #[vr wk, vr a, vr a, vr dp] [.ref a, .ref a, .ref wk] (fun _ k_ => XS.aloadN X0.here hx rfl (hb hby d15_0) rfl rfl (XS.aloadN X0.here hx rfl (hb hby d15_1) rfl rfl (XS.aloadN X0.here hx rfl (hb hby d15_2) rfl rfl k_))) ?_
 obtain ⟨_, _, ⟨T1, L1, k1, n1⟩, -, X1, ⟨Lc1, hQ1, l1, y1, z1⟩, st1⟩ := Jvm.LawKit.callS X0 hx (y := (⟨cn0, "homeZones", "(Lcom/example/even_commute/evencommute/demand/ZoneCounts;)[I"⟩ : MethodName)) hown (mvT hZ (ww hw 107 rfl)) (mvT hZ (ww hw 108 rfl)) (mvT hZ (ww hw 103 rfl)) (mvT hZ (ww hw 109 rfl)) (by decide) (backOf (W := 2) (rmHz_1 l Z a0 hw [] wC cC wD kD mA mL mR GS a al ct kC t kE b h0 n0 (by omega) O0 E_a Ft Fz Fc Vc E_l Fm Fs Fe Vt E_b F_b) hZ (ww hw 109 rfl) (ww hw 103 rfl) (by decide) (by decide)) (g := (mkF m 3 #[vr wk, vr a, vr a, vr dp] [.ref a, .ref a, .ref wk])) rfl (by rw [hml]; rfl) (argsL := [.ref a]) (rest := [.ref a, .ref wk]) (lenOf own_pd_21 rfl) rfl (by show 2 * 0 + _ ≤ _; exact Nat.le_of_eq rfl) (hb hby d15_3) (fun _ _ => ⟨rfl, e0, (by decide : 0 + 4 ≤ _), (by decide : 0 + 9 ≤ _)⟩)
 dsimp only [Pt.U, Pt.locs, Pt.cells, Pt.slots] at X1 l1 y1 z1 st1 hQ1
 subst l1 y1 z1
 obtain ⟨h_2, rfl, N1q, K1, p1_0⟩ := hQ1
 have N3 := Fr.app N0 N1q
 have gh_2 : h0.size ≤ h_2 := p1_0
 have zzK1 : h0.size ≤ T1.heap.size := K1.1
 have oo4 : Old Z n0 T1.heap := O0.keep K1 all0
 have kt5 : Keep h0 T1.heap [wk] := KT0.trans K1 all0
 refine own_b T1 m 6 #[vr wk, vr a, vr a, vr dp] [.ref h_2, .ref a, .ref wk] st1 ?_
 refine own_b T1 m 8 #[vr wk, vr a, vr a, vr dp] [.ref dp, .ref dp, .ref h_2, .ref a, .ref wk] (fun _ k_ => XS.aloadN X1.here hx rfl (hb hby d15_6) rfl rfl (XS.aloadN X1.here hx rfl (hb hby d15_7) rfl rfl k_)) ?_
 have f7 : Arv Z T1.heap dp kP .int (1 : Int32) [.int 0] (.int 0) := (Vd.keep K1 nin0)
 obtain ⟨cl6, Ar6, q6, S6, M6, H6, G6⟩ := id f7
 refine own_b T1 m 9 #[vr wk, vr a, vr a, vr dp] [.int 1, .ref dp, .ref h_2, .ref a, .ref wk] (fun _ k_ => X1.arraylength hx (by exact Ar6.1) (State.isArrayOf_alike hZ.alike Ar6.2.1) (g := (mkF m 8 #[vr wk, vr a, vr a, vr dp] [.ref dp, .ref dp, .ref h_2, .ref a, .ref wk])) rfl rfl (hb hby d15_8) _ (by rw [len_of S6 M6]; exact k_)) ?_
 obtain ⟨T8, h8, k8, X8, e8, E8, A8, st8⟩ := newP X1 hx hZ (ww hw 1 rfl) rfl (g := (mkF m 9 #[vr wk, vr a, vr a, vr dp] [.int 1, .ref dp, .ref h_2, .ref a, .ref wk])) rfl (hb hby d15_9) rfl (by decide) (cap := 1) (by decide) (by decide) (by decide) (by decide)
 obtain ⟨b8, g8⟩ : ∃ z, z = T1.heap.size := ⟨_, rfl⟩
 rw [← g8] at A8 st8
 have K9 : Keep T1.heap h8 [] := own_kext E8
 have zzK9 : T1.heap.size ≤ h8.size := K9.1
 have oo10 : Old Z n0 h8 := oo4.keep K9 all0
 have kt11 : Keep h0 h8 [wk] := kt5.trans K9 all0
 have lab8 : b8 < h8.size := A8.lt
 have f12 : Arv Z h8 b8 k8 .int (1 : Int32) [.int 0] (.int 0) := (Arv.new A8 (by decide)).pad (pad_rep [] (.int 0) 1)
 refine own_b T8 m 11 #[vr wk, vr a, vr a, vr dp] [.ref b8, .ref dp, .ref h_2, .ref a, .ref wk] st8 ?_
 have f13 : Exa Z h8 wk cn0 := ((E_w.keep K1).keep K9)
 have la14 : @LT.lt Nat instLTNat wk h0.size := E_w.lt
 have f15 : Fld Z h8 wk cn0 "jobs" cn4 .null := ((Wf0.keep K1 nin0).keep K9 nin0)
 have f16 : Fld Z h8 wk cn0 "homeZones" "[I" .null := ((Wf1.keep K1 nin0).keep K9 nin0)
 have f17 : Fld Z h8 wk cn0 "departures" "[I" .null := ((Wf2.keep K1 nin0).keep K9 nin0)
 have f18 : Fld Z h8 wk cn0 "workplaces" "[I" .null := ((Wf3.keep K1 nin0).keep K9 nin0)
 obtain ⟨_, _, ⟨T19, L19, k19, n19⟩, -, X19, ⟨Lc19, hQ19, l19, y19, z19⟩, st19⟩ := X8.specialBack hx (y := (⟨cn0, "<init>", "(Lcom/example/even_commute/evencommute/demand/ZoneCounts;[I[I[I)V"⟩ : MethodName)) rfl hown (mvT hZ (ww hw 268 rfl)) (mvT hZ (ww hw 269 rfl)) (mvT hZ (ww hw 270 rfl)) (by decide) (backOf (W := 0) (rmWI4 l Z a0 hw [] wC cC wD kD mA mL mR GS wk a h_2 dp b8 h8 n0 (by omega) oo10 f13 (by omega) f15 f16 f17 f18) hZ (ww hw 270 rfl) (ww hw 103 rfl) (by decide) (by decide)) (g := (mkF m 11 #[vr wk, vr a, vr a, vr dp] [.ref b8, .ref dp, .ref h_2, .ref a, .ref wk])) rfl (by rw [hml]; rfl) (Steps.refl _) (a := wk) (argsL := [.ref a, .ref h_2, .ref dp, .ref b8]) (rest := []) (lenOf own_pd_22 rfl) rfl (by show 2 * 0 + _ ≤ _; exact Nat.le_of_eq rfl) (hb hby d15_11) (fun _ _ => ⟨rfl, e8, (by decide : 5 + 0 ≤ _), (by decide : 10 + 0 ≤ _)⟩)
 dsimp only [Pt.U, Pt.locs, Pt.cells, Pt.slots] at X19 l19 y19 z19 st19 hQ19
 subst l19 y19 z19
 obtain ⟨rfl, N19q, K19, p19_0, p19_1, p19_2, p19_3⟩ := hQ19
 have N20 := Fr.app N3 N19q
 have zzK19 : h8.size ≤ T19.heap.size := K19.1
 have oo21 : Old Z n0 T19.heap := oo10.keep K19 (allS (by omega : n0 ≤ wk) all0)
 have kt22 : Keep h0 T19.heap [wk] := kt11.trans K19 (allS (Or.inl (List.mem_of_getElem? (i := 0) rfl)) all0)
 refine own_b T19 m 14 #[vr wk, vr a, vr a, vr dp] [] (fun _ k_ => st19.trans k_) ?_
 have ne23 : @Ne Nat b8 wk := by omega
 have f24 : Arv Z T19.heap b8 k8 .int (1 : Int32) [.int 0] (.int 0) := (f12.keep K19 (ninS ne23 nin0))
 obtain ⟨fs25, hr25, hrun25, hended25, hW25, hsame25⟩ := X19.leave (v := none) (fun _ => rfl)
 refine ⟨_, _, X19.returnOut hx Bd.returns (hb hby d15_14) hr25, hrun25, hended25, _, _, rfl, ?_, ⟨_, rfl⟩, hW25, hsame25.mono (by decide) (by decide)⟩
 show Q_rmWI3_1 Z wC cC wD kD mA mL mR wk dp kP a al ct kC t kE b h0 n0 _ T19.heap _
 exact ⟨h_2, b8, k8, rfl, N20, kt22, (by omega), p19_0, p19_1, p19_2, p19_3, f24⟩
theorem own_ef_rmWw_1 (m : MethodId) (x0 : Addr) (x1 : Addr) : entryFrame m #[.ref x0, .ref x1] 2 = mkF m 0 #[.val (.ref x0), .val (.ref x1)] [] := by first | (simp [entryFrame, mkF, argsToLocals, Value.category]; done) | rfl
def Q_rmWw_1 (Z : State) (wC : Addr) (cC : Cell) (wD : Addr) (kD : ClassId) (mA : Addr) (mL : Addr) (mR : Addr) (wk : Addr) (wp : Addr) (kW : ClassId) (a : Addr) (h : Addr) (dp : Addr) (wq : Addr) (v0 : Int32) (h0 : Heap) (n0 : Nat) (vv_ : Option Value) (hh_ : Heap) (LL_ : List Loc) : Prop := ∃ r : Addr, ∃ wr : Addr, ∃ kR : ClassId, vv_ = some (.ref r) ∧ Fr n0 LL_ ∧ Keep h0 hh_ [] ∧ h0.size ≤ r ∧ h0.size ≤ wr ∧ Exa Z hh_ r "com/example/even_commute/evencommute/demand/Workers" ∧ Fld Z hh_ r "com/example/even_commute/evencommute/demand/Workers" "workplaces" "[I" (.ref wr) ∧ Arv Z hh_ wr kR .int (1 : Int32) [.int v0] (.int 0)
theorem rmWw_1 (l : Launch) (Z : State) (a0 : Array Value) (hw : ∀ d ∈ tables_1, d.before a0 Z = true) (ws : List Jvm.Cond) (wC : Addr) (cC : Cell) (wD : Addr) (kD : ClassId) (mA : Addr) (mL : Addr) (mR : Addr) (GS : Glob Z wC cC wD kD mA mL mR) (wk : Addr) (wp : Addr) (kW : ClassId) (a : Addr) (h : Addr) (dp : Addr) (wq : Addr) (v0 : Int32) (h0 : Heap) (n0 : Nat) (Z0 : n0 ≤ h0.size) (O0 : Old Z n0 h0) (E_w : Exa Z h0 wk cn0) (E_p : Exa Z h0 wp "[I") (Vp : Arv Z h0 wp kW .int (1 : Int32) [.int v0] (.int 0)) (Wf0 : Fld Z h0 wk cn0 "jobs" cn4 (.ref a)) (Wf1 : Fld Z h0 wk cn0 "homeZones" "[I" (.ref h)) (Wf2 : Fld Z h0 wk cn0 "departures" "[I" (.ref dp)) (Wf3 : Fld Z h0 wk cn0 "workplaces" "[I" (.ref wq)) :
  MetFree l (⟨cn0, "withWorkplaces", "([I)Lcom/example/even_commute/evencommute/demand/Workers;"⟩ : MethodName) (head1 (Jvm.Cond.code (⟨cn0, "withWorkplaces", "([I)Lcom/example/even_commute/evencommute/demand/Workers;"⟩ : MethodName) prog_29_method_3_code 2 (some (.object cn0)) :: ws) (⟨2, 2, 5, 29⟩ : Room)) (fun aa_ UU_ => aa_ = #[.ref wk, .ref wp] ∧ Z.Warmed39 UU_.vm ∧ UU_.heap = h0) (fun _ _ _ _ _ => True) (fun _ UU_ oo_ UV_ => ∃ vv_ LL_, oo_ = .returned vv_ ∧ Q_rmWw_1 Z wC cC wD kD mA mL mR wk wp kW a h dp wq v0 h0 n0 vv_ UV_.heap LL_ ∧ FrameEnd UU_ oo_ UV_ LL_ (⟨2, 2, 5, 29⟩ : Room).cells (⟨2, 2, 5, 29⟩ : Room).slots) := by
 refine MetFree.of_bodySF (plainFor_of_name own_p2) hisR ?_
 intro p e s m args below meth c s₁ Bd hml0 hP hK
 obtain ⟨rfl, hZ, hh⟩ := hP
 have hx := Bd.exec
 have hby := Bd.bytes
 have hml : c.maxLocals = 2 := hml0
 have hown : s.vm.findClass cn0 = some m.cls := findClass_of_methodNamed Bd.named
 have hnm := (name_of_methodNamed Bd.named Bd.method).1
 have X0 : Stand p l e (⟨2, 2, 5, 29⟩ : Room) s m #[.ref wk, .ref wp] below meth c s₁ [] 0 0 := Stand.of_body Bd
 have e0 : s₁.heap = h0 := by rw [← hh, Bd.state]; rfl
 have N0 := Fr.nil n0
 have hn0 : Z.heap.size = n0 := O0.1
 have KT0 : Keep h0 h0 [] := Keep.refl _ _
 refine own_enter (Φ := fun oo_ UV_ => ∃ vv_ LL_, oo_ = .returned vv_ ∧ Q_rmWw_1 Z wC cC wD kD mA mL mR wk wp kW a h dp wq v0 h0 n0 vv_ UV_.heap LL_ ∧ FrameEnd s oo_ UV_ LL_ (⟨2, 2, 5, 29⟩ : Room).cells (⟨2, 2, 5, 29⟩ : Room).slots) (own_ef_rmWw_1 m wk wp) ?_
 obtain ⟨T1, h1, X1, e1, E1, A1, D1, -, st1⟩ := newO X0 hx hZ hown (ww hw 285 rfl) (ww hw 102 rfl) (ww hw 103 rfl) e0 (g := (mkF m 0 #[vr wk, vr wp] [])) rfl (hb hby d37_0) (by decide) (by decide)
 obtain ⟨b1, g1⟩ : ∃ z, z = h0.size := ⟨_, rfl⟩
 rw [← g1] at A1 D1 st1
 have K2 : Keep h0 h1 [] := own_kext E1
 have zzK2 : h0.size ≤ h1.size := K2.1
 have oo3 : Old Z n0 h1 := O0.keep K2 all0
 have kt4 : Keep h0 h1 [] := KT0.trans K2 all0
 have lab1 : b1 < h1.size := A1.lt
 have f5 : Fld Z h1 b1 cn0 "jobs" cn4 .null := D1 (Or.inr (ww hw 273 rfl)) (ty := (.object cn1)) (by decide)
 have f6 : Fld Z h1 b1 cn0 "homeZones" "[I" .null := D1 (Or.inr (ww hw 275 rfl)) (ty := (.array .int)) (by decide)
 have f7 : Fld Z h1 b1 cn0 "departures" "[I" .null := D1 (Or.inr (ww hw 277 rfl)) (ty := (.array .int)) (by decide)
 have f8 : Fld Z h1 b1 cn0 "workplaces" "[I" .null := D1 (Or.inr (ww hw 279 rfl)) (ty := (.array .int)) (by decide)
 refine own_b T1 m 3 #[vr wk, vr wp] [.ref b1] st1 ?_
 refine own_b T1 m 5 #[vr wk, vr wp] [.ref wk, .ref b1, .ref b1] (fun _ k_ => XS.dup X1.here hx rfl (hb hby d37_3) rfl rfl (XS.aloadN X1.here hx rfl (hb hby d37_4) rfl rfl k_)) ?_
 have f9 : Fld Z h1 wk cn0 "jobs" cn4 (.ref a) := (Wf0.keep K2 nin0)
 obtain ⟨T10, X10, e10, st10⟩ := getF X1 hx hZ hown (host := "") (Or.inl (ww hw 272 rfl)) Via.refl e1 f9 (g := (mkF m 5 #[vr wk, vr wp] [.ref wk, .ref b1, .ref b1])) rfl rfl (hb hby d37_5)
 refine own_b T10 m 8 #[vr wk, vr wp] [.ref a, .ref b1, .ref b1] st10 ?_
 refine own_b T10 m 9 #[vr wk, vr wp] [.ref wk, .ref a, .ref b1, .ref b1] (fun _ k_ => XS.aloadN X10.here hx rfl (hb hby d37_8) rfl rfl k_) ?_
 have f11 : Fld Z h1 wk cn0 "homeZones" "[I" (.ref h) := (Wf1.keep K2 nin0)
 obtain ⟨T12, X12, e12, st12⟩ := getF X10 hx hZ hown (host := "") (Or.inl (ww hw 274 rfl)) Via.refl e10 f11 (g := (mkF m 9 #[vr wk, vr wp] [.ref wk, .ref a, .ref b1, .ref b1])) rfl rfl (hb hby d37_9)
 refine own_b T12 m 12 #[vr wk, vr wp] [.ref h, .ref a, .ref b1, .ref b1] st12 ?_
 refine own_b T12 m 13 #[vr wk, vr wp] [.ref wk, .ref h, .ref a, .ref b1, .ref b1] (fun _ k_ => XS.aloadN X12.here hx rfl (hb hby d37_12) rfl rfl k_) ?_
 have f13 : Fld Z h1 wk cn0 "departures" "[I" (.ref dp) := (Wf2.keep K2 nin0)
 obtain ⟨T14, X14, e14, st14⟩ := getF X12 hx hZ hown (host := "") (Or.inl (ww hw 276 rfl)) Via.refl e12 f13 (g := (mkF m 13 #[vr wk, vr wp] [.ref wk, .ref h, .ref a, .ref b1, .ref b1])) rfl rfl (hb hby d37_13)
 refine own_b T14 m 16 #[vr wk, vr wp] [.ref dp, .ref h, .ref a, .ref b1, .ref b1] st14 ?_
 refine own_b T14 m 17 #[vr wk, vr wp] [.ref wp, .ref dp, .ref h, .ref a, .ref b1, .ref b1] (fun _ k_ => XS.aloadN X14.here hx rfl (hb hby d37_16) rfl rfl k_) ?_
 have f16 : Arv Z h1 wp kW .int (1 : Int32) [.int v0] (.int 0) := (Vp.keep K2 nin0)
 obtain ⟨cl15, Ar15, q15, S15, M15, H15, G15⟩ := id f16
 have f17 : Exa Z h1 wp "[I" := (E_p.keep K2)
 obtain ⟨T15, h15, X15, e15, E15, A15, B15, st15⟩ := cloneA X14 hx hZ hown (ww hw 286 rfl) (ww hw 287 rfl) (ww hw 291 rfl) (ww hw 289 rfl) (ww hw 290 rfl) (ww hw 292 rfl) e14 Ar15 f17 (fitC_of Ar15 fun i hi v hv => by rw [H15 i hi] at hv; cases hv; exact G15 i hi) (g := (mkF m 17 #[vr wk, vr wp] [.ref wp, .ref dp, .ref h, .ref a, .ref b1, .ref b1])) rfl (by rw [hml]; rfl) rfl (hb hby d37_17) (by decide) (W := 5) (cap := 1) (by show 2 * 0 + _ ≤ _; exact Nat.le_of_eq rfl) (by decide) (by rw [S15]; decide) (by decide) (by decide)
 obtain ⟨b15, g15⟩ : ∃ z, z = h1.size := ⟨_, rfl⟩
 rw [← g15] at A15 B15 st15
 have K18 : Keep h1 h15 [] := own_kext E15
 have zzK18 : h1.size ≤ h15.size := K18.1
 have oo19 : Old Z n0 h15 := oo3.keep K18 all0
 have kt20 : Keep h0 h15 [] := kt4.trans K18 all0
 have lab15 : b15 < h15.size := A15.lt
 have f21 : Arv Z h15 b15 kW .int (1 : Int32) [.int v0] (.int 0) := ⟨_, A15, q15, S15, M15, H15, G15⟩
 refine own_b T15 m 20 #[vr wk, vr wp] [.ref b15, .ref dp, .ref h, .ref a, .ref b1, .ref b1] st15 ?_
 obtain ⟨T22, X22, e22, st22⟩ := castY X15 hx hZ hown (ww hw 293 rfl) e15 (Ins.self B15) (g := (mkF m 20 #[vr wk, vr wp] [.ref b15, .ref dp, .ref h, .ref a, .ref b1, .ref b1])) rfl rfl (hb hby d37_20)
 refine own_b T22 m 23 #[vr wk, vr wp] [.ref b15, .ref dp, .ref h, .ref a, .ref b1, .ref b1] st22 ?_
 have f23 : Exa Z h15 b1 cn0 := (A1.keep K18)
 have f24 : Fld Z h15 b1 cn0 "jobs" cn4 .null := (f5.keep K18 nin0)
 have f25 : Fld Z h15 b1 cn0 "homeZones" "[I" .null := (f6.keep K18 nin0)
 have f26 : Fld Z h15 b1 cn0 "departures" "[I" .null := (f7.keep K18 nin0)
 have f27 : Fld Z h15 b1 cn0 "workplaces" "[I" .null := (f8.keep K18 nin0)
 obtain ⟨_, _, ⟨T28, L28, k28, n28⟩, -, X28, ⟨Lc28, hQ28, l28, y28, z28⟩, st28⟩ := X22.specialBack hx (y := (⟨cn0, "<init>", "(Lcom/example/even_commute/evencommute/demand/ZoneCounts;[I[I[I)V"⟩ : MethodName)) rfl hown (mvT hZ (ww hw 268 rfl)) (mvT hZ (ww hw 269 rfl)) (mvT hZ (ww hw 270 rfl)) (by decide) (backOf (W := 1) (rmWI4 l Z a0 hw [] wC cC wD kD mA mL mR GS b1 a h dp b15 h15 n0 (by omega) oo19 f23 (by omega) f24 f25 f26 f27) hZ (ww hw 270 rfl) (ww hw 103 rfl) (by decide) (by decide)) (g := (mkF m 23 #[vr wk, vr wp] [.ref b15, .ref dp, .ref h, .ref a, .ref b1, .ref b1])) rfl (by rw [hml]; rfl) (Steps.refl _) (a := b1) (argsL := [.ref a, .ref h, .ref dp, .ref b15]) (rest := [.ref b1]) (lenOf own_pd_22 rfl) rfl (by show 2 * 0 + _ ≤ _; exact Nat.le_of_eq rfl) (hb hby d37_23) (fun _ _ => ⟨rfl, e22, (by decide : 2 + 0 ≤ _), (by decide : 5 + 0 ≤ _)⟩)
 dsimp only [Pt.U, Pt.locs, Pt.cells, Pt.slots] at X28 l28 y28 z28 st28 hQ28
 subst l28 y28 z28
 obtain ⟨rfl, N28q, K28, p28_0, p28_1, p28_2, p28_3⟩ := hQ28
 have N29 := Fr.app N0 N28q
 have zzK28 : h15.size ≤ T28.heap.size := K28.1
 have oo30 : Old Z n0 T28.heap := oo19.keep K28 (allS (by omega : n0 ≤ b1) all0)
 have kt31 : Keep h0 T28.heap [] := kt20.trans K28 (allS (Or.inr (by omega : h0.size ≤ b1)) all0)
 refine own_b T28 m 26 #[vr wk, vr wp] [.ref b1] (fun _ k_ => st28.trans k_) ?_
 have ne32 : @Ne Nat b15 b1 := by omega
 have f33 : Arv Z T28.heap b15 kW .int (1 : Int32) [.int v0] (.int 0) := (f21.keep K28 (ninS ne32 nin0))
 have f34 : Exa Z T28.heap b1 cn0 := (f23.keep K28)
 obtain ⟨fs35, hr35, hrun35, hended35, hW35, hsame35⟩ := X28.leave (v := some (.ref b1)) (fun h => by rw [Bd.returns] at h; cases h)
 refine ⟨_, _, retOut X28 hx (t := (.object cn0)) Bd.returns rfl (Or.inr (Or.inr (Or.inr (Or.inr ⟨rfl, rfl, rfl⟩)))) (hb hby d37_26) hr35, hrun35, hended35, _, _, rfl, ?_, ⟨_, rfl⟩, hW35, hsame35.mono (by decide) (by decide)⟩
 show Q_rmWw_1 Z wC cC wD kD mA mL mR wk wp kW a h dp wq v0 h0 n0 _ T28.heap _
 exact ⟨b1, b15, kW, rfl, N29, kt31, (by omega), (by omega), f34, p28_3, f33⟩
theorem d38_19 : decode prog_29_method_10_code 19 = .ok (.aload_n 2, 1) := by decide +kernel
theorem d38_20 : decode prog_29_method_10_code 20 = .ok (.iload 4, 2) := by decide +kernel
theorem d38_22 : decode prog_29_method_10_code 22 = .ok (.iaload, 1) := by decide +kernel
theorem d38_23 : decode prog_29_method_10_code 23 = .ok (.istore 5, 2) := by decide +kernel
theorem d38_25 : decode prog_29_method_10_code 25 = .ok (.iload 5, 2) := by decide +kernel
theorem d38_27 : decode prog_29_method_10_code 27 = .ok (.ifCond .eq 6, 3) := by decide +kernel
theorem d38_33 : decode prog_29_method_10_code 33 = .ok (.iinc 4 1, 3) := by decide +kernel
theorem d38_36 : decode prog_29_method_10_code 36 = .ok (.goto (-23), 3) := by decide +kernel
theorem own_ef_rmC0_1 (m : MethodId) (x0 : Addr) : entryFrame m #[.ref x0] 6 = mkF m 0 #[.val (.ref x0), .unset, .unset, .unset, .unset, .unset] [] := by first | (simp [entryFrame, mkF, argsToLocals, Value.category]; done) | rfl
def Q_rmC0_1 (Z : State) (wC : Addr) (cC : Cell) (wD : Addr) (kD : ClassId) (mA : Addr) (mL : Addr) (mR : Addr) (wk : Addr) (wp : Addr) (kW : ClassId) (h0 : Heap) (n0 : Nat) (vv_ : Option Value) (hh_ : Heap) (LL_ : List Loc) : Prop := vv_ = some (.int 0) ∧ Fr n0 LL_ ∧ hh_ = h0
theorem rmC0_1 (l : Launch) (Z : State) (a0 : Array Value) (hw : ∀ d ∈ tables_1, d.before a0 Z = true) (ws : List Jvm.Cond) (wC : Addr) (cC : Cell) (wD : Addr) (kD : ClassId) (mA : Addr) (mL : Addr) (mR : Addr) (GS : Glob Z wC cC wD kD mA mL mR) (wk : Addr) (wp : Addr) (kW : ClassId) (h0 : Heap) (n0 : Nat) (Z0 : n0 ≤ h0.size) (O0 : Old Z n0 h0) (E_w : Exa Z h0 wk cn0) (Wf3 : Fld Z h0 wk cn0 "workplaces" "[I" (.ref wp)) (Vp : Arv Z h0 wp kW .int (1 : Int32) [.int 0] (.int 0)) :
  MetFree l (⟨cn0, "getAssignedCount", "()I"⟩ : MethodName) (head1 (Jvm.Cond.code (⟨cn0, "getAssignedCount", "()I"⟩ : MethodName) prog_29_method_10_code 6 (some .int) :: ws) (⟨0, 0, 0, 0⟩ : Room)) (fun aa_ UU_ => aa_ = #[.ref wk] ∧ Z.Warmed39 UU_.vm ∧ UU_.heap = h0) (fun _ _ _ _ _ => True) (fun _ UU_ oo_ UV_ => ∃ vv_ LL_, oo_ = .returned vv_ ∧ Q_rmC0_1 Z wC cC wD kD mA mL mR wk wp kW h0 n0 vv_ UV_.heap LL_ ∧ FrameEnd UU_ oo_ UV_ LL_ (⟨0, 0, 0, 0⟩ : Room).cells (⟨0, 0, 0, 0⟩ : Room).slots) := by
 refine MetFree.of_bodySF (plainFor_of_name own_p2) hisR ?_
 intro p e s m args below meth c s₁ Bd hml0 hP hK
 obtain ⟨rfl, hZ, hh⟩ := hP
 have hx := Bd.exec
 have hby := Bd.bytes
 have hml : c.maxLocals = 6 := hml0
 have hown : s.vm.findClass cn0 = some m.cls := findClass_of_methodNamed Bd.named
 have hnm := (name_of_methodNamed Bd.named Bd.method).1
 have X0 : Stand p l e (⟨0, 0, 0, 0⟩ : Room) s m #[.ref wk] below meth c s₁ [] 0 0 := Stand.of_body Bd
 have e0 : s₁.heap = h0 := by rw [← hh, Bd.state]; rfl
 have N0 := Fr.nil n0
 have hn0 : Z.heap.size = n0 := O0.1
 have KT0 : Keep h0 h0 [] := Keep.refl _ _
 refine own_enter (Φ := fun oo_ UV_ => ∃ vv_ LL_, oo_ = .returned vv_ ∧ Q_rmC0_1 Z wC cC wD kD mA mL mR wk wp kW h0 n0 vv_ UV_.heap LL_ ∧ FrameEnd s oo_ UV_ LL_ (⟨0, 0, 0, 0⟩ : Room).cells (⟨0, 0, 0, 0⟩ : Room).slots) (own_ef_rmC0_1 m wk) ?_
 refine own_b s₁ m 3 #[vr wk, vi 0, un, un, un, un] [.ref wk] (fun _ k_ => XS.iconst X0.here hx rfl (hb hby d38_0) (XS.istoreN X0.here hx rfl (hb hby d38_1) rfl (l' := #[vr wk, vi 0, un, un, un, un]) rfl (XS.aloadN X0.here hx rfl (hb hby d38_2) rfl rfl k_))) ?_
 obtain ⟨T1, X1, e1, st1⟩ := getF X0 hx hZ hown (host := "") (Or.inl (ww hw 278 rfl)) Via.refl e0 Wf3 (g := (mkF m 3 #[vr wk, vi 0, un, un, un, un] [.ref wk])) rfl rfl (hb hby d38_3)
 refine own_b T1 m 6 #[vr wk, vi 0, un, un, un, un] [.ref wp] st1 ?_
 refine own_b T1 m 8 #[vr wk, vi 0, vr wp, un, un, un] [.ref wp] (fun _ k_ => XS.astoreN X1.here hx rfl (hb hby d38_6) rfl rfl (l' := #[vr wk, vi 0, vr wp, un, un, un]) rfl (XS.aloadN X1.here hx rfl (hb hby d38_7) rfl rfl k_)) ?_
 obtain ⟨cl2, Ar2, q2, S2, M2, H2, G2⟩ := id Vp
 refine own_b T1 m 9 #[vr wk, vi 0, vr wp, un, un, un] [.int 1] (fun _ k_ => X1.arraylength hx (by rw [e1]; exact Ar2.1) (State.isArrayOf_alike hZ.alike Ar2.2.1) (g := (mkF m 8 #[vr wk, vi 0, vr wp, un, un, un] [.ref wp])) rfl rfl (hb hby d38_8) _ (by rw [len_of S2 M2]; exact k_)) ?_
 refine own_b T1 m 22 #[vr wk, vi 0, vr wp, vi 1, vi 0, un] [.int 0, .ref wp] (fun _ k_ => XS.istoreN X1.here hx rfl (hb hby d38_9) rfl (l' := #[vr wk, vi 0, vr wp, vi 1, un, un]) rfl (XS.iconst X1.here hx rfl (hb hby d38_10) (XS.istore X1.here hx rfl (hb hby d38_11) rfl (l' := #[vr wk, vi 0, vr wp, vi 1, vi 0, un]) rfl (XS.iload X1.here hx rfl (hb hby d38_13) rfl (XS.iloadN X1.here hx rfl (hb hby d38_15) rfl (XS.icmpNo X1.here hx rfl (hb hby d38_16) rfl (XT.ii_ge_f (by decide)) (XS.aloadN X1.here hx rfl (hb hby d38_19) rfl rfl (XS.iload X1.here hx rfl (hb hby d38_20) rfl k_)))))))) ?_
 obtain ⟨cl3, Ar3, q3, S3, M3, H3, G3⟩ := id Vp
 have hin3 : ¬ ((0 : Int32) < 0 ∨ cl3.slots.size ≤ ((0 : Int32)).toNatClampNeg) := inb_of S3 ⟨by decide, by decide⟩
 have hat3 : cl3.slots[((0 : Int32)).toNatClampNeg]? = some (.int 0) := H3.at hin3 rfl
 refine own_b T1 m 23 #[vr wk, vi 0, vr wp, vi 1, vi 0, un] [.int 0] (fun _ k_ => X1.iaload hx (j := (0 : Int32)) (v := (.int 0)) (by rw [e1]; exact Ar3.1) (State.isArrayOf_alike hZ.alike Ar3.2.1) Ar3.2.2 hin3 hat3 (g := (mkF m 22 #[vr wk, vi 0, vr wp, vi 1, vi 0, un] [.int 0, .ref wp])) rfl rfl (hb hby d38_22) _ k_) ?_
 refine own_b T1 m 36 #[vr wk, vi 0, vr wp, vi 1, .val (.int ((0 : Int32) + (1 : Int32))), vi 0] [] (fun _ k_ => XS.istore X1.here hx rfl (hb hby d38_23) rfl (l' := #[vr wk, vi 0, vr wp, vi 1, vi 0, vi 0]) rfl (XS.iload X1.here hx rfl (hb hby d38_25) rfl (XS.ifYes X1.here hx rfl (pc0 := 27) (pc' := 33) rfl (hb hby d38_27) rfl (XT.i0_eq_t (by decide)) (by decide) (by decide) (XS.iinc X1.here hx rfl (hb hby d38_33) rfl rfl k_)))) ?_
 rw [show ((0 : Int32) + (1 : Int32)) = (1 : Int32) from by decide]
 refine own_b T1 m 40 #[vr wk, vi 0, vr wp, vi 1, vi 1, vi 0] [.int 0] (fun _ k_ => XS.goto X1.here hx rfl (pc0 := 36) (pc' := 13) rfl (hb hby d38_36) (by decide) (by decide) (XS.iload X1.here hx rfl (hb hby d38_13) rfl (XS.iloadN X1.here hx rfl (hb hby d38_15) rfl (XS.icmpYes X1.here hx rfl (pc0 := 16) (pc' := 39) rfl (hb hby d38_16) rfl (XT.ii_ge_t (by decide)) (by decide) (by decide) (XS.iloadN X1.here hx rfl (hb hby d38_39) rfl k_))))) ?_
 obtain ⟨fs4, hr4, hrun4, hended4, hW4, hsame4⟩ := X1.leave (v := some (.int 0)) (fun h => by rw [Bd.returns] at h; cases h)
 refine ⟨_, _, retOut X1 hx (t := .int) Bd.returns rfl (Or.inl ⟨rfl, Or.inl rfl, _, rfl⟩) (hb hby d38_40) hr4, hrun4, hended4, _, _, rfl, ?_, ⟨_, rfl⟩, hW4, hsame4.mono (by decide) (by decide)⟩
 show Q_rmC0_1 Z wC cC wD kD mA mL mR wk wp kW h0 n0 _ T1.heap _
 exact ⟨rfl, N0, e1⟩
theorem d38_30 : decode prog_29_method_10_code 30 = .ok (.iinc 1 1, 3) := by decide +kernel
theorem own_ef_rmCn_1 (m : MethodId) (x0 : Addr) : entryFrame m #[.ref x0] 6 = mkF m 0 #[.val (.ref x0), .unset, .unset, .unset, .unset, .unset] [] := by first | (simp [entryFrame, mkF, argsToLocals, Value.category]; done) | rfl
def Q_rmCn_1 (Z : State) (wC : Addr) (cC : Cell) (wD : Addr) (kD : ClassId) (mA : Addr) (mL : Addr) (mR : Addr) (wk : Addr) (wp : Addr) (kW : ClassId) (v0 : Int32) (h0 : Heap) (n0 : Nat) (vv_ : Option Value) (hh_ : Heap) (LL_ : List Loc) : Prop := vv_ = some (.int (if v0 = (0 : Int32) then (0 : Int32) else (1 : Int32))) ∧ Fr n0 LL_ ∧ hh_ = h0
theorem rmCn_1 (l : Launch) (Z : State) (a0 : Array Value) (hw : ∀ d ∈ tables_1, d.before a0 Z = true) (ws : List Jvm.Cond) (wC : Addr) (cC : Cell) (wD : Addr) (kD : ClassId) (mA : Addr) (mL : Addr) (mR : Addr) (GS : Glob Z wC cC wD kD mA mL mR) (wk : Addr) (wp : Addr) (kW : ClassId) (v0 : Int32) (h0 : Heap) (n0 : Nat) (Z0 : n0 ≤ h0.size) (O0 : Old Z n0 h0) (E_w : Exa Z h0 wk cn0) (Wf3 : Fld Z h0 wk cn0 "workplaces" "[I" (.ref wp)) (Vp : Arv Z h0 wp kW .int (1 : Int32) [.int v0] (.int 0)) :
  MetFree l (⟨cn0, "getAssignedCount", "()I"⟩ : MethodName) (head1 (Jvm.Cond.code (⟨cn0, "getAssignedCount", "()I"⟩ : MethodName) prog_29_method_10_code 6 (some .int) :: ws) (⟨0, 0, 0, 0⟩ : Room)) (fun aa_ UU_ => aa_ = #[.ref wk] ∧ Z.Warmed39 UU_.vm ∧ UU_.heap = h0) (fun _ _ _ _ _ => True) (fun _ UU_ oo_ UV_ => ∃ vv_ LL_, oo_ = .returned vv_ ∧ Q_rmCn_1 Z wC cC wD kD mA mL mR wk wp kW v0 h0 n0 vv_ UV_.heap LL_ ∧ FrameEnd UU_ oo_ UV_ LL_ (⟨0, 0, 0, 0⟩ : Room).cells (⟨0, 0, 0, 0⟩ : Room).slots) := by
 refine MetFree.of_bodySF (plainFor_of_name own_p2) hisR ?_
 intro p e s m args below meth c s₁ Bd hml0 hP hK
 obtain ⟨rfl, hZ, hh⟩ := hP
 have hx := Bd.exec
 have hby := Bd.bytes
 have hml : c.maxLocals = 6 := hml0
 have hown : s.vm.findClass cn0 = some m.cls := findClass_of_methodNamed Bd.named
 have hnm := (name_of_methodNamed Bd.named Bd.method).1
 have X0 : Stand p l e (⟨0, 0, 0, 0⟩ : Room) s m #[.ref wk] below meth c s₁ [] 0 0 := Stand.of_body Bd
 have e0 : s₁.heap = h0 := by rw [← hh, Bd.state]; rfl
 have N0 := Fr.nil n0
 have hn0 : Z.heap.size = n0 := O0.1
 have KT0 : Keep h0 h0 [] := Keep.refl _ _
 refine own_enter (Φ := fun oo_ UV_ => ∃ vv_ LL_, oo_ = .returned vv_ ∧ Q_rmCn_1 Z wC cC wD kD mA mL mR wk wp kW v0 h0 n0 vv_ UV_.heap LL_ ∧ FrameEnd s oo_ UV_ LL_ (⟨0, 0, 0, 0⟩ : Room).cells (⟨0, 0, 0, 0⟩ : Room).slots) (own_ef_rmCn_1 m wk) ?_
 refine own_b s₁ m 3 #[vr wk, vi 0, un, un, un, un] [.ref wk] (fun _ k_ => XS.iconst X0.here hx rfl (hb hby d38_0) (XS.istoreN X0.here hx rfl (hb hby d38_1) rfl (l' := #[vr wk, vi 0, un, un, un, un]) rfl (XS.aloadN X0.here hx rfl (hb hby d38_2) rfl rfl k_))) ?_
 obtain ⟨T1, X1, e1, st1⟩ := getF X0 hx hZ hown (host := "") (Or.inl (ww hw 278 rfl)) Via.refl e0 Wf3 (g := (mkF m 3 #[vr wk, vi 0, un, un, un, un] [.ref wk])) rfl rfl (hb hby d38_3)
 refine own_b T1 m 6 #[vr wk, vi 0, un, un, un, un] [.ref wp] st1 ?_
 refine own_b T1 m 8 #[vr wk, vi 0, vr wp, un, un, un] [.ref wp] (fun _ k_ => XS.astoreN X1.here hx rfl (hb hby d38_6) rfl rfl (l' := #[vr wk, vi 0, vr wp, un, un, un]) rfl (XS.aloadN X1.here hx rfl (hb hby d38_7) rfl rfl k_)) ?_
 obtain ⟨cl2, Ar2, q2, S2, M2, H2, G2⟩ := id Vp
 refine own_b T1 m 9 #[vr wk, vi 0, vr wp, un, un, un] [.int 1] (fun _ k_ => X1.arraylength hx (by rw [e1]; exact Ar2.1) (State.isArrayOf_alike hZ.alike Ar2.2.1) (g := (mkF m 8 #[vr wk, vi 0, vr wp, un, un, un] [.ref wp])) rfl rfl (hb hby d38_8) _ (by rw [len_of S2 M2]; exact k_)) ?_
 refine own_b T1 m 22 #[vr wk, vi 0, vr wp, vi 1, vi 0, un] [.int 0, .ref wp] (fun _ k_ => XS.istoreN X1.here hx rfl (hb hby d38_9) rfl (l' := #[vr wk, vi 0, vr wp, vi 1, un, un]) rfl (XS.iconst X1.here hx rfl (hb hby d38_10) (XS.istore X1.here hx rfl (hb hby d38_11) rfl (l' := #[vr wk, vi 0, vr wp, vi 1, vi 0, un]) rfl (XS.iload X1.here hx rfl (hb hby d38_13) rfl (XS.iloadN X1.here hx rfl (hb hby d38_15) rfl (XS.icmpNo X1.here hx rfl (hb hby d38_16) rfl (XT.ii_ge_f (by decide)) (XS.aloadN X1.here hx rfl (hb hby d38_19) rfl rfl (XS.iload X1.here hx rfl (hb hby d38_20) rfl k_)))))))) ?_
 obtain ⟨cl3, Ar3, q3, S3, M3, H3, G3⟩ := id Vp
 have hin3 : ¬ ((0 : Int32) < 0 ∨ cl3.slots.size ≤ ((0 : Int32)).toNatClampNeg) := inb_of S3 ⟨by decide, by decide⟩
 have hat3 : cl3.slots[((0 : Int32)).toNatClampNeg]? = some (.int v0) := H3.at hin3 rfl
 refine own_b T1 m 23 #[vr wk, vi 0, vr wp, vi 1, vi 0, un] [.int v0] (fun _ k_ => X1.iaload hx (j := (0 : Int32)) (v := (.int v0)) (by rw [e1]; exact Ar3.1) (State.isArrayOf_alike hZ.alike Ar3.2.1) Ar3.2.2 hin3 hat3 (g := (mkF m 22 #[vr wk, vi 0, vr wp, vi 1, vi 0, un] [.int 0, .ref wp])) rfl rfl (hb hby d38_22) _ k_) ?_
 refine own_b T1 m 27 #[vr wk, vi 0, vr wp, vi 1, vi 0, vi v0] [.int v0] (fun _ k_ => XS.istore X1.here hx rfl (hb hby d38_23) rfl (l' := #[vr wk, vi 0, vr wp, vi 1, vi 0, vi v0]) rfl (XS.iload X1.here hx rfl (hb hby d38_25) rfl k_)) ?_
 by_cases hc4 : v0 = (0 : Int32)
 ·refine own_b T1 m 36 #[vr wk, vi 0, vr wp, vi 1, .val (.int ((0 : Int32) + (1 : Int32))), vi v0] [] (fun _ k_ => XS.ifYes X1.here hx rfl (pc0 := 27) (pc' := 33) rfl (hb hby d38_27) rfl (XT.i0_eq_t hc4) (by decide) (by decide) (XS.iinc X1.here hx rfl (hb hby d38_33) rfl rfl k_)) ?_
  rw [show ((0 : Int32) + (1 : Int32)) = (1 : Int32) from by decide]
  refine own_b T1 m 40 #[vr wk, vi 0, vr wp, vi 1, vi 1, vi v0] [.int 0] (fun _ k_ => XS.goto X1.here hx rfl (pc0 := 36) (pc' := 13) rfl (hb hby d38_36) (by decide) (by decide) (XS.iload X1.here hx rfl (hb hby d38_13) rfl (XS.iloadN X1.here hx rfl (hb hby d38_15) rfl (XS.icmpYes X1.here hx rfl (pc0 := 16) (pc' := 39) rfl (hb hby d38_16) rfl (XT.ii_ge_t (by decide)) (by decide) (by decide) (XS.iloadN X1.here hx rfl (hb hby d38_39) rfl k_))))) ?_
  have hr5 : (0 : Int32) = (if v0 = (0 : Int32) then (0 : Int32) else (1 : Int32)) := by simp [hc4]
  obtain ⟨fs6, hr6, hrun6, hended6, hW6, hsame6⟩ := X1.leave (v := some (.int 0)) (fun h => by rw [Bd.returns] at h; cases h)
  refine ⟨_, _, retOut X1 hx (t := .int) Bd.returns rfl (Or.inl ⟨rfl, Or.inl rfl, _, rfl⟩) (hb hby d38_40) hr6, hrun6, hended6, _, _, rfl, ?_, ⟨_, rfl⟩, hW6, hsame6.mono (by decide) (by decide)⟩
  show Q_rmCn_1 Z wC cC wD kD mA mL mR wk wp kW v0 h0 n0 _ T1.heap _
  exact ⟨(congrArg (fun z => some (Value.int z)) hr5), N0, e1⟩
 ·refine own_b T1 m 33 #[vr wk, .val (.int ((0 : Int32) + (1 : Int32))), vr wp, vi 1, vi 0, vi v0] [] (fun _ k_ => XS.ifNo X1.here hx rfl (hb hby d38_27) rfl (XT.i0_eq_f hc4) (XS.iinc X1.here hx rfl (hb hby d38_30) rfl rfl k_)) ?_
  rw [show ((0 : Int32) + (1 : Int32)) = (1 : Int32) from by decide]
  refine own_b T1 m 36 #[vr wk, vi 1, vr wp, vi 1, .val (.int ((0 : Int32) + (1 : Int32))), vi v0] [] (fun _ k_ => XS.iinc X1.here hx rfl (hb hby d38_33) rfl rfl k_) ?_
  rw [show ((0 : Int32) + (1 : Int32)) = (1 : Int32) from by decide]
  refine own_b T1 m 40 #[vr wk, vi 1, vr wp, vi 1, vi 1, vi v0] [.int 1] (fun _ k_ => XS.goto X1.here hx rfl (pc0 := 36) (pc' := 13) rfl (hb hby d38_36) (by decide) (by decide) (XS.iload X1.here hx rfl (hb hby d38_13) rfl (XS.iloadN X1.here hx rfl (hb hby d38_15) rfl (XS.icmpYes X1.here hx rfl (pc0 := 16) (pc' := 39) rfl (hb hby d38_16) rfl (XT.ii_ge_t (by decide)) (by decide) (by decide) (XS.iloadN X1.here hx rfl (hb hby d38_39) rfl k_))))) ?_
  have hr7 : (1 : Int32) = (if v0 = (0 : Int32) then (0 : Int32) else (1 : Int32)) := by simp [hc4]
  obtain ⟨fs8, hr8, hrun8, hended8, hW8, hsame8⟩ := X1.leave (v := some (.int 1)) (fun h => by rw [Bd.returns] at h; cases h)
  refine ⟨_, _, retOut X1 hx (t := .int) Bd.returns rfl (Or.inl ⟨rfl, Or.inl rfl, _, rfl⟩) (hb hby d38_40) hr8, hrun8, hended8, _, _, rfl, ?_, ⟨_, rfl⟩, hW8, hsame8.mono (by decide) (by decide)⟩
  show Q_rmCn_1 Z wC cC wD kD mA mL mR wk wp kW v0 h0 n0 _ T1.heap _
  exact ⟨(congrArg (fun z => some (Value.int z)) hr7), N0, e1⟩
theorem own_ef_rmWI3_2 (m : MethodId) (x0 : Addr) (x1 : Addr) (x2 : Addr) (x3 : Addr) : entryFrame m #[.ref x0, .ref x1, .ref x2, .ref x3] 4 = mkF m 0 #[.val (.ref x0), .val (.ref x1), .val (.ref x2), .val (.ref x3)] [] := by first | (simp [entryFrame, mkF, argsToLocals, Value.category]; done) | rfl
def Q_rmWI3_2 (Z : State) (wC : Addr) (cC : Cell) (wD : Addr) (kD : ClassId) (mA : Addr) (mL : Addr) (mR : Addr) (wk : Addr) (dp : Addr) (kP : ClassId) (a : Addr) (al : Addr) (ct : Addr) (kC : ClassId) (t : Addr) (kE : ClassId) (b : Addr) (h0 : Heap) (n0 : Nat) (vv_ : Option Value) (hh_ : Heap) (LL_ : List Loc) : Prop := ∃ h : Addr, ∃ wp : Addr, ∃ kW : ClassId, vv_ = none ∧ Fr n0 LL_ ∧ Keep h0 hh_ [wk] ∧ h0.size ≤ wp ∧ Fld Z hh_ wk "com/example/even_commute/evencommute/demand/Workers" "jobs" "Lcom/example/even_commute/evencommute/demand/ZoneCounts;" (.ref a) ∧ Fld Z hh_ wk "com/example/even_commute/evencommute/demand/Workers" "homeZones" "[I" (.ref h) ∧ Fld Z hh_ wk "com/example/even_commute/evencommute/demand/Workers" "departures" "[I" (.ref dp) ∧ Fld Z hh_ wk "com/example/even_commute/evencommute/demand/Workers" "workplaces" "[I" (.ref wp) ∧ Arv Z hh_ wp kW .int (2 : Int32) [.int 0, .int 0] (.int 0)
theorem rmWI3_2 (l : Launch) (Z : State) (a0 : Array Value) (hw : ∀ d ∈ tables_1, d.before a0 Z = true) (ws : List Jvm.Cond) (wC : Addr) (cC : Cell) (wD : Addr) (kD : ClassId) (mA : Addr) (mL : Addr) (mR : Addr) (GS : Glob Z wC cC wD kD mA mL mR) (wk : Addr) (dp : Addr) (kP : ClassId) (a : Addr) (al : Addr) (ct : Addr) (kC : ClassId) (t : Addr) (kE : ClassId) (b : Addr) (h0 : Heap) (n0 : Nat) (Z0 : n0 ≤ h0.size) (O0 : Old Z n0 h0) (E_w : Exa Z h0 wk cn0) (g_w : n0 ≤ wk) (Wf0 : Fld Z h0 wk cn0 "jobs" cn4 .null) (Wf1 : Fld Z h0 wk cn0 "homeZones" "[I" .null) (Wf2 : Fld Z h0 wk cn0 "departures" "[I" .null) (Wf3 : Fld Z h0 wk cn0 "workplaces" "[I" .null) (Vd : Arv Z h0 dp kP .int (2 : Int32) [.int 0, .int 0] (.int 0)) (E_a : Exa Z h0 a cn1) (Ft : Fld Z h0 a cn1 "total" "I" (.int 2)) (Fz : Fld Z h0 a cn1 "zones" "Ljava/util/List;" (.ref al)) (Fc : Fld Z h0 a cn1 "counts" "[I" (.ref ct)) (Vc : Arv Z h0 ct kC .int (2 : Int32) [.int 0, .int 2] (.int 0)) (E_l : Exa Z h0 al cn2) (Fm : Fld Z h0 al "java/util/AbstractList" "modCount" "I" (.int 1)) (Fs : Fld Z h0 al cn2 "size" "I" (.int 1)) (Fe : Fld Z h0 al cn2 "elementData" "[Ljava/lang/Object;" (.ref t)) (Vt : Arv Z h0 t kE (.object "java/lang/Object") (10 : Int32) [.ref b, .null, .null, .null, .null, .null, .null, .null, .null, .null] .null) (E_b : Exa Z h0 b "java/lang/Integer") (F_b : Fld Z h0 b "java/lang/Integer" "value" "I" (.int 1)) :
  MetFree l (⟨cn0, "<init>", cn6⟩ : MethodName) (head1 (Jvm.Cond.code (⟨cn0, "<init>", cn6⟩ : MethodName) prog_29_method_1_code 4 none :: ws) (⟨7, 5, 12, 95⟩ : Room)) (fun aa_ UU_ => aa_ = #[.ref wk, .ref a, .ref a, .ref dp] ∧ Z.Warmed39 UU_.vm ∧ UU_.heap = h0) (fun _ _ _ _ _ => True) (fun _ UU_ oo_ UV_ => ∃ vv_ LL_, oo_ = .returned vv_ ∧ Q_rmWI3_2 Z wC cC wD kD mA mL mR wk dp kP a al ct kC t kE b h0 n0 vv_ UV_.heap LL_ ∧ FrameEnd UU_ oo_ UV_ LL_ (⟨7, 5, 12, 95⟩ : Room).cells (⟨7, 5, 12, 95⟩ : Room).slots) := by
 refine MetFree.of_bodySF (plainFor_of_name own_p2) hisR ?_
 intro p e s m args below meth c s₁ Bd hml0 hP hK
 obtain ⟨rfl, hZ, hh⟩ := hP
 have hx := Bd.exec
 have hby := Bd.bytes
 have hml : c.maxLocals = 4 := hml0
 have hown : s.vm.findClass cn0 = some m.cls := findClass_of_methodNamed Bd.named
 have hnm := (name_of_methodNamed Bd.named Bd.method).1
 have X0 : Stand p l e (⟨7, 5, 12, 95⟩ : Room) s m #[.ref wk, .ref a, .ref a, .ref dp] below meth c s₁ [] 0 0 := Stand.of_body Bd
 have e0 : s₁.heap = h0 := by rw [← hh, Bd.state]; rfl
 have N0 := Fr.nil n0
 have hn0 : Z.heap.size = n0 := O0.1
 have KT0 : Keep h0 h0 [wk] := Keep.refl _ _
 refine own_enter (Φ := fun oo_ UV_ => ∃ vv_ LL_, oo_ = .returned vv_ ∧ Q_rmWI3_2 Z wC cC wD kD mA mL mR wk dp kP a al ct kC t kE b h0 n0 vv_ UV_.heap LL_ ∧ FrameEnd s oo_ UV_ LL_ (⟨7, 5, 12, 95⟩ : Room).cells (⟨7, 5, 12, 95⟩ : Room).slots) (own_ef_rmWI3_2 m wk a a dp) ?_
 refine own_b s₁ m 3 #[vr wk, vr a, vr a, vr dp] [.ref a, .ref a, .ref wk] (fun _ k_ => XS.aloadN X0.here hx rfl (hb hby d15_0) rfl rfl (XS.aloadN X0.here hx rfl (hb hby d15_1) rfl rfl (XS.aloadN X0.here hx rfl (hb hby d15_2) rfl rfl k_))) ?_
 obtain ⟨_, _, ⟨T1, L1, k1, n1⟩, -, X1, ⟨Lc1, hQ1, l1, y1, z1⟩, st1⟩ := Jvm.LawKit.callS X0 hx (y := (⟨cn0, "homeZones", "(Lcom/example/even_commute/evencommute/demand/ZoneCounts;)[I"⟩ : MethodName)) hown (mvT hZ (ww hw 107 rfl)) (mvT hZ (ww hw 108 rfl)) (mvT hZ (ww hw 103 rfl)) (mvT hZ (ww hw 109 rfl)) (by decide) (backOf (W := 2) (rmHz_2 l Z a0 hw [] wC cC wD kD mA mL mR GS a al ct kC t kE b h0 n0 (by omega) O0 E_a Ft Fz Fc Vc E_l Fm Fs Fe Vt E_b F_b) hZ (ww hw 109 rfl) (ww hw 103 rfl) (by decide) (by decide)) (g := (mkF m 3 #[vr wk, vr a, vr a, vr dp] [.ref a, .ref a, .ref wk])) rfl (by rw [hml]; rfl) (argsL := [.ref a]) (rest := [.ref a, .ref wk]) (lenOf own_pd_21 rfl) rfl (by show 2 * 0 + _ ≤ _; exact Nat.le_of_eq rfl) (hb hby d15_3) (fun _ _ => ⟨rfl, e0, (by decide : 0 + 4 ≤ _), (by decide : 0 + 10 ≤ _)⟩)
 dsimp only [Pt.U, Pt.locs, Pt.cells, Pt.slots] at X1 l1 y1 z1 st1 hQ1
 subst l1 y1 z1
 obtain ⟨h_2, rfl, N1q, K1, p1_0⟩ := hQ1
 have N3 := Fr.app N0 N1q
 have gh_2 : h0.size ≤ h_2 := p1_0
 have zzK1 : h0.size ≤ T1.heap.size := K1.1
 have oo4 : Old Z n0 T1.heap := O0.keep K1 all0
 have kt5 : Keep h0 T1.heap [wk] := KT0.trans K1 all0
 refine own_b T1 m 6 #[vr wk, vr a, vr a, vr dp] [.ref h_2, .ref a, .ref wk] st1 ?_
 refine own_b T1 m 8 #[vr wk, vr a, vr a, vr dp] [.ref dp, .ref dp, .ref h_2, .ref a, .ref wk] (fun _ k_ => XS.aloadN X1.here hx rfl (hb hby d15_6) rfl rfl (XS.aloadN X1.here hx rfl (hb hby d15_7) rfl rfl k_)) ?_
 have f7 : Arv Z T1.heap dp kP .int (2 : Int32) [.int 0, .int 0] (.int 0) := (Vd.keep K1 nin0)
 obtain ⟨cl6, Ar6, q6, S6, M6, H6, G6⟩ := id f7
 refine own_b T1 m 9 #[vr wk, vr a, vr a, vr dp] [.int 2, .ref dp, .ref h_2, .ref a, .ref wk] (fun _ k_ => X1.arraylength hx (by exact Ar6.1) (State.isArrayOf_alike hZ.alike Ar6.2.1) (g := (mkF m 8 #[vr wk, vr a, vr a, vr dp] [.ref dp, .ref dp, .ref h_2, .ref a, .ref wk])) rfl rfl (hb hby d15_8) _ (by rw [len_of S6 M6]; exact k_)) ?_
 obtain ⟨T8, h8, k8, X8, e8, E8, A8, st8⟩ := newP X1 hx hZ (ww hw 1 rfl) rfl (g := (mkF m 9 #[vr wk, vr a, vr a, vr dp] [.int 2, .ref dp, .ref h_2, .ref a, .ref wk])) rfl (hb hby d15_9) rfl (by decide) (cap := 2) (by decide) (by decide) (by decide) (by decide)
 obtain ⟨b8, g8⟩ : ∃ z, z = T1.heap.size := ⟨_, rfl⟩
 rw [← g8] at A8 st8
 have K9 : Keep T1.heap h8 [] := own_kext E8
 have zzK9 : T1.heap.size ≤ h8.size := K9.1
 have oo10 : Old Z n0 h8 := oo4.keep K9 all0
 have kt11 : Keep h0 h8 [wk] := kt5.trans K9 all0
 have lab8 : b8 < h8.size := A8.lt
 have f12 : Arv Z h8 b8 k8 .int (2 : Int32) [.int 0, .int 0] (.int 0) := (Arv.new A8 (by decide)).pad (pad_rep [] (.int 0) 2)
 refine own_b T8 m 11 #[vr wk, vr a, vr a, vr dp] [.ref b8, .ref dp, .ref h_2, .ref a, .ref wk] st8 ?_
 have f13 : Exa Z h8 wk cn0 := ((E_w.keep K1).keep K9)
 have la14 : @LT.lt Nat instLTNat wk h0.size := E_w.lt
 have f15 : Fld Z h8 wk cn0 "jobs" cn4 .null := ((Wf0.keep K1 nin0).keep K9 nin0)
 have f16 : Fld Z h8 wk cn0 "homeZones" "[I" .null := ((Wf1.keep K1 nin0).keep K9 nin0)
 have f17 : Fld Z h8 wk cn0 "departures" "[I" .null := ((Wf2.keep K1 nin0).keep K9 nin0)
 have f18 : Fld Z h8 wk cn0 "workplaces" "[I" .null := ((Wf3.keep K1 nin0).keep K9 nin0)
 obtain ⟨_, _, ⟨T19, L19, k19, n19⟩, -, X19, ⟨Lc19, hQ19, l19, y19, z19⟩, st19⟩ := X8.specialBack hx (y := (⟨cn0, "<init>", "(Lcom/example/even_commute/evencommute/demand/ZoneCounts;[I[I[I)V"⟩ : MethodName)) rfl hown (mvT hZ (ww hw 268 rfl)) (mvT hZ (ww hw 269 rfl)) (mvT hZ (ww hw 270 rfl)) (by decide) (backOf (W := 0) (rmWI4 l Z a0 hw [] wC cC wD kD mA mL mR GS wk a h_2 dp b8 h8 n0 (by omega) oo10 f13 (by omega) f15 f16 f17 f18) hZ (ww hw 270 rfl) (ww hw 103 rfl) (by decide) (by decide)) (g := (mkF m 11 #[vr wk, vr a, vr a, vr dp] [.ref b8, .ref dp, .ref h_2, .ref a, .ref wk])) rfl (by rw [hml]; rfl) (Steps.refl _) (a := wk) (argsL := [.ref a, .ref h_2, .ref dp, .ref b8]) (rest := []) (lenOf own_pd_22 rfl) rfl (by show 2 * 0 + _ ≤ _; exact Nat.le_of_eq rfl) (hb hby d15_11) (fun _ _ => ⟨rfl, e8, (by decide : 5 + 0 ≤ _), (by decide : 12 + 0 ≤ _)⟩)
 dsimp only [Pt.U, Pt.locs, Pt.cells, Pt.slots] at X19 l19 y19 z19 st19 hQ19
 subst l19 y19 z19
 obtain ⟨rfl, N19q, K19, p19_0, p19_1, p19_2, p19_3⟩ := hQ19
 have N20 := Fr.app N3 N19q
 have zzK19 : h8.size ≤ T19.heap.size := K19.1
 have oo21 : Old Z n0 T19.heap := oo10.keep K19 (allS (by omega : n0 ≤ wk) all0)
 have kt22 : Keep h0 T19.heap [wk] := kt11.trans K19 (allS (Or.inl (List.mem_of_getElem? (i := 0) rfl)) all0)
 refine own_b T19 m 14 #[vr wk, vr a, vr a, vr dp] [] (fun _ k_ => st19.trans k_) ?_
 have ne23 : @Ne Nat b8 wk := by omega
 have f24 : Arv Z T19.heap b8 k8 .int (2 : Int32) [.int 0, .int 0] (.int 0) := (f12.keep K19 (ninS ne23 nin0))
 obtain ⟨fs25, hr25, hrun25, hended25, hW25, hsame25⟩ := X19.leave (v := none) (fun _ => rfl)
 refine ⟨_, _, X19.returnOut hx Bd.returns (hb hby d15_14) hr25, hrun25, hended25, _, _, rfl, ?_, ⟨_, rfl⟩, hW25, hsame25.mono (by decide) (by decide)⟩
 show Q_rmWI3_2 Z wC cC wD kD mA mL mR wk dp kP a al ct kC t kE b h0 n0 _ T19.heap _
 exact ⟨h_2, b8, k8, rfl, N20, kt22, (by omega), p19_0, p19_1, p19_2, p19_3, f24⟩
theorem own_ef_rmWw_2 (m : MethodId) (x0 : Addr) (x1 : Addr) : entryFrame m #[.ref x0, .ref x1] 2 = mkF m 0 #[.val (.ref x0), .val (.ref x1)] [] := by first | (simp [entryFrame, mkF, argsToLocals, Value.category]; done) | rfl
def Q_rmWw_2 (Z : State) (wC : Addr) (cC : Cell) (wD : Addr) (kD : ClassId) (mA : Addr) (mL : Addr) (mR : Addr) (wk : Addr) (wp : Addr) (kW : ClassId) (a : Addr) (h : Addr) (dp : Addr) (wq : Addr) (v0 : Int32) (v1 : Int32) (h0 : Heap) (n0 : Nat) (vv_ : Option Value) (hh_ : Heap) (LL_ : List Loc) : Prop := ∃ r : Addr, ∃ wr : Addr, ∃ kR : ClassId, vv_ = some (.ref r) ∧ Fr n0 LL_ ∧ Keep h0 hh_ [] ∧ h0.size ≤ r ∧ h0.size ≤ wr ∧ Exa Z hh_ r "com/example/even_commute/evencommute/demand/Workers" ∧ Fld Z hh_ r "com/example/even_commute/evencommute/demand/Workers" "workplaces" "[I" (.ref wr) ∧ Arv Z hh_ wr kR .int (2 : Int32) [.int v0, .int v1] (.int 0)
theorem rmWw_2 (l : Launch) (Z : State) (a0 : Array Value) (hw : ∀ d ∈ tables_1, d.before a0 Z = true) (ws : List Jvm.Cond) (wC : Addr) (cC : Cell) (wD : Addr) (kD : ClassId) (mA : Addr) (mL : Addr) (mR : Addr) (GS : Glob Z wC cC wD kD mA mL mR) (wk : Addr) (wp : Addr) (kW : ClassId) (a : Addr) (h : Addr) (dp : Addr) (wq : Addr) (v0 : Int32) (v1 : Int32) (h0 : Heap) (n0 : Nat) (Z0 : n0 ≤ h0.size) (O0 : Old Z n0 h0) (E_w : Exa Z h0 wk cn0) (E_p : Exa Z h0 wp "[I") (Vp : Arv Z h0 wp kW .int (2 : Int32) [.int v0, .int v1] (.int 0)) (Wf0 : Fld Z h0 wk cn0 "jobs" cn4 (.ref a)) (Wf1 : Fld Z h0 wk cn0 "homeZones" "[I" (.ref h)) (Wf2 : Fld Z h0 wk cn0 "departures" "[I" (.ref dp)) (Wf3 : Fld Z h0 wk cn0 "workplaces" "[I" (.ref wq)) :
  MetFree l (⟨cn0, "withWorkplaces", "([I)Lcom/example/even_commute/evencommute/demand/Workers;"⟩ : MethodName) (head1 (Jvm.Cond.code (⟨cn0, "withWorkplaces", "([I)Lcom/example/even_commute/evencommute/demand/Workers;"⟩ : MethodName) prog_29_method_3_code 2 (some (.object cn0)) :: ws) (⟨2, 2, 6, 29⟩ : Room)) (fun aa_ UU_ => aa_ = #[.ref wk, .ref wp] ∧ Z.Warmed39 UU_.vm ∧ UU_.heap = h0) (fun _ _ _ _ _ => True) (fun _ UU_ oo_ UV_ => ∃ vv_ LL_, oo_ = .returned vv_ ∧ Q_rmWw_2 Z wC cC wD kD mA mL mR wk wp kW a h dp wq v0 v1 h0 n0 vv_ UV_.heap LL_ ∧ FrameEnd UU_ oo_ UV_ LL_ (⟨2, 2, 6, 29⟩ : Room).cells (⟨2, 2, 6, 29⟩ : Room).slots) := by
 refine MetFree.of_bodySF (plainFor_of_name own_p2) hisR ?_
 intro p e s m args below meth c s₁ Bd hml0 hP hK
 obtain ⟨rfl, hZ, hh⟩ := hP
 have hx := Bd.exec
 have hby := Bd.bytes
 have hml : c.maxLocals = 2 := hml0
 have hown : s.vm.findClass cn0 = some m.cls := findClass_of_methodNamed Bd.named
 have hnm := (name_of_methodNamed Bd.named Bd.method).1
 have X0 : Stand p l e (⟨2, 2, 6, 29⟩ : Room) s m #[.ref wk, .ref wp] below meth c s₁ [] 0 0 := Stand.of_body Bd
 have e0 : s₁.heap = h0 := by rw [← hh, Bd.state]; rfl
 have N0 := Fr.nil n0
 have hn0 : Z.heap.size = n0 := O0.1
 have KT0 : Keep h0 h0 [] := Keep.refl _ _
 refine own_enter (Φ := fun oo_ UV_ => ∃ vv_ LL_, oo_ = .returned vv_ ∧ Q_rmWw_2 Z wC cC wD kD mA mL mR wk wp kW a h dp wq v0 v1 h0 n0 vv_ UV_.heap LL_ ∧ FrameEnd s oo_ UV_ LL_ (⟨2, 2, 6, 29⟩ : Room).cells (⟨2, 2, 6, 29⟩ : Room).slots) (own_ef_rmWw_2 m wk wp) ?_
 obtain ⟨T1, h1, X1, e1, E1, A1, D1, -, st1⟩ := newO X0 hx hZ hown (ww hw 285 rfl) (ww hw 102 rfl) (ww hw 103 rfl) e0 (g := (mkF m 0 #[vr wk, vr wp] [])) rfl (hb hby d37_0) (by decide) (by decide)
 obtain ⟨b1, g1⟩ : ∃ z, z = h0.size := ⟨_, rfl⟩
 rw [← g1] at A1 D1 st1
 have K2 : Keep h0 h1 [] := own_kext E1
 have zzK2 : h0.size ≤ h1.size := K2.1
 have oo3 : Old Z n0 h1 := O0.keep K2 all0
 have kt4 : Keep h0 h1 [] := KT0.trans K2 all0
 have lab1 : b1 < h1.size := A1.lt
 have f5 : Fld Z h1 b1 cn0 "jobs" cn4 .null := D1 (Or.inr (ww hw 273 rfl)) (ty := (.object cn1)) (by decide)
 have f6 : Fld Z h1 b1 cn0 "homeZones" "[I" .null := D1 (Or.inr (ww hw 275 rfl)) (ty := (.array .int)) (by decide)
 have f7 : Fld Z h1 b1 cn0 "departures" "[I" .null := D1 (Or.inr (ww hw 277 rfl)) (ty := (.array .int)) (by decide)
 have f8 : Fld Z h1 b1 cn0 "workplaces" "[I" .null := D1 (Or.inr (ww hw 279 rfl)) (ty := (.array .int)) (by decide)
 refine own_b T1 m 3 #[vr wk, vr wp] [.ref b1] st1 ?_
 refine own_b T1 m 5 #[vr wk, vr wp] [.ref wk, .ref b1, .ref b1] (fun _ k_ => XS.dup X1.here hx rfl (hb hby d37_3) rfl rfl (XS.aloadN X1.here hx rfl (hb hby d37_4) rfl rfl k_)) ?_
 have f9 : Fld Z h1 wk cn0 "jobs" cn4 (.ref a) := (Wf0.keep K2 nin0)
 obtain ⟨T10, X10, e10, st10⟩ := getF X1 hx hZ hown (host := "") (Or.inl (ww hw 272 rfl)) Via.refl e1 f9 (g := (mkF m 5 #[vr wk, vr wp] [.ref wk, .ref b1, .ref b1])) rfl rfl (hb hby d37_5)
 refine own_b T10 m 8 #[vr wk, vr wp] [.ref a, .ref b1, .ref b1] st10 ?_
 refine own_b T10 m 9 #[vr wk, vr wp] [.ref wk, .ref a, .ref b1, .ref b1] (fun _ k_ => XS.aloadN X10.here hx rfl (hb hby d37_8) rfl rfl k_) ?_
 have f11 : Fld Z h1 wk cn0 "homeZones" "[I" (.ref h) := (Wf1.keep K2 nin0)
 obtain ⟨T12, X12, e12, st12⟩ := getF X10 hx hZ hown (host := "") (Or.inl (ww hw 274 rfl)) Via.refl e10 f11 (g := (mkF m 9 #[vr wk, vr wp] [.ref wk, .ref a, .ref b1, .ref b1])) rfl rfl (hb hby d37_9)
 refine own_b T12 m 12 #[vr wk, vr wp] [.ref h, .ref a, .ref b1, .ref b1] st12 ?_
 refine own_b T12 m 13 #[vr wk, vr wp] [.ref wk, .ref h, .ref a, .ref b1, .ref b1] (fun _ k_ => XS.aloadN X12.here hx rfl (hb hby d37_12) rfl rfl k_) ?_
 have f13 : Fld Z h1 wk cn0 "departures" "[I" (.ref dp) := (Wf2.keep K2 nin0)
 obtain ⟨T14, X14, e14, st14⟩ := getF X12 hx hZ hown (host := "") (Or.inl (ww hw 276 rfl)) Via.refl e12 f13 (g := (mkF m 13 #[vr wk, vr wp] [.ref wk, .ref h, .ref a, .ref b1, .ref b1])) rfl rfl (hb hby d37_13)
 refine own_b T14 m 16 #[vr wk, vr wp] [.ref dp, .ref h, .ref a, .ref b1, .ref b1] st14 ?_
 refine own_b T14 m 17 #[vr wk, vr wp] [.ref wp, .ref dp, .ref h, .ref a, .ref b1, .ref b1] (fun _ k_ => XS.aloadN X14.here hx rfl (hb hby d37_16) rfl rfl k_) ?_
 have f16 : Arv Z h1 wp kW .int (2 : Int32) [.int v0, .int v1] (.int 0) := (Vp.keep K2 nin0)
 obtain ⟨cl15, Ar15, q15, S15, M15, H15, G15⟩ := id f16
 have f17 : Exa Z h1 wp "[I" := (E_p.keep K2)
 obtain ⟨T15, h15, X15, e15, E15, A15, B15, st15⟩ := cloneA X14 hx hZ hown (ww hw 286 rfl) (ww hw 287 rfl) (ww hw 291 rfl) (ww hw 289 rfl) (ww hw 290 rfl) (ww hw 292 rfl) e14 Ar15 f17 (fitC_of Ar15 fun i hi v hv => by rw [H15 i hi] at hv; cases hv; exact G15 i hi) (g := (mkF m 17 #[vr wk, vr wp] [.ref wp, .ref dp, .ref h, .ref a, .ref b1, .ref b1])) rfl (by rw [hml]; rfl) rfl (hb hby d37_17) (by decide) (W := 5) (cap := 2) (by show 2 * 0 + _ ≤ _; exact Nat.le_of_eq rfl) (by decide) (by rw [S15]; decide) (by decide) (by decide)
 obtain ⟨b15, g15⟩ : ∃ z, z = h1.size := ⟨_, rfl⟩
 rw [← g15] at A15 B15 st15
 have K18 : Keep h1 h15 [] := own_kext E15
 have zzK18 : h1.size ≤ h15.size := K18.1
 have oo19 : Old Z n0 h15 := oo3.keep K18 all0
 have kt20 : Keep h0 h15 [] := kt4.trans K18 all0
 have lab15 : b15 < h15.size := A15.lt
 have f21 : Arv Z h15 b15 kW .int (2 : Int32) [.int v0, .int v1] (.int 0) := ⟨_, A15, q15, S15, M15, H15, G15⟩
 refine own_b T15 m 20 #[vr wk, vr wp] [.ref b15, .ref dp, .ref h, .ref a, .ref b1, .ref b1] st15 ?_
 obtain ⟨T22, X22, e22, st22⟩ := castY X15 hx hZ hown (ww hw 293 rfl) e15 (Ins.self B15) (g := (mkF m 20 #[vr wk, vr wp] [.ref b15, .ref dp, .ref h, .ref a, .ref b1, .ref b1])) rfl rfl (hb hby d37_20)
 refine own_b T22 m 23 #[vr wk, vr wp] [.ref b15, .ref dp, .ref h, .ref a, .ref b1, .ref b1] st22 ?_
 have f23 : Exa Z h15 b1 cn0 := (A1.keep K18)
 have f24 : Fld Z h15 b1 cn0 "jobs" cn4 .null := (f5.keep K18 nin0)
 have f25 : Fld Z h15 b1 cn0 "homeZones" "[I" .null := (f6.keep K18 nin0)
 have f26 : Fld Z h15 b1 cn0 "departures" "[I" .null := (f7.keep K18 nin0)
 have f27 : Fld Z h15 b1 cn0 "workplaces" "[I" .null := (f8.keep K18 nin0)
 obtain ⟨_, _, ⟨T28, L28, k28, n28⟩, -, X28, ⟨Lc28, hQ28, l28, y28, z28⟩, st28⟩ := X22.specialBack hx (y := (⟨cn0, "<init>", "(Lcom/example/even_commute/evencommute/demand/ZoneCounts;[I[I[I)V"⟩ : MethodName)) rfl hown (mvT hZ (ww hw 268 rfl)) (mvT hZ (ww hw 269 rfl)) (mvT hZ (ww hw 270 rfl)) (by decide) (backOf (W := 1) (rmWI4 l Z a0 hw [] wC cC wD kD mA mL mR GS b1 a h dp b15 h15 n0 (by omega) oo19 f23 (by omega) f24 f25 f26 f27) hZ (ww hw 270 rfl) (ww hw 103 rfl) (by decide) (by decide)) (g := (mkF m 23 #[vr wk, vr wp] [.ref b15, .ref dp, .ref h, .ref a, .ref b1, .ref b1])) rfl (by rw [hml]; rfl) (Steps.refl _) (a := b1) (argsL := [.ref a, .ref h, .ref dp, .ref b15]) (rest := [.ref b1]) (lenOf own_pd_22 rfl) rfl (by show 2 * 0 + _ ≤ _; exact Nat.le_of_eq rfl) (hb hby d37_23) (fun _ _ => ⟨rfl, e22, (by decide : 2 + 0 ≤ _), (by decide : 6 + 0 ≤ _)⟩)
 dsimp only [Pt.U, Pt.locs, Pt.cells, Pt.slots] at X28 l28 y28 z28 st28 hQ28
 subst l28 y28 z28
 obtain ⟨rfl, N28q, K28, p28_0, p28_1, p28_2, p28_3⟩ := hQ28
 have N29 := Fr.app N0 N28q
 have zzK28 : h15.size ≤ T28.heap.size := K28.1
 have oo30 : Old Z n0 T28.heap := oo19.keep K28 (allS (by omega : n0 ≤ b1) all0)
 have kt31 : Keep h0 T28.heap [] := kt20.trans K28 (allS (Or.inr (by omega : h0.size ≤ b1)) all0)
 refine own_b T28 m 26 #[vr wk, vr wp] [.ref b1] (fun _ k_ => st28.trans k_) ?_
 have ne32 : @Ne Nat b15 b1 := by omega
 have f33 : Arv Z T28.heap b15 kW .int (2 : Int32) [.int v0, .int v1] (.int 0) := (f21.keep K28 (ninS ne32 nin0))
 have f34 : Exa Z T28.heap b1 cn0 := (f23.keep K28)
 obtain ⟨fs35, hr35, hrun35, hended35, hW35, hsame35⟩ := X28.leave (v := some (.ref b1)) (fun h => by rw [Bd.returns] at h; cases h)
 refine ⟨_, _, retOut X28 hx (t := (.object cn0)) Bd.returns rfl (Or.inr (Or.inr (Or.inr (Or.inr ⟨rfl, rfl, rfl⟩)))) (hb hby d37_26) hr35, hrun35, hended35, _, _, rfl, ?_, ⟨_, rfl⟩, hW35, hsame35.mono (by decide) (by decide)⟩
 show Q_rmWw_2 Z wC cC wD kD mA mL mR wk wp kW a h dp wq v0 v1 h0 n0 _ T28.heap _
 exact ⟨b1, b15, kW, rfl, N29, kt31, (by omega), (by omega), f34, p28_3, f33⟩
theorem own_ef_rmC0_2 (m : MethodId) (x0 : Addr) : entryFrame m #[.ref x0] 6 = mkF m 0 #[.val (.ref x0), .unset, .unset, .unset, .unset, .unset] [] := by first | (simp [entryFrame, mkF, argsToLocals, Value.category]; done) | rfl
def Q_rmC0_2 (Z : State) (wC : Addr) (cC : Cell) (wD : Addr) (kD : ClassId) (mA : Addr) (mL : Addr) (mR : Addr) (wk : Addr) (wp : Addr) (kW : ClassId) (h0 : Heap) (n0 : Nat) (vv_ : Option Value) (hh_ : Heap) (LL_ : List Loc) : Prop := vv_ = some (.int 0) ∧ Fr n0 LL_ ∧ hh_ = h0
theorem rmC0_2 (l : Launch) (Z : State) (a0 : Array Value) (hw : ∀ d ∈ tables_1, d.before a0 Z = true) (ws : List Jvm.Cond) (wC : Addr) (cC : Cell) (wD : Addr) (kD : ClassId) (mA : Addr) (mL : Addr) (mR : Addr) (GS : Glob Z wC cC wD kD mA mL mR) (wk : Addr) (wp : Addr) (kW : ClassId) (h0 : Heap) (n0 : Nat) (Z0 : n0 ≤ h0.size) (O0 : Old Z n0 h0) (E_w : Exa Z h0 wk cn0) (Wf3 : Fld Z h0 wk cn0 "workplaces" "[I" (.ref wp)) (Vp : Arv Z h0 wp kW .int (2 : Int32) [.int 0, .int 0] (.int 0)) :
  MetFree l (⟨cn0, "getAssignedCount", "()I"⟩ : MethodName) (head1 (Jvm.Cond.code (⟨cn0, "getAssignedCount", "()I"⟩ : MethodName) prog_29_method_10_code 6 (some .int) :: ws) (⟨0, 0, 0, 0⟩ : Room)) (fun aa_ UU_ => aa_ = #[.ref wk] ∧ Z.Warmed39 UU_.vm ∧ UU_.heap = h0) (fun _ _ _ _ _ => True) (fun _ UU_ oo_ UV_ => ∃ vv_ LL_, oo_ = .returned vv_ ∧ Q_rmC0_2 Z wC cC wD kD mA mL mR wk wp kW h0 n0 vv_ UV_.heap LL_ ∧ FrameEnd UU_ oo_ UV_ LL_ (⟨0, 0, 0, 0⟩ : Room).cells (⟨0, 0, 0, 0⟩ : Room).slots) := by
 refine MetFree.of_bodySF (plainFor_of_name own_p2) hisR ?_
 intro p e s m args below meth c s₁ Bd hml0 hP hK
 obtain ⟨rfl, hZ, hh⟩ := hP
 have hx := Bd.exec
 have hby := Bd.bytes
 have hml : c.maxLocals = 6 := hml0
 have hown : s.vm.findClass cn0 = some m.cls := findClass_of_methodNamed Bd.named
 have hnm := (name_of_methodNamed Bd.named Bd.method).1
 have X0 : Stand p l e (⟨0, 0, 0, 0⟩ : Room) s m #[.ref wk] below meth c s₁ [] 0 0 := Stand.of_body Bd
 have e0 : s₁.heap = h0 := by rw [← hh, Bd.state]; rfl
 have N0 := Fr.nil n0
 have hn0 : Z.heap.size = n0 := O0.1
 have KT0 : Keep h0 h0 [] := Keep.refl _ _
 refine own_enter (Φ := fun oo_ UV_ => ∃ vv_ LL_, oo_ = .returned vv_ ∧ Q_rmC0_2 Z wC cC wD kD mA mL mR wk wp kW h0 n0 vv_ UV_.heap LL_ ∧ FrameEnd s oo_ UV_ LL_ (⟨0, 0, 0, 0⟩ : Room).cells (⟨0, 0, 0, 0⟩ : Room).slots) (own_ef_rmC0_2 m wk) ?_
 refine own_b s₁ m 3 #[vr wk, vi 0, un, un, un, un] [.ref wk] (fun _ k_ => XS.iconst X0.here hx rfl (hb hby d38_0) (XS.istoreN X0.here hx rfl (hb hby d38_1) rfl (l' := #[vr wk, vi 0, un, un, un, un]) rfl (XS.aloadN X0.here hx rfl (hb hby d38_2) rfl rfl k_))) ?_
 obtain ⟨T1, X1, e1, st1⟩ := getF X0 hx hZ hown (host := "") (Or.inl (ww hw 278 rfl)) Via.refl e0 Wf3 (g := (mkF m 3 #[vr wk, vi 0, un, un, un, un] [.ref wk])) rfl rfl (hb hby d38_3)
 refine own_b T1 m 6 #[vr wk, vi 0, un, un, un, un] [.ref wp] st1 ?_
 refine own_b T1 m 8 #[vr wk, vi 0, vr wp, un, un, un] [.ref wp] (fun _ k_ => XS.astoreN X1.here hx rfl (hb hby d38_6) rfl rfl (l' := #[vr wk, vi 0, vr wp, un, un, un]) rfl (XS.aloadN X1.here hx rfl (hb hby d38_7) rfl rfl k_)) ?_
 obtain ⟨cl2, Ar2, q2, S2, M2, H2, G2⟩ := id Vp
 refine own_b T1 m 9 #[vr wk, vi 0, vr wp, un, un, un] [.int 2] (fun _ k_ => X1.arraylength hx (by rw [e1]; exact Ar2.1) (State.isArrayOf_alike hZ.alike Ar2.2.1) (g := (mkF m 8 #[vr wk, vi 0, vr wp, un, un, un] [.ref wp])) rfl rfl (hb hby d38_8) _ (by rw [len_of S2 M2]; exact k_)) ?_
 refine own_b T1 m 22 #[vr wk, vi 0, vr wp, vi 2, vi 0, un] [.int 0, .ref wp] (fun _ k_ => XS.istoreN X1.here hx rfl (hb hby d38_9) rfl (l' := #[vr wk, vi 0, vr wp, vi 2, un, un]) rfl (XS.iconst X1.here hx rfl (hb hby d38_10) (XS.istore X1.here hx rfl (hb hby d38_11) rfl (l' := #[vr wk, vi 0, vr wp, vi 2, vi 0, un]) rfl (XS.iload X1.here hx rfl (hb hby d38_13) rfl (XS.iloadN X1.here hx rfl (hb hby d38_15) rfl (XS.icmpNo X1.here hx rfl (hb hby d38_16) rfl (XT.ii_ge_f (by decide)) (XS.aloadN X1.here hx rfl (hb hby d38_19) rfl rfl (XS.iload X1.here hx rfl (hb hby d38_20) rfl k_)))))))) ?_
 obtain ⟨cl3, Ar3, q3, S3, M3, H3, G3⟩ := id Vp
 have hin3 : ¬ ((0 : Int32) < 0 ∨ cl3.slots.size ≤ ((0 : Int32)).toNatClampNeg) := inb_of S3 ⟨by decide, by decide⟩
 have hat3 : cl3.slots[((0 : Int32)).toNatClampNeg]? = some (.int 0) := H3.at hin3 rfl
 refine own_b T1 m 23 #[vr wk, vi 0, vr wp, vi 2, vi 0, un] [.int 0] (fun _ k_ => X1.iaload hx (j := (0 : Int32)) (v := (.int 0)) (by rw [e1]; exact Ar3.1) (State.isArrayOf_alike hZ.alike Ar3.2.1) Ar3.2.2 hin3 hat3 (g := (mkF m 22 #[vr wk, vi 0, vr wp, vi 2, vi 0, un] [.int 0, .ref wp])) rfl rfl (hb hby d38_22) _ k_) ?_
 refine own_b T1 m 36 #[vr wk, vi 0, vr wp, vi 2, .val (.int ((0 : Int32) + (1 : Int32))), vi 0] [] (fun _ k_ => XS.istore X1.here hx rfl (hb hby d38_23) rfl (l' := #[vr wk, vi 0, vr wp, vi 2, vi 0, vi 0]) rfl (XS.iload X1.here hx rfl (hb hby d38_25) rfl (XS.ifYes X1.here hx rfl (pc0 := 27) (pc' := 33) rfl (hb hby d38_27) rfl (XT.i0_eq_t (by decide)) (by decide) (by decide) (XS.iinc X1.here hx rfl (hb hby d38_33) rfl rfl k_)))) ?_
 rw [show ((0 : Int32) + (1 : Int32)) = (1 : Int32) from by decide]
 refine own_b T1 m 22 #[vr wk, vi 0, vr wp, vi 2, vi 1, vi 0] [.int 1, .ref wp] (fun _ k_ => XS.goto X1.here hx rfl (pc0 := 36) (pc' := 13) rfl (hb hby d38_36) (by decide) (by decide) (XS.iload X1.here hx rfl (hb hby d38_13) rfl (XS.iloadN X1.here hx rfl (hb hby d38_15) rfl (XS.icmpNo X1.here hx rfl (hb hby d38_16) rfl (XT.ii_ge_f (by decide)) (XS.aloadN X1.here hx rfl (hb hby d38_19) rfl rfl (XS.iload X1.here hx rfl (hb hby d38_20) rfl k_)))))) ?_
 obtain ⟨cl4, Ar4, q4, S4, M4, H4, G4⟩ := id Vp
 have hin4 : ¬ ((1 : Int32) < 0 ∨ cl4.slots.size ≤ ((1 : Int32)).toNatClampNeg) := inb_of S4 ⟨by decide, by decide⟩
 have hat4 : cl4.slots[((1 : Int32)).toNatClampNeg]? = some (.int 0) := H4.at hin4 rfl
 refine own_b T1 m 23 #[vr wk, vi 0, vr wp, vi 2, vi 1, vi 0] [.int 0] (fun _ k_ => X1.iaload hx (j := (1 : Int32)) (v := (.int 0)) (by rw [e1]; exact Ar4.1) (State.isArrayOf_alike hZ.alike Ar4.2.1) Ar4.2.2 hin4 hat4 (g := (mkF m 22 #[vr wk, vi 0, vr wp, vi 2, vi 1, vi 0] [.int 1, .ref wp])) rfl rfl (hb hby d38_22) _ k_) ?_
 refine own_b T1 m 36 #[vr wk, vi 0, vr wp, vi 2, .val (.int ((1 : Int32) + (1 : Int32))), vi 0] [] (fun _ k_ => XS.istore X1.here hx rfl (hb hby d38_23) rfl (l' := #[vr wk, vi 0, vr wp, vi 2, vi 1, vi 0]) rfl (XS.iload X1.here hx rfl (hb hby d38_25) rfl (XS.ifYes X1.here hx rfl (pc0 := 27) (pc' := 33) rfl (hb hby d38_27) rfl (XT.i0_eq_t (by decide)) (by decide) (by decide) (XS.iinc X1.here hx rfl (hb hby d38_33) rfl rfl k_)))) ?_
 rw [show ((1 : Int32) + (1 : Int32)) = (2 : Int32) from by decide]
 refine own_b T1 m 40 #[vr wk, vi 0, vr wp, vi 2, vi 2, vi 0] [.int 0] (fun _ k_ => XS.goto X1.here hx rfl (pc0 := 36) (pc' := 13) rfl (hb hby d38_36) (by decide) (by decide) (XS.iload X1.here hx rfl (hb hby d38_13) rfl (XS.iloadN X1.here hx rfl (hb hby d38_15) rfl (XS.icmpYes X1.here hx rfl (pc0 := 16) (pc' := 39) rfl (hb hby d38_16) rfl (XT.ii_ge_t (by decide)) (by decide) (by decide) (XS.iloadN X1.here hx rfl (hb hby d38_39) rfl k_))))) ?_
 obtain ⟨fs5, hr5, hrun5, hended5, hW5, hsame5⟩ := X1.leave (v := some (.int 0)) (fun h => by rw [Bd.returns] at h; cases h)
 refine ⟨_, _, retOut X1 hx (t := .int) Bd.returns rfl (Or.inl ⟨rfl, Or.inl rfl, _, rfl⟩) (hb hby d38_40) hr5, hrun5, hended5, _, _, rfl, ?_, ⟨_, rfl⟩, hW5, hsame5.mono (by decide) (by decide)⟩
 show Q_rmC0_2 Z wC cC wD kD mA mL mR wk wp kW h0 n0 _ T1.heap _
 exact ⟨rfl, N0, e1⟩
theorem own_ef_rmCn_2 (m : MethodId) (x0 : Addr) : entryFrame m #[.ref x0] 6 = mkF m 0 #[.val (.ref x0), .unset, .unset, .unset, .unset, .unset] [] := by first | (simp [entryFrame, mkF, argsToLocals, Value.category]; done) | rfl
def Q_rmCn_2 (Z : State) (wC : Addr) (cC : Cell) (wD : Addr) (kD : ClassId) (mA : Addr) (mL : Addr) (mR : Addr) (wk : Addr) (wp : Addr) (kW : ClassId) (v0 : Int32) (v1 : Int32) (h0 : Heap) (n0 : Nat) (vv_ : Option Value) (hh_ : Heap) (LL_ : List Loc) : Prop := vv_ = some (.int (if v0 = (0 : Int32) then (if v1 = (0 : Int32) then (0 : Int32) else (1 : Int32)) else (if v1 = (0 : Int32) then (1 : Int32) else (2 : Int32)))) ∧ Fr n0 LL_ ∧ hh_ = h0
theorem rmCn_2 (l : Launch) (Z : State) (a0 : Array Value) (hw : ∀ d ∈ tables_1, d.before a0 Z = true) (ws : List Jvm.Cond) (wC : Addr) (cC : Cell) (wD : Addr) (kD : ClassId) (mA : Addr) (mL : Addr) (mR : Addr) (GS : Glob Z wC cC wD kD mA mL mR) (wk : Addr) (wp : Addr) (kW : ClassId) (v0 : Int32) (v1 : Int32) (h0 : Heap) (n0 : Nat) (Z0 : n0 ≤ h0.size) (O0 : Old Z n0 h0) (E_w : Exa Z h0 wk cn0) (Wf3 : Fld Z h0 wk cn0 "workplaces" "[I" (.ref wp)) (Vp : Arv Z h0 wp kW .int (2 : Int32) [.int v0, .int v1] (.int 0)) :
  MetFree l (⟨cn0, "getAssignedCount", "()I"⟩ : MethodName) (head1 (Jvm.Cond.code (⟨cn0, "getAssignedCount", "()I"⟩ : MethodName) prog_29_method_10_code 6 (some .int) :: ws) (⟨0, 0, 0, 0⟩ : Room)) (fun aa_ UU_ => aa_ = #[.ref wk] ∧ Z.Warmed39 UU_.vm ∧ UU_.heap = h0) (fun _ _ _ _ _ => True) (fun _ UU_ oo_ UV_ => ∃ vv_ LL_, oo_ = .returned vv_ ∧ Q_rmCn_2 Z wC cC wD kD mA mL mR wk wp kW v0 v1 h0 n0 vv_ UV_.heap LL_ ∧ FrameEnd UU_ oo_ UV_ LL_ (⟨0, 0, 0, 0⟩ : Room).cells (⟨0, 0, 0, 0⟩ : Room).slots) := by
 refine MetFree.of_bodySF (plainFor_of_name own_p2) hisR ?_
 intro p e s m args below meth c s₁ Bd hml0 hP hK
 obtain ⟨rfl, hZ, hh⟩ := hP
 have hx := Bd.exec
 have hby := Bd.bytes
 have hml : c.maxLocals = 6 := hml0
 have hown : s.vm.findClass cn0 = some m.cls := findClass_of_methodNamed Bd.named
 have hnm := (name_of_methodNamed Bd.named Bd.method).1
 have X0 : Stand p l e (⟨0, 0, 0, 0⟩ : Room) s m #[.ref wk] below meth c s₁ [] 0 0 := Stand.of_body Bd
 have e0 : s₁.heap = h0 := by rw [← hh, Bd.state]; rfl
 have N0 := Fr.nil n0
 have hn0 : Z.heap.size = n0 := O0.1
 have KT0 : Keep h0 h0 [] := Keep.refl _ _
 refine own_enter (Φ := fun oo_ UV_ => ∃ vv_ LL_, oo_ = .returned vv_ ∧ Q_rmCn_2 Z wC cC wD kD mA mL mR wk wp kW v0 v1 h0 n0 vv_ UV_.heap LL_ ∧ FrameEnd s oo_ UV_ LL_ (⟨0, 0, 0, 0⟩ : Room).cells (⟨0, 0, 0, 0⟩ : Room).slots) (own_ef_rmCn_2 m wk) ?_
 refine own_b s₁ m 3 #[vr wk, vi 0, un, un, un, un] [.ref wk] (fun _ k_ => XS.iconst X0.here hx rfl (hb hby d38_0) (XS.istoreN X0.here hx rfl (hb hby d38_1) rfl (l' := #[vr wk, vi 0, un, un, un, un]) rfl (XS.aloadN X0.here hx rfl (hb hby d38_2) rfl rfl k_))) ?_
 obtain ⟨T1, X1, e1, st1⟩ := getF X0 hx hZ hown (host := "") (Or.inl (ww hw 278 rfl)) Via.refl e0 Wf3 (g := (mkF m 3 #[vr wk, vi 0, un, un, un, un] [.ref wk])) rfl rfl (hb hby d38_3)
 refine own_b T1 m 6 #[vr wk, vi 0, un, un, un, un] [.ref wp] st1 ?_
 refine own_b T1 m 8 #[vr wk, vi 0, vr wp, un, un, un] [.ref wp] (fun _ k_ => XS.astoreN X1.here hx rfl (hb hby d38_6) rfl rfl (l' := #[vr wk, vi 0, vr wp, un, un, un]) rfl (XS.aloadN X1.here hx rfl (hb hby d38_7) rfl rfl k_)) ?_
 obtain ⟨cl2, Ar2, q2, S2, M2, H2, G2⟩ := id Vp
 refine own_b T1 m 9 #[vr wk, vi 0, vr wp, un, un, un] [.int 2] (fun _ k_ => X1.arraylength hx (by rw [e1]; exact Ar2.1) (State.isArrayOf_alike hZ.alike Ar2.2.1) (g := (mkF m 8 #[vr wk, vi 0, vr wp, un, un, un] [.ref wp])) rfl rfl (hb hby d38_8) _ (by rw [len_of S2 M2]; exact k_)) ?_
 refine own_b T1 m 22 #[vr wk, vi 0, vr wp, vi 2, vi 0, un] [.int 0, .ref wp] (fun _ k_ => XS.istoreN X1.here hx rfl (hb hby d38_9) rfl (l' := #[vr wk, vi 0, vr wp, vi 2, un, un]) rfl (XS.iconst X1.here hx rfl (hb hby d38_10) (XS.istore X1.here hx rfl (hb hby d38_11) rfl (l' := #[vr wk, vi 0, vr wp, vi 2, vi 0, un]) rfl (XS.iload X1.here hx rfl (hb hby d38_13) rfl (XS.iloadN X1.here hx rfl (hb hby d38_15) rfl (XS.icmpNo X1.here hx rfl (hb hby d38_16) rfl (XT.ii_ge_f (by decide)) (XS.aloadN X1.here hx rfl (hb hby d38_19) rfl rfl (XS.iload X1.here hx rfl (hb hby d38_20) rfl k_)))))))) ?_
 obtain ⟨cl3, Ar3, q3, S3, M3, H3, G3⟩ := id Vp
 have hin3 : ¬ ((0 : Int32) < 0 ∨ cl3.slots.size ≤ ((0 : Int32)).toNatClampNeg) := inb_of S3 ⟨by decide, by decide⟩
 have hat3 : cl3.slots[((0 : Int32)).toNatClampNeg]? = some (.int v0) := H3.at hin3 rfl
 refine own_b T1 m 23 #[vr wk, vi 0, vr wp, vi 2, vi 0, un] [.int v0] (fun _ k_ => X1.iaload hx (j := (0 : Int32)) (v := (.int v0)) (by rw [e1]; exact Ar3.1) (State.isArrayOf_alike hZ.alike Ar3.2.1) Ar3.2.2 hin3 hat3 (g := (mkF m 22 #[vr wk, vi 0, vr wp, vi 2, vi 0, un] [.int 0, .ref wp])) rfl rfl (hb hby d38_22) _ k_) ?_
 refine own_b T1 m 27 #[vr wk, vi 0, vr wp, vi 2, vi 0, vi v0] [.int v0] (fun _ k_ => XS.istore X1.here hx rfl (hb hby d38_23) rfl (l' := #[vr wk, vi 0, vr wp, vi 2, vi 0, vi v0]) rfl (XS.iload X1.here hx rfl (hb hby d38_25) rfl k_)) ?_
 by_cases hc4 : v0 = (0 : Int32)
 ·refine own_b T1 m 36 #[vr wk, vi 0, vr wp, vi 2, .val (.int ((0 : Int32) + (1 : Int32))), vi v0] [] (fun _ k_ => XS.ifYes X1.here hx rfl (pc0 := 27) (pc' := 33) rfl (hb hby d38_27) rfl (XT.i0_eq_t hc4) (by decide) (by decide) (XS.iinc X1.here hx rfl (hb hby d38_33) rfl rfl k_)) ?_
  rw [show ((0 : Int32) + (1 : Int32)) = (1 : Int32) from by decide]
  refine own_b T1 m 22 #[vr wk, vi 0, vr wp, vi 2, vi 1, vi v0] [.int 1, .ref wp] (fun _ k_ => XS.goto X1.here hx rfl (pc0 := 36) (pc' := 13) rfl (hb hby d38_36) (by decide) (by decide) (XS.iload X1.here hx rfl (hb hby d38_13) rfl (XS.iloadN X1.here hx rfl (hb hby d38_15) rfl (XS.icmpNo X1.here hx rfl (hb hby d38_16) rfl (XT.ii_ge_f (by decide)) (XS.aloadN X1.here hx rfl (hb hby d38_19) rfl rfl (XS.iload X1.here hx rfl (hb hby d38_20) rfl k_)))))) ?_
  obtain ⟨cl5, Ar5, q5, S5, M5, H5, G5⟩ := id Vp
  have hin5 : ¬ ((1 : Int32) < 0 ∨ cl5.slots.size ≤ ((1 : Int32)).toNatClampNeg) := inb_of S5 ⟨by decide, by decide⟩
  have hat5 : cl5.slots[((1 : Int32)).toNatClampNeg]? = some (.int v1) := H5.at hin5 rfl
  refine own_b T1 m 23 #[vr wk, vi 0, vr wp, vi 2, vi 1, vi v0] [.int v1] (fun _ k_ => X1.iaload hx (j := (1 : Int32)) (v := (.int v1)) (by rw [e1]; exact Ar5.1) (State.isArrayOf_alike hZ.alike Ar5.2.1) Ar5.2.2 hin5 hat5 (g := (mkF m 22 #[vr wk, vi 0, vr wp, vi 2, vi 1, vi v0] [.int 1, .ref wp])) rfl rfl (hb hby d38_22) _ k_) ?_
  refine own_b T1 m 27 #[vr wk, vi 0, vr wp, vi 2, vi 1, vi v1] [.int v1] (fun _ k_ => XS.istore X1.here hx rfl (hb hby d38_23) rfl (l' := #[vr wk, vi 0, vr wp, vi 2, vi 1, vi v1]) rfl (XS.iload X1.here hx rfl (hb hby d38_25) rfl k_)) ?_
  by_cases hc6 : v1 = (0 : Int32)
  ·refine own_b T1 m 36 #[vr wk, vi 0, vr wp, vi 2, .val (.int ((1 : Int32) + (1 : Int32))), vi v1] [] (fun _ k_ => XS.ifYes X1.here hx rfl (pc0 := 27) (pc' := 33) rfl (hb hby d38_27) rfl (XT.i0_eq_t hc6) (by decide) (by decide) (XS.iinc X1.here hx rfl (hb hby d38_33) rfl rfl k_)) ?_
   rw [show ((1 : Int32) + (1 : Int32)) = (2 : Int32) from by decide]
   refine own_b T1 m 40 #[vr wk, vi 0, vr wp, vi 2, vi 2, vi v1] [.int 0] (fun _ k_ => XS.goto X1.here hx rfl (pc0 := 36) (pc' := 13) rfl (hb hby d38_36) (by decide) (by decide) (XS.iload X1.here hx rfl (hb hby d38_13) rfl (XS.iloadN X1.here hx rfl (hb hby d38_15) rfl (XS.icmpYes X1.here hx rfl (pc0 := 16) (pc' := 39) rfl (hb hby d38_16) rfl (XT.ii_ge_t (by decide)) (by decide) (by decide) (XS.iloadN X1.here hx rfl (hb hby d38_39) rfl k_))))) ?_
   have hr7 : (0 : Int32) = (if v0 = (0 : Int32) then (if v1 = (0 : Int32) then (0 : Int32) else (1 : Int32)) else (if v1 = (0 : Int32) then (1 : Int32) else (2 : Int32))) := by simp [hc4, hc6]
   obtain ⟨fs8, hr8, hrun8, hended8, hW8, hsame8⟩ := X1.leave (v := some (.int 0)) (fun h => by rw [Bd.returns] at h; cases h)
   refine ⟨_, _, retOut X1 hx (t := .int) Bd.returns rfl (Or.inl ⟨rfl, Or.inl rfl, _, rfl⟩) (hb hby d38_40) hr8, hrun8, hended8, _, _, rfl, ?_, ⟨_, rfl⟩, hW8, hsame8.mono (by decide) (by decide)⟩
   show Q_rmCn_2 Z wC cC wD kD mA mL mR wk wp kW v0 v1 h0 n0 _ T1.heap _
   exact ⟨(congrArg (fun z => some (Value.int z)) hr7), N0, e1⟩
  ·refine own_b T1 m 33 #[vr wk, .val (.int ((0 : Int32) + (1 : Int32))), vr wp, vi 2, vi 1, vi v1] [] (fun _ k_ => XS.ifNo X1.here hx rfl (hb hby d38_27) rfl (XT.i0_eq_f hc6) (XS.iinc X1.here hx rfl (hb hby d38_30) rfl rfl k_)) ?_
   rw [show ((0 : Int32) + (1 : Int32)) = (1 : Int32) from by decide]
   refine own_b T1 m 36 #[vr wk, vi 1, vr wp, vi 2, .val (.int ((1 : Int32) + (1 : Int32))), vi v1] [] (fun _ k_ => XS.iinc X1.here hx rfl (hb hby d38_33) rfl rfl k_) ?_
   rw [show ((1 : Int32) + (1 : Int32)) = (2 : Int32) from by decide]
   refine own_b T1 m 40 #[vr wk, vi 1, vr wp, vi 2, vi 2, vi v1] [.int 1] (fun _ k_ => XS.goto X1.here hx rfl (pc0 := 36) (pc' := 13) rfl (hb hby d38_36) (by decide) (by decide) (XS.iload X1.here hx rfl (hb hby d38_13) rfl (XS.iloadN X1.here hx rfl (hb hby d38_15) rfl (XS.icmpYes X1.here hx rfl (pc0 := 16) (pc' := 39) rfl (hb hby d38_16) rfl (XT.ii_ge_t (by decide)) (by decide) (by decide) (XS.iloadN X1.here hx rfl (hb hby d38_39) rfl k_))))) ?_
   have hr9 : (1 : Int32) = (if v0 = (0 : Int32) then (if v1 = (0 : Int32) then (0 : Int32) else (1 : Int32)) else (if v1 = (0 : Int32) then (1 : Int32) else (2 : Int32))) := by simp [hc4, hc6]
   obtain ⟨fs10, hr10, hrun10, hended10, hW10, hsame10⟩ := X1.leave (v := some (.int 1)) (fun h => by rw [Bd.returns] at h; cases h)
   refine ⟨_, _, retOut X1 hx (t := .int) Bd.returns rfl (Or.inl ⟨rfl, Or.inl rfl, _, rfl⟩) (hb hby d38_40) hr10, hrun10, hended10, _, _, rfl, ?_, ⟨_, rfl⟩, hW10, hsame10.mono (by decide) (by decide)⟩
   show Q_rmCn_2 Z wC cC wD kD mA mL mR wk wp kW v0 v1 h0 n0 _ T1.heap _
   exact ⟨(congrArg (fun z => some (Value.int z)) hr9), N0, e1⟩
 ·refine own_b T1 m 33 #[vr wk, .val (.int ((0 : Int32) + (1 : Int32))), vr wp, vi 2, vi 0, vi v0] [] (fun _ k_ => XS.ifNo X1.here hx rfl (hb hby d38_27) rfl (XT.i0_eq_f hc4) (XS.iinc X1.here hx rfl (hb hby d38_30) rfl rfl k_)) ?_
  rw [show ((0 : Int32) + (1 : Int32)) = (1 : Int32) from by decide]
  refine own_b T1 m 36 #[vr wk, vi 1, vr wp, vi 2, .val (.int ((0 : Int32) + (1 : Int32))), vi v0] [] (fun _ k_ => XS.iinc X1.here hx rfl (hb hby d38_33) rfl rfl k_) ?_
  rw [show ((0 : Int32) + (1 : Int32)) = (1 : Int32) from by decide]
  refine own_b T1 m 22 #[vr wk, vi 1, vr wp, vi 2, vi 1, vi v0] [.int 1, .ref wp] (fun _ k_ => XS.goto X1.here hx rfl (pc0 := 36) (pc' := 13) rfl (hb hby d38_36) (by decide) (by decide) (XS.iload X1.here hx rfl (hb hby d38_13) rfl (XS.iloadN X1.here hx rfl (hb hby d38_15) rfl (XS.icmpNo X1.here hx rfl (hb hby d38_16) rfl (XT.ii_ge_f (by decide)) (XS.aloadN X1.here hx rfl (hb hby d38_19) rfl rfl (XS.iload X1.here hx rfl (hb hby d38_20) rfl k_)))))) ?_
  obtain ⟨cl11, Ar11, q11, S11, M11, H11, G11⟩ := id Vp
  have hin11 : ¬ ((1 : Int32) < 0 ∨ cl11.slots.size ≤ ((1 : Int32)).toNatClampNeg) := inb_of S11 ⟨by decide, by decide⟩
  have hat11 : cl11.slots[((1 : Int32)).toNatClampNeg]? = some (.int v1) := H11.at hin11 rfl
  refine own_b T1 m 23 #[vr wk, vi 1, vr wp, vi 2, vi 1, vi v0] [.int v1] (fun _ k_ => X1.iaload hx (j := (1 : Int32)) (v := (.int v1)) (by rw [e1]; exact Ar11.1) (State.isArrayOf_alike hZ.alike Ar11.2.1) Ar11.2.2 hin11 hat11 (g := (mkF m 22 #[vr wk, vi 1, vr wp, vi 2, vi 1, vi v0] [.int 1, .ref wp])) rfl rfl (hb hby d38_22) _ k_) ?_
  refine own_b T1 m 27 #[vr wk, vi 1, vr wp, vi 2, vi 1, vi v1] [.int v1] (fun _ k_ => XS.istore X1.here hx rfl (hb hby d38_23) rfl (l' := #[vr wk, vi 1, vr wp, vi 2, vi 1, vi v1]) rfl (XS.iload X1.here hx rfl (hb hby d38_25) rfl k_)) ?_
  by_cases hc12 : v1 = (0 : Int32)
  ·refine own_b T1 m 36 #[vr wk, vi 1, vr wp, vi 2, .val (.int ((1 : Int32) + (1 : Int32))), vi v1] [] (fun _ k_ => XS.ifYes X1.here hx rfl (pc0 := 27) (pc' := 33) rfl (hb hby d38_27) rfl (XT.i0_eq_t hc12) (by decide) (by decide) (XS.iinc X1.here hx rfl (hb hby d38_33) rfl rfl k_)) ?_
   rw [show ((1 : Int32) + (1 : Int32)) = (2 : Int32) from by decide]
   refine own_b T1 m 40 #[vr wk, vi 1, vr wp, vi 2, vi 2, vi v1] [.int 1] (fun _ k_ => XS.goto X1.here hx rfl (pc0 := 36) (pc' := 13) rfl (hb hby d38_36) (by decide) (by decide) (XS.iload X1.here hx rfl (hb hby d38_13) rfl (XS.iloadN X1.here hx rfl (hb hby d38_15) rfl (XS.icmpYes X1.here hx rfl (pc0 := 16) (pc' := 39) rfl (hb hby d38_16) rfl (XT.ii_ge_t (by decide)) (by decide) (by decide) (XS.iloadN X1.here hx rfl (hb hby d38_39) rfl k_))))) ?_
   have hr13 : (1 : Int32) = (if v0 = (0 : Int32) then (if v1 = (0 : Int32) then (0 : Int32) else (1 : Int32)) else (if v1 = (0 : Int32) then (1 : Int32) else (2 : Int32))) := by simp [hc4, hc12]
   obtain ⟨fs14, hr14, hrun14, hended14, hW14, hsame14⟩ := X1.leave (v := some (.int 1)) (fun h => by rw [Bd.returns] at h; cases h)
   refine ⟨_, _, retOut X1 hx (t := .int) Bd.returns rfl (Or.inl ⟨rfl, Or.inl rfl, _, rfl⟩) (hb hby d38_40) hr14, hrun14, hended14, _, _, rfl, ?_, ⟨_, rfl⟩, hW14, hsame14.mono (by decide) (by decide)⟩
   show Q_rmCn_2 Z wC cC wD kD mA mL mR wk wp kW v0 v1 h0 n0 _ T1.heap _
   exact ⟨(congrArg (fun z => some (Value.int z)) hr13), N0, e1⟩
  ·refine own_b T1 m 33 #[vr wk, .val (.int ((1 : Int32) + (1 : Int32))), vr wp, vi 2, vi 1, vi v1] [] (fun _ k_ => XS.ifNo X1.here hx rfl (hb hby d38_27) rfl (XT.i0_eq_f hc12) (XS.iinc X1.here hx rfl (hb hby d38_30) rfl rfl k_)) ?_
   rw [show ((1 : Int32) + (1 : Int32)) = (2 : Int32) from by decide]
   refine own_b T1 m 36 #[vr wk, vi 2, vr wp, vi 2, .val (.int ((1 : Int32) + (1 : Int32))), vi v1] [] (fun _ k_ => XS.iinc X1.here hx rfl (hb hby d38_33) rfl rfl k_) ?_
   rw [show ((1 : Int32) + (1 : Int32)) = (2 : Int32) from by decide]
   refine own_b T1 m 40 #[vr wk, vi 2, vr wp, vi 2, vi 2, vi v1] [.int 2] (fun _ k_ => XS.goto X1.here hx rfl (pc0 := 36) (pc' := 13) rfl (hb hby d38_36) (by decide) (by decide) (XS.iload X1.here hx rfl (hb hby d38_13) rfl (XS.iloadN X1.here hx rfl (hb hby d38_15) rfl (XS.icmpYes X1.here hx rfl (pc0 := 16) (pc' := 39) rfl (hb hby d38_16) rfl (XT.ii_ge_t (by decide)) (by decide) (by decide) (XS.iloadN X1.here hx rfl (hb hby d38_39) rfl k_))))) ?_
   have hr15 : (2 : Int32) = (if v0 = (0 : Int32) then (if v1 = (0 : Int32) then (0 : Int32) else (1 : Int32)) else (if v1 = (0 : Int32) then (1 : Int32) else (2 : Int32))) := by simp [hc4, hc12]
   obtain ⟨fs16, hr16, hrun16, hended16, hW16, hsame16⟩ := X1.leave (v := some (.int 2)) (fun h => by rw [Bd.returns] at h; cases h)
   refine ⟨_, _, retOut X1 hx (t := .int) Bd.returns rfl (Or.inl ⟨rfl, Or.inl rfl, _, rfl⟩) (hb hby d38_40) hr16, hrun16, hended16, _, _, rfl, ?_, ⟨_, rfl⟩, hW16, hsame16.mono (by decide) (by decide)⟩
   show Q_rmCn_2 Z wC cC wD kD mA mL mR wk wp kW v0 v1 h0 n0 _ T1.heap _
   exact ⟨(congrArg (fun z => some (Value.int z)) hr15), N0, e1⟩
theorem own_ef_rmWI3_3 (m : MethodId) (x0 : Addr) (x1 : Addr) (x2 : Addr) (x3 : Addr) : entryFrame m #[.ref x0, .ref x1, .ref x2, .ref x3] 4 = mkF m 0 #[.val (.ref x0), .val (.ref x1), .val (.ref x2), .val (.ref x3)] [] := by first | (simp [entryFrame, mkF, argsToLocals, Value.category]; done) | rfl
def Q_rmWI3_3 (Z : State) (wC : Addr) (cC : Cell) (wD : Addr) (kD : ClassId) (mA : Addr) (mL : Addr) (mR : Addr) (wk : Addr) (dp : Addr) (kP : ClassId) (a : Addr) (al : Addr) (ct : Addr) (kC : ClassId) (t : Addr) (kE : ClassId) (b : Addr) (h0 : Heap) (n0 : Nat) (vv_ : Option Value) (hh_ : Heap) (LL_ : List Loc) : Prop := ∃ h : Addr, ∃ wp : Addr, ∃ kW : ClassId, vv_ = none ∧ Fr n0 LL_ ∧ Keep h0 hh_ [wk] ∧ h0.size ≤ wp ∧ Fld Z hh_ wk "com/example/even_commute/evencommute/demand/Workers" "jobs" "Lcom/example/even_commute/evencommute/demand/ZoneCounts;" (.ref a) ∧ Fld Z hh_ wk "com/example/even_commute/evencommute/demand/Workers" "homeZones" "[I" (.ref h) ∧ Fld Z hh_ wk "com/example/even_commute/evencommute/demand/Workers" "departures" "[I" (.ref dp) ∧ Fld Z hh_ wk "com/example/even_commute/evencommute/demand/Workers" "workplaces" "[I" (.ref wp) ∧ Arv Z hh_ wp kW .int (3 : Int32) [.int 0, .int 0, .int 0] (.int 0)
theorem rmWI3_3 (l : Launch) (Z : State) (a0 : Array Value) (hw : ∀ d ∈ tables_1, d.before a0 Z = true) (ws : List Jvm.Cond) (wC : Addr) (cC : Cell) (wD : Addr) (kD : ClassId) (mA : Addr) (mL : Addr) (mR : Addr) (GS : Glob Z wC cC wD kD mA mL mR) (wk : Addr) (dp : Addr) (kP : ClassId) (a : Addr) (al : Addr) (ct : Addr) (kC : ClassId) (t : Addr) (kE : ClassId) (b : Addr) (h0 : Heap) (n0 : Nat) (Z0 : n0 ≤ h0.size) (O0 : Old Z n0 h0) (E_w : Exa Z h0 wk cn0) (g_w : n0 ≤ wk) (Wf0 : Fld Z h0 wk cn0 "jobs" cn4 .null) (Wf1 : Fld Z h0 wk cn0 "homeZones" "[I" .null) (Wf2 : Fld Z h0 wk cn0 "departures" "[I" .null) (Wf3 : Fld Z h0 wk cn0 "workplaces" "[I" .null) (Vd : Arv Z h0 dp kP .int (3 : Int32) [.int 0, .int 0, .int 0] (.int 0)) (E_a : Exa Z h0 a cn1) (Ft : Fld Z h0 a cn1 "total" "I" (.int 3)) (Fz : Fld Z h0 a cn1 "zones" "Ljava/util/List;" (.ref al)) (Fc : Fld Z h0 a cn1 "counts" "[I" (.ref ct)) (Vc : Arv Z h0 ct kC .int (2 : Int32) [.int 0, .int 3] (.int 0)) (E_l : Exa Z h0 al cn2) (Fm : Fld Z h0 al "java/util/AbstractList" "modCount" "I" (.int 1)) (Fs : Fld Z h0 al cn2 "size" "I" (.int 1)) (Fe : Fld Z h0 al cn2 "elementData" "[Ljava/lang/Object;" (.ref t)) (Vt : Arv Z h0 t kE (.object "java/lang/Object") (10 : Int32) [.ref b, .null, .null, .null, .null, .null, .null, .null, .null, .null] .null) (E_b : Exa Z h0 b "java/lang/Integer") (F_b : Fld Z h0 b "java/lang/Integer" "value" "I" (.int 1)) :
  MetFree l (⟨cn0, "<init>", cn6⟩ : MethodName) (head1 (Jvm.Cond.code (⟨cn0, "<init>", cn6⟩ : MethodName) prog_29_method_1_code 4 none :: ws) (⟨7, 5, 14, 95⟩ : Room)) (fun aa_ UU_ => aa_ = #[.ref wk, .ref a, .ref a, .ref dp] ∧ Z.Warmed39 UU_.vm ∧ UU_.heap = h0) (fun _ _ _ _ _ => True) (fun _ UU_ oo_ UV_ => ∃ vv_ LL_, oo_ = .returned vv_ ∧ Q_rmWI3_3 Z wC cC wD kD mA mL mR wk dp kP a al ct kC t kE b h0 n0 vv_ UV_.heap LL_ ∧ FrameEnd UU_ oo_ UV_ LL_ (⟨7, 5, 14, 95⟩ : Room).cells (⟨7, 5, 14, 95⟩ : Room).slots) := by
 refine MetFree.of_bodySF (plainFor_of_name own_p2) hisR ?_
 intro p e s m args below meth c s₁ Bd hml0 hP hK
 obtain ⟨rfl, hZ, hh⟩ := hP
 have hx := Bd.exec
 have hby := Bd.bytes
 have hml : c.maxLocals = 4 := hml0
 have hown : s.vm.findClass cn0 = some m.cls := findClass_of_methodNamed Bd.named
 have hnm := (name_of_methodNamed Bd.named Bd.method).1
 have X0 : Stand p l e (⟨7, 5, 14, 95⟩ : Room) s m #[.ref wk, .ref a, .ref a, .ref dp] below meth c s₁ [] 0 0 := Stand.of_body Bd
 have e0 : s₁.heap = h0 := by rw [← hh, Bd.state]; rfl
 have N0 := Fr.nil n0
 have hn0 : Z.heap.size = n0 := O0.1
 have KT0 : Keep h0 h0 [wk] := Keep.refl _ _
 refine own_enter (Φ := fun oo_ UV_ => ∃ vv_ LL_, oo_ = .returned vv_ ∧ Q_rmWI3_3 Z wC cC wD kD mA mL mR wk dp kP a al ct kC t kE b h0 n0 vv_ UV_.heap LL_ ∧ FrameEnd s oo_ UV_ LL_ (⟨7, 5, 14, 95⟩ : Room).cells (⟨7, 5, 14, 95⟩ : Room).slots) (own_ef_rmWI3_3 m wk a a dp) ?_
 refine own_b s₁ m 3 #[vr wk, vr a, vr a, vr dp] [.ref a, .ref a, .ref wk] (fun _ k_ => XS.aloadN X0.here hx rfl (hb hby d15_0) rfl rfl (XS.aloadN X0.here hx rfl (hb hby d15_1) rfl rfl (XS.aloadN X0.here hx rfl (hb hby d15_2) rfl rfl k_))) ?_
 obtain ⟨_, _, ⟨T1, L1, k1, n1⟩, -, X1, ⟨Lc1, hQ1, l1, y1, z1⟩, st1⟩ := Jvm.LawKit.callS X0 hx (y := (⟨cn0, "homeZones", "(Lcom/example/even_commute/evencommute/demand/ZoneCounts;)[I"⟩ : MethodName)) hown (mvT hZ (ww hw 107 rfl)) (mvT hZ (ww hw 108 rfl)) (mvT hZ (ww hw 103 rfl)) (mvT hZ (ww hw 109 rfl)) (by decide) (backOf (W := 2) (rmHz_3 l Z a0 hw [] wC cC wD kD mA mL mR GS a al ct kC t kE b h0 n0 (by omega) O0 E_a Ft Fz Fc Vc E_l Fm Fs Fe Vt E_b F_b) hZ (ww hw 109 rfl) (ww hw 103 rfl) (by decide) (by decide)) (g := (mkF m 3 #[vr wk, vr a, vr a, vr dp] [.ref a, .ref a, .ref wk])) rfl (by rw [hml]; rfl) (argsL := [.ref a]) (rest := [.ref a, .ref wk]) (lenOf own_pd_21 rfl) rfl (by show 2 * 0 + _ ≤ _; exact Nat.le_of_eq rfl) (hb hby d15_3) (fun _ _ => ⟨rfl, e0, (by decide : 0 + 4 ≤ _), (by decide : 0 + 11 ≤ _)⟩)
 dsimp only [Pt.U, Pt.locs, Pt.cells, Pt.slots] at X1 l1 y1 z1 st1 hQ1
 subst l1 y1 z1
 obtain ⟨h_2, rfl, N1q, K1, p1_0⟩ := hQ1
 have N3 := Fr.app N0 N1q
 have gh_2 : h0.size ≤ h_2 := p1_0
 have zzK1 : h0.size ≤ T1.heap.size := K1.1
 have oo4 : Old Z n0 T1.heap := O0.keep K1 all0
 have kt5 : Keep h0 T1.heap [wk] := KT0.trans K1 all0
 refine own_b T1 m 6 #[vr wk, vr a, vr a, vr dp] [.ref h_2, .ref a, .ref wk] st1 ?_
 refine own_b T1 m 8 #[vr wk, vr a, vr a, vr dp] [.ref dp, .ref dp, .ref h_2, .ref a, .ref wk] (fun _ k_ => XS.aloadN X1.here hx rfl (hb hby d15_6) rfl rfl (XS.aloadN X1.here hx rfl (hb hby d15_7) rfl rfl k_)) ?_
 have f7 : Arv Z T1.heap dp kP .int (3 : Int32) [.int 0, .int 0, .int 0] (.int 0) := (Vd.keep K1 nin0)
 obtain ⟨cl6, Ar6, q6, S6, M6, H6, G6⟩ := id f7
 refine own_b T1 m 9 #[vr wk, vr a, vr a, vr dp] [.int 3, .ref dp, .ref h_2, .ref a, .ref wk] (fun _ k_ => X1.arraylength hx (by exact Ar6.1) (State.isArrayOf_alike hZ.alike Ar6.2.1) (g := (mkF m 8 #[vr wk, vr a, vr a, vr dp] [.ref dp, .ref dp, .ref h_2, .ref a, .ref wk])) rfl rfl (hb hby d15_8) _ (by rw [len_of S6 M6]; exact k_)) ?_
 obtain ⟨T8, h8, k8, X8, e8, E8, A8, st8⟩ := newP X1 hx hZ (ww hw 1 rfl) rfl (g := (mkF m 9 #[vr wk, vr a, vr a, vr dp] [.int 3, .ref dp, .ref h_2, .ref a, .ref wk])) rfl (hb hby d15_9) rfl (by decide) (cap := 3) (by decide) (by decide) (by decide) (by decide)
 obtain ⟨b8, g8⟩ : ∃ z, z = T1.heap.size := ⟨_, rfl⟩
 rw [← g8] at A8 st8
 have K9 : Keep T1.heap h8 [] := own_kext E8
 have zzK9 : T1.heap.size ≤ h8.size := K9.1
 have oo10 : Old Z n0 h8 := oo4.keep K9 all0
 have kt11 : Keep h0 h8 [wk] := kt5.trans K9 all0
 have lab8 : b8 < h8.size := A8.lt
 have f12 : Arv Z h8 b8 k8 .int (3 : Int32) [.int 0, .int 0, .int 0] (.int 0) := (Arv.new A8 (by decide)).pad (pad_rep [] (.int 0) 3)
 refine own_b T8 m 11 #[vr wk, vr a, vr a, vr dp] [.ref b8, .ref dp, .ref h_2, .ref a, .ref wk] st8 ?_
 have f13 : Exa Z h8 wk cn0 := ((E_w.keep K1).keep K9)
 have la14 : @LT.lt Nat instLTNat wk h0.size := E_w.lt
 have f15 : Fld Z h8 wk cn0 "jobs" cn4 .null := ((Wf0.keep K1 nin0).keep K9 nin0)
 have f16 : Fld Z h8 wk cn0 "homeZones" "[I" .null := ((Wf1.keep K1 nin0).keep K9 nin0)
 have f17 : Fld Z h8 wk cn0 "departures" "[I" .null := ((Wf2.keep K1 nin0).keep K9 nin0)
 have f18 : Fld Z h8 wk cn0 "workplaces" "[I" .null := ((Wf3.keep K1 nin0).keep K9 nin0)
 obtain ⟨_, _, ⟨T19, L19, k19, n19⟩, -, X19, ⟨Lc19, hQ19, l19, y19, z19⟩, st19⟩ := X8.specialBack hx (y := (⟨cn0, "<init>", "(Lcom/example/even_commute/evencommute/demand/ZoneCounts;[I[I[I)V"⟩ : MethodName)) rfl hown (mvT hZ (ww hw 268 rfl)) (mvT hZ (ww hw 269 rfl)) (mvT hZ (ww hw 270 rfl)) (by decide) (backOf (W := 0) (rmWI4 l Z a0 hw [] wC cC wD kD mA mL mR GS wk a h_2 dp b8 h8 n0 (by omega) oo10 f13 (by omega) f15 f16 f17 f18) hZ (ww hw 270 rfl) (ww hw 103 rfl) (by decide) (by decide)) (g := (mkF m 11 #[vr wk, vr a, vr a, vr dp] [.ref b8, .ref dp, .ref h_2, .ref a, .ref wk])) rfl (by rw [hml]; rfl) (Steps.refl _) (a := wk) (argsL := [.ref a, .ref h_2, .ref dp, .ref b8]) (rest := []) (lenOf own_pd_22 rfl) rfl (by show 2 * 0 + _ ≤ _; exact Nat.le_of_eq rfl) (hb hby d15_11) (fun _ _ => ⟨rfl, e8, (by decide : 5 + 0 ≤ _), (by decide : 14 + 0 ≤ _)⟩)
 dsimp only [Pt.U, Pt.locs, Pt.cells, Pt.slots] at X19 l19 y19 z19 st19 hQ19
 subst l19 y19 z19
 obtain ⟨rfl, N19q, K19, p19_0, p19_1, p19_2, p19_3⟩ := hQ19
 have N20 := Fr.app N3 N19q
 have zzK19 : h8.size ≤ T19.heap.size := K19.1
 have oo21 : Old Z n0 T19.heap := oo10.keep K19 (allS (by omega : n0 ≤ wk) all0)
 have kt22 : Keep h0 T19.heap [wk] := kt11.trans K19 (allS (Or.inl (List.mem_of_getElem? (i := 0) rfl)) all0)
 refine own_b T19 m 14 #[vr wk, vr a, vr a, vr dp] [] (fun _ k_ => st19.trans k_) ?_
 have ne23 : @Ne Nat b8 wk := by omega
 have f24 : Arv Z T19.heap b8 k8 .int (3 : Int32) [.int 0, .int 0, .int 0] (.int 0) := (f12.keep K19 (ninS ne23 nin0))
 obtain ⟨fs25, hr25, hrun25, hended25, hW25, hsame25⟩ := X19.leave (v := none) (fun _ => rfl)
 refine ⟨_, _, X19.returnOut hx Bd.returns (hb hby d15_14) hr25, hrun25, hended25, _, _, rfl, ?_, ⟨_, rfl⟩, hW25, hsame25.mono (by decide) (by decide)⟩
 show Q_rmWI3_3 Z wC cC wD kD mA mL mR wk dp kP a al ct kC t kE b h0 n0 _ T19.heap _
 exact ⟨h_2, b8, k8, rfl, N20, kt22, (by omega), p19_0, p19_1, p19_2, p19_3, f24⟩
theorem own_ef_rmWw_3 (m : MethodId) (x0 : Addr) (x1 : Addr) : entryFrame m #[.ref x0, .ref x1] 2 = mkF m 0 #[.val (.ref x0), .val (.ref x1)] [] := by first | (simp [entryFrame, mkF, argsToLocals, Value.category]; done) | rfl
def Q_rmWw_3 (Z : State) (wC : Addr) (cC : Cell) (wD : Addr) (kD : ClassId) (mA : Addr) (mL : Addr) (mR : Addr) (wk : Addr) (wp : Addr) (kW : ClassId) (a : Addr) (h : Addr) (dp : Addr) (wq : Addr) (v0 : Int32) (v1 : Int32) (v2 : Int32) (h0 : Heap) (n0 : Nat) (vv_ : Option Value) (hh_ : Heap) (LL_ : List Loc) : Prop := ∃ r : Addr, ∃ wr : Addr, ∃ kR : ClassId, vv_ = some (.ref r) ∧ Fr n0 LL_ ∧ Keep h0 hh_ [] ∧ h0.size ≤ r ∧ h0.size ≤ wr ∧ Exa Z hh_ r "com/example/even_commute/evencommute/demand/Workers" ∧ Fld Z hh_ r "com/example/even_commute/evencommute/demand/Workers" "workplaces" "[I" (.ref wr) ∧ Arv Z hh_ wr kR .int (3 : Int32) [.int v0, .int v1, .int v2] (.int 0)
theorem rmWw_3 (l : Launch) (Z : State) (a0 : Array Value) (hw : ∀ d ∈ tables_1, d.before a0 Z = true) (ws : List Jvm.Cond) (wC : Addr) (cC : Cell) (wD : Addr) (kD : ClassId) (mA : Addr) (mL : Addr) (mR : Addr) (GS : Glob Z wC cC wD kD mA mL mR) (wk : Addr) (wp : Addr) (kW : ClassId) (a : Addr) (h : Addr) (dp : Addr) (wq : Addr) (v0 : Int32) (v1 : Int32) (v2 : Int32) (h0 : Heap) (n0 : Nat) (Z0 : n0 ≤ h0.size) (O0 : Old Z n0 h0) (E_w : Exa Z h0 wk cn0) (E_p : Exa Z h0 wp "[I") (Vp : Arv Z h0 wp kW .int (3 : Int32) [.int v0, .int v1, .int v2] (.int 0)) (Wf0 : Fld Z h0 wk cn0 "jobs" cn4 (.ref a)) (Wf1 : Fld Z h0 wk cn0 "homeZones" "[I" (.ref h)) (Wf2 : Fld Z h0 wk cn0 "departures" "[I" (.ref dp)) (Wf3 : Fld Z h0 wk cn0 "workplaces" "[I" (.ref wq)) :
  MetFree l (⟨cn0, "withWorkplaces", "([I)Lcom/example/even_commute/evencommute/demand/Workers;"⟩ : MethodName) (head1 (Jvm.Cond.code (⟨cn0, "withWorkplaces", "([I)Lcom/example/even_commute/evencommute/demand/Workers;"⟩ : MethodName) prog_29_method_3_code 2 (some (.object cn0)) :: ws) (⟨2, 2, 7, 29⟩ : Room)) (fun aa_ UU_ => aa_ = #[.ref wk, .ref wp] ∧ Z.Warmed39 UU_.vm ∧ UU_.heap = h0) (fun _ _ _ _ _ => True) (fun _ UU_ oo_ UV_ => ∃ vv_ LL_, oo_ = .returned vv_ ∧ Q_rmWw_3 Z wC cC wD kD mA mL mR wk wp kW a h dp wq v0 v1 v2 h0 n0 vv_ UV_.heap LL_ ∧ FrameEnd UU_ oo_ UV_ LL_ (⟨2, 2, 7, 29⟩ : Room).cells (⟨2, 2, 7, 29⟩ : Room).slots) := by
 refine MetFree.of_bodySF (plainFor_of_name own_p2) hisR ?_
 intro p e s m args below meth c s₁ Bd hml0 hP hK
 obtain ⟨rfl, hZ, hh⟩ := hP
 have hx := Bd.exec
 have hby := Bd.bytes
 have hml : c.maxLocals = 2 := hml0
 have hown : s.vm.findClass cn0 = some m.cls := findClass_of_methodNamed Bd.named
 have hnm := (name_of_methodNamed Bd.named Bd.method).1
 have X0 : Stand p l e (⟨2, 2, 7, 29⟩ : Room) s m #[.ref wk, .ref wp] below meth c s₁ [] 0 0 := Stand.of_body Bd
 have e0 : s₁.heap = h0 := by rw [← hh, Bd.state]; rfl
 have N0 := Fr.nil n0
 have hn0 : Z.heap.size = n0 := O0.1
 have KT0 : Keep h0 h0 [] := Keep.refl _ _
 refine own_enter (Φ := fun oo_ UV_ => ∃ vv_ LL_, oo_ = .returned vv_ ∧ Q_rmWw_3 Z wC cC wD kD mA mL mR wk wp kW a h dp wq v0 v1 v2 h0 n0 vv_ UV_.heap LL_ ∧ FrameEnd s oo_ UV_ LL_ (⟨2, 2, 7, 29⟩ : Room).cells (⟨2, 2, 7, 29⟩ : Room).slots) (own_ef_rmWw_3 m wk wp) ?_
 obtain ⟨T1, h1, X1, e1, E1, A1, D1, -, st1⟩ := newO X0 hx hZ hown (ww hw 285 rfl) (ww hw 102 rfl) (ww hw 103 rfl) e0 (g := (mkF m 0 #[vr wk, vr wp] [])) rfl (hb hby d37_0) (by decide) (by decide)
 obtain ⟨b1, g1⟩ : ∃ z, z = h0.size := ⟨_, rfl⟩
 rw [← g1] at A1 D1 st1
 have K2 : Keep h0 h1 [] := own_kext E1
 have zzK2 : h0.size ≤ h1.size := K2.1
 have oo3 : Old Z n0 h1 := O0.keep K2 all0
 have kt4 : Keep h0 h1 [] := KT0.trans K2 all0
 have lab1 : b1 < h1.size := A1.lt
 have f5 : Fld Z h1 b1 cn0 "jobs" cn4 .null := D1 (Or.inr (ww hw 273 rfl)) (ty := (.object cn1)) (by decide)
 have f6 : Fld Z h1 b1 cn0 "homeZones" "[I" .null := D1 (Or.inr (ww hw 275 rfl)) (ty := (.array .int)) (by decide)
 have f7 : Fld Z h1 b1 cn0 "departures" "[I" .null := D1 (Or.inr (ww hw 277 rfl)) (ty := (.array .int)) (by decide)
 have f8 : Fld Z h1 b1 cn0 "workplaces" "[I" .null := D1 (Or.inr (ww hw 279 rfl)) (ty := (.array .int)) (by decide)
 refine own_b T1 m 3 #[vr wk, vr wp] [.ref b1] st1 ?_
 refine own_b T1 m 5 #[vr wk, vr wp] [.ref wk, .ref b1, .ref b1] (fun _ k_ => XS.dup X1.here hx rfl (hb hby d37_3) rfl rfl (XS.aloadN X1.here hx rfl (hb hby d37_4) rfl rfl k_)) ?_
 have f9 : Fld Z h1 wk cn0 "jobs" cn4 (.ref a) := (Wf0.keep K2 nin0)
 obtain ⟨T10, X10, e10, st10⟩ := getF X1 hx hZ hown (host := "") (Or.inl (ww hw 272 rfl)) Via.refl e1 f9 (g := (mkF m 5 #[vr wk, vr wp] [.ref wk, .ref b1, .ref b1])) rfl rfl (hb hby d37_5)
 refine own_b T10 m 8 #[vr wk, vr wp] [.ref a, .ref b1, .ref b1] st10 ?_
 refine own_b T10 m 9 #[vr wk, vr wp] [.ref wk, .ref a, .ref b1, .ref b1] (fun _ k_ => XS.aloadN X10.here hx rfl (hb hby d37_8) rfl rfl k_) ?_
 have f11 : Fld Z h1 wk cn0 "homeZones" "[I" (.ref h) := (Wf1.keep K2 nin0)
 obtain ⟨T12, X12, e12, st12⟩ := getF X10 hx hZ hown (host := "") (Or.inl (ww hw 274 rfl)) Via.refl e10 f11 (g := (mkF m 9 #[vr wk, vr wp] [.ref wk, .ref a, .ref b1, .ref b1])) rfl rfl (hb hby d37_9)
 refine own_b T12 m 12 #[vr wk, vr wp] [.ref h, .ref a, .ref b1, .ref b1] st12 ?_
 refine own_b T12 m 13 #[vr wk, vr wp] [.ref wk, .ref h, .ref a, .ref b1, .ref b1] (fun _ k_ => XS.aloadN X12.here hx rfl (hb hby d37_12) rfl rfl k_) ?_
 have f13 : Fld Z h1 wk cn0 "departures" "[I" (.ref dp) := (Wf2.keep K2 nin0)
 obtain ⟨T14, X14, e14, st14⟩ := getF X12 hx hZ hown (host := "") (Or.inl (ww hw 276 rfl)) Via.refl e12 f13 (g := (mkF m 13 #[vr wk, vr wp] [.ref wk, .ref h, .ref a, .ref b1, .ref b1])) rfl rfl (hb hby d37_13)
 refine own_b T14 m 16 #[vr wk, vr wp] [.ref dp, .ref h, .ref a, .ref b1, .ref b1] st14 ?_
 refine own_b T14 m 17 #[vr wk, vr wp] [.ref wp, .ref dp, .ref h, .ref a, .ref b1, .ref b1] (fun _ k_ => XS.aloadN X14.here hx rfl (hb hby d37_16) rfl rfl k_) ?_
 have f16 : Arv Z h1 wp kW .int (3 : Int32) [.int v0, .int v1, .int v2] (.int 0) := (Vp.keep K2 nin0)
 obtain ⟨cl15, Ar15, q15, S15, M15, H15, G15⟩ := id f16
 have f17 : Exa Z h1 wp "[I" := (E_p.keep K2)
 obtain ⟨T15, h15, X15, e15, E15, A15, B15, st15⟩ := cloneA X14 hx hZ hown (ww hw 286 rfl) (ww hw 287 rfl) (ww hw 291 rfl) (ww hw 289 rfl) (ww hw 290 rfl) (ww hw 292 rfl) e14 Ar15 f17 (fitC_of Ar15 fun i hi v hv => by rw [H15 i hi] at hv; cases hv; exact G15 i hi) (g := (mkF m 17 #[vr wk, vr wp] [.ref wp, .ref dp, .ref h, .ref a, .ref b1, .ref b1])) rfl (by rw [hml]; rfl) rfl (hb hby d37_17) (by decide) (W := 5) (cap := 3) (by show 2 * 0 + _ ≤ _; exact Nat.le_of_eq rfl) (by decide) (by rw [S15]; decide) (by decide) (by decide)
 obtain ⟨b15, g15⟩ : ∃ z, z = h1.size := ⟨_, rfl⟩
 rw [← g15] at A15 B15 st15
 have K18 : Keep h1 h15 [] := own_kext E15
 have zzK18 : h1.size ≤ h15.size := K18.1
 have oo19 : Old Z n0 h15 := oo3.keep K18 all0
 have kt20 : Keep h0 h15 [] := kt4.trans K18 all0
 have lab15 : b15 < h15.size := A15.lt
 have f21 : Arv Z h15 b15 kW .int (3 : Int32) [.int v0, .int v1, .int v2] (.int 0) := ⟨_, A15, q15, S15, M15, H15, G15⟩
 refine own_b T15 m 20 #[vr wk, vr wp] [.ref b15, .ref dp, .ref h, .ref a, .ref b1, .ref b1] st15 ?_
 obtain ⟨T22, X22, e22, st22⟩ := castY X15 hx hZ hown (ww hw 293 rfl) e15 (Ins.self B15) (g := (mkF m 20 #[vr wk, vr wp] [.ref b15, .ref dp, .ref h, .ref a, .ref b1, .ref b1])) rfl rfl (hb hby d37_20)
 refine own_b T22 m 23 #[vr wk, vr wp] [.ref b15, .ref dp, .ref h, .ref a, .ref b1, .ref b1] st22 ?_
 have f23 : Exa Z h15 b1 cn0 := (A1.keep K18)
 have f24 : Fld Z h15 b1 cn0 "jobs" cn4 .null := (f5.keep K18 nin0)
 have f25 : Fld Z h15 b1 cn0 "homeZones" "[I" .null := (f6.keep K18 nin0)
 have f26 : Fld Z h15 b1 cn0 "departures" "[I" .null := (f7.keep K18 nin0)
 have f27 : Fld Z h15 b1 cn0 "workplaces" "[I" .null := (f8.keep K18 nin0)
 obtain ⟨_, _, ⟨T28, L28, k28, n28⟩, -, X28, ⟨Lc28, hQ28, l28, y28, z28⟩, st28⟩ := X22.specialBack hx (y := (⟨cn0, "<init>", "(Lcom/example/even_commute/evencommute/demand/ZoneCounts;[I[I[I)V"⟩ : MethodName)) rfl hown (mvT hZ (ww hw 268 rfl)) (mvT hZ (ww hw 269 rfl)) (mvT hZ (ww hw 270 rfl)) (by decide) (backOf (W := 1) (rmWI4 l Z a0 hw [] wC cC wD kD mA mL mR GS b1 a h dp b15 h15 n0 (by omega) oo19 f23 (by omega) f24 f25 f26 f27) hZ (ww hw 270 rfl) (ww hw 103 rfl) (by decide) (by decide)) (g := (mkF m 23 #[vr wk, vr wp] [.ref b15, .ref dp, .ref h, .ref a, .ref b1, .ref b1])) rfl (by rw [hml]; rfl) (Steps.refl _) (a := b1) (argsL := [.ref a, .ref h, .ref dp, .ref b15]) (rest := [.ref b1]) (lenOf own_pd_22 rfl) rfl (by show 2 * 0 + _ ≤ _; exact Nat.le_of_eq rfl) (hb hby d37_23) (fun _ _ => ⟨rfl, e22, (by decide : 2 + 0 ≤ _), (by decide : 7 + 0 ≤ _)⟩)
 dsimp only [Pt.U, Pt.locs, Pt.cells, Pt.slots] at X28 l28 y28 z28 st28 hQ28
 subst l28 y28 z28
 obtain ⟨rfl, N28q, K28, p28_0, p28_1, p28_2, p28_3⟩ := hQ28
 have N29 := Fr.app N0 N28q
 have zzK28 : h15.size ≤ T28.heap.size := K28.1
 have oo30 : Old Z n0 T28.heap := oo19.keep K28 (allS (by omega : n0 ≤ b1) all0)
 have kt31 : Keep h0 T28.heap [] := kt20.trans K28 (allS (Or.inr (by omega : h0.size ≤ b1)) all0)
 refine own_b T28 m 26 #[vr wk, vr wp] [.ref b1] (fun _ k_ => st28.trans k_) ?_
 have ne32 : @Ne Nat b15 b1 := by omega
 have f33 : Arv Z T28.heap b15 kW .int (3 : Int32) [.int v0, .int v1, .int v2] (.int 0) := (f21.keep K28 (ninS ne32 nin0))
 have f34 : Exa Z T28.heap b1 cn0 := (f23.keep K28)
 obtain ⟨fs35, hr35, hrun35, hended35, hW35, hsame35⟩ := X28.leave (v := some (.ref b1)) (fun h => by rw [Bd.returns] at h; cases h)
 refine ⟨_, _, retOut X28 hx (t := (.object cn0)) Bd.returns rfl (Or.inr (Or.inr (Or.inr (Or.inr ⟨rfl, rfl, rfl⟩)))) (hb hby d37_26) hr35, hrun35, hended35, _, _, rfl, ?_, ⟨_, rfl⟩, hW35, hsame35.mono (by decide) (by decide)⟩
 show Q_rmWw_3 Z wC cC wD kD mA mL mR wk wp kW a h dp wq v0 v1 v2 h0 n0 _ T28.heap _
 exact ⟨b1, b15, kW, rfl, N29, kt31, (by omega), (by omega), f34, p28_3, f33⟩
theorem own_ef_rmC0_3 (m : MethodId) (x0 : Addr) : entryFrame m #[.ref x0] 6 = mkF m 0 #[.val (.ref x0), .unset, .unset, .unset, .unset, .unset] [] := by first | (simp [entryFrame, mkF, argsToLocals, Value.category]; done) | rfl
def Q_rmC0_3 (Z : State) (wC : Addr) (cC : Cell) (wD : Addr) (kD : ClassId) (mA : Addr) (mL : Addr) (mR : Addr) (wk : Addr) (wp : Addr) (kW : ClassId) (h0 : Heap) (n0 : Nat) (vv_ : Option Value) (hh_ : Heap) (LL_ : List Loc) : Prop := vv_ = some (.int 0) ∧ Fr n0 LL_ ∧ hh_ = h0
theorem rmC0_3 (l : Launch) (Z : State) (a0 : Array Value) (hw : ∀ d ∈ tables_1, d.before a0 Z = true) (ws : List Jvm.Cond) (wC : Addr) (cC : Cell) (wD : Addr) (kD : ClassId) (mA : Addr) (mL : Addr) (mR : Addr) (GS : Glob Z wC cC wD kD mA mL mR) (wk : Addr) (wp : Addr) (kW : ClassId) (h0 : Heap) (n0 : Nat) (Z0 : n0 ≤ h0.size) (O0 : Old Z n0 h0) (E_w : Exa Z h0 wk cn0) (Wf3 : Fld Z h0 wk cn0 "workplaces" "[I" (.ref wp)) (Vp : Arv Z h0 wp kW .int (3 : Int32) [.int 0, .int 0, .int 0] (.int 0)) :
  MetFree l (⟨cn0, "getAssignedCount", "()I"⟩ : MethodName) (head1 (Jvm.Cond.code (⟨cn0, "getAssignedCount", "()I"⟩ : MethodName) prog_29_method_10_code 6 (some .int) :: ws) (⟨0, 0, 0, 0⟩ : Room)) (fun aa_ UU_ => aa_ = #[.ref wk] ∧ Z.Warmed39 UU_.vm ∧ UU_.heap = h0) (fun _ _ _ _ _ => True) (fun _ UU_ oo_ UV_ => ∃ vv_ LL_, oo_ = .returned vv_ ∧ Q_rmC0_3 Z wC cC wD kD mA mL mR wk wp kW h0 n0 vv_ UV_.heap LL_ ∧ FrameEnd UU_ oo_ UV_ LL_ (⟨0, 0, 0, 0⟩ : Room).cells (⟨0, 0, 0, 0⟩ : Room).slots) := by
 refine MetFree.of_bodySF (plainFor_of_name own_p2) hisR ?_
 intro p e s m args below meth c s₁ Bd hml0 hP hK
 obtain ⟨rfl, hZ, hh⟩ := hP
 have hx := Bd.exec
 have hby := Bd.bytes
 have hml : c.maxLocals = 6 := hml0
 have hown : s.vm.findClass cn0 = some m.cls := findClass_of_methodNamed Bd.named
 have hnm := (name_of_methodNamed Bd.named Bd.method).1
 have X0 : Stand p l e (⟨0, 0, 0, 0⟩ : Room) s m #[.ref wk] below meth c s₁ [] 0 0 := Stand.of_body Bd
 have e0 : s₁.heap = h0 := by rw [← hh, Bd.state]; rfl
 have N0 := Fr.nil n0
 have hn0 : Z.heap.size = n0 := O0.1
 have KT0 : Keep h0 h0 [] := Keep.refl _ _
 refine own_enter (Φ := fun oo_ UV_ => ∃ vv_ LL_, oo_ = .returned vv_ ∧ Q_rmC0_3 Z wC cC wD kD mA mL mR wk wp kW h0 n0 vv_ UV_.heap LL_ ∧ FrameEnd s oo_ UV_ LL_ (⟨0, 0, 0, 0⟩ : Room).cells (⟨0, 0, 0, 0⟩ : Room).slots) (own_ef_rmC0_3 m wk) ?_
 refine own_b s₁ m 3 #[vr wk, vi 0, un, un, un, un] [.ref wk] (fun _ k_ => XS.iconst X0.here hx rfl (hb hby d38_0) (XS.istoreN X0.here hx rfl (hb hby d38_1) rfl (l' := #[vr wk, vi 0, un, un, un, un]) rfl (XS.aloadN X0.here hx rfl (hb hby d38_2) rfl rfl k_))) ?_
 obtain ⟨T1, X1, e1, st1⟩ := getF X0 hx hZ hown (host := "") (Or.inl (ww hw 278 rfl)) Via.refl e0 Wf3 (g := (mkF m 3 #[vr wk, vi 0, un, un, un, un] [.ref wk])) rfl rfl (hb hby d38_3)
 refine own_b T1 m 6 #[vr wk, vi 0, un, un, un, un] [.ref wp] st1 ?_
 refine own_b T1 m 8 #[vr wk, vi 0, vr wp, un, un, un] [.ref wp] (fun _ k_ => XS.astoreN X1.here hx rfl (hb hby d38_6) rfl rfl (l' := #[vr wk, vi 0, vr wp, un, un, un]) rfl (XS.aloadN X1.here hx rfl (hb hby d38_7) rfl rfl k_)) ?_
 obtain ⟨cl2, Ar2, q2, S2, M2, H2, G2⟩ := id Vp
 refine own_b T1 m 9 #[vr wk, vi 0, vr wp, un, un, un] [.int 3] (fun _ k_ => X1.arraylength hx (by rw [e1]; exact Ar2.1) (State.isArrayOf_alike hZ.alike Ar2.2.1) (g := (mkF m 8 #[vr wk, vi 0, vr wp, un, un, un] [.ref wp])) rfl rfl (hb hby d38_8) _ (by rw [len_of S2 M2]; exact k_)) ?_
 refine own_b T1 m 22 #[vr wk, vi 0, vr wp, vi 3, vi 0, un] [.int 0, .ref wp] (fun _ k_ => XS.istoreN X1.here hx rfl (hb hby d38_9) rfl (l' := #[vr wk, vi 0, vr wp, vi 3, un, un]) rfl (XS.iconst X1.here hx rfl (hb hby d38_10) (XS.istore X1.here hx rfl (hb hby d38_11) rfl (l' := #[vr wk, vi 0, vr wp, vi 3, vi 0, un]) rfl (XS.iload X1.here hx rfl (hb hby d38_13) rfl (XS.iloadN X1.here hx rfl (hb hby d38_15) rfl (XS.icmpNo X1.here hx rfl (hb hby d38_16) rfl (XT.ii_ge_f (by decide)) (XS.aloadN X1.here hx rfl (hb hby d38_19) rfl rfl (XS.iload X1.here hx rfl (hb hby d38_20) rfl k_)))))))) ?_
 obtain ⟨cl3, Ar3, q3, S3, M3, H3, G3⟩ := id Vp
 have hin3 : ¬ ((0 : Int32) < 0 ∨ cl3.slots.size ≤ ((0 : Int32)).toNatClampNeg) := inb_of S3 ⟨by decide, by decide⟩
 have hat3 : cl3.slots[((0 : Int32)).toNatClampNeg]? = some (.int 0) := H3.at hin3 rfl
 refine own_b T1 m 23 #[vr wk, vi 0, vr wp, vi 3, vi 0, un] [.int 0] (fun _ k_ => X1.iaload hx (j := (0 : Int32)) (v := (.int 0)) (by rw [e1]; exact Ar3.1) (State.isArrayOf_alike hZ.alike Ar3.2.1) Ar3.2.2 hin3 hat3 (g := (mkF m 22 #[vr wk, vi 0, vr wp, vi 3, vi 0, un] [.int 0, .ref wp])) rfl rfl (hb hby d38_22) _ k_) ?_
 refine own_b T1 m 36 #[vr wk, vi 0, vr wp, vi 3, .val (.int ((0 : Int32) + (1 : Int32))), vi 0] [] (fun _ k_ => XS.istore X1.here hx rfl (hb hby d38_23) rfl (l' := #[vr wk, vi 0, vr wp, vi 3, vi 0, vi 0]) rfl (XS.iload X1.here hx rfl (hb hby d38_25) rfl (XS.ifYes X1.here hx rfl (pc0 := 27) (pc' := 33) rfl (hb hby d38_27) rfl (XT.i0_eq_t (by decide)) (by decide) (by decide) (XS.iinc X1.here hx rfl (hb hby d38_33) rfl rfl k_)))) ?_
 rw [show ((0 : Int32) + (1 : Int32)) = (1 : Int32) from by decide]
 refine own_b T1 m 22 #[vr wk, vi 0, vr wp, vi 3, vi 1, vi 0] [.int 1, .ref wp] (fun _ k_ => XS.goto X1.here hx rfl (pc0 := 36) (pc' := 13) rfl (hb hby d38_36) (by decide) (by decide) (XS.iload X1.here hx rfl (hb hby d38_13) rfl (XS.iloadN X1.here hx rfl (hb hby d38_15) rfl (XS.icmpNo X1.here hx rfl (hb hby d38_16) rfl (XT.ii_ge_f (by decide)) (XS.aloadN X1.here hx rfl (hb hby d38_19) rfl rfl (XS.iload X1.here hx rfl (hb hby d38_20) rfl k_)))))) ?_
 obtain ⟨cl4, Ar4, q4, S4, M4, H4, G4⟩ := id Vp
 have hin4 : ¬ ((1 : Int32) < 0 ∨ cl4.slots.size ≤ ((1 : Int32)).toNatClampNeg) := inb_of S4 ⟨by decide, by decide⟩
 have hat4 : cl4.slots[((1 : Int32)).toNatClampNeg]? = some (.int 0) := H4.at hin4 rfl
 refine own_b T1 m 23 #[vr wk, vi 0, vr wp, vi 3, vi 1, vi 0] [.int 0] (fun _ k_ => X1.iaload hx (j := (1 : Int32)) (v := (.int 0)) (by rw [e1]; exact Ar4.1) (State.isArrayOf_alike hZ.alike Ar4.2.1) Ar4.2.2 hin4 hat4 (g := (mkF m 22 #[vr wk, vi 0, vr wp, vi 3, vi 1, vi 0] [.int 1, .ref wp])) rfl rfl (hb hby d38_22) _ k_) ?_
 refine own_b T1 m 36 #[vr wk, vi 0, vr wp, vi 3, .val (.int ((1 : Int32) + (1 : Int32))), vi 0] [] (fun _ k_ => XS.istore X1.here hx rfl (hb hby d38_23) rfl (l' := #[vr wk, vi 0, vr wp, vi 3, vi 1, vi 0]) rfl (XS.iload X1.here hx rfl (hb hby d38_25) rfl (XS.ifYes X1.here hx rfl (pc0 := 27) (pc' := 33) rfl (hb hby d38_27) rfl (XT.i0_eq_t (by decide)) (by decide) (by decide) (XS.iinc X1.here hx rfl (hb hby d38_33) rfl rfl k_)))) ?_
 rw [show ((1 : Int32) + (1 : Int32)) = (2 : Int32) from by decide]
 refine own_b T1 m 22 #[vr wk, vi 0, vr wp, vi 3, vi 2, vi 0] [.int 2, .ref wp] (fun _ k_ => XS.goto X1.here hx rfl (pc0 := 36) (pc' := 13) rfl (hb hby d38_36) (by decide) (by decide) (XS.iload X1.here hx rfl (hb hby d38_13) rfl (XS.iloadN X1.here hx rfl (hb hby d38_15) rfl (XS.icmpNo X1.here hx rfl (hb hby d38_16) rfl (XT.ii_ge_f (by decide)) (XS.aloadN X1.here hx rfl (hb hby d38_19) rfl rfl (XS.iload X1.here hx rfl (hb hby d38_20) rfl k_)))))) ?_
 obtain ⟨cl5, Ar5, q5, S5, M5, H5, G5⟩ := id Vp
 have hin5 : ¬ ((2 : Int32) < 0 ∨ cl5.slots.size ≤ ((2 : Int32)).toNatClampNeg) := inb_of S5 ⟨by decide, by decide⟩
 have hat5 : cl5.slots[((2 : Int32)).toNatClampNeg]? = some (.int 0) := H5.at hin5 rfl
 refine own_b T1 m 23 #[vr wk, vi 0, vr wp, vi 3, vi 2, vi 0] [.int 0] (fun _ k_ => X1.iaload hx (j := (2 : Int32)) (v := (.int 0)) (by rw [e1]; exact Ar5.1) (State.isArrayOf_alike hZ.alike Ar5.2.1) Ar5.2.2 hin5 hat5 (g := (mkF m 22 #[vr wk, vi 0, vr wp, vi 3, vi 2, vi 0] [.int 2, .ref wp])) rfl rfl (hb hby d38_22) _ k_) ?_
 refine own_b T1 m 36 #[vr wk, vi 0, vr wp, vi 3, .val (.int ((2 : Int32) + (1 : Int32))), vi 0] [] (fun _ k_ => XS.istore X1.here hx rfl (hb hby d38_23) rfl (l' := #[vr wk, vi 0, vr wp, vi 3, vi 2, vi 0]) rfl (XS.iload X1.here hx rfl (hb hby d38_25) rfl (XS.ifYes X1.here hx rfl (pc0 := 27) (pc' := 33) rfl (hb hby d38_27) rfl (XT.i0_eq_t (by decide)) (by decide) (by decide) (XS.iinc X1.here hx rfl (hb hby d38_33) rfl rfl k_)))) ?_
 rw [show ((2 : Int32) + (1 : Int32)) = (3 : Int32) from by decide]
 refine own_b T1 m 40 #[vr wk, vi 0, vr wp, vi 3, vi 3, vi 0] [.int 0] (fun _ k_ => XS.goto X1.here hx rfl (pc0 := 36) (pc' := 13) rfl (hb hby d38_36) (by decide) (by decide) (XS.iload X1.here hx rfl (hb hby d38_13) rfl (XS.iloadN X1.here hx rfl (hb hby d38_15) rfl (XS.icmpYes X1.here hx rfl (pc0 := 16) (pc' := 39) rfl (hb hby d38_16) rfl (XT.ii_ge_t (by decide)) (by decide) (by decide) (XS.iloadN X1.here hx rfl (hb hby d38_39) rfl k_))))) ?_
 obtain ⟨fs6, hr6, hrun6, hended6, hW6, hsame6⟩ := X1.leave (v := some (.int 0)) (fun h => by rw [Bd.returns] at h; cases h)
 refine ⟨_, _, retOut X1 hx (t := .int) Bd.returns rfl (Or.inl ⟨rfl, Or.inl rfl, _, rfl⟩) (hb hby d38_40) hr6, hrun6, hended6, _, _, rfl, ?_, ⟨_, rfl⟩, hW6, hsame6.mono (by decide) (by decide)⟩
 show Q_rmC0_3 Z wC cC wD kD mA mL mR wk wp kW h0 n0 _ T1.heap _
 exact ⟨rfl, N0, e1⟩
theorem own_ef_rmCn_3 (m : MethodId) (x0 : Addr) : entryFrame m #[.ref x0] 6 = mkF m 0 #[.val (.ref x0), .unset, .unset, .unset, .unset, .unset] [] := by first | (simp [entryFrame, mkF, argsToLocals, Value.category]; done) | rfl
def Q_rmCn_3 (Z : State) (wC : Addr) (cC : Cell) (wD : Addr) (kD : ClassId) (mA : Addr) (mL : Addr) (mR : Addr) (wk : Addr) (wp : Addr) (kW : ClassId) (v0 : Int32) (v1 : Int32) (v2 : Int32) (h0 : Heap) (n0 : Nat) (vv_ : Option Value) (hh_ : Heap) (LL_ : List Loc) : Prop := vv_ = some (.int (if v0 = (0 : Int32) then (if v1 = (0 : Int32) then (if v2 = (0 : Int32) then (0 : Int32) else (1 : Int32)) else (if v2 = (0 : Int32) then (1 : Int32) else (2 : Int32))) else (if v1 = (0 : Int32) then (if v2 = (0 : Int32) then (1 : Int32) else (2 : Int32)) else (if v2 = (0 : Int32) then (2 : Int32) else (3 : Int32))))) ∧ Fr n0 LL_ ∧ hh_ = h0
theorem rmCn_3 (l : Launch) (Z : State) (a0 : Array Value) (hw : ∀ d ∈ tables_1, d.before a0 Z = true) (ws : List Jvm.Cond) (wC : Addr) (cC : Cell) (wD : Addr) (kD : ClassId) (mA : Addr) (mL : Addr) (mR : Addr) (GS : Glob Z wC cC wD kD mA mL mR) (wk : Addr) (wp : Addr) (kW : ClassId) (v0 : Int32) (v1 : Int32) (v2 : Int32) (h0 : Heap) (n0 : Nat) (Z0 : n0 ≤ h0.size) (O0 : Old Z n0 h0) (E_w : Exa Z h0 wk cn0) (Wf3 : Fld Z h0 wk cn0 "workplaces" "[I" (.ref wp)) (Vp : Arv Z h0 wp kW .int (3 : Int32) [.int v0, .int v1, .int v2] (.int 0)) :
  MetFree l (⟨cn0, "getAssignedCount", "()I"⟩ : MethodName) (head1 (Jvm.Cond.code (⟨cn0, "getAssignedCount", "()I"⟩ : MethodName) prog_29_method_10_code 6 (some .int) :: ws) (⟨0, 0, 0, 0⟩ : Room)) (fun aa_ UU_ => aa_ = #[.ref wk] ∧ Z.Warmed39 UU_.vm ∧ UU_.heap = h0) (fun _ _ _ _ _ => True) (fun _ UU_ oo_ UV_ => ∃ vv_ LL_, oo_ = .returned vv_ ∧ Q_rmCn_3 Z wC cC wD kD mA mL mR wk wp kW v0 v1 v2 h0 n0 vv_ UV_.heap LL_ ∧ FrameEnd UU_ oo_ UV_ LL_ (⟨0, 0, 0, 0⟩ : Room).cells (⟨0, 0, 0, 0⟩ : Room).slots) := by
 refine MetFree.of_bodySF (plainFor_of_name own_p2) hisR ?_
 intro p e s m args below meth c s₁ Bd hml0 hP hK
 obtain ⟨rfl, hZ, hh⟩ := hP
 have hx := Bd.exec
 have hby := Bd.bytes
 have hml : c.maxLocals = 6 := hml0
 have hown : s.vm.findClass cn0 = some m.cls := findClass_of_methodNamed Bd.named
 have hnm := (name_of_methodNamed Bd.named Bd.method).1
 have X0 : Stand p l e (⟨0, 0, 0, 0⟩ : Room) s m #[.ref wk] below meth c s₁ [] 0 0 := Stand.of_body Bd
 have e0 : s₁.heap = h0 := by rw [← hh, Bd.state]; rfl
 have N0 := Fr.nil n0
 have hn0 : Z.heap.size = n0 := O0.1
 have KT0 : Keep h0 h0 [] := Keep.refl _ _
 refine own_enter (Φ := fun oo_ UV_ => ∃ vv_ LL_, oo_ = .returned vv_ ∧ Q_rmCn_3 Z wC cC wD kD mA mL mR wk wp kW v0 v1 v2 h0 n0 vv_ UV_.heap LL_ ∧ FrameEnd s oo_ UV_ LL_ (⟨0, 0, 0, 0⟩ : Room).cells (⟨0, 0, 0, 0⟩ : Room).slots) (own_ef_rmCn_3 m wk) ?_
 refine own_b s₁ m 3 #[vr wk, vi 0, un, un, un, un] [.ref wk] (fun _ k_ => XS.iconst X0.here hx rfl (hb hby d38_0) (XS.istoreN X0.here hx rfl (hb hby d38_1) rfl (l' := #[vr wk, vi 0, un, un, un, un]) rfl (XS.aloadN X0.here hx rfl (hb hby d38_2) rfl rfl k_))) ?_
 obtain ⟨T1, X1, e1, st1⟩ := getF X0 hx hZ hown (host := "") (Or.inl (ww hw 278 rfl)) Via.refl e0 Wf3 (g := (mkF m 3 #[vr wk, vi 0, un, un, un, un] [.ref wk])) rfl rfl (hb hby d38_3)
 refine own_b T1 m 6 #[vr wk, vi 0, un, un, un, un] [.ref wp] st1 ?_
 refine own_b T1 m 8 #[vr wk, vi 0, vr wp, un, un, un] [.ref wp] (fun _ k_ => XS.astoreN X1.here hx rfl (hb hby d38_6) rfl rfl (l' := #[vr wk, vi 0, vr wp, un, un, un]) rfl (XS.aloadN X1.here hx rfl (hb hby d38_7) rfl rfl k_)) ?_
 obtain ⟨cl2, Ar2, q2, S2, M2, H2, G2⟩ := id Vp
 refine own_b T1 m 9 #[vr wk, vi 0, vr wp, un, un, un] [.int 3] (fun _ k_ => X1.arraylength hx (by rw [e1]; exact Ar2.1) (State.isArrayOf_alike hZ.alike Ar2.2.1) (g := (mkF m 8 #[vr wk, vi 0, vr wp, un, un, un] [.ref wp])) rfl rfl (hb hby d38_8) _ (by rw [len_of S2 M2]; exact k_)) ?_
 refine own_b T1 m 22 #[vr wk, vi 0, vr wp, vi 3, vi 0, un] [.int 0, .ref wp] (fun _ k_ => XS.istoreN X1.here hx rfl (hb hby d38_9) rfl (l' := #[vr wk, vi 0, vr wp, vi 3, un, un]) rfl (XS.iconst X1.here hx rfl (hb hby d38_10) (XS.istore X1.here hx rfl (hb hby d38_11) rfl (l' := #[vr wk, vi 0, vr wp, vi 3, vi 0, un]) rfl (XS.iload X1.here hx rfl (hb hby d38_13) rfl (XS.iloadN X1.here hx rfl (hb hby d38_15) rfl (XS.icmpNo X1.here hx rfl (hb hby d38_16) rfl (XT.ii_ge_f (by decide)) (XS.aloadN X1.here hx rfl (hb hby d38_19) rfl rfl (XS.iload X1.here hx rfl (hb hby d38_20) rfl k_)))))))) ?_
 obtain ⟨cl3, Ar3, q3, S3, M3, H3, G3⟩ := id Vp
 have hin3 : ¬ ((0 : Int32) < 0 ∨ cl3.slots.size ≤ ((0 : Int32)).toNatClampNeg) := inb_of S3 ⟨by decide, by decide⟩
 have hat3 : cl3.slots[((0 : Int32)).toNatClampNeg]? = some (.int v0) := H3.at hin3 rfl
 refine own_b T1 m 23 #[vr wk, vi 0, vr wp, vi 3, vi 0, un] [.int v0] (fun _ k_ => X1.iaload hx (j := (0 : Int32)) (v := (.int v0)) (by rw [e1]; exact Ar3.1) (State.isArrayOf_alike hZ.alike Ar3.2.1) Ar3.2.2 hin3 hat3 (g := (mkF m 22 #[vr wk, vi 0, vr wp, vi 3, vi 0, un] [.int 0, .ref wp])) rfl rfl (hb hby d38_22) _ k_) ?_
 refine own_b T1 m 27 #[vr wk, vi 0, vr wp, vi 3, vi 0, vi v0] [.int v0] (fun _ k_ => XS.istore X1.here hx rfl (hb hby d38_23) rfl (l' := #[vr wk, vi 0, vr wp, vi 3, vi 0, vi v0]) rfl (XS.iload X1.here hx rfl (hb hby d38_25) rfl k_)) ?_
 by_cases hc4 : v0 = (0 : Int32)
 ·refine own_b T1 m 36 #[vr wk, vi 0, vr wp, vi 3, .val (.int ((0 : Int32) + (1 : Int32))), vi v0] [] (fun _ k_ => XS.ifYes X1.here hx rfl (pc0 := 27) (pc' := 33) rfl (hb hby d38_27) rfl (XT.i0_eq_t hc4) (by decide) (by decide) (XS.iinc X1.here hx rfl (hb hby d38_33) rfl rfl k_)) ?_
  rw [show ((0 : Int32) + (1 : Int32)) = (1 : Int32) from by decide]
  refine own_b T1 m 22 #[vr wk, vi 0, vr wp, vi 3, vi 1, vi v0] [.int 1, .ref wp] (fun _ k_ => XS.goto X1.here hx rfl (pc0 := 36) (pc' := 13) rfl (hb hby d38_36) (by decide) (by decide) (XS.iload X1.here hx rfl (hb hby d38_13) rfl (XS.iloadN X1.here hx rfl (hb hby d38_15) rfl (XS.icmpNo X1.here hx rfl (hb hby d38_16) rfl (XT.ii_ge_f (by decide)) (XS.aloadN X1.here hx rfl (hb hby d38_19) rfl rfl (XS.iload X1.here hx rfl (hb hby d38_20) rfl k_)))))) ?_
  obtain ⟨cl5, Ar5, q5, S5, M5, H5, G5⟩ := id Vp
  have hin5 : ¬ ((1 : Int32) < 0 ∨ cl5.slots.size ≤ ((1 : Int32)).toNatClampNeg) := inb_of S5 ⟨by decide, by decide⟩
  have hat5 : cl5.slots[((1 : Int32)).toNatClampNeg]? = some (.int v1) := H5.at hin5 rfl
  refine own_b T1 m 23 #[vr wk, vi 0, vr wp, vi 3, vi 1, vi v0] [.int v1] (fun _ k_ => X1.iaload hx (j := (1 : Int32)) (v := (.int v1)) (by rw [e1]; exact Ar5.1) (State.isArrayOf_alike hZ.alike Ar5.2.1) Ar5.2.2 hin5 hat5 (g := (mkF m 22 #[vr wk, vi 0, vr wp, vi 3, vi 1, vi v0] [.int 1, .ref wp])) rfl rfl (hb hby d38_22) _ k_) ?_
  refine own_b T1 m 27 #[vr wk, vi 0, vr wp, vi 3, vi 1, vi v1] [.int v1] (fun _ k_ => XS.istore X1.here hx rfl (hb hby d38_23) rfl (l' := #[vr wk, vi 0, vr wp, vi 3, vi 1, vi v1]) rfl (XS.iload X1.here hx rfl (hb hby d38_25) rfl k_)) ?_
  by_cases hc6 : v1 = (0 : Int32)
  ·refine own_b T1 m 36 #[vr wk, vi 0, vr wp, vi 3, .val (.int ((1 : Int32) + (1 : Int32))), vi v1] [] (fun _ k_ => XS.ifYes X1.here hx rfl (pc0 := 27) (pc' := 33) rfl (hb hby d38_27) rfl (XT.i0_eq_t hc6) (by decide) (by decide) (XS.iinc X1.here hx rfl (hb hby d38_33) rfl rfl k_)) ?_
   rw [show ((1 : Int32) + (1 : Int32)) = (2 : Int32) from by decide]
   refine own_b T1 m 22 #[vr wk, vi 0, vr wp, vi 3, vi 2, vi v1] [.int 2, .ref wp] (fun _ k_ => XS.goto X1.here hx rfl (pc0 := 36) (pc' := 13) rfl (hb hby d38_36) (by decide) (by decide) (XS.iload X1.here hx rfl (hb hby d38_13) rfl (XS.iloadN X1.here hx rfl (hb hby d38_15) rfl (XS.icmpNo X1.here hx rfl (hb hby d38_16) rfl (XT.ii_ge_f (by decide)) (XS.aloadN X1.here hx rfl (hb hby d38_19) rfl rfl (XS.iload X1.here hx rfl (hb hby d38_20) rfl k_)))))) ?_
   obtain ⟨cl7, Ar7, q7, S7, M7, H7, G7⟩ := id Vp
   have hin7 : ¬ ((2 : Int32) < 0 ∨ cl7.slots.size ≤ ((2 : Int32)).toNatClampNeg) := inb_of S7 ⟨by decide, by decide⟩
   have hat7 : cl7.slots[((2 : Int32)).toNatClampNeg]? = some (.int v2) := H7.at hin7 rfl
   refine own_b T1 m 23 #[vr wk, vi 0, vr wp, vi 3, vi 2, vi v1] [.int v2] (fun _ k_ => X1.iaload hx (j := (2 : Int32)) (v := (.int v2)) (by rw [e1]; exact Ar7.1) (State.isArrayOf_alike hZ.alike Ar7.2.1) Ar7.2.2 hin7 hat7 (g := (mkF m 22 #[vr wk, vi 0, vr wp, vi 3, vi 2, vi v1] [.int 2, .ref wp])) rfl rfl (hb hby d38_22) _ k_) ?_
   refine own_b T1 m 27 #[vr wk, vi 0, vr wp, vi 3, vi 2, vi v2] [.int v2] (fun _ k_ => XS.istore X1.here hx rfl (hb hby d38_23) rfl (l' := #[vr wk, vi 0, vr wp, vi 3, vi 2, vi v2]) rfl (XS.iload X1.here hx rfl (hb hby d38_25) rfl k_)) ?_
   by_cases hc8 : v2 = (0 : Int32)
   ·refine own_b T1 m 36 #[vr wk, vi 0, vr wp, vi 3, .val (.int ((2 : Int32) + (1 : Int32))), vi v2] [] (fun _ k_ => XS.ifYes X1.here hx rfl (pc0 := 27) (pc' := 33) rfl (hb hby d38_27) rfl (XT.i0_eq_t hc8) (by decide) (by decide) (XS.iinc X1.here hx rfl (hb hby d38_33) rfl rfl k_)) ?_
    rw [show ((2 : Int32) + (1 : Int32)) = (3 : Int32) from by decide]
    refine own_b T1 m 40 #[vr wk, vi 0, vr wp, vi 3, vi 3, vi v2] [.int 0] (fun _ k_ => XS.goto X1.here hx rfl (pc0 := 36) (pc' := 13) rfl (hb hby d38_36) (by decide) (by decide) (XS.iload X1.here hx rfl (hb hby d38_13) rfl (XS.iloadN X1.here hx rfl (hb hby d38_15) rfl (XS.icmpYes X1.here hx rfl (pc0 := 16) (pc' := 39) rfl (hb hby d38_16) rfl (XT.ii_ge_t (by decide)) (by decide) (by decide) (XS.iloadN X1.here hx rfl (hb hby d38_39) rfl k_))))) ?_
    have hr9 : (0 : Int32) = (if v0 = (0 : Int32) then (if v1 = (0 : Int32) then (if v2 = (0 : Int32) then (0 : Int32) else (1 : Int32)) else (if v2 = (0 : Int32) then (1 : Int32) else (2 : Int32))) else (if v1 = (0 : Int32) then (if v2 = (0 : Int32) then (1 : Int32) else (2 : Int32)) else (if v2 = (0 : Int32) then (2 : Int32) else (3 : Int32)))) := by simp [hc4, hc6, hc8]
    obtain ⟨fs10, hr10, hrun10, hended10, hW10, hsame10⟩ := X1.leave (v := some (.int 0)) (fun h => by rw [Bd.returns] at h; cases h)
    refine ⟨_, _, retOut X1 hx (t := .int) Bd.returns rfl (Or.inl ⟨rfl, Or.inl rfl, _, rfl⟩) (hb hby d38_40) hr10, hrun10, hended10, _, _, rfl, ?_, ⟨_, rfl⟩, hW10, hsame10.mono (by decide) (by decide)⟩
    show Q_rmCn_3 Z wC cC wD kD mA mL mR wk wp kW v0 v1 v2 h0 n0 _ T1.heap _
    exact ⟨(congrArg (fun z => some (Value.int z)) hr9), N0, e1⟩
   ·refine own_b T1 m 33 #[vr wk, .val (.int ((0 : Int32) + (1 : Int32))), vr wp, vi 3, vi 2, vi v2] [] (fun _ k_ => XS.ifNo X1.here hx rfl (hb hby d38_27) rfl (XT.i0_eq_f hc8) (XS.iinc X1.here hx rfl (hb hby d38_30) rfl rfl k_)) ?_
    rw [show ((0 : Int32) + (1 : Int32)) = (1 : Int32) from by decide]
    refine own_b T1 m 36 #[vr wk, vi 1, vr wp, vi 3, .val (.int ((2 : Int32) + (1 : Int32))), vi v2] [] (fun _ k_ => XS.iinc X1.here hx rfl (hb hby d38_33) rfl rfl k_) ?_
    rw [show ((2 : Int32) + (1 : Int32)) = (3 : Int32) from by decide]
    refine own_b T1 m 40 #[vr wk, vi 1, vr wp, vi 3, vi 3, vi v2] [.int 1] (fun _ k_ => XS.goto X1.here hx rfl (pc0 := 36) (pc' := 13) rfl (hb hby d38_36) (by decide) (by decide) (XS.iload X1.here hx rfl (hb hby d38_13) rfl (XS.iloadN X1.here hx rfl (hb hby d38_15) rfl (XS.icmpYes X1.here hx rfl (pc0 := 16) (pc' := 39) rfl (hb hby d38_16) rfl (XT.ii_ge_t (by decide)) (by decide) (by decide) (XS.iloadN X1.here hx rfl (hb hby d38_39) rfl k_))))) ?_
    have hr11 : (1 : Int32) = (if v0 = (0 : Int32) then (if v1 = (0 : Int32) then (if v2 = (0 : Int32) then (0 : Int32) else (1 : Int32)) else (if v2 = (0 : Int32) then (1 : Int32) else (2 : Int32))) else (if v1 = (0 : Int32) then (if v2 = (0 : Int32) then (1 : Int32) else (2 : Int32)) else (if v2 = (0 : Int32) then (2 : Int32) else (3 : Int32)))) := by simp [hc4, hc6, hc8]
    obtain ⟨fs12, hr12, hrun12, hended12, hW12, hsame12⟩ := X1.leave (v := some (.int 1)) (fun h => by rw [Bd.returns] at h; cases h)
    refine ⟨_, _, retOut X1 hx (t := .int) Bd.returns rfl (Or.inl ⟨rfl, Or.inl rfl, _, rfl⟩) (hb hby d38_40) hr12, hrun12, hended12, _, _, rfl, ?_, ⟨_, rfl⟩, hW12, hsame12.mono (by decide) (by decide)⟩
    show Q_rmCn_3 Z wC cC wD kD mA mL mR wk wp kW v0 v1 v2 h0 n0 _ T1.heap _
    exact ⟨(congrArg (fun z => some (Value.int z)) hr11), N0, e1⟩
  ·refine own_b T1 m 33 #[vr wk, .val (.int ((0 : Int32) + (1 : Int32))), vr wp, vi 3, vi 1, vi v1] [] (fun _ k_ => XS.ifNo X1.here hx rfl (hb hby d38_27) rfl (XT.i0_eq_f hc6) (XS.iinc X1.here hx rfl (hb hby d38_30) rfl rfl k_)) ?_
   rw [show ((0 : Int32) + (1 : Int32)) = (1 : Int32) from by decide]
   refine own_b T1 m 36 #[vr wk, vi 1, vr wp, vi 3, .val (.int ((1 : Int32) + (1 : Int32))), vi v1] [] (fun _ k_ => XS.iinc X1.here hx rfl (hb hby d38_33) rfl rfl k_) ?_
   rw [show ((1 : Int32) + (1 : Int32)) = (2 : Int32) from by decide]
   refine own_b T1 m 22 #[vr wk, vi 1, vr wp, vi 3, vi 2, vi v1] [.int 2, .ref wp] (fun _ k_ => XS.goto X1.here hx rfl (pc0 := 36) (pc' := 13) rfl (hb hby d38_36) (by decide) (by decide) (XS.iload X1.here hx rfl (hb hby d38_13) rfl (XS.iloadN X1.here hx rfl (hb hby d38_15) rfl (XS.icmpNo X1.here hx rfl (hb hby d38_16) rfl (XT.ii_ge_f (by decide)) (XS.aloadN X1.here hx rfl (hb hby d38_19) rfl rfl (XS.iload X1.here hx rfl (hb hby d38_20) rfl k_)))))) ?_
   obtain ⟨cl13, Ar13, q13, S13, M13, H13, G13⟩ := id Vp
   have hin13 : ¬ ((2 : Int32) < 0 ∨ cl13.slots.size ≤ ((2 : Int32)).toNatClampNeg) := inb_of S13 ⟨by decide, by decide⟩
   have hat13 : cl13.slots[((2 : Int32)).toNatClampNeg]? = some (.int v2) := H13.at hin13 rfl
   refine own_b T1 m 23 #[vr wk, vi 1, vr wp, vi 3, vi 2, vi v1] [.int v2] (fun _ k_ => X1.iaload hx (j := (2 : Int32)) (v := (.int v2)) (by rw [e1]; exact Ar13.1) (State.isArrayOf_alike hZ.alike Ar13.2.1) Ar13.2.2 hin13 hat13 (g := (mkF m 22 #[vr wk, vi 1, vr wp, vi 3, vi 2, vi v1] [.int 2, .ref wp])) rfl rfl (hb hby d38_22) _ k_) ?_
   refine own_b T1 m 27 #[vr wk, vi 1, vr wp, vi 3, vi 2, vi v2] [.int v2] (fun _ k_ => XS.istore X1.here hx rfl (hb hby d38_23) rfl (l' := #[vr wk, vi 1, vr wp, vi 3, vi 2, vi v2]) rfl (XS.iload X1.here hx rfl (hb hby d38_25) rfl k_)) ?_
   by_cases hc14 : v2 = (0 : Int32)
   ·refine own_b T1 m 36 #[vr wk, vi 1, vr wp, vi 3, .val (.int ((2 : Int32) + (1 : Int32))), vi v2] [] (fun _ k_ => XS.ifYes X1.here hx rfl (pc0 := 27) (pc' := 33) rfl (hb hby d38_27) rfl (XT.i0_eq_t hc14) (by decide) (by decide) (XS.iinc X1.here hx rfl (hb hby d38_33) rfl rfl k_)) ?_
    rw [show ((2 : Int32) + (1 : Int32)) = (3 : Int32) from by decide]
    refine own_b T1 m 40 #[vr wk, vi 1, vr wp, vi 3, vi 3, vi v2] [.int 1] (fun _ k_ => XS.goto X1.here hx rfl (pc0 := 36) (pc' := 13) rfl (hb hby d38_36) (by decide) (by decide) (XS.iload X1.here hx rfl (hb hby d38_13) rfl (XS.iloadN X1.here hx rfl (hb hby d38_15) rfl (XS.icmpYes X1.here hx rfl (pc0 := 16) (pc' := 39) rfl (hb hby d38_16) rfl (XT.ii_ge_t (by decide)) (by decide) (by decide) (XS.iloadN X1.here hx rfl (hb hby d38_39) rfl k_))))) ?_
    have hr15 : (1 : Int32) = (if v0 = (0 : Int32) then (if v1 = (0 : Int32) then (if v2 = (0 : Int32) then (0 : Int32) else (1 : Int32)) else (if v2 = (0 : Int32) then (1 : Int32) else (2 : Int32))) else (if v1 = (0 : Int32) then (if v2 = (0 : Int32) then (1 : Int32) else (2 : Int32)) else (if v2 = (0 : Int32) then (2 : Int32) else (3 : Int32)))) := by simp [hc4, hc6, hc14]
    obtain ⟨fs16, hr16, hrun16, hended16, hW16, hsame16⟩ := X1.leave (v := some (.int 1)) (fun h => by rw [Bd.returns] at h; cases h)
    refine ⟨_, _, retOut X1 hx (t := .int) Bd.returns rfl (Or.inl ⟨rfl, Or.inl rfl, _, rfl⟩) (hb hby d38_40) hr16, hrun16, hended16, _, _, rfl, ?_, ⟨_, rfl⟩, hW16, hsame16.mono (by decide) (by decide)⟩
    show Q_rmCn_3 Z wC cC wD kD mA mL mR wk wp kW v0 v1 v2 h0 n0 _ T1.heap _
    exact ⟨(congrArg (fun z => some (Value.int z)) hr15), N0, e1⟩
   ·refine own_b T1 m 33 #[vr wk, .val (.int ((1 : Int32) + (1 : Int32))), vr wp, vi 3, vi 2, vi v2] [] (fun _ k_ => XS.ifNo X1.here hx rfl (hb hby d38_27) rfl (XT.i0_eq_f hc14) (XS.iinc X1.here hx rfl (hb hby d38_30) rfl rfl k_)) ?_
    rw [show ((1 : Int32) + (1 : Int32)) = (2 : Int32) from by decide]
    refine own_b T1 m 36 #[vr wk, vi 2, vr wp, vi 3, .val (.int ((2 : Int32) + (1 : Int32))), vi v2] [] (fun _ k_ => XS.iinc X1.here hx rfl (hb hby d38_33) rfl rfl k_) ?_
    rw [show ((2 : Int32) + (1 : Int32)) = (3 : Int32) from by decide]
    refine own_b T1 m 40 #[vr wk, vi 2, vr wp, vi 3, vi 3, vi v2] [.int 2] (fun _ k_ => XS.goto X1.here hx rfl (pc0 := 36) (pc' := 13) rfl (hb hby d38_36) (by decide) (by decide) (XS.iload X1.here hx rfl (hb hby d38_13) rfl (XS.iloadN X1.here hx rfl (hb hby d38_15) rfl (XS.icmpYes X1.here hx rfl (pc0 := 16) (pc' := 39) rfl (hb hby d38_16) rfl (XT.ii_ge_t (by decide)) (by decide) (by decide) (XS.iloadN X1.here hx rfl (hb hby d38_39) rfl k_))))) ?_
    have hr17 : (2 : Int32) = (if v0 = (0 : Int32) then (if v1 = (0 : Int32) then (if v2 = (0 : Int32) then (0 : Int32) else (1 : Int32)) else (if v2 = (0 : Int32) then (1 : Int32) else (2 : Int32))) else (if v1 = (0 : Int32) then (if v2 = (0 : Int32) then (1 : Int32) else (2 : Int32)) else (if v2 = (0 : Int32) then (2 : Int32) else (3 : Int32)))) := by simp [hc4, hc6, hc14]
    obtain ⟨fs18, hr18, hrun18, hended18, hW18, hsame18⟩ := X1.leave (v := some (.int 2)) (fun h => by rw [Bd.returns] at h; cases h)
    refine ⟨_, _, retOut X1 hx (t := .int) Bd.returns rfl (Or.inl ⟨rfl, Or.inl rfl, _, rfl⟩) (hb hby d38_40) hr18, hrun18, hended18, _, _, rfl, ?_, ⟨_, rfl⟩, hW18, hsame18.mono (by decide) (by decide)⟩
    show Q_rmCn_3 Z wC cC wD kD mA mL mR wk wp kW v0 v1 v2 h0 n0 _ T1.heap _
    exact ⟨(congrArg (fun z => some (Value.int z)) hr17), N0, e1⟩
 ·refine own_b T1 m 33 #[vr wk, .val (.int ((0 : Int32) + (1 : Int32))), vr wp, vi 3, vi 0, vi v0] [] (fun _ k_ => XS.ifNo X1.here hx rfl (hb hby d38_27) rfl (XT.i0_eq_f hc4) (XS.iinc X1.here hx rfl (hb hby d38_30) rfl rfl k_)) ?_
  rw [show ((0 : Int32) + (1 : Int32)) = (1 : Int32) from by decide]
  refine own_b T1 m 36 #[vr wk, vi 1, vr wp, vi 3, .val (.int ((0 : Int32) + (1 : Int32))), vi v0] [] (fun _ k_ => XS.iinc X1.here hx rfl (hb hby d38_33) rfl rfl k_) ?_
  rw [show ((0 : Int32) + (1 : Int32)) = (1 : Int32) from by decide]
  refine own_b T1 m 22 #[vr wk, vi 1, vr wp, vi 3, vi 1, vi v0] [.int 1, .ref wp] (fun _ k_ => XS.goto X1.here hx rfl (pc0 := 36) (pc' := 13) rfl (hb hby d38_36) (by decide) (by decide) (XS.iload X1.here hx rfl (hb hby d38_13) rfl (XS.iloadN X1.here hx rfl (hb hby d38_15) rfl (XS.icmpNo X1.here hx rfl (hb hby d38_16) rfl (XT.ii_ge_f (by decide)) (XS.aloadN X1.here hx rfl (hb hby d38_19) rfl rfl (XS.iload X1.here hx rfl (hb hby d38_20) rfl k_)))))) ?_
  obtain ⟨cl19, Ar19, q19, S19, M19, H19, G19⟩ := id Vp
  have hin19 : ¬ ((1 : Int32) < 0 ∨ cl19.slots.size ≤ ((1 : Int32)).toNatClampNeg) := inb_of S19 ⟨by decide, by decide⟩
  have hat19 : cl19.slots[((1 : Int32)).toNatClampNeg]? = some (.int v1) := H19.at hin19 rfl
  refine own_b T1 m 23 #[vr wk, vi 1, vr wp, vi 3, vi 1, vi v0] [.int v1] (fun _ k_ => X1.iaload hx (j := (1 : Int32)) (v := (.int v1)) (by rw [e1]; exact Ar19.1) (State.isArrayOf_alike hZ.alike Ar19.2.1) Ar19.2.2 hin19 hat19 (g := (mkF m 22 #[vr wk, vi 1, vr wp, vi 3, vi 1, vi v0] [.int 1, .ref wp])) rfl rfl (hb hby d38_22) _ k_) ?_
  refine own_b T1 m 27 #[vr wk, vi 1, vr wp, vi 3, vi 1, vi v1] [.int v1] (fun _ k_ => XS.istore X1.here hx rfl (hb hby d38_23) rfl (l' := #[vr wk, vi 1, vr wp, vi 3, vi 1, vi v1]) rfl (XS.iload X1.here hx rfl (hb hby d38_25) rfl k_)) ?_
  by_cases hc20 : v1 = (0 : Int32)
  ·refine own_b T1 m 36 #[vr wk, vi 1, vr wp, vi 3, .val (.int ((1 : Int32) + (1 : Int32))), vi v1] [] (fun _ k_ => XS.ifYes X1.here hx rfl (pc0 := 27) (pc' := 33) rfl (hb hby d38_27) rfl (XT.i0_eq_t hc20) (by decide) (by decide) (XS.iinc X1.here hx rfl (hb hby d38_33) rfl rfl k_)) ?_
   rw [show ((1 : Int32) + (1 : Int32)) = (2 : Int32) from by decide]
   refine own_b T1 m 22 #[vr wk, vi 1, vr wp, vi 3, vi 2, vi v1] [.int 2, .ref wp] (fun _ k_ => XS.goto X1.here hx rfl (pc0 := 36) (pc' := 13) rfl (hb hby d38_36) (by decide) (by decide) (XS.iload X1.here hx rfl (hb hby d38_13) rfl (XS.iloadN X1.here hx rfl (hb hby d38_15) rfl (XS.icmpNo X1.here hx rfl (hb hby d38_16) rfl (XT.ii_ge_f (by decide)) (XS.aloadN X1.here hx rfl (hb hby d38_19) rfl rfl (XS.iload X1.here hx rfl (hb hby d38_20) rfl k_)))))) ?_
   obtain ⟨cl21, Ar21, q21, S21, M21, H21, G21⟩ := id Vp
   have hin21 : ¬ ((2 : Int32) < 0 ∨ cl21.slots.size ≤ ((2 : Int32)).toNatClampNeg) := inb_of S21 ⟨by decide, by decide⟩
   have hat21 : cl21.slots[((2 : Int32)).toNatClampNeg]? = some (.int v2) := H21.at hin21 rfl
   refine own_b T1 m 23 #[vr wk, vi 1, vr wp, vi 3, vi 2, vi v1] [.int v2] (fun _ k_ => X1.iaload hx (j := (2 : Int32)) (v := (.int v2)) (by rw [e1]; exact Ar21.1) (State.isArrayOf_alike hZ.alike Ar21.2.1) Ar21.2.2 hin21 hat21 (g := (mkF m 22 #[vr wk, vi 1, vr wp, vi 3, vi 2, vi v1] [.int 2, .ref wp])) rfl rfl (hb hby d38_22) _ k_) ?_
   refine own_b T1 m 27 #[vr wk, vi 1, vr wp, vi 3, vi 2, vi v2] [.int v2] (fun _ k_ => XS.istore X1.here hx rfl (hb hby d38_23) rfl (l' := #[vr wk, vi 1, vr wp, vi 3, vi 2, vi v2]) rfl (XS.iload X1.here hx rfl (hb hby d38_25) rfl k_)) ?_
   by_cases hc22 : v2 = (0 : Int32)
   ·refine own_b T1 m 36 #[vr wk, vi 1, vr wp, vi 3, .val (.int ((2 : Int32) + (1 : Int32))), vi v2] [] (fun _ k_ => XS.ifYes X1.here hx rfl (pc0 := 27) (pc' := 33) rfl (hb hby d38_27) rfl (XT.i0_eq_t hc22) (by decide) (by decide) (XS.iinc X1.here hx rfl (hb hby d38_33) rfl rfl k_)) ?_
    rw [show ((2 : Int32) + (1 : Int32)) = (3 : Int32) from by decide]
    refine own_b T1 m 40 #[vr wk, vi 1, vr wp, vi 3, vi 3, vi v2] [.int 1] (fun _ k_ => XS.goto X1.here hx rfl (pc0 := 36) (pc' := 13) rfl (hb hby d38_36) (by decide) (by decide) (XS.iload X1.here hx rfl (hb hby d38_13) rfl (XS.iloadN X1.here hx rfl (hb hby d38_15) rfl (XS.icmpYes X1.here hx rfl (pc0 := 16) (pc' := 39) rfl (hb hby d38_16) rfl (XT.ii_ge_t (by decide)) (by decide) (by decide) (XS.iloadN X1.here hx rfl (hb hby d38_39) rfl k_))))) ?_
    have hr23 : (1 : Int32) = (if v0 = (0 : Int32) then (if v1 = (0 : Int32) then (if v2 = (0 : Int32) then (0 : Int32) else (1 : Int32)) else (if v2 = (0 : Int32) then (1 : Int32) else (2 : Int32))) else (if v1 = (0 : Int32) then (if v2 = (0 : Int32) then (1 : Int32) else (2 : Int32)) else (if v2 = (0 : Int32) then (2 : Int32) else (3 : Int32)))) := by simp [hc4, hc20, hc22]
    obtain ⟨fs24, hr24, hrun24, hended24, hW24, hsame24⟩ := X1.leave (v := some (.int 1)) (fun h => by rw [Bd.returns] at h; cases h)
    refine ⟨_, _, retOut X1 hx (t := .int) Bd.returns rfl (Or.inl ⟨rfl, Or.inl rfl, _, rfl⟩) (hb hby d38_40) hr24, hrun24, hended24, _, _, rfl, ?_, ⟨_, rfl⟩, hW24, hsame24.mono (by decide) (by decide)⟩
    show Q_rmCn_3 Z wC cC wD kD mA mL mR wk wp kW v0 v1 v2 h0 n0 _ T1.heap _
    exact ⟨(congrArg (fun z => some (Value.int z)) hr23), N0, e1⟩
   ·refine own_b T1 m 33 #[vr wk, .val (.int ((1 : Int32) + (1 : Int32))), vr wp, vi 3, vi 2, vi v2] [] (fun _ k_ => XS.ifNo X1.here hx rfl (hb hby d38_27) rfl (XT.i0_eq_f hc22) (XS.iinc X1.here hx rfl (hb hby d38_30) rfl rfl k_)) ?_
    rw [show ((1 : Int32) + (1 : Int32)) = (2 : Int32) from by decide]
    refine own_b T1 m 36 #[vr wk, vi 2, vr wp, vi 3, .val (.int ((2 : Int32) + (1 : Int32))), vi v2] [] (fun _ k_ => XS.iinc X1.here hx rfl (hb hby d38_33) rfl rfl k_) ?_
    rw [show ((2 : Int32) + (1 : Int32)) = (3 : Int32) from by decide]
    refine own_b T1 m 40 #[vr wk, vi 2, vr wp, vi 3, vi 3, vi v2] [.int 2] (fun _ k_ => XS.goto X1.here hx rfl (pc0 := 36) (pc' := 13) rfl (hb hby d38_36) (by decide) (by decide) (XS.iload X1.here hx rfl (hb hby d38_13) rfl (XS.iloadN X1.here hx rfl (hb hby d38_15) rfl (XS.icmpYes X1.here hx rfl (pc0 := 16) (pc' := 39) rfl (hb hby d38_16) rfl (XT.ii_ge_t (by decide)) (by decide) (by decide) (XS.iloadN X1.here hx rfl (hb hby d38_39) rfl k_))))) ?_
    have hr25 : (2 : Int32) = (if v0 = (0 : Int32) then (if v1 = (0 : Int32) then (if v2 = (0 : Int32) then (0 : Int32) else (1 : Int32)) else (if v2 = (0 : Int32) then (1 : Int32) else (2 : Int32))) else (if v1 = (0 : Int32) then (if v2 = (0 : Int32) then (1 : Int32) else (2 : Int32)) else (if v2 = (0 : Int32) then (2 : Int32) else (3 : Int32)))) := by simp [hc4, hc20, hc22]
    obtain ⟨fs26, hr26, hrun26, hended26, hW26, hsame26⟩ := X1.leave (v := some (.int 2)) (fun h => by rw [Bd.returns] at h; cases h)
    refine ⟨_, _, retOut X1 hx (t := .int) Bd.returns rfl (Or.inl ⟨rfl, Or.inl rfl, _, rfl⟩) (hb hby d38_40) hr26, hrun26, hended26, _, _, rfl, ?_, ⟨_, rfl⟩, hW26, hsame26.mono (by decide) (by decide)⟩
    show Q_rmCn_3 Z wC cC wD kD mA mL mR wk wp kW v0 v1 v2 h0 n0 _ T1.heap _
    exact ⟨(congrArg (fun z => some (Value.int z)) hr25), N0, e1⟩
  ·refine own_b T1 m 33 #[vr wk, .val (.int ((1 : Int32) + (1 : Int32))), vr wp, vi 3, vi 1, vi v1] [] (fun _ k_ => XS.ifNo X1.here hx rfl (hb hby d38_27) rfl (XT.i0_eq_f hc20) (XS.iinc X1.here hx rfl (hb hby d38_30) rfl rfl k_)) ?_
   rw [show ((1 : Int32) + (1 : Int32)) = (2 : Int32) from by decide]
   refine own_b T1 m 36 #[vr wk, vi 2, vr wp, vi 3, .val (.int ((1 : Int32) + (1 : Int32))), vi v1] [] (fun _ k_ => XS.iinc X1.here hx rfl (hb hby d38_33) rfl rfl k_) ?_
   rw [show ((1 : Int32) + (1 : Int32)) = (2 : Int32) from by decide]
   refine own_b T1 m 22 #[vr wk, vi 2, vr wp, vi 3, vi 2, vi v1] [.int 2, .ref wp] (fun _ k_ => XS.goto X1.here hx rfl (pc0 := 36) (pc' := 13) rfl (hb hby d38_36) (by decide) (by decide) (XS.iload X1.here hx rfl (hb hby d38_13) rfl (XS.iloadN X1.here hx rfl (hb hby d38_15) rfl (XS.icmpNo X1.here hx rfl (hb hby d38_16) rfl (XT.ii_ge_f (by decide)) (XS.aloadN X1.here hx rfl (hb hby d38_19) rfl rfl (XS.iload X1.here hx rfl (hb hby d38_20) rfl k_)))))) ?_
   obtain ⟨cl27, Ar27, q27, S27, M27, H27, G27⟩ := id Vp
   have hin27 : ¬ ((2 : Int32) < 0 ∨ cl27.slots.size ≤ ((2 : Int32)).toNatClampNeg) := inb_of S27 ⟨by decide, by decide⟩
   have hat27 : cl27.slots[((2 : Int32)).toNatClampNeg]? = some (.int v2) := H27.at hin27 rfl
   refine own_b T1 m 23 #[vr wk, vi 2, vr wp, vi 3, vi 2, vi v1] [.int v2] (fun _ k_ => X1.iaload hx (j := (2 : Int32)) (v := (.int v2)) (by rw [e1]; exact Ar27.1) (State.isArrayOf_alike hZ.alike Ar27.2.1) Ar27.2.2 hin27 hat27 (g := (mkF m 22 #[vr wk, vi 2, vr wp, vi 3, vi 2, vi v1] [.int 2, .ref wp])) rfl rfl (hb hby d38_22) _ k_) ?_
   refine own_b T1 m 27 #[vr wk, vi 2, vr wp, vi 3, vi 2, vi v2] [.int v2] (fun _ k_ => XS.istore X1.here hx rfl (hb hby d38_23) rfl (l' := #[vr wk, vi 2, vr wp, vi 3, vi 2, vi v2]) rfl (XS.iload X1.here hx rfl (hb hby d38_25) rfl k_)) ?_
   by_cases hc28 : v2 = (0 : Int32)
   ·refine own_b T1 m 36 #[vr wk, vi 2, vr wp, vi 3, .val (.int ((2 : Int32) + (1 : Int32))), vi v2] [] (fun _ k_ => XS.ifYes X1.here hx rfl (pc0 := 27) (pc' := 33) rfl (hb hby d38_27) rfl (XT.i0_eq_t hc28) (by decide) (by decide) (XS.iinc X1.here hx rfl (hb hby d38_33) rfl rfl k_)) ?_
    rw [show ((2 : Int32) + (1 : Int32)) = (3 : Int32) from by decide]
    refine own_b T1 m 40 #[vr wk, vi 2, vr wp, vi 3, vi 3, vi v2] [.int 2] (fun _ k_ => XS.goto X1.here hx rfl (pc0 := 36) (pc' := 13) rfl (hb hby d38_36) (by decide) (by decide) (XS.iload X1.here hx rfl (hb hby d38_13) rfl (XS.iloadN X1.here hx rfl (hb hby d38_15) rfl (XS.icmpYes X1.here hx rfl (pc0 := 16) (pc' := 39) rfl (hb hby d38_16) rfl (XT.ii_ge_t (by decide)) (by decide) (by decide) (XS.iloadN X1.here hx rfl (hb hby d38_39) rfl k_))))) ?_
    have hr29 : (2 : Int32) = (if v0 = (0 : Int32) then (if v1 = (0 : Int32) then (if v2 = (0 : Int32) then (0 : Int32) else (1 : Int32)) else (if v2 = (0 : Int32) then (1 : Int32) else (2 : Int32))) else (if v1 = (0 : Int32) then (if v2 = (0 : Int32) then (1 : Int32) else (2 : Int32)) else (if v2 = (0 : Int32) then (2 : Int32) else (3 : Int32)))) := by simp [hc4, hc20, hc28]
    obtain ⟨fs30, hr30, hrun30, hended30, hW30, hsame30⟩ := X1.leave (v := some (.int 2)) (fun h => by rw [Bd.returns] at h; cases h)
    refine ⟨_, _, retOut X1 hx (t := .int) Bd.returns rfl (Or.inl ⟨rfl, Or.inl rfl, _, rfl⟩) (hb hby d38_40) hr30, hrun30, hended30, _, _, rfl, ?_, ⟨_, rfl⟩, hW30, hsame30.mono (by decide) (by decide)⟩
    show Q_rmCn_3 Z wC cC wD kD mA mL mR wk wp kW v0 v1 v2 h0 n0 _ T1.heap _
    exact ⟨(congrArg (fun z => some (Value.int z)) hr29), N0, e1⟩
   ·refine own_b T1 m 33 #[vr wk, .val (.int ((2 : Int32) + (1 : Int32))), vr wp, vi 3, vi 2, vi v2] [] (fun _ k_ => XS.ifNo X1.here hx rfl (hb hby d38_27) rfl (XT.i0_eq_f hc28) (XS.iinc X1.here hx rfl (hb hby d38_30) rfl rfl k_)) ?_
    rw [show ((2 : Int32) + (1 : Int32)) = (3 : Int32) from by decide]
    refine own_b T1 m 36 #[vr wk, vi 3, vr wp, vi 3, .val (.int ((2 : Int32) + (1 : Int32))), vi v2] [] (fun _ k_ => XS.iinc X1.here hx rfl (hb hby d38_33) rfl rfl k_) ?_
    rw [show ((2 : Int32) + (1 : Int32)) = (3 : Int32) from by decide]
    refine own_b T1 m 40 #[vr wk, vi 3, vr wp, vi 3, vi 3, vi v2] [.int 3] (fun _ k_ => XS.goto X1.here hx rfl (pc0 := 36) (pc' := 13) rfl (hb hby d38_36) (by decide) (by decide) (XS.iload X1.here hx rfl (hb hby d38_13) rfl (XS.iloadN X1.here hx rfl (hb hby d38_15) rfl (XS.icmpYes X1.here hx rfl (pc0 := 16) (pc' := 39) rfl (hb hby d38_16) rfl (XT.ii_ge_t (by decide)) (by decide) (by decide) (XS.iloadN X1.here hx rfl (hb hby d38_39) rfl k_))))) ?_
    have hr31 : (3 : Int32) = (if v0 = (0 : Int32) then (if v1 = (0 : Int32) then (if v2 = (0 : Int32) then (0 : Int32) else (1 : Int32)) else (if v2 = (0 : Int32) then (1 : Int32) else (2 : Int32))) else (if v1 = (0 : Int32) then (if v2 = (0 : Int32) then (1 : Int32) else (2 : Int32)) else (if v2 = (0 : Int32) then (2 : Int32) else (3 : Int32)))) := by simp [hc4, hc20, hc28]
    obtain ⟨fs32, hr32, hrun32, hended32, hW32, hsame32⟩ := X1.leave (v := some (.int 3)) (fun h => by rw [Bd.returns] at h; cases h)
    refine ⟨_, _, retOut X1 hx (t := .int) Bd.returns rfl (Or.inl ⟨rfl, Or.inl rfl, _, rfl⟩) (hb hby d38_40) hr32, hrun32, hended32, _, _, rfl, ?_, ⟨_, rfl⟩, hW32, hsame32.mono (by decide) (by decide)⟩
    show Q_rmCn_3 Z wC cC wD kD mA mL mR wk wp kW v0 v1 v2 h0 n0 _ T1.heap _
    exact ⟨(congrArg (fun z => some (Value.int z)) hr31), N0, e1⟩
theorem own_ef_rmWI3_4 (m : MethodId) (x0 : Addr) (x1 : Addr) (x2 : Addr) (x3 : Addr) : entryFrame m #[.ref x0, .ref x1, .ref x2, .ref x3] 4 = mkF m 0 #[.val (.ref x0), .val (.ref x1), .val (.ref x2), .val (.ref x3)] [] := by first | (simp [entryFrame, mkF, argsToLocals, Value.category]; done) | rfl
def Q_rmWI3_4 (Z : State) (wC : Addr) (cC : Cell) (wD : Addr) (kD : ClassId) (mA : Addr) (mL : Addr) (mR : Addr) (wk : Addr) (dp : Addr) (kP : ClassId) (a : Addr) (al : Addr) (ct : Addr) (kC : ClassId) (t : Addr) (kE : ClassId) (b : Addr) (h0 : Heap) (n0 : Nat) (vv_ : Option Value) (hh_ : Heap) (LL_ : List Loc) : Prop := ∃ h : Addr, ∃ wp : Addr, ∃ kW : ClassId, vv_ = none ∧ Fr n0 LL_ ∧ Keep h0 hh_ [wk] ∧ h0.size ≤ wp ∧ Fld Z hh_ wk "com/example/even_commute/evencommute/demand/Workers" "jobs" "Lcom/example/even_commute/evencommute/demand/ZoneCounts;" (.ref a) ∧ Fld Z hh_ wk "com/example/even_commute/evencommute/demand/Workers" "homeZones" "[I" (.ref h) ∧ Fld Z hh_ wk "com/example/even_commute/evencommute/demand/Workers" "departures" "[I" (.ref dp) ∧ Fld Z hh_ wk "com/example/even_commute/evencommute/demand/Workers" "workplaces" "[I" (.ref wp) ∧ Arv Z hh_ wp kW .int (4 : Int32) [.int 0, .int 0, .int 0, .int 0] (.int 0)
theorem rmWI3_4 (l : Launch) (Z : State) (a0 : Array Value) (hw : ∀ d ∈ tables_1, d.before a0 Z = true) (ws : List Jvm.Cond) (wC : Addr) (cC : Cell) (wD : Addr) (kD : ClassId) (mA : Addr) (mL : Addr) (mR : Addr) (GS : Glob Z wC cC wD kD mA mL mR) (wk : Addr) (dp : Addr) (kP : ClassId) (a : Addr) (al : Addr) (ct : Addr) (kC : ClassId) (t : Addr) (kE : ClassId) (b : Addr) (h0 : Heap) (n0 : Nat) (Z0 : n0 ≤ h0.size) (O0 : Old Z n0 h0) (E_w : Exa Z h0 wk cn0) (g_w : n0 ≤ wk) (Wf0 : Fld Z h0 wk cn0 "jobs" cn4 .null) (Wf1 : Fld Z h0 wk cn0 "homeZones" "[I" .null) (Wf2 : Fld Z h0 wk cn0 "departures" "[I" .null) (Wf3 : Fld Z h0 wk cn0 "workplaces" "[I" .null) (Vd : Arv Z h0 dp kP .int (4 : Int32) [.int 0, .int 0, .int 0, .int 0] (.int 0)) (E_a : Exa Z h0 a cn1) (Ft : Fld Z h0 a cn1 "total" "I" (.int 4)) (Fz : Fld Z h0 a cn1 "zones" "Ljava/util/List;" (.ref al)) (Fc : Fld Z h0 a cn1 "counts" "[I" (.ref ct)) (Vc : Arv Z h0 ct kC .int (2 : Int32) [.int 0, .int 4] (.int 0)) (E_l : Exa Z h0 al cn2) (Fm : Fld Z h0 al "java/util/AbstractList" "modCount" "I" (.int 1)) (Fs : Fld Z h0 al cn2 "size" "I" (.int 1)) (Fe : Fld Z h0 al cn2 "elementData" "[Ljava/lang/Object;" (.ref t)) (Vt : Arv Z h0 t kE (.object "java/lang/Object") (10 : Int32) [.ref b, .null, .null, .null, .null, .null, .null, .null, .null, .null] .null) (E_b : Exa Z h0 b "java/lang/Integer") (F_b : Fld Z h0 b "java/lang/Integer" "value" "I" (.int 1)) :
  MetFree l (⟨cn0, "<init>", cn6⟩ : MethodName) (head1 (Jvm.Cond.code (⟨cn0, "<init>", cn6⟩ : MethodName) prog_29_method_1_code 4 none :: ws) (⟨7, 5, 16, 95⟩ : Room)) (fun aa_ UU_ => aa_ = #[.ref wk, .ref a, .ref a, .ref dp] ∧ Z.Warmed39 UU_.vm ∧ UU_.heap = h0) (fun _ _ _ _ _ => True) (fun _ UU_ oo_ UV_ => ∃ vv_ LL_, oo_ = .returned vv_ ∧ Q_rmWI3_4 Z wC cC wD kD mA mL mR wk dp kP a al ct kC t kE b h0 n0 vv_ UV_.heap LL_ ∧ FrameEnd UU_ oo_ UV_ LL_ (⟨7, 5, 16, 95⟩ : Room).cells (⟨7, 5, 16, 95⟩ : Room).slots) := by
 refine MetFree.of_bodySF (plainFor_of_name own_p2) hisR ?_
 intro p e s m args below meth c s₁ Bd hml0 hP hK
 obtain ⟨rfl, hZ, hh⟩ := hP
 have hx := Bd.exec
 have hby := Bd.bytes
 have hml : c.maxLocals = 4 := hml0
 have hown : s.vm.findClass cn0 = some m.cls := findClass_of_methodNamed Bd.named
 have hnm := (name_of_methodNamed Bd.named Bd.method).1
 have X0 : Stand p l e (⟨7, 5, 16, 95⟩ : Room) s m #[.ref wk, .ref a, .ref a, .ref dp] below meth c s₁ [] 0 0 := Stand.of_body Bd
 have e0 : s₁.heap = h0 := by rw [← hh, Bd.state]; rfl
 have N0 := Fr.nil n0
 have hn0 : Z.heap.size = n0 := O0.1
 have KT0 : Keep h0 h0 [wk] := Keep.refl _ _
 refine own_enter (Φ := fun oo_ UV_ => ∃ vv_ LL_, oo_ = .returned vv_ ∧ Q_rmWI3_4 Z wC cC wD kD mA mL mR wk dp kP a al ct kC t kE b h0 n0 vv_ UV_.heap LL_ ∧ FrameEnd s oo_ UV_ LL_ (⟨7, 5, 16, 95⟩ : Room).cells (⟨7, 5, 16, 95⟩ : Room).slots) (own_ef_rmWI3_4 m wk a a dp) ?_
 refine own_b s₁ m 3 #[vr wk, vr a, vr a, vr dp] [.ref a, .ref a, .ref wk] (fun _ k_ => XS.aloadN X0.here hx rfl (hb hby d15_0) rfl rfl (XS.aloadN X0.here hx rfl (hb hby d15_1) rfl rfl (XS.aloadN X0.here hx rfl (hb hby d15_2) rfl rfl k_))) ?_
 obtain ⟨_, _, ⟨T1, L1, k1, n1⟩, -, X1, ⟨Lc1, hQ1, l1, y1, z1⟩, st1⟩ := Jvm.LawKit.callS X0 hx (y := (⟨cn0, "homeZones", "(Lcom/example/even_commute/evencommute/demand/ZoneCounts;)[I"⟩ : MethodName)) hown (mvT hZ (ww hw 107 rfl)) (mvT hZ (ww hw 108 rfl)) (mvT hZ (ww hw 103 rfl)) (mvT hZ (ww hw 109 rfl)) (by decide) (backOf (W := 2) (rmHz_4 l Z a0 hw [] wC cC wD kD mA mL mR GS a al ct kC t kE b h0 n0 (by omega) O0 E_a Ft Fz Fc Vc E_l Fm Fs Fe Vt E_b F_b) hZ (ww hw 109 rfl) (ww hw 103 rfl) (by decide) (by decide)) (g := (mkF m 3 #[vr wk, vr a, vr a, vr dp] [.ref a, .ref a, .ref wk])) rfl (by rw [hml]; rfl) (argsL := [.ref a]) (rest := [.ref a, .ref wk]) (lenOf own_pd_21 rfl) rfl (by show 2 * 0 + _ ≤ _; exact Nat.le_of_eq rfl) (hb hby d15_3) (fun _ _ => ⟨rfl, e0, (by decide : 0 + 4 ≤ _), (by decide : 0 + 12 ≤ _)⟩)
 dsimp only [Pt.U, Pt.locs, Pt.cells, Pt.slots] at X1 l1 y1 z1 st1 hQ1
 subst l1 y1 z1
 obtain ⟨h_2, rfl, N1q, K1, p1_0⟩ := hQ1
 have N3 := Fr.app N0 N1q
 have gh_2 : h0.size ≤ h_2 := p1_0
 have zzK1 : h0.size ≤ T1.heap.size := K1.1
 have oo4 : Old Z n0 T1.heap := O0.keep K1 all0
 have kt5 : Keep h0 T1.heap [wk] := KT0.trans K1 all0
 refine own_b T1 m 6 #[vr wk, vr a, vr a, vr dp] [.ref h_2, .ref a, .ref wk] st1 ?_
 refine own_b T1 m 8 #[vr wk, vr a, vr a, vr dp] [.ref dp, .ref dp, .ref h_2, .ref a, .ref wk] (fun _ k_ => XS.aloadN X1.here hx rfl (hb hby d15_6) rfl rfl (XS.aloadN X1.here hx rfl (hb hby d15_7) rfl rfl k_)) ?_
 have f7 : Arv Z T1.heap dp kP .int (4 : Int32) [.int 0, .int 0, .int 0, .int 0] (.int 0) := (Vd.keep K1 nin0)
 obtain ⟨cl6, Ar6, q6, S6, M6, H6, G6⟩ := id f7
 refine own_b T1 m 9 #[vr wk, vr a, vr a, vr dp] [.int 4, .ref dp, .ref h_2, .ref a, .ref wk] (fun _ k_ => X1.arraylength hx (by exact Ar6.1) (State.isArrayOf_alike hZ.alike Ar6.2.1) (g := (mkF m 8 #[vr wk, vr a, vr a, vr dp] [.ref dp, .ref dp, .ref h_2, .ref a, .ref wk])) rfl rfl (hb hby d15_8) _ (by rw [len_of S6 M6]; exact k_)) ?_
 obtain ⟨T8, h8, k8, X8, e8, E8, A8, st8⟩ := newP X1 hx hZ (ww hw 1 rfl) rfl (g := (mkF m 9 #[vr wk, vr a, vr a, vr dp] [.int 4, .ref dp, .ref h_2, .ref a, .ref wk])) rfl (hb hby d15_9) rfl (by decide) (cap := 4) (by decide) (by decide) (by decide) (by decide)
 obtain ⟨b8, g8⟩ : ∃ z, z = T1.heap.size := ⟨_, rfl⟩
 rw [← g8] at A8 st8
 have K9 : Keep T1.heap h8 [] := own_kext E8
 have zzK9 : T1.heap.size ≤ h8.size := K9.1
 have oo10 : Old Z n0 h8 := oo4.keep K9 all0
 have kt11 : Keep h0 h8 [wk] := kt5.trans K9 all0
 have lab8 : b8 < h8.size := A8.lt
 have f12 : Arv Z h8 b8 k8 .int (4 : Int32) [.int 0, .int 0, .int 0, .int 0] (.int 0) := (Arv.new A8 (by decide)).pad (pad_rep [] (.int 0) 4)
 refine own_b T8 m 11 #[vr wk, vr a, vr a, vr dp] [.ref b8, .ref dp, .ref h_2, .ref a, .ref wk] st8 ?_
 have f13 : Exa Z h8 wk cn0 := ((E_w.keep K1).keep K9)
 have la14 : @LT.lt Nat instLTNat wk h0.size := E_w.lt
 have f15 : Fld Z h8 wk cn0 "jobs" cn4 .null := ((Wf0.keep K1 nin0).keep K9 nin0)
 have f16 : Fld Z h8 wk cn0 "homeZones" "[I" .null := ((Wf1.keep K1 nin0).keep K9 nin0)
 have f17 : Fld Z h8 wk cn0 "departures" "[I" .null := ((Wf2.keep K1 nin0).keep K9 nin0)
 have f18 : Fld Z h8 wk cn0 "workplaces" "[I" .null := ((Wf3.keep K1 nin0).keep K9 nin0)
 obtain ⟨_, _, ⟨T19, L19, k19, n19⟩, -, X19, ⟨Lc19, hQ19, l19, y19, z19⟩, st19⟩ := X8.specialBack hx (y := (⟨cn0, "<init>", "(Lcom/example/even_commute/evencommute/demand/ZoneCounts;[I[I[I)V"⟩ : MethodName)) rfl hown (mvT hZ (ww hw 268 rfl)) (mvT hZ (ww hw 269 rfl)) (mvT hZ (ww hw 270 rfl)) (by decide) (backOf (W := 0) (rmWI4 l Z a0 hw [] wC cC wD kD mA mL mR GS wk a h_2 dp b8 h8 n0 (by omega) oo10 f13 (by omega) f15 f16 f17 f18) hZ (ww hw 270 rfl) (ww hw 103 rfl) (by decide) (by decide)) (g := (mkF m 11 #[vr wk, vr a, vr a, vr dp] [.ref b8, .ref dp, .ref h_2, .ref a, .ref wk])) rfl (by rw [hml]; rfl) (Steps.refl _) (a := wk) (argsL := [.ref a, .ref h_2, .ref dp, .ref b8]) (rest := []) (lenOf own_pd_22 rfl) rfl (by show 2 * 0 + _ ≤ _; exact Nat.le_of_eq rfl) (hb hby d15_11) (fun _ _ => ⟨rfl, e8, (by decide : 5 + 0 ≤ _), (by decide : 16 + 0 ≤ _)⟩)
 dsimp only [Pt.U, Pt.locs, Pt.cells, Pt.slots] at X19 l19 y19 z19 st19 hQ19
 subst l19 y19 z19
 obtain ⟨rfl, N19q, K19, p19_0, p19_1, p19_2, p19_3⟩ := hQ19
 have N20 := Fr.app N3 N19q
 have zzK19 : h8.size ≤ T19.heap.size := K19.1
 have oo21 : Old Z n0 T19.heap := oo10.keep K19 (allS (by omega : n0 ≤ wk) all0)
 have kt22 : Keep h0 T19.heap [wk] := kt11.trans K19 (allS (Or.inl (List.mem_of_getElem? (i := 0) rfl)) all0)
 refine own_b T19 m 14 #[vr wk, vr a, vr a, vr dp] [] (fun _ k_ => st19.trans k_) ?_
 have ne23 : @Ne Nat b8 wk := by omega
 have f24 : Arv Z T19.heap b8 k8 .int (4 : Int32) [.int 0, .int 0, .int 0, .int 0] (.int 0) := (f12.keep K19 (ninS ne23 nin0))
 obtain ⟨fs25, hr25, hrun25, hended25, hW25, hsame25⟩ := X19.leave (v := none) (fun _ => rfl)
 refine ⟨_, _, X19.returnOut hx Bd.returns (hb hby d15_14) hr25, hrun25, hended25, _, _, rfl, ?_, ⟨_, rfl⟩, hW25, hsame25.mono (by decide) (by decide)⟩
 show Q_rmWI3_4 Z wC cC wD kD mA mL mR wk dp kP a al ct kC t kE b h0 n0 _ T19.heap _
 exact ⟨h_2, b8, k8, rfl, N20, kt22, (by omega), p19_0, p19_1, p19_2, p19_3, f24⟩
theorem own_ef_rmWw_4 (m : MethodId) (x0 : Addr) (x1 : Addr) : entryFrame m #[.ref x0, .ref x1] 2 = mkF m 0 #[.val (.ref x0), .val (.ref x1)] [] := by first | (simp [entryFrame, mkF, argsToLocals, Value.category]; done) | rfl
def Q_rmWw_4 (Z : State) (wC : Addr) (cC : Cell) (wD : Addr) (kD : ClassId) (mA : Addr) (mL : Addr) (mR : Addr) (wk : Addr) (wp : Addr) (kW : ClassId) (a : Addr) (h : Addr) (dp : Addr) (wq : Addr) (v0 : Int32) (v1 : Int32) (v2 : Int32) (v3 : Int32) (h0 : Heap) (n0 : Nat) (vv_ : Option Value) (hh_ : Heap) (LL_ : List Loc) : Prop := ∃ r : Addr, ∃ wr : Addr, ∃ kR : ClassId, vv_ = some (.ref r) ∧ Fr n0 LL_ ∧ Keep h0 hh_ [] ∧ h0.size ≤ r ∧ h0.size ≤ wr ∧ Exa Z hh_ r "com/example/even_commute/evencommute/demand/Workers" ∧ Fld Z hh_ r "com/example/even_commute/evencommute/demand/Workers" "workplaces" "[I" (.ref wr) ∧ Arv Z hh_ wr kR .int (4 : Int32) [.int v0, .int v1, .int v2, .int v3] (.int 0)
theorem rmWw_4 (l : Launch) (Z : State) (a0 : Array Value) (hw : ∀ d ∈ tables_1, d.before a0 Z = true) (ws : List Jvm.Cond) (wC : Addr) (cC : Cell) (wD : Addr) (kD : ClassId) (mA : Addr) (mL : Addr) (mR : Addr) (GS : Glob Z wC cC wD kD mA mL mR) (wk : Addr) (wp : Addr) (kW : ClassId) (a : Addr) (h : Addr) (dp : Addr) (wq : Addr) (v0 : Int32) (v1 : Int32) (v2 : Int32) (v3 : Int32) (h0 : Heap) (n0 : Nat) (Z0 : n0 ≤ h0.size) (O0 : Old Z n0 h0) (E_w : Exa Z h0 wk cn0) (E_p : Exa Z h0 wp "[I") (Vp : Arv Z h0 wp kW .int (4 : Int32) [.int v0, .int v1, .int v2, .int v3] (.int 0)) (Wf0 : Fld Z h0 wk cn0 "jobs" cn4 (.ref a)) (Wf1 : Fld Z h0 wk cn0 "homeZones" "[I" (.ref h)) (Wf2 : Fld Z h0 wk cn0 "departures" "[I" (.ref dp)) (Wf3 : Fld Z h0 wk cn0 "workplaces" "[I" (.ref wq)) :
  MetFree l (⟨cn0, "withWorkplaces", "([I)Lcom/example/even_commute/evencommute/demand/Workers;"⟩ : MethodName) (head1 (Jvm.Cond.code (⟨cn0, "withWorkplaces", "([I)Lcom/example/even_commute/evencommute/demand/Workers;"⟩ : MethodName) prog_29_method_3_code 2 (some (.object cn0)) :: ws) (⟨2, 2, 8, 29⟩ : Room)) (fun aa_ UU_ => aa_ = #[.ref wk, .ref wp] ∧ Z.Warmed39 UU_.vm ∧ UU_.heap = h0) (fun _ _ _ _ _ => True) (fun _ UU_ oo_ UV_ => ∃ vv_ LL_, oo_ = .returned vv_ ∧ Q_rmWw_4 Z wC cC wD kD mA mL mR wk wp kW a h dp wq v0 v1 v2 v3 h0 n0 vv_ UV_.heap LL_ ∧ FrameEnd UU_ oo_ UV_ LL_ (⟨2, 2, 8, 29⟩ : Room).cells (⟨2, 2, 8, 29⟩ : Room).slots) := by
 refine MetFree.of_bodySF (plainFor_of_name own_p2) hisR ?_
 intro p e s m args below meth c s₁ Bd hml0 hP hK
 obtain ⟨rfl, hZ, hh⟩ := hP
 have hx := Bd.exec
 have hby := Bd.bytes
 have hml : c.maxLocals = 2 := hml0
 have hown : s.vm.findClass cn0 = some m.cls := findClass_of_methodNamed Bd.named
 have hnm := (name_of_methodNamed Bd.named Bd.method).1
 have X0 : Stand p l e (⟨2, 2, 8, 29⟩ : Room) s m #[.ref wk, .ref wp] below meth c s₁ [] 0 0 := Stand.of_body Bd
 have e0 : s₁.heap = h0 := by rw [← hh, Bd.state]; rfl
 have N0 := Fr.nil n0
 have hn0 : Z.heap.size = n0 := O0.1
 have KT0 : Keep h0 h0 [] := Keep.refl _ _
 refine own_enter (Φ := fun oo_ UV_ => ∃ vv_ LL_, oo_ = .returned vv_ ∧ Q_rmWw_4 Z wC cC wD kD mA mL mR wk wp kW a h dp wq v0 v1 v2 v3 h0 n0 vv_ UV_.heap LL_ ∧ FrameEnd s oo_ UV_ LL_ (⟨2, 2, 8, 29⟩ : Room).cells (⟨2, 2, 8, 29⟩ : Room).slots) (own_ef_rmWw_4 m wk wp) ?_
 obtain ⟨T1, h1, X1, e1, E1, A1, D1, -, st1⟩ := newO X0 hx hZ hown (ww hw 285 rfl) (ww hw 102 rfl) (ww hw 103 rfl) e0 (g := (mkF m 0 #[vr wk, vr wp] [])) rfl (hb hby d37_0) (by decide) (by decide)
 obtain ⟨b1, g1⟩ : ∃ z, z = h0.size := ⟨_, rfl⟩
 rw [← g1] at A1 D1 st1
 have K2 : Keep h0 h1 [] := own_kext E1
 have zzK2 : h0.size ≤ h1.size := K2.1
 have oo3 : Old Z n0 h1 := O0.keep K2 all0
 have kt4 : Keep h0 h1 [] := KT0.trans K2 all0
 have lab1 : b1 < h1.size := A1.lt
 have f5 : Fld Z h1 b1 cn0 "jobs" cn4 .null := D1 (Or.inr (ww hw 273 rfl)) (ty := (.object cn1)) (by decide)
 have f6 : Fld Z h1 b1 cn0 "homeZones" "[I" .null := D1 (Or.inr (ww hw 275 rfl)) (ty := (.array .int)) (by decide)
 have f7 : Fld Z h1 b1 cn0 "departures" "[I" .null := D1 (Or.inr (ww hw 277 rfl)) (ty := (.array .int)) (by decide)
 have f8 : Fld Z h1 b1 cn0 "workplaces" "[I" .null := D1 (Or.inr (ww hw 279 rfl)) (ty := (.array .int)) (by decide)
 refine own_b T1 m 3 #[vr wk, vr wp] [.ref b1] st1 ?_
 refine own_b T1 m 5 #[vr wk, vr wp] [.ref wk, .ref b1, .ref b1] (fun _ k_ => XS.dup X1.here hx rfl (hb hby d37_3) rfl rfl (XS.aloadN X1.here hx rfl (hb hby d37_4) rfl rfl k_)) ?_
 have f9 : Fld Z h1 wk cn0 "jobs" cn4 (.ref a) := (Wf0.keep K2 nin0)
 obtain ⟨T10, X10, e10, st10⟩ := getF X1 hx hZ hown (host := "") (Or.inl (ww hw 272 rfl)) Via.refl e1 f9 (g := (mkF m 5 #[vr wk, vr wp] [.ref wk, .ref b1, .ref b1])) rfl rfl (hb hby d37_5)
 refine own_b T10 m 8 #[vr wk, vr wp] [.ref a, .ref b1, .ref b1] st10 ?_
 refine own_b T10 m 9 #[vr wk, vr wp] [.ref wk, .ref a, .ref b1, .ref b1] (fun _ k_ => XS.aloadN X10.here hx rfl (hb hby d37_8) rfl rfl k_) ?_
 have f11 : Fld Z h1 wk cn0 "homeZones" "[I" (.ref h) := (Wf1.keep K2 nin0)
 obtain ⟨T12, X12, e12, st12⟩ := getF X10 hx hZ hown (host := "") (Or.inl (ww hw 274 rfl)) Via.refl e10 f11 (g := (mkF m 9 #[vr wk, vr wp] [.ref wk, .ref a, .ref b1, .ref b1])) rfl rfl (hb hby d37_9)
 refine own_b T12 m 12 #[vr wk, vr wp] [.ref h, .ref a, .ref b1, .ref b1] st12 ?_
 refine own_b T12 m 13 #[vr wk, vr wp] [.ref wk, .ref h, .ref a, .ref b1, .ref b1] (fun _ k_ => XS.aloadN X12.here hx rfl (hb hby d37_12) rfl rfl k_) ?_
 have f13 : Fld Z h1 wk cn0 "departures" "[I" (.ref dp) := (Wf2.keep K2 nin0)
 obtain ⟨T14, X14, e14, st14⟩ := getF X12 hx hZ hown (host := "") (Or.inl (ww hw 276 rfl)) Via.refl e12 f13 (g := (mkF m 13 #[vr wk, vr wp] [.ref wk, .ref h, .ref a, .ref b1, .ref b1])) rfl rfl (hb hby d37_13)
 refine own_b T14 m 16 #[vr wk, vr wp] [.ref dp, .ref h, .ref a, .ref b1, .ref b1] st14 ?_
 refine own_b T14 m 17 #[vr wk, vr wp] [.ref wp, .ref dp, .ref h, .ref a, .ref b1, .ref b1] (fun _ k_ => XS.aloadN X14.here hx rfl (hb hby d37_16) rfl rfl k_) ?_
 have f16 : Arv Z h1 wp kW .int (4 : Int32) [.int v0, .int v1, .int v2, .int v3] (.int 0) := (Vp.keep K2 nin0)
 obtain ⟨cl15, Ar15, q15, S15, M15, H15, G15⟩ := id f16
 have f17 : Exa Z h1 wp "[I" := (E_p.keep K2)
 obtain ⟨T15, h15, X15, e15, E15, A15, B15, st15⟩ := cloneA X14 hx hZ hown (ww hw 286 rfl) (ww hw 287 rfl) (ww hw 291 rfl) (ww hw 289 rfl) (ww hw 290 rfl) (ww hw 292 rfl) e14 Ar15 f17 (fitC_of Ar15 fun i hi v hv => by rw [H15 i hi] at hv; cases hv; exact G15 i hi) (g := (mkF m 17 #[vr wk, vr wp] [.ref wp, .ref dp, .ref h, .ref a, .ref b1, .ref b1])) rfl (by rw [hml]; rfl) rfl (hb hby d37_17) (by decide) (W := 5) (cap := 4) (by show 2 * 0 + _ ≤ _; exact Nat.le_of_eq rfl) (by decide) (by rw [S15]; decide) (by decide) (by decide)
 obtain ⟨b15, g15⟩ : ∃ z, z = h1.size := ⟨_, rfl⟩
 rw [← g15] at A15 B15 st15
 have K18 : Keep h1 h15 [] := own_kext E15
 have zzK18 : h1.size ≤ h15.size := K18.1
 have oo19 : Old Z n0 h15 := oo3.keep K18 all0
 have kt20 : Keep h0 h15 [] := kt4.trans K18 all0
 have lab15 : b15 < h15.size := A15.lt
 have f21 : Arv Z h15 b15 kW .int (4 : Int32) [.int v0, .int v1, .int v2, .int v3] (.int 0) := ⟨_, A15, q15, S15, M15, H15, G15⟩
 refine own_b T15 m 20 #[vr wk, vr wp] [.ref b15, .ref dp, .ref h, .ref a, .ref b1, .ref b1] st15 ?_
 obtain ⟨T22, X22, e22, st22⟩ := castY X15 hx hZ hown (ww hw 293 rfl) e15 (Ins.self B15) (g := (mkF m 20 #[vr wk, vr wp] [.ref b15, .ref dp, .ref h, .ref a, .ref b1, .ref b1])) rfl rfl (hb hby d37_20)
 refine own_b T22 m 23 #[vr wk, vr wp] [.ref b15, .ref dp, .ref h, .ref a, .ref b1, .ref b1] st22 ?_
 have f23 : Exa Z h15 b1 cn0 := (A1.keep K18)
 have f24 : Fld Z h15 b1 cn0 "jobs" cn4 .null := (f5.keep K18 nin0)
 have f25 : Fld Z h15 b1 cn0 "homeZones" "[I" .null := (f6.keep K18 nin0)
 have f26 : Fld Z h15 b1 cn0 "departures" "[I" .null := (f7.keep K18 nin0)
 have f27 : Fld Z h15 b1 cn0 "workplaces" "[I" .null := (f8.keep K18 nin0)
 obtain ⟨_, _, ⟨T28, L28, k28, n28⟩, -, X28, ⟨Lc28, hQ28, l28, y28, z28⟩, st28⟩ := X22.specialBack hx (y := (⟨cn0, "<init>", "(Lcom/example/even_commute/evencommute/demand/ZoneCounts;[I[I[I)V"⟩ : MethodName)) rfl hown (mvT hZ (ww hw 268 rfl)) (mvT hZ (ww hw 269 rfl)) (mvT hZ (ww hw 270 rfl)) (by decide) (backOf (W := 1) (rmWI4 l Z a0 hw [] wC cC wD kD mA mL mR GS b1 a h dp b15 h15 n0 (by omega) oo19 f23 (by omega) f24 f25 f26 f27) hZ (ww hw 270 rfl) (ww hw 103 rfl) (by decide) (by decide)) (g := (mkF m 23 #[vr wk, vr wp] [.ref b15, .ref dp, .ref h, .ref a, .ref b1, .ref b1])) rfl (by rw [hml]; rfl) (Steps.refl _) (a := b1) (argsL := [.ref a, .ref h, .ref dp, .ref b15]) (rest := [.ref b1]) (lenOf own_pd_22 rfl) rfl (by show 2 * 0 + _ ≤ _; exact Nat.le_of_eq rfl) (hb hby d37_23) (fun _ _ => ⟨rfl, e22, (by decide : 2 + 0 ≤ _), (by decide : 8 + 0 ≤ _)⟩)
 dsimp only [Pt.U, Pt.locs, Pt.cells, Pt.slots] at X28 l28 y28 z28 st28 hQ28
 subst l28 y28 z28
 obtain ⟨rfl, N28q, K28, p28_0, p28_1, p28_2, p28_3⟩ := hQ28
 have N29 := Fr.app N0 N28q
 have zzK28 : h15.size ≤ T28.heap.size := K28.1
 have oo30 : Old Z n0 T28.heap := oo19.keep K28 (allS (by omega : n0 ≤ b1) all0)
 have kt31 : Keep h0 T28.heap [] := kt20.trans K28 (allS (Or.inr (by omega : h0.size ≤ b1)) all0)
 refine own_b T28 m 26 #[vr wk, vr wp] [.ref b1] (fun _ k_ => st28.trans k_) ?_
 have ne32 : @Ne Nat b15 b1 := by omega
 have f33 : Arv Z T28.heap b15 kW .int (4 : Int32) [.int v0, .int v1, .int v2, .int v3] (.int 0) := (f21.keep K28 (ninS ne32 nin0))
 have f34 : Exa Z T28.heap b1 cn0 := (f23.keep K28)
 obtain ⟨fs35, hr35, hrun35, hended35, hW35, hsame35⟩ := X28.leave (v := some (.ref b1)) (fun h => by rw [Bd.returns] at h; cases h)
 refine ⟨_, _, retOut X28 hx (t := (.object cn0)) Bd.returns rfl (Or.inr (Or.inr (Or.inr (Or.inr ⟨rfl, rfl, rfl⟩)))) (hb hby d37_26) hr35, hrun35, hended35, _, _, rfl, ?_, ⟨_, rfl⟩, hW35, hsame35.mono (by decide) (by decide)⟩
 show Q_rmWw_4 Z wC cC wD kD mA mL mR wk wp kW a h dp wq v0 v1 v2 v3 h0 n0 _ T28.heap _
 exact ⟨b1, b15, kW, rfl, N29, kt31, (by omega), (by omega), f34, p28_3, f33⟩
theorem own_ef_rmC0_4 (m : MethodId) (x0 : Addr) : entryFrame m #[.ref x0] 6 = mkF m 0 #[.val (.ref x0), .unset, .unset, .unset, .unset, .unset] [] := by first | (simp [entryFrame, mkF, argsToLocals, Value.category]; done) | rfl
def Q_rmC0_4 (Z : State) (wC : Addr) (cC : Cell) (wD : Addr) (kD : ClassId) (mA : Addr) (mL : Addr) (mR : Addr) (wk : Addr) (wp : Addr) (kW : ClassId) (h0 : Heap) (n0 : Nat) (vv_ : Option Value) (hh_ : Heap) (LL_ : List Loc) : Prop := vv_ = some (.int 0) ∧ Fr n0 LL_ ∧ hh_ = h0
theorem rmC0_4 (l : Launch) (Z : State) (a0 : Array Value) (hw : ∀ d ∈ tables_1, d.before a0 Z = true) (ws : List Jvm.Cond) (wC : Addr) (cC : Cell) (wD : Addr) (kD : ClassId) (mA : Addr) (mL : Addr) (mR : Addr) (GS : Glob Z wC cC wD kD mA mL mR) (wk : Addr) (wp : Addr) (kW : ClassId) (h0 : Heap) (n0 : Nat) (Z0 : n0 ≤ h0.size) (O0 : Old Z n0 h0) (E_w : Exa Z h0 wk cn0) (Wf3 : Fld Z h0 wk cn0 "workplaces" "[I" (.ref wp)) (Vp : Arv Z h0 wp kW .int (4 : Int32) [.int 0, .int 0, .int 0, .int 0] (.int 0)) :
  MetFree l (⟨cn0, "getAssignedCount", "()I"⟩ : MethodName) (head1 (Jvm.Cond.code (⟨cn0, "getAssignedCount", "()I"⟩ : MethodName) prog_29_method_10_code 6 (some .int) :: ws) (⟨0, 0, 0, 0⟩ : Room)) (fun aa_ UU_ => aa_ = #[.ref wk] ∧ Z.Warmed39 UU_.vm ∧ UU_.heap = h0) (fun _ _ _ _ _ => True) (fun _ UU_ oo_ UV_ => ∃ vv_ LL_, oo_ = .returned vv_ ∧ Q_rmC0_4 Z wC cC wD kD mA mL mR wk wp kW h0 n0 vv_ UV_.heap LL_ ∧ FrameEnd UU_ oo_ UV_ LL_ (⟨0, 0, 0, 0⟩ : Room).cells (⟨0, 0, 0, 0⟩ : Room).slots) := by
 refine MetFree.of_bodySF (plainFor_of_name own_p2) hisR ?_
 intro p e s m args below meth c s₁ Bd hml0 hP hK
 obtain ⟨rfl, hZ, hh⟩ := hP
 have hx := Bd.exec
 have hby := Bd.bytes
 have hml : c.maxLocals = 6 := hml0
 have hown : s.vm.findClass cn0 = some m.cls := findClass_of_methodNamed Bd.named
 have hnm := (name_of_methodNamed Bd.named Bd.method).1
 have X0 : Stand p l e (⟨0, 0, 0, 0⟩ : Room) s m #[.ref wk] below meth c s₁ [] 0 0 := Stand.of_body Bd
 have e0 : s₁.heap = h0 := by rw [← hh, Bd.state]; rfl
 have N0 := Fr.nil n0
 have hn0 : Z.heap.size = n0 := O0.1
 have KT0 : Keep h0 h0 [] := Keep.refl _ _
 refine own_enter (Φ := fun oo_ UV_ => ∃ vv_ LL_, oo_ = .returned vv_ ∧ Q_rmC0_4 Z wC cC wD kD mA mL mR wk wp kW h0 n0 vv_ UV_.heap LL_ ∧ FrameEnd s oo_ UV_ LL_ (⟨0, 0, 0, 0⟩ : Room).cells (⟨0, 0, 0, 0⟩ : Room).slots) (own_ef_rmC0_4 m wk) ?_
 refine own_b s₁ m 3 #[vr wk, vi 0, un, un, un, un] [.ref wk] (fun _ k_ => XS.iconst X0.here hx rfl (hb hby d38_0) (XS.istoreN X0.here hx rfl (hb hby d38_1) rfl (l' := #[vr wk, vi 0, un, un, un, un]) rfl (XS.aloadN X0.here hx rfl (hb hby d38_2) rfl rfl k_))) ?_
 obtain ⟨T1, X1, e1, st1⟩ := getF X0 hx hZ hown (host := "") (Or.inl (ww hw 278 rfl)) Via.refl e0 Wf3 (g := (mkF m 3 #[vr wk, vi 0, un, un, un, un] [.ref wk])) rfl rfl (hb hby d38_3)
 refine own_b T1 m 6 #[vr wk, vi 0, un, un, un, un] [.ref wp] st1 ?_
 refine own_b T1 m 8 #[vr wk, vi 0, vr wp, un, un, un] [.ref wp] (fun _ k_ => XS.astoreN X1.here hx rfl (hb hby d38_6) rfl rfl (l' := #[vr wk, vi 0, vr wp, un, un, un]) rfl (XS.aloadN X1.here hx rfl (hb hby d38_7) rfl rfl k_)) ?_
 obtain ⟨cl2, Ar2, q2, S2, M2, H2, G2⟩ := id Vp
 refine own_b T1 m 9 #[vr wk, vi 0, vr wp, un, un, un] [.int 4] (fun _ k_ => X1.arraylength hx (by rw [e1]; exact Ar2.1) (State.isArrayOf_alike hZ.alike Ar2.2.1) (g := (mkF m 8 #[vr wk, vi 0, vr wp, un, un, un] [.ref wp])) rfl rfl (hb hby d38_8) _ (by rw [len_of S2 M2]; exact k_)) ?_
 refine own_b T1 m 22 #[vr wk, vi 0, vr wp, vi 4, vi 0, un] [.int 0, .ref wp] (fun _ k_ => XS.istoreN X1.here hx rfl (hb hby d38_9) rfl (l' := #[vr wk, vi 0, vr wp, vi 4, un, un]) rfl (XS.iconst X1.here hx rfl (hb hby d38_10) (XS.istore X1.here hx rfl (hb hby d38_11) rfl (l' := #[vr wk, vi 0, vr wp, vi 4, vi 0, un]) rfl (XS.iload X1.here hx rfl (hb hby d38_13) rfl (XS.iloadN X1.here hx rfl (hb hby d38_15) rfl (XS.icmpNo X1.here hx rfl (hb hby d38_16) rfl (XT.ii_ge_f (by decide)) (XS.aloadN X1.here hx rfl (hb hby d38_19) rfl rfl (XS.iload X1.here hx rfl (hb hby d38_20) rfl k_)))))))) ?_
 obtain ⟨cl3, Ar3, q3, S3, M3, H3, G3⟩ := id Vp
 have hin3 : ¬ ((0 : Int32) < 0 ∨ cl3.slots.size ≤ ((0 : Int32)).toNatClampNeg) := inb_of S3 ⟨by decide, by decide⟩
 have hat3 : cl3.slots[((0 : Int32)).toNatClampNeg]? = some (.int 0) := H3.at hin3 rfl
 refine own_b T1 m 23 #[vr wk, vi 0, vr wp, vi 4, vi 0, un] [.int 0] (fun _ k_ => X1.iaload hx (j := (0 : Int32)) (v := (.int 0)) (by rw [e1]; exact Ar3.1) (State.isArrayOf_alike hZ.alike Ar3.2.1) Ar3.2.2 hin3 hat3 (g := (mkF m 22 #[vr wk, vi 0, vr wp, vi 4, vi 0, un] [.int 0, .ref wp])) rfl rfl (hb hby d38_22) _ k_) ?_
 refine own_b T1 m 36 #[vr wk, vi 0, vr wp, vi 4, .val (.int ((0 : Int32) + (1 : Int32))), vi 0] [] (fun _ k_ => XS.istore X1.here hx rfl (hb hby d38_23) rfl (l' := #[vr wk, vi 0, vr wp, vi 4, vi 0, vi 0]) rfl (XS.iload X1.here hx rfl (hb hby d38_25) rfl (XS.ifYes X1.here hx rfl (pc0 := 27) (pc' := 33) rfl (hb hby d38_27) rfl (XT.i0_eq_t (by decide)) (by decide) (by decide) (XS.iinc X1.here hx rfl (hb hby d38_33) rfl rfl k_)))) ?_
 rw [show ((0 : Int32) + (1 : Int32)) = (1 : Int32) from by decide]
 refine own_b T1 m 22 #[vr wk, vi 0, vr wp, vi 4, vi 1, vi 0] [.int 1, .ref wp] (fun _ k_ => XS.goto X1.here hx rfl (pc0 := 36) (pc' := 13) rfl (hb hby d38_36) (by decide) (by decide) (XS.iload X1.here hx rfl (hb hby d38_13) rfl (XS.iloadN X1.here hx rfl (hb hby d38_15) rfl (XS.icmpNo X1.here hx rfl (hb hby d38_16) rfl (XT.ii_ge_f (by decide)) (XS.aloadN X1.here hx rfl (hb hby d38_19) rfl rfl (XS.iload X1.here hx rfl (hb hby d38_20) rfl k_)))))) ?_
 obtain ⟨cl4, Ar4, q4, S4, M4, H4, G4⟩ := id Vp
 have hin4 : ¬ ((1 : Int32) < 0 ∨ cl4.slots.size ≤ ((1 : Int32)).toNatClampNeg) := inb_of S4 ⟨by decide, by decide⟩
 have hat4 : cl4.slots[((1 : Int32)).toNatClampNeg]? = some (.int 0) := H4.at hin4 rfl
 refine own_b T1 m 23 #[vr wk, vi 0, vr wp, vi 4, vi 1, vi 0] [.int 0] (fun _ k_ => X1.iaload hx (j := (1 : Int32)) (v := (.int 0)) (by rw [e1]; exact Ar4.1) (State.isArrayOf_alike hZ.alike Ar4.2.1) Ar4.2.2 hin4 hat4 (g := (mkF m 22 #[vr wk, vi 0, vr wp, vi 4, vi 1, vi 0] [.int 1, .ref wp])) rfl rfl (hb hby d38_22) _ k_) ?_
 refine own_b T1 m 36 #[vr wk, vi 0, vr wp, vi 4, .val (.int ((1 : Int32) + (1 : Int32))), vi 0] [] (fun _ k_ => XS.istore X1.here hx rfl (hb hby d38_23) rfl (l' := #[vr wk, vi 0, vr wp, vi 4, vi 1, vi 0]) rfl (XS.iload X1.here hx rfl (hb hby d38_25) rfl (XS.ifYes X1.here hx rfl (pc0 := 27) (pc' := 33) rfl (hb hby d38_27) rfl (XT.i0_eq_t (by decide)) (by decide) (by decide) (XS.iinc X1.here hx rfl (hb hby d38_33) rfl rfl k_)))) ?_
 rw [show ((1 : Int32) + (1 : Int32)) = (2 : Int32) from by decide]
 refine own_b T1 m 22 #[vr wk, vi 0, vr wp, vi 4, vi 2, vi 0] [.int 2, .ref wp] (fun _ k_ => XS.goto X1.here hx rfl (pc0 := 36) (pc' := 13) rfl (hb hby d38_36) (by decide) (by decide) (XS.iload X1.here hx rfl (hb hby d38_13) rfl (XS.iloadN X1.here hx rfl (hb hby d38_15) rfl (XS.icmpNo X1.here hx rfl (hb hby d38_16) rfl (XT.ii_ge_f (by decide)) (XS.aloadN X1.here hx rfl (hb hby d38_19) rfl rfl (XS.iload X1.here hx rfl (hb hby d38_20) rfl k_)))))) ?_
 obtain ⟨cl5, Ar5, q5, S5, M5, H5, G5⟩ := id Vp
 have hin5 : ¬ ((2 : Int32) < 0 ∨ cl5.slots.size ≤ ((2 : Int32)).toNatClampNeg) := inb_of S5 ⟨by decide, by decide⟩
 have hat5 : cl5.slots[((2 : Int32)).toNatClampNeg]? = some (.int 0) := H5.at hin5 rfl
 refine own_b T1 m 23 #[vr wk, vi 0, vr wp, vi 4, vi 2, vi 0] [.int 0] (fun _ k_ => X1.iaload hx (j := (2 : Int32)) (v := (.int 0)) (by rw [e1]; exact Ar5.1) (State.isArrayOf_alike hZ.alike Ar5.2.1) Ar5.2.2 hin5 hat5 (g := (mkF m 22 #[vr wk, vi 0, vr wp, vi 4, vi 2, vi 0] [.int 2, .ref wp])) rfl rfl (hb hby d38_22) _ k_) ?_
 refine own_b T1 m 36 #[vr wk, vi 0, vr wp, vi 4, .val (.int ((2 : Int32) + (1 : Int32))), vi 0] [] (fun _ k_ => XS.istore X1.here hx rfl (hb hby d38_23) rfl (l' := #[vr wk, vi 0, vr wp, vi 4, vi 2, vi 0]) rfl (XS.iload X1.here hx rfl (hb hby d38_25) rfl (XS.ifYes X1.here hx rfl (pc0 := 27) (pc' := 33) rfl (hb hby d38_27) rfl (XT.i0_eq_t (by decide)) (by decide) (by decide) (XS.iinc X1.here hx rfl (hb hby d38_33) rfl rfl k_)))) ?_
 rw [show ((2 : Int32) + (1 : Int32)) = (3 : Int32) from by decide]
 refine own_b T1 m 22 #[vr wk, vi 0, vr wp, vi 4, vi 3, vi 0] [.int 3, .ref wp] (fun _ k_ => XS.goto X1.here hx rfl (pc0 := 36) (pc' := 13) rfl (hb hby d38_36) (by decide) (by decide) (XS.iload X1.here hx rfl (hb hby d38_13) rfl (XS.iloadN X1.here hx rfl (hb hby d38_15) rfl (XS.icmpNo X1.here hx rfl (hb hby d38_16) rfl (XT.ii_ge_f (by decide)) (XS.aloadN X1.here hx rfl (hb hby d38_19) rfl rfl (XS.iload X1.here hx rfl (hb hby d38_20) rfl k_)))))) ?_
 obtain ⟨cl6, Ar6, q6, S6, M6, H6, G6⟩ := id Vp
 have hin6 : ¬ ((3 : Int32) < 0 ∨ cl6.slots.size ≤ ((3 : Int32)).toNatClampNeg) := inb_of S6 ⟨by decide, by decide⟩
 have hat6 : cl6.slots[((3 : Int32)).toNatClampNeg]? = some (.int 0) := H6.at hin6 rfl
 refine own_b T1 m 23 #[vr wk, vi 0, vr wp, vi 4, vi 3, vi 0] [.int 0] (fun _ k_ => X1.iaload hx (j := (3 : Int32)) (v := (.int 0)) (by rw [e1]; exact Ar6.1) (State.isArrayOf_alike hZ.alike Ar6.2.1) Ar6.2.2 hin6 hat6 (g := (mkF m 22 #[vr wk, vi 0, vr wp, vi 4, vi 3, vi 0] [.int 3, .ref wp])) rfl rfl (hb hby d38_22) _ k_) ?_
 refine own_b T1 m 36 #[vr wk, vi 0, vr wp, vi 4, .val (.int ((3 : Int32) + (1 : Int32))), vi 0] [] (fun _ k_ => XS.istore X1.here hx rfl (hb hby d38_23) rfl (l' := #[vr wk, vi 0, vr wp, vi 4, vi 3, vi 0]) rfl (XS.iload X1.here hx rfl (hb hby d38_25) rfl (XS.ifYes X1.here hx rfl (pc0 := 27) (pc' := 33) rfl (hb hby d38_27) rfl (XT.i0_eq_t (by decide)) (by decide) (by decide) (XS.iinc X1.here hx rfl (hb hby d38_33) rfl rfl k_)))) ?_
 rw [show ((3 : Int32) + (1 : Int32)) = (4 : Int32) from by decide]
 refine own_b T1 m 40 #[vr wk, vi 0, vr wp, vi 4, vi 4, vi 0] [.int 0] (fun _ k_ => XS.goto X1.here hx rfl (pc0 := 36) (pc' := 13) rfl (hb hby d38_36) (by decide) (by decide) (XS.iload X1.here hx rfl (hb hby d38_13) rfl (XS.iloadN X1.here hx rfl (hb hby d38_15) rfl (XS.icmpYes X1.here hx rfl (pc0 := 16) (pc' := 39) rfl (hb hby d38_16) rfl (XT.ii_ge_t (by decide)) (by decide) (by decide) (XS.iloadN X1.here hx rfl (hb hby d38_39) rfl k_))))) ?_
 obtain ⟨fs7, hr7, hrun7, hended7, hW7, hsame7⟩ := X1.leave (v := some (.int 0)) (fun h => by rw [Bd.returns] at h; cases h)
 refine ⟨_, _, retOut X1 hx (t := .int) Bd.returns rfl (Or.inl ⟨rfl, Or.inl rfl, _, rfl⟩) (hb hby d38_40) hr7, hrun7, hended7, _, _, rfl, ?_, ⟨_, rfl⟩, hW7, hsame7.mono (by decide) (by decide)⟩
 show Q_rmC0_4 Z wC cC wD kD mA mL mR wk wp kW h0 n0 _ T1.heap _
 exact ⟨rfl, N0, e1⟩
theorem own_ef_rmCn_4 (m : MethodId) (x0 : Addr) : entryFrame m #[.ref x0] 6 = mkF m 0 #[.val (.ref x0), .unset, .unset, .unset, .unset, .unset] [] := by first | (simp [entryFrame, mkF, argsToLocals, Value.category]; done) | rfl
def Q_rmCn_4 (Z : State) (wC : Addr) (cC : Cell) (wD : Addr) (kD : ClassId) (mA : Addr) (mL : Addr) (mR : Addr) (wk : Addr) (wp : Addr) (kW : ClassId) (v0 : Int32) (v1 : Int32) (v2 : Int32) (v3 : Int32) (h0 : Heap) (n0 : Nat) (vv_ : Option Value) (hh_ : Heap) (LL_ : List Loc) : Prop := vv_ = some (.int (if v0 = (0 : Int32) then (if v1 = (0 : Int32) then (if v2 = (0 : Int32) then (if v3 = (0 : Int32) then (0 : Int32) else (1 : Int32)) else (if v3 = (0 : Int32) then (1 : Int32) else (2 : Int32))) else (if v2 = (0 : Int32) then (if v3 = (0 : Int32) then (1 : Int32) else (2 : Int32)) else (if v3 = (0 : Int32) then (2 : Int32) else (3 : Int32)))) else (if v1 = (0 : Int32) then (if v2 = (0 : Int32) then (if v3 = (0 : Int32) then (1 : Int32) else (2 : Int32)) else (if v3 = (0 : Int32) then (2 : Int32) else (3 : Int32))) else (if v2 = (0 : Int32) then (if v3 = (0 : Int32) then (2 : Int32) else (3 : Int32)) else (if v3 = (0 : Int32) then (3 : Int32) else (4 : Int32)))))) ∧ Fr n0 LL_ ∧ hh_ = h0
theorem rmCn_4 (l : Launch) (Z : State) (a0 : Array Value) (hw : ∀ d ∈ tables_1, d.before a0 Z = true) (ws : List Jvm.Cond) (wC : Addr) (cC : Cell) (wD : Addr) (kD : ClassId) (mA : Addr) (mL : Addr) (mR : Addr) (GS : Glob Z wC cC wD kD mA mL mR) (wk : Addr) (wp : Addr) (kW : ClassId) (v0 : Int32) (v1 : Int32) (v2 : Int32) (v3 : Int32) (h0 : Heap) (n0 : Nat) (Z0 : n0 ≤ h0.size) (O0 : Old Z n0 h0) (E_w : Exa Z h0 wk cn0) (Wf3 : Fld Z h0 wk cn0 "workplaces" "[I" (.ref wp)) (Vp : Arv Z h0 wp kW .int (4 : Int32) [.int v0, .int v1, .int v2, .int v3] (.int 0)) :
  MetFree l (⟨cn0, "getAssignedCount", "()I"⟩ : MethodName) (head1 (Jvm.Cond.code (⟨cn0, "getAssignedCount", "()I"⟩ : MethodName) prog_29_method_10_code 6 (some .int) :: ws) (⟨0, 0, 0, 0⟩ : Room)) (fun aa_ UU_ => aa_ = #[.ref wk] ∧ Z.Warmed39 UU_.vm ∧ UU_.heap = h0) (fun _ _ _ _ _ => True) (fun _ UU_ oo_ UV_ => ∃ vv_ LL_, oo_ = .returned vv_ ∧ Q_rmCn_4 Z wC cC wD kD mA mL mR wk wp kW v0 v1 v2 v3 h0 n0 vv_ UV_.heap LL_ ∧ FrameEnd UU_ oo_ UV_ LL_ (⟨0, 0, 0, 0⟩ : Room).cells (⟨0, 0, 0, 0⟩ : Room).slots) := by
 refine MetFree.of_bodySF (plainFor_of_name own_p2) hisR ?_
 intro p e s m args below meth c s₁ Bd hml0 hP hK
 obtain ⟨rfl, hZ, hh⟩ := hP
 have hx := Bd.exec
 have hby := Bd.bytes
 have hml : c.maxLocals = 6 := hml0
 have hown : s.vm.findClass cn0 = some m.cls := findClass_of_methodNamed Bd.named
 have hnm := (name_of_methodNamed Bd.named Bd.method).1
 have X0 : Stand p l e (⟨0, 0, 0, 0⟩ : Room) s m #[.ref wk] below meth c s₁ [] 0 0 := Stand.of_body Bd
 have e0 : s₁.heap = h0 := by rw [← hh, Bd.state]; rfl
 have N0 := Fr.nil n0
 have hn0 : Z.heap.size = n0 := O0.1
 have KT0 : Keep h0 h0 [] := Keep.refl _ _
 refine own_enter (Φ := fun oo_ UV_ => ∃ vv_ LL_, oo_ = .returned vv_ ∧ Q_rmCn_4 Z wC cC wD kD mA mL mR wk wp kW v0 v1 v2 v3 h0 n0 vv_ UV_.heap LL_ ∧ FrameEnd s oo_ UV_ LL_ (⟨0, 0, 0, 0⟩ : Room).cells (⟨0, 0, 0, 0⟩ : Room).slots) (own_ef_rmCn_4 m wk) ?_
 refine own_b s₁ m 3 #[vr wk, vi 0, un, un, un, un] [.ref wk] (fun _ k_ => XS.iconst X0.here hx rfl (hb hby d38_0) (XS.istoreN X0.here hx rfl (hb hby d38_1) rfl (l' := #[vr wk, vi 0, un, un, un, un]) rfl (XS.aloadN X0.here hx rfl (hb hby d38_2) rfl rfl k_))) ?_
 obtain ⟨T1, X1, e1, st1⟩ := getF X0 hx hZ hown (host := "") (Or.inl (ww hw 278 rfl)) Via.refl e0 Wf3 (g := (mkF m 3 #[vr wk, vi 0, un, un, un, un] [.ref wk])) rfl rfl (hb hby d38_3)
 refine own_b T1 m 6 #[vr wk, vi 0, un, un, un, un] [.ref wp] st1 ?_
 refine own_b T1 m 8 #[vr wk, vi 0, vr wp, un, un, un] [.ref wp] (fun _ k_ => XS.astoreN X1.here hx rfl (hb hby d38_6) rfl rfl (l' := #[vr wk, vi 0, vr wp, un, un, un]) rfl (XS.aloadN X1.here hx rfl (hb hby d38_7) rfl rfl k_)) ?_
 obtain ⟨cl2, Ar2, q2, S2, M2, H2, G2⟩ := id Vp
 refine own_b T1 m 9 #[vr wk, vi 0, vr wp, un, un, un] [.int 4] (fun _ k_ => X1.arraylength hx (by rw [e1]; exact Ar2.1) (State.isArrayOf_alike hZ.alike Ar2.2.1) (g := (mkF m 8 #[vr wk, vi 0, vr wp, un, un, un] [.ref wp])) rfl rfl (hb hby d38_8) _ (by rw [len_of S2 M2]; exact k_)) ?_
 refine own_b T1 m 22 #[vr wk, vi 0, vr wp, vi 4, vi 0, un] [.int 0, .ref wp] (fun _ k_ => XS.istoreN X1.here hx rfl (hb hby d38_9) rfl (l' := #[vr wk, vi 0, vr wp, vi 4, un, un]) rfl (XS.iconst X1.here hx rfl (hb hby d38_10) (XS.istore X1.here hx rfl (hb hby d38_11) rfl (l' := #[vr wk, vi 0, vr wp, vi 4, vi 0, un]) rfl (XS.iload X1.here hx rfl (hb hby d38_13) rfl (XS.iloadN X1.here hx rfl (hb hby d38_15) rfl (XS.icmpNo X1.here hx rfl (hb hby d38_16) rfl (XT.ii_ge_f (by decide)) (XS.aloadN X1.here hx rfl (hb hby d38_19) rfl rfl (XS.iload X1.here hx rfl (hb hby d38_20) rfl k_)))))))) ?_
 obtain ⟨cl3, Ar3, q3, S3, M3, H3, G3⟩ := id Vp
 have hin3 : ¬ ((0 : Int32) < 0 ∨ cl3.slots.size ≤ ((0 : Int32)).toNatClampNeg) := inb_of S3 ⟨by decide, by decide⟩
 have hat3 : cl3.slots[((0 : Int32)).toNatClampNeg]? = some (.int v0) := H3.at hin3 rfl
 refine own_b T1 m 23 #[vr wk, vi 0, vr wp, vi 4, vi 0, un] [.int v0] (fun _ k_ => X1.iaload hx (j := (0 : Int32)) (v := (.int v0)) (by rw [e1]; exact Ar3.1) (State.isArrayOf_alike hZ.alike Ar3.2.1) Ar3.2.2 hin3 hat3 (g := (mkF m 22 #[vr wk, vi 0, vr wp, vi 4, vi 0, un] [.int 0, .ref wp])) rfl rfl (hb hby d38_22) _ k_) ?_
 refine own_b T1 m 27 #[vr wk, vi 0, vr wp, vi 4, vi 0, vi v0] [.int v0] (fun _ k_ => XS.istore X1.here hx rfl (hb hby d38_23) rfl (l' := #[vr wk, vi 0, vr wp, vi 4, vi 0, vi v0]) rfl (XS.iload X1.here hx rfl (hb hby d38_25) rfl k_)) ?_
 by_cases hc4 : v0 = (0 : Int32)
 ·refine own_b T1 m 36 #[vr wk, vi 0, vr wp, vi 4, .val (.int ((0 : Int32) + (1 : Int32))), vi v0] [] (fun _ k_ => XS.ifYes X1.here hx rfl (pc0 := 27) (pc' := 33) rfl (hb hby d38_27) rfl (XT.i0_eq_t hc4) (by decide) (by decide) (XS.iinc X1.here hx rfl (hb hby d38_33) rfl rfl k_)) ?_
  rw [show ((0 : Int32) + (1 : Int32)) = (1 : Int32) from by decide]
  refine own_b T1 m 22 #[vr wk, vi 0, vr wp, vi 4, vi 1, vi v0] [.int 1, .ref wp] (fun _ k_ => XS.goto X1.here hx rfl (pc0 := 36) (pc' := 13) rfl (hb hby d38_36) (by decide) (by decide) (XS.iload X1.here hx rfl (hb hby d38_13) rfl (XS.iloadN X1.here hx rfl (hb hby d38_15) rfl (XS.icmpNo X1.here hx rfl (hb hby d38_16) rfl (XT.ii_ge_f (by decide)) (XS.aloadN X1.here hx rfl (hb hby d38_19) rfl rfl (XS.iload X1.here hx rfl (hb hby d38_20) rfl k_)))))) ?_
  obtain ⟨cl5, Ar5, q5, S5, M5, H5, G5⟩ := id Vp
  have hin5 : ¬ ((1 : Int32) < 0 ∨ cl5.slots.size ≤ ((1 : Int32)).toNatClampNeg) := inb_of S5 ⟨by decide, by decide⟩
  have hat5 : cl5.slots[((1 : Int32)).toNatClampNeg]? = some (.int v1) := H5.at hin5 rfl
  refine own_b T1 m 23 #[vr wk, vi 0, vr wp, vi 4, vi 1, vi v0] [.int v1] (fun _ k_ => X1.iaload hx (j := (1 : Int32)) (v := (.int v1)) (by rw [e1]; exact Ar5.1) (State.isArrayOf_alike hZ.alike Ar5.2.1) Ar5.2.2 hin5 hat5 (g := (mkF m 22 #[vr wk, vi 0, vr wp, vi 4, vi 1, vi v0] [.int 1, .ref wp])) rfl rfl (hb hby d38_22) _ k_) ?_
  refine own_b T1 m 27 #[vr wk, vi 0, vr wp, vi 4, vi 1, vi v1] [.int v1] (fun _ k_ => XS.istore X1.here hx rfl (hb hby d38_23) rfl (l' := #[vr wk, vi 0, vr wp, vi 4, vi 1, vi v1]) rfl (XS.iload X1.here hx rfl (hb hby d38_25) rfl k_)) ?_
  by_cases hc6 : v1 = (0 : Int32)
  ·refine own_b T1 m 36 #[vr wk, vi 0, vr wp, vi 4, .val (.int ((1 : Int32) + (1 : Int32))), vi v1] [] (fun _ k_ => XS.ifYes X1.here hx rfl (pc0 := 27) (pc' := 33) rfl (hb hby d38_27) rfl (XT.i0_eq_t hc6) (by decide) (by decide) (XS.iinc X1.here hx rfl (hb hby d38_33) rfl rfl k_)) ?_
   rw [show ((1 : Int32) + (1 : Int32)) = (2 : Int32) from by decide]
   refine own_b T1 m 22 #[vr wk, vi 0, vr wp, vi 4, vi 2, vi v1] [.int 2, .ref wp] (fun _ k_ => XS.goto X1.here hx rfl (pc0 := 36) (pc' := 13) rfl (hb hby d38_36) (by decide) (by decide) (XS.iload X1.here hx rfl (hb hby d38_13) rfl (XS.iloadN X1.here hx rfl (hb hby d38_15) rfl (XS.icmpNo X1.here hx rfl (hb hby d38_16) rfl (XT.ii_ge_f (by decide)) (XS.aloadN X1.here hx rfl (hb hby d38_19) rfl rfl (XS.iload X1.here hx rfl (hb hby d38_20) rfl k_)))))) ?_
   obtain ⟨cl7, Ar7, q7, S7, M7, H7, G7⟩ := id Vp
   have hin7 : ¬ ((2 : Int32) < 0 ∨ cl7.slots.size ≤ ((2 : Int32)).toNatClampNeg) := inb_of S7 ⟨by decide, by decide⟩
   have hat7 : cl7.slots[((2 : Int32)).toNatClampNeg]? = some (.int v2) := H7.at hin7 rfl
   refine own_b T1 m 23 #[vr wk, vi 0, vr wp, vi 4, vi 2, vi v1] [.int v2] (fun _ k_ => X1.iaload hx (j := (2 : Int32)) (v := (.int v2)) (by rw [e1]; exact Ar7.1) (State.isArrayOf_alike hZ.alike Ar7.2.1) Ar7.2.2 hin7 hat7 (g := (mkF m 22 #[vr wk, vi 0, vr wp, vi 4, vi 2, vi v1] [.int 2, .ref wp])) rfl rfl (hb hby d38_22) _ k_) ?_
   refine own_b T1 m 27 #[vr wk, vi 0, vr wp, vi 4, vi 2, vi v2] [.int v2] (fun _ k_ => XS.istore X1.here hx rfl (hb hby d38_23) rfl (l' := #[vr wk, vi 0, vr wp, vi 4, vi 2, vi v2]) rfl (XS.iload X1.here hx rfl (hb hby d38_25) rfl k_)) ?_
   by_cases hc8 : v2 = (0 : Int32)
   ·refine own_b T1 m 36 #[vr wk, vi 0, vr wp, vi 4, .val (.int ((2 : Int32) + (1 : Int32))), vi v2] [] (fun _ k_ => XS.ifYes X1.here hx rfl (pc0 := 27) (pc' := 33) rfl (hb hby d38_27) rfl (XT.i0_eq_t hc8) (by decide) (by decide) (XS.iinc X1.here hx rfl (hb hby d38_33) rfl rfl k_)) ?_
    rw [show ((2 : Int32) + (1 : Int32)) = (3 : Int32) from by decide]
    refine own_b T1 m 22 #[vr wk, vi 0, vr wp, vi 4, vi 3, vi v2] [.int 3, .ref wp] (fun _ k_ => XS.goto X1.here hx rfl (pc0 := 36) (pc' := 13) rfl (hb hby d38_36) (by decide) (by decide) (XS.iload X1.here hx rfl (hb hby d38_13) rfl (XS.iloadN X1.here hx rfl (hb hby d38_15) rfl (XS.icmpNo X1.here hx rfl (hb hby d38_16) rfl (XT.ii_ge_f (by decide)) (XS.aloadN X1.here hx rfl (hb hby d38_19) rfl rfl (XS.iload X1.here hx rfl (hb hby d38_20) rfl k_)))))) ?_
    obtain ⟨cl9, Ar9, q9, S9, M9, H9, G9⟩ := id Vp
    have hin9 : ¬ ((3 : Int32) < 0 ∨ cl9.slots.size ≤ ((3 : Int32)).toNatClampNeg) := inb_of S9 ⟨by decide, by decide⟩
    have hat9 : cl9.slots[((3 : Int32)).toNatClampNeg]? = some (.int v3) := H9.at hin9 rfl
    refine own_b T1 m 23 #[vr wk, vi 0, vr wp, vi 4, vi 3, vi v2] [.int v3] (fun _ k_ => X1.iaload hx (j := (3 : Int32)) (v := (.int v3)) (by rw [e1]; exact Ar9.1) (State.isArrayOf_alike hZ.alike Ar9.2.1) Ar9.2.2 hin9 hat9 (g := (mkF m 22 #[vr wk, vi 0, vr wp, vi 4, vi 3, vi v2] [.int 3, .ref wp])) rfl rfl (hb hby d38_22) _ k_) ?_
    refine own_b T1 m 27 #[vr wk, vi 0, vr wp, vi 4, vi 3, vi v3] [.int v3] (fun _ k_ => XS.istore X1.here hx rfl (hb hby d38_23) rfl (l' := #[vr wk, vi 0, vr wp, vi 4, vi 3, vi v3]) rfl (XS.iload X1.here hx rfl (hb hby d38_25) rfl k_)) ?_
    by_cases hc10 : v3 = (0 : Int32)
    ·refine own_b T1 m 36 #[vr wk, vi 0, vr wp, vi 4, .val (.int ((3 : Int32) + (1 : Int32))), vi v3] [] (fun _ k_ => XS.ifYes X1.here hx rfl (pc0 := 27) (pc' := 33) rfl (hb hby d38_27) rfl (XT.i0_eq_t hc10) (by decide) (by decide) (XS.iinc X1.here hx rfl (hb hby d38_33) rfl rfl k_)) ?_
     rw [show ((3 : Int32) + (1 : Int32)) = (4 : Int32) from by decide]
     refine own_b T1 m 40 #[vr wk, vi 0, vr wp, vi 4, vi 4, vi v3] [.int 0] (fun _ k_ => XS.goto X1.here hx rfl (pc0 := 36) (pc' := 13) rfl (hb hby d38_36) (by decide) (by decide) (XS.iload X1.here hx rfl (hb hby d38_13) rfl (XS.iloadN X1.here hx rfl (hb hby d38_15) rfl (XS.icmpYes X1.here hx rfl (pc0 := 16) (pc' := 39) rfl (hb hby d38_16) rfl (XT.ii_ge_t (by decide)) (by decide) (by decide) (XS.iloadN X1.here hx rfl (hb hby d38_39) rfl k_))))) ?_
     have hr11 : (0 : Int32) = (if v0 = (0 : Int32) then (if v1 = (0 : Int32) then (if v2 = (0 : Int32) then (if v3 = (0 : Int32) then (0 : Int32) else (1 : Int32)) else (if v3 = (0 : Int32) then (1 : Int32) else (2 : Int32))) else (if v2 = (0 : Int32) then (if v3 = (0 : Int32) then (1 : Int32) else (2 : Int32)) else (if v3 = (0 : Int32) then (2 : Int32) else (3 : Int32)))) else (if v1 = (0 : Int32) then (if v2 = (0 : Int32) then (if v3 = (0 : Int32) then (1 : Int32) else (2 : Int32)) else (if v3 = (0 : Int32) then (2 : Int32) else (3 : Int32))) else (if v2 = (0 : Int32) then (if v3 = (0 : Int32) then (2 : Int32) else (3 : Int32)) else (if v3 = (0 : Int32) then (3 : Int32) else (4 : Int32))))) := by simp [hc4, hc6, hc8, hc10]
     obtain ⟨fs12, hr12, hrun12, hended12, hW12, hsame12⟩ := X1.leave (v := some (.int 0)) (fun h => by rw [Bd.returns] at h; cases h)
     refine ⟨_, _, retOut X1 hx (t := .int) Bd.returns rfl (Or.inl ⟨rfl, Or.inl rfl, _, rfl⟩) (hb hby d38_40) hr12, hrun12, hended12, _, _, rfl, ?_, ⟨_, rfl⟩, hW12, hsame12.mono (by decide) (by decide)⟩
     show Q_rmCn_4 Z wC cC wD kD mA mL mR wk wp kW v0 v1 v2 v3 h0 n0 _ T1.heap _
     exact ⟨(congrArg (fun z => some (Value.int z)) hr11), N0, e1⟩
    ·refine own_b T1 m 33 #[vr wk, .val (.int ((0 : Int32) + (1 : Int32))), vr wp, vi 4, vi 3, vi v3] [] (fun _ k_ => XS.ifNo X1.here hx rfl (hb hby d38_27) rfl (XT.i0_eq_f hc10) (XS.iinc X1.here hx rfl (hb hby d38_30) rfl rfl k_)) ?_
     rw [show ((0 : Int32) + (1 : Int32)) = (1 : Int32) from by decide]
     refine own_b T1 m 36 #[vr wk, vi 1, vr wp, vi 4, .val (.int ((3 : Int32) + (1 : Int32))), vi v3] [] (fun _ k_ => XS.iinc X1.here hx rfl (hb hby d38_33) rfl rfl k_) ?_
     rw [show ((3 : Int32) + (1 : Int32)) = (4 : Int32) from by decide]
     refine own_b T1 m 40 #[vr wk, vi 1, vr wp, vi 4, vi 4, vi v3] [.int 1] (fun _ k_ => XS.goto X1.here hx rfl (pc0 := 36) (pc' := 13) rfl (hb hby d38_36) (by decide) (by decide) (XS.iload X1.here hx rfl (hb hby d38_13) rfl (XS.iloadN X1.here hx rfl (hb hby d38_15) rfl (XS.icmpYes X1.here hx rfl (pc0 := 16) (pc' := 39) rfl (hb hby d38_16) rfl (XT.ii_ge_t (by decide)) (by decide) (by decide) (XS.iloadN X1.here hx rfl (hb hby d38_39) rfl k_))))) ?_
     have hr13 : (1 : Int32) = (if v0 = (0 : Int32) then (if v1 = (0 : Int32) then (if v2 = (0 : Int32) then (if v3 = (0 : Int32) then (0 : Int32) else (1 : Int32)) else (if v3 = (0 : Int32) then (1 : Int32) else (2 : Int32))) else (if v2 = (0 : Int32) then (if v3 = (0 : Int32) then (1 : Int32) else (2 : Int32)) else (if v3 = (0 : Int32) then (2 : Int32) else (3 : Int32)))) else (if v1 = (0 : Int32) then (if v2 = (0 : Int32) then (if v3 = (0 : Int32) then (1 : Int32) else (2 : Int32)) else (if v3 = (0 : Int32) then (2 : Int32) else (3 : Int32))) else (if v2 = (0 : Int32) then (if v3 = (0 : Int32) then (2 : Int32) else (3 : Int32)) else (if v3 = (0 : Int32) then (3 : Int32) else (4 : Int32))))) := by simp [hc4, hc6, hc8, hc10]
     obtain ⟨fs14, hr14, hrun14, hended14, hW14, hsame14⟩ := X1.leave (v := some (.int 1)) (fun h => by rw [Bd.returns] at h; cases h)
     refine ⟨_, _, retOut X1 hx (t := .int) Bd.returns rfl (Or.inl ⟨rfl, Or.inl rfl, _, rfl⟩) (hb hby d38_40) hr14, hrun14, hended14, _, _, rfl, ?_, ⟨_, rfl⟩, hW14, hsame14.mono (by decide) (by decide)⟩
     show Q_rmCn_4 Z wC cC wD kD mA mL mR wk wp kW v0 v1 v2 v3 h0 n0 _ T1.heap _
     exact ⟨(congrArg (fun z => some (Value.int z)) hr13), N0, e1⟩
   ·refine own_b T1 m 33 #[vr wk, .val (.int ((0 : Int32) + (1 : Int32))), vr wp, vi 4, vi 2, vi v2] [] (fun _ k_ => XS.ifNo X1.here hx rfl (hb hby d38_27) rfl (XT.i0_eq_f hc8) (XS.iinc X1.here hx rfl (hb hby d38_30) rfl rfl k_)) ?_
    rw [show ((0 : Int32) + (1 : Int32)) = (1 : Int32) from by decide]
    refine own_b T1 m 36 #[vr wk, vi 1, vr wp, vi 4, .val (.int ((2 : Int32) + (1 : Int32))), vi v2] [] (fun _ k_ => XS.iinc X1.here hx rfl (hb hby d38_33) rfl rfl k_) ?_
    rw [show ((2 : Int32) + (1 : Int32)) = (3 : Int32) from by decide]
    refine own_b T1 m 22 #[vr wk, vi 1, vr wp, vi 4, vi 3, vi v2] [.int 3, .ref wp] (fun _ k_ => XS.goto X1.here hx rfl (pc0 := 36) (pc' := 13) rfl (hb hby d38_36) (by decide) (by decide) (XS.iload X1.here hx rfl (hb hby d38_13) rfl (XS.iloadN X1.here hx rfl (hb hby d38_15) rfl (XS.icmpNo X1.here hx rfl (hb hby d38_16) rfl (XT.ii_ge_f (by decide)) (XS.aloadN X1.here hx rfl (hb hby d38_19) rfl rfl (XS.iload X1.here hx rfl (hb hby d38_20) rfl k_)))))) ?_
    obtain ⟨cl15, Ar15, q15, S15, M15, H15, G15⟩ := id Vp
    have hin15 : ¬ ((3 : Int32) < 0 ∨ cl15.slots.size ≤ ((3 : Int32)).toNatClampNeg) := inb_of S15 ⟨by decide, by decide⟩
    have hat15 : cl15.slots[((3 : Int32)).toNatClampNeg]? = some (.int v3) := H15.at hin15 rfl
    refine own_b T1 m 23 #[vr wk, vi 1, vr wp, vi 4, vi 3, vi v2] [.int v3] (fun _ k_ => X1.iaload hx (j := (3 : Int32)) (v := (.int v3)) (by rw [e1]; exact Ar15.1) (State.isArrayOf_alike hZ.alike Ar15.2.1) Ar15.2.2 hin15 hat15 (g := (mkF m 22 #[vr wk, vi 1, vr wp, vi 4, vi 3, vi v2] [.int 3, .ref wp])) rfl rfl (hb hby d38_22) _ k_) ?_
    refine own_b T1 m 27 #[vr wk, vi 1, vr wp, vi 4, vi 3, vi v3] [.int v3] (fun _ k_ => XS.istore X1.here hx rfl (hb hby d38_23) rfl (l' := #[vr wk, vi 1, vr wp, vi 4, vi 3, vi v3]) rfl (XS.iload X1.here hx rfl (hb hby d38_25) rfl k_)) ?_
    by_cases hc16 : v3 = (0 : Int32)
    ·refine own_b T1 m 36 #[vr wk, vi 1, vr wp, vi 4, .val (.int ((3 : Int32) + (1 : Int32))), vi v3] [] (fun _ k_ => XS.ifYes X1.here hx rfl (pc0 := 27) (pc' := 33) rfl (hb hby d38_27) rfl (XT.i0_eq_t hc16) (by decide) (by decide) (XS.iinc X1.here hx rfl (hb hby d38_33) rfl rfl k_)) ?_
     rw [show ((3 : Int32) + (1 : Int32)) = (4 : Int32) from by decide]
     refine own_b T1 m 40 #[vr wk, vi 1, vr wp, vi 4, vi 4, vi v3] [.int 1] (fun _ k_ => XS.goto X1.here hx rfl (pc0 := 36) (pc' := 13) rfl (hb hby d38_36) (by decide) (by decide) (XS.iload X1.here hx rfl (hb hby d38_13) rfl (XS.iloadN X1.here hx rfl (hb hby d38_15) rfl (XS.icmpYes X1.here hx rfl (pc0 := 16) (pc' := 39) rfl (hb hby d38_16) rfl (XT.ii_ge_t (by decide)) (by decide) (by decide) (XS.iloadN X1.here hx rfl (hb hby d38_39) rfl k_))))) ?_
     have hr17 : (1 : Int32) = (if v0 = (0 : Int32) then (if v1 = (0 : Int32) then (if v2 = (0 : Int32) then (if v3 = (0 : Int32) then (0 : Int32) else (1 : Int32)) else (if v3 = (0 : Int32) then (1 : Int32) else (2 : Int32))) else (if v2 = (0 : Int32) then (if v3 = (0 : Int32) then (1 : Int32) else (2 : Int32)) else (if v3 = (0 : Int32) then (2 : Int32) else (3 : Int32)))) else (if v1 = (0 : Int32) then (if v2 = (0 : Int32) then (if v3 = (0 : Int32) then (1 : Int32) else (2 : Int32)) else (if v3 = (0 : Int32) then (2 : Int32) else (3 : Int32))) else (if v2 = (0 : Int32) then (if v3 = (0 : Int32) then (2 : Int32) else (3 : Int32)) else (if v3 = (0 : Int32) then (3 : Int32) else (4 : Int32))))) := by simp [hc4, hc6, hc8, hc16]
     obtain ⟨fs18, hr18, hrun18, hended18, hW18, hsame18⟩ := X1.leave (v := some (.int 1)) (fun h => by rw [Bd.returns] at h; cases h)
     refine ⟨_, _, retOut X1 hx (t := .int) Bd.returns rfl (Or.inl ⟨rfl, Or.inl rfl, _, rfl⟩) (hb hby d38_40) hr18, hrun18, hended18, _, _, rfl, ?_, ⟨_, rfl⟩, hW18, hsame18.mono (by decide) (by decide)⟩
     show Q_rmCn_4 Z wC cC wD kD mA mL mR wk wp kW v0 v1 v2 v3 h0 n0 _ T1.heap _
     exact ⟨(congrArg (fun z => some (Value.int z)) hr17), N0, e1⟩
    ·refine own_b T1 m 33 #[vr wk, .val (.int ((1 : Int32) + (1 : Int32))), vr wp, vi 4, vi 3, vi v3] [] (fun _ k_ => XS.ifNo X1.here hx rfl (hb hby d38_27) rfl (XT.i0_eq_f hc16) (XS.iinc X1.here hx rfl (hb hby d38_30) rfl rfl k_)) ?_
     rw [show ((1 : Int32) + (1 : Int32)) = (2 : Int32) from by decide]
     refine own_b T1 m 36 #[vr wk, vi 2, vr wp, vi 4, .val (.int ((3 : Int32) + (1 : Int32))), vi v3] [] (fun _ k_ => XS.iinc X1.here hx rfl (hb hby d38_33) rfl rfl k_) ?_
     rw [show ((3 : Int32) + (1 : Int32)) = (4 : Int32) from by decide]
     refine own_b T1 m 40 #[vr wk, vi 2, vr wp, vi 4, vi 4, vi v3] [.int 2] (fun _ k_ => XS.goto X1.here hx rfl (pc0 := 36) (pc' := 13) rfl (hb hby d38_36) (by decide) (by decide) (XS.iload X1.here hx rfl (hb hby d38_13) rfl (XS.iloadN X1.here hx rfl (hb hby d38_15) rfl (XS.icmpYes X1.here hx rfl (pc0 := 16) (pc' := 39) rfl (hb hby d38_16) rfl (XT.ii_ge_t (by decide)) (by decide) (by decide) (XS.iloadN X1.here hx rfl (hb hby d38_39) rfl k_))))) ?_
     have hr19 : (2 : Int32) = (if v0 = (0 : Int32) then (if v1 = (0 : Int32) then (if v2 = (0 : Int32) then (if v3 = (0 : Int32) then (0 : Int32) else (1 : Int32)) else (if v3 = (0 : Int32) then (1 : Int32) else (2 : Int32))) else (if v2 = (0 : Int32) then (if v3 = (0 : Int32) then (1 : Int32) else (2 : Int32)) else (if v3 = (0 : Int32) then (2 : Int32) else (3 : Int32)))) else (if v1 = (0 : Int32) then (if v2 = (0 : Int32) then (if v3 = (0 : Int32) then (1 : Int32) else (2 : Int32)) else (if v3 = (0 : Int32) then (2 : Int32) else (3 : Int32))) else (if v2 = (0 : Int32) then (if v3 = (0 : Int32) then (2 : Int32) else (3 : Int32)) else (if v3 = (0 : Int32) then (3 : Int32) else (4 : Int32))))) := by simp [hc4, hc6, hc8, hc16]
     obtain ⟨fs20, hr20, hrun20, hended20, hW20, hsame20⟩ := X1.leave (v := some (.int 2)) (fun h => by rw [Bd.returns] at h; cases h)
     refine ⟨_, _, retOut X1 hx (t := .int) Bd.returns rfl (Or.inl ⟨rfl, Or.inl rfl, _, rfl⟩) (hb hby d38_40) hr20, hrun20, hended20, _, _, rfl, ?_, ⟨_, rfl⟩, hW20, hsame20.mono (by decide) (by decide)⟩
     show Q_rmCn_4 Z wC cC wD kD mA mL mR wk wp kW v0 v1 v2 v3 h0 n0 _ T1.heap _
     exact ⟨(congrArg (fun z => some (Value.int z)) hr19), N0, e1⟩
  ·refine own_b T1 m 33 #[vr wk, .val (.int ((0 : Int32) + (1 : Int32))), vr wp, vi 4, vi 1, vi v1] [] (fun _ k_ => XS.ifNo X1.here hx rfl (hb hby d38_27) rfl (XT.i0_eq_f hc6) (XS.iinc X1.here hx rfl (hb hby d38_30) rfl rfl k_)) ?_
   rw [show ((0 : Int32) + (1 : Int32)) = (1 : Int32) from by decide]
   refine own_b T1 m 36 #[vr wk, vi 1, vr wp, vi 4, .val (.int ((1 : Int32) + (1 : Int32))), vi v1] [] (fun _ k_ => XS.iinc X1.here hx rfl (hb hby d38_33) rfl rfl k_) ?_
   rw [show ((1 : Int32) + (1 : Int32)) = (2 : Int32) from by decide]
   refine own_b T1 m 22 #[vr wk, vi 1, vr wp, vi 4, vi 2, vi v1] [.int 2, .ref wp] (fun _ k_ => XS.goto X1.here hx rfl (pc0 := 36) (pc' := 13) rfl (hb hby d38_36) (by decide) (by decide) (XS.iload X1.here hx rfl (hb hby d38_13) rfl (XS.iloadN X1.here hx rfl (hb hby d38_15) rfl (XS.icmpNo X1.here hx rfl (hb hby d38_16) rfl (XT.ii_ge_f (by decide)) (XS.aloadN X1.here hx rfl (hb hby d38_19) rfl rfl (XS.iload X1.here hx rfl (hb hby d38_20) rfl k_)))))) ?_
   obtain ⟨cl21, Ar21, q21, S21, M21, H21, G21⟩ := id Vp
   have hin21 : ¬ ((2 : Int32) < 0 ∨ cl21.slots.size ≤ ((2 : Int32)).toNatClampNeg) := inb_of S21 ⟨by decide, by decide⟩
   have hat21 : cl21.slots[((2 : Int32)).toNatClampNeg]? = some (.int v2) := H21.at hin21 rfl
   refine own_b T1 m 23 #[vr wk, vi 1, vr wp, vi 4, vi 2, vi v1] [.int v2] (fun _ k_ => X1.iaload hx (j := (2 : Int32)) (v := (.int v2)) (by rw [e1]; exact Ar21.1) (State.isArrayOf_alike hZ.alike Ar21.2.1) Ar21.2.2 hin21 hat21 (g := (mkF m 22 #[vr wk, vi 1, vr wp, vi 4, vi 2, vi v1] [.int 2, .ref wp])) rfl rfl (hb hby d38_22) _ k_) ?_
   refine own_b T1 m 27 #[vr wk, vi 1, vr wp, vi 4, vi 2, vi v2] [.int v2] (fun _ k_ => XS.istore X1.here hx rfl (hb hby d38_23) rfl (l' := #[vr wk, vi 1, vr wp, vi 4, vi 2, vi v2]) rfl (XS.iload X1.here hx rfl (hb hby d38_25) rfl k_)) ?_
   by_cases hc22 : v2 = (0 : Int32)
   ·refine own_b T1 m 36 #[vr wk, vi 1, vr wp, vi 4, .val (.int ((2 : Int32) + (1 : Int32))), vi v2] [] (fun _ k_ => XS.ifYes X1.here hx rfl (pc0 := 27) (pc' := 33) rfl (hb hby d38_27) rfl (XT.i0_eq_t hc22) (by decide) (by decide) (XS.iinc X1.here hx rfl (hb hby d38_33) rfl rfl k_)) ?_
    rw [show ((2 : Int32) + (1 : Int32)) = (3 : Int32) from by decide]
    refine own_b T1 m 22 #[vr wk, vi 1, vr wp, vi 4, vi 3, vi v2] [.int 3, .ref wp] (fun _ k_ => XS.goto X1.here hx rfl (pc0 := 36) (pc' := 13) rfl (hb hby d38_36) (by decide) (by decide) (XS.iload X1.here hx rfl (hb hby d38_13) rfl (XS.iloadN X1.here hx rfl (hb hby d38_15) rfl (XS.icmpNo X1.here hx rfl (hb hby d38_16) rfl (XT.ii_ge_f (by decide)) (XS.aloadN X1.here hx rfl (hb hby d38_19) rfl rfl (XS.iload X1.here hx rfl (hb hby d38_20) rfl k_)))))) ?_
    obtain ⟨cl23, Ar23, q23, S23, M23, H23, G23⟩ := id Vp
    have hin23 : ¬ ((3 : Int32) < 0 ∨ cl23.slots.size ≤ ((3 : Int32)).toNatClampNeg) := inb_of S23 ⟨by decide, by decide⟩
    have hat23 : cl23.slots[((3 : Int32)).toNatClampNeg]? = some (.int v3) := H23.at hin23 rfl
    refine own_b T1 m 23 #[vr wk, vi 1, vr wp, vi 4, vi 3, vi v2] [.int v3] (fun _ k_ => X1.iaload hx (j := (3 : Int32)) (v := (.int v3)) (by rw [e1]; exact Ar23.1) (State.isArrayOf_alike hZ.alike Ar23.2.1) Ar23.2.2 hin23 hat23 (g := (mkF m 22 #[vr wk, vi 1, vr wp, vi 4, vi 3, vi v2] [.int 3, .ref wp])) rfl rfl (hb hby d38_22) _ k_) ?_
    refine own_b T1 m 27 #[vr wk, vi 1, vr wp, vi 4, vi 3, vi v3] [.int v3] (fun _ k_ => XS.istore X1.here hx rfl (hb hby d38_23) rfl (l' := #[vr wk, vi 1, vr wp, vi 4, vi 3, vi v3]) rfl (XS.iload X1.here hx rfl (hb hby d38_25) rfl k_)) ?_
    by_cases hc24 : v3 = (0 : Int32)
    ·refine own_b T1 m 36 #[vr wk, vi 1, vr wp, vi 4, .val (.int ((3 : Int32) + (1 : Int32))), vi v3] [] (fun _ k_ => XS.ifYes X1.here hx rfl (pc0 := 27) (pc' := 33) rfl (hb hby d38_27) rfl (XT.i0_eq_t hc24) (by decide) (by decide) (XS.iinc X1.here hx rfl (hb hby d38_33) rfl rfl k_)) ?_
     rw [show ((3 : Int32) + (1 : Int32)) = (4 : Int32) from by decide]
     refine own_b T1 m 40 #[vr wk, vi 1, vr wp, vi 4, vi 4, vi v3] [.int 1] (fun _ k_ => XS.goto X1.here hx rfl (pc0 := 36) (pc' := 13) rfl (hb hby d38_36) (by decide) (by decide) (XS.iload X1.here hx rfl (hb hby d38_13) rfl (XS.iloadN X1.here hx rfl (hb hby d38_15) rfl (XS.icmpYes X1.here hx rfl (pc0 := 16) (pc' := 39) rfl (hb hby d38_16) rfl (XT.ii_ge_t (by decide)) (by decide) (by decide) (XS.iloadN X1.here hx rfl (hb hby d38_39) rfl k_))))) ?_
     have hr25 : (1 : Int32) = (if v0 = (0 : Int32) then (if v1 = (0 : Int32) then (if v2 = (0 : Int32) then (if v3 = (0 : Int32) then (0 : Int32) else (1 : Int32)) else (if v3 = (0 : Int32) then (1 : Int32) else (2 : Int32))) else (if v2 = (0 : Int32) then (if v3 = (0 : Int32) then (1 : Int32) else (2 : Int32)) else (if v3 = (0 : Int32) then (2 : Int32) else (3 : Int32)))) else (if v1 = (0 : Int32) then (if v2 = (0 : Int32) then (if v3 = (0 : Int32) then (1 : Int32) else (2 : Int32)) else (if v3 = (0 : Int32) then (2 : Int32) else (3 : Int32))) else (if v2 = (0 : Int32) then (if v3 = (0 : Int32) then (2 : Int32) else (3 : Int32)) else (if v3 = (0 : Int32) then (3 : Int32) else (4 : Int32))))) := by simp [hc4, hc6, hc22, hc24]
     obtain ⟨fs26, hr26, hrun26, hended26, hW26, hsame26⟩ := X1.leave (v := some (.int 1)) (fun h => by rw [Bd.returns] at h; cases h)
     refine ⟨_, _, retOut X1 hx (t := .int) Bd.returns rfl (Or.inl ⟨rfl, Or.inl rfl, _, rfl⟩) (hb hby d38_40) hr26, hrun26, hended26, _, _, rfl, ?_, ⟨_, rfl⟩, hW26, hsame26.mono (by decide) (by decide)⟩
     show Q_rmCn_4 Z wC cC wD kD mA mL mR wk wp kW v0 v1 v2 v3 h0 n0 _ T1.heap _
     exact ⟨(congrArg (fun z => some (Value.int z)) hr25), N0, e1⟩
    ·refine own_b T1 m 33 #[vr wk, .val (.int ((1 : Int32) + (1 : Int32))), vr wp, vi 4, vi 3, vi v3] [] (fun _ k_ => XS.ifNo X1.here hx rfl (hb hby d38_27) rfl (XT.i0_eq_f hc24) (XS.iinc X1.here hx rfl (hb hby d38_30) rfl rfl k_)) ?_
     rw [show ((1 : Int32) + (1 : Int32)) = (2 : Int32) from by decide]
     refine own_b T1 m 36 #[vr wk, vi 2, vr wp, vi 4, .val (.int ((3 : Int32) + (1 : Int32))), vi v3] [] (fun _ k_ => XS.iinc X1.here hx rfl (hb hby d38_33) rfl rfl k_) ?_
     rw [show ((3 : Int32) + (1 : Int32)) = (4 : Int32) from by decide]
     refine own_b T1 m 40 #[vr wk, vi 2, vr wp, vi 4, vi 4, vi v3] [.int 2] (fun _ k_ => XS.goto X1.here hx rfl (pc0 := 36) (pc' := 13) rfl (hb hby d38_36) (by decide) (by decide) (XS.iload X1.here hx rfl (hb hby d38_13) rfl (XS.iloadN X1.here hx rfl (hb hby d38_15) rfl (XS.icmpYes X1.here hx rfl (pc0 := 16) (pc' := 39) rfl (hb hby d38_16) rfl (XT.ii_ge_t (by decide)) (by decide) (by decide) (XS.iloadN X1.here hx rfl (hb hby d38_39) rfl k_))))) ?_
     have hr27 : (2 : Int32) = (if v0 = (0 : Int32) then (if v1 = (0 : Int32) then (if v2 = (0 : Int32) then (if v3 = (0 : Int32) then (0 : Int32) else (1 : Int32)) else (if v3 = (0 : Int32) then (1 : Int32) else (2 : Int32))) else (if v2 = (0 : Int32) then (if v3 = (0 : Int32) then (1 : Int32) else (2 : Int32)) else (if v3 = (0 : Int32) then (2 : Int32) else (3 : Int32)))) else (if v1 = (0 : Int32) then (if v2 = (0 : Int32) then (if v3 = (0 : Int32) then (1 : Int32) else (2 : Int32)) else (if v3 = (0 : Int32) then (2 : Int32) else (3 : Int32))) else (if v2 = (0 : Int32) then (if v3 = (0 : Int32) then (2 : Int32) else (3 : Int32)) else (if v3 = (0 : Int32) then (3 : Int32) else (4 : Int32))))) := by simp [hc4, hc6, hc22, hc24]
     obtain ⟨fs28, hr28, hrun28, hended28, hW28, hsame28⟩ := X1.leave (v := some (.int 2)) (fun h => by rw [Bd.returns] at h; cases h)
     refine ⟨_, _, retOut X1 hx (t := .int) Bd.returns rfl (Or.inl ⟨rfl, Or.inl rfl, _, rfl⟩) (hb hby d38_40) hr28, hrun28, hended28, _, _, rfl, ?_, ⟨_, rfl⟩, hW28, hsame28.mono (by decide) (by decide)⟩
     show Q_rmCn_4 Z wC cC wD kD mA mL mR wk wp kW v0 v1 v2 v3 h0 n0 _ T1.heap _
     exact ⟨(congrArg (fun z => some (Value.int z)) hr27), N0, e1⟩
   ·refine own_b T1 m 33 #[vr wk, .val (.int ((1 : Int32) + (1 : Int32))), vr wp, vi 4, vi 2, vi v2] [] (fun _ k_ => XS.ifNo X1.here hx rfl (hb hby d38_27) rfl (XT.i0_eq_f hc22) (XS.iinc X1.here hx rfl (hb hby d38_30) rfl rfl k_)) ?_
    rw [show ((1 : Int32) + (1 : Int32)) = (2 : Int32) from by decide]
    refine own_b T1 m 36 #[vr wk, vi 2, vr wp, vi 4, .val (.int ((2 : Int32) + (1 : Int32))), vi v2] [] (fun _ k_ => XS.iinc X1.here hx rfl (hb hby d38_33) rfl rfl k_) ?_
    rw [show ((2 : Int32) + (1 : Int32)) = (3 : Int32) from by decide]
    refine own_b T1 m 22 #[vr wk, vi 2, vr wp, vi 4, vi 3, vi v2] [.int 3, .ref wp] (fun _ k_ => XS.goto X1.here hx rfl (pc0 := 36) (pc' := 13) rfl (hb hby d38_36) (by decide) (by decide) (XS.iload X1.here hx rfl (hb hby d38_13) rfl (XS.iloadN X1.here hx rfl (hb hby d38_15) rfl (XS.icmpNo X1.here hx rfl (hb hby d38_16) rfl (XT.ii_ge_f (by decide)) (XS.aloadN X1.here hx rfl (hb hby d38_19) rfl rfl (XS.iload X1.here hx rfl (hb hby d38_20) rfl k_)))))) ?_
    obtain ⟨cl29, Ar29, q29, S29, M29, H29, G29⟩ := id Vp
    have hin29 : ¬ ((3 : Int32) < 0 ∨ cl29.slots.size ≤ ((3 : Int32)).toNatClampNeg) := inb_of S29 ⟨by decide, by decide⟩
    have hat29 : cl29.slots[((3 : Int32)).toNatClampNeg]? = some (.int v3) := H29.at hin29 rfl
    refine own_b T1 m 23 #[vr wk, vi 2, vr wp, vi 4, vi 3, vi v2] [.int v3] (fun _ k_ => X1.iaload hx (j := (3 : Int32)) (v := (.int v3)) (by rw [e1]; exact Ar29.1) (State.isArrayOf_alike hZ.alike Ar29.2.1) Ar29.2.2 hin29 hat29 (g := (mkF m 22 #[vr wk, vi 2, vr wp, vi 4, vi 3, vi v2] [.int 3, .ref wp])) rfl rfl (hb hby d38_22) _ k_) ?_
    refine own_b T1 m 27 #[vr wk, vi 2, vr wp, vi 4, vi 3, vi v3] [.int v3] (fun _ k_ => XS.istore X1.here hx rfl (hb hby d38_23) rfl (l' := #[vr wk, vi 2, vr wp, vi 4, vi 3, vi v3]) rfl (XS.iload X1.here hx rfl (hb hby d38_25) rfl k_)) ?_
    by_cases hc30 : v3 = (0 : Int32)
    ·refine own_b T1 m 36 #[vr wk, vi 2, vr wp, vi 4, .val (.int ((3 : Int32) + (1 : Int32))), vi v3] [] (fun _ k_ => XS.ifYes X1.here hx rfl (pc0 := 27) (pc' := 33) rfl (hb hby d38_27) rfl (XT.i0_eq_t hc30) (by decide) (by decide) (XS.iinc X1.here hx rfl (hb hby d38_33) rfl rfl k_)) ?_
     rw [show ((3 : Int32) + (1 : Int32)) = (4 : Int32) from by decide]
     refine own_b T1 m 40 #[vr wk, vi 2, vr wp, vi 4, vi 4, vi v3] [.int 2] (fun _ k_ => XS.goto X1.here hx rfl (pc0 := 36) (pc' := 13) rfl (hb hby d38_36) (by decide) (by decide) (XS.iload X1.here hx rfl (hb hby d38_13) rfl (XS.iloadN X1.here hx rfl (hb hby d38_15) rfl (XS.icmpYes X1.here hx rfl (pc0 := 16) (pc' := 39) rfl (hb hby d38_16) rfl (XT.ii_ge_t (by decide)) (by decide) (by decide) (XS.iloadN X1.here hx rfl (hb hby d38_39) rfl k_))))) ?_
     have hr31 : (2 : Int32) = (if v0 = (0 : Int32) then (if v1 = (0 : Int32) then (if v2 = (0 : Int32) then (if v3 = (0 : Int32) then (0 : Int32) else (1 : Int32)) else (if v3 = (0 : Int32) then (1 : Int32) else (2 : Int32))) else (if v2 = (0 : Int32) then (if v3 = (0 : Int32) then (1 : Int32) else (2 : Int32)) else (if v3 = (0 : Int32) then (2 : Int32) else (3 : Int32)))) else (if v1 = (0 : Int32) then (if v2 = (0 : Int32) then (if v3 = (0 : Int32) then (1 : Int32) else (2 : Int32)) else (if v3 = (0 : Int32) then (2 : Int32) else (3 : Int32))) else (if v2 = (0 : Int32) then (if v3 = (0 : Int32) then (2 : Int32) else (3 : Int32)) else (if v3 = (0 : Int32) then (3 : Int32) else (4 : Int32))))) := by simp [hc4, hc6, hc22, hc30]
     obtain ⟨fs32, hr32, hrun32, hended32, hW32, hsame32⟩ := X1.leave (v := some (.int 2)) (fun h => by rw [Bd.returns] at h; cases h)
     refine ⟨_, _, retOut X1 hx (t := .int) Bd.returns rfl (Or.inl ⟨rfl, Or.inl rfl, _, rfl⟩) (hb hby d38_40) hr32, hrun32, hended32, _, _, rfl, ?_, ⟨_, rfl⟩, hW32, hsame32.mono (by decide) (by decide)⟩
     show Q_rmCn_4 Z wC cC wD kD mA mL mR wk wp kW v0 v1 v2 v3 h0 n0 _ T1.heap _
     exact ⟨(congrArg (fun z => some (Value.int z)) hr31), N0, e1⟩
    ·refine own_b T1 m 33 #[vr wk, .val (.int ((2 : Int32) + (1 : Int32))), vr wp, vi 4, vi 3, vi v3] [] (fun _ k_ => XS.ifNo X1.here hx rfl (hb hby d38_27) rfl (XT.i0_eq_f hc30) (XS.iinc X1.here hx rfl (hb hby d38_30) rfl rfl k_)) ?_
     rw [show ((2 : Int32) + (1 : Int32)) = (3 : Int32) from by decide]
     refine own_b T1 m 36 #[vr wk, vi 3, vr wp, vi 4, .val (.int ((3 : Int32) + (1 : Int32))), vi v3] [] (fun _ k_ => XS.iinc X1.here hx rfl (hb hby d38_33) rfl rfl k_) ?_
     rw [show ((3 : Int32) + (1 : Int32)) = (4 : Int32) from by decide]
     refine own_b T1 m 40 #[vr wk, vi 3, vr wp, vi 4, vi 4, vi v3] [.int 3] (fun _ k_ => XS.goto X1.here hx rfl (pc0 := 36) (pc' := 13) rfl (hb hby d38_36) (by decide) (by decide) (XS.iload X1.here hx rfl (hb hby d38_13) rfl (XS.iloadN X1.here hx rfl (hb hby d38_15) rfl (XS.icmpYes X1.here hx rfl (pc0 := 16) (pc' := 39) rfl (hb hby d38_16) rfl (XT.ii_ge_t (by decide)) (by decide) (by decide) (XS.iloadN X1.here hx rfl (hb hby d38_39) rfl k_))))) ?_
     have hr33 : (3 : Int32) = (if v0 = (0 : Int32) then (if v1 = (0 : Int32) then (if v2 = (0 : Int32) then (if v3 = (0 : Int32) then (0 : Int32) else (1 : Int32)) else (if v3 = (0 : Int32) then (1 : Int32) else (2 : Int32))) else (if v2 = (0 : Int32) then (if v3 = (0 : Int32) then (1 : Int32) else (2 : Int32)) else (if v3 = (0 : Int32) then (2 : Int32) else (3 : Int32)))) else (if v1 = (0 : Int32) then (if v2 = (0 : Int32) then (if v3 = (0 : Int32) then (1 : Int32) else (2 : Int32)) else (if v3 = (0 : Int32) then (2 : Int32) else (3 : Int32))) else (if v2 = (0 : Int32) then (if v3 = (0 : Int32) then (2 : Int32) else (3 : Int32)) else (if v3 = (0 : Int32) then (3 : Int32) else (4 : Int32))))) := by simp [hc4, hc6, hc22, hc30]
     obtain ⟨fs34, hr34, hrun34, hended34, hW34, hsame34⟩ := X1.leave (v := some (.int 3)) (fun h => by rw [Bd.returns] at h; cases h)
     refine ⟨_, _, retOut X1 hx (t := .int) Bd.returns rfl (Or.inl ⟨rfl, Or.inl rfl, _, rfl⟩) (hb hby d38_40) hr34, hrun34, hended34, _, _, rfl, ?_, ⟨_, rfl⟩, hW34, hsame34.mono (by decide) (by decide)⟩
     show Q_rmCn_4 Z wC cC wD kD mA mL mR wk wp kW v0 v1 v2 v3 h0 n0 _ T1.heap _
     exact ⟨(congrArg (fun z => some (Value.int z)) hr33), N0, e1⟩
 ·refine own_b T1 m 33 #[vr wk, .val (.int ((0 : Int32) + (1 : Int32))), vr wp, vi 4, vi 0, vi v0] [] (fun _ k_ => XS.ifNo X1.here hx rfl (hb hby d38_27) rfl (XT.i0_eq_f hc4) (XS.iinc X1.here hx rfl (hb hby d38_30) rfl rfl k_)) ?_
  rw [show ((0 : Int32) + (1 : Int32)) = (1 : Int32) from by decide]
  refine own_b T1 m 36 #[vr wk, vi 1, vr wp, vi 4, .val (.int ((0 : Int32) + (1 : Int32))), vi v0] [] (fun _ k_ => XS.iinc X1.here hx rfl (hb hby d38_33) rfl rfl k_) ?_
  rw [show ((0 : Int32) + (1 : Int32)) = (1 : Int32) from by decide]
  refine own_b T1 m 22 #[vr wk, vi 1, vr wp, vi 4, vi 1, vi v0] [.int 1, .ref wp] (fun _ k_ => XS.goto X1.here hx rfl (pc0 := 36) (pc' := 13) rfl (hb hby d38_36) (by decide) (by decide) (XS.iload X1.here hx rfl (hb hby d38_13) rfl (XS.iloadN X1.here hx rfl (hb hby d38_15) rfl (XS.icmpNo X1.here hx rfl (hb hby d38_16) rfl (XT.ii_ge_f (by decide)) (XS.aloadN X1.here hx rfl (hb hby d38_19) rfl rfl (XS.iload X1.here hx rfl (hb hby d38_20) rfl k_)))))) ?_
  obtain ⟨cl35, Ar35, q35, S35, M35, H35, G35⟩ := id Vp
  have hin35 : ¬ ((1 : Int32) < 0 ∨ cl35.slots.size ≤ ((1 : Int32)).toNatClampNeg) := inb_of S35 ⟨by decide, by decide⟩
  have hat35 : cl35.slots[((1 : Int32)).toNatClampNeg]? = some (.int v1) := H35.at hin35 rfl
  refine own_b T1 m 23 #[vr wk, vi 1, vr wp, vi 4, vi 1, vi v0] [.int v1] (fun _ k_ => X1.iaload hx (j := (1 : Int32)) (v := (.int v1)) (by rw [e1]; exact Ar35.1) (State.isArrayOf_alike hZ.alike Ar35.2.1) Ar35.2.2 hin35 hat35 (g := (mkF m 22 #[vr wk, vi 1, vr wp, vi 4, vi 1, vi v0] [.int 1, .ref wp])) rfl rfl (hb hby d38_22) _ k_) ?_
  refine own_b T1 m 27 #[vr wk, vi 1, vr wp, vi 4, vi 1, vi v1] [.int v1] (fun _ k_ => XS.istore X1.here hx rfl (hb hby d38_23) rfl (l' := #[vr wk, vi 1, vr wp, vi 4, vi 1, vi v1]) rfl (XS.iload X1.here hx rfl (hb hby d38_25) rfl k_)) ?_
  by_cases hc36 : v1 = (0 : Int32)
  ·refine own_b T1 m 36 #[vr wk, vi 1, vr wp, vi 4, .val (.int ((1 : Int32) + (1 : Int32))), vi v1] [] (fun _ k_ => XS.ifYes X1.here hx rfl (pc0 := 27) (pc' := 33) rfl (hb hby d38_27) rfl (XT.i0_eq_t hc36) (by decide) (by decide) (XS.iinc X1.here hx rfl (hb hby d38_33) rfl rfl k_)) ?_
   rw [show ((1 : Int32) + (1 : Int32)) = (2 : Int32) from by decide]
   refine own_b T1 m 22 #[vr wk, vi 1, vr wp, vi 4, vi 2, vi v1] [.int 2, .ref wp] (fun _ k_ => XS.goto X1.here hx rfl (pc0 := 36) (pc' := 13) rfl (hb hby d38_36) (by decide) (by decide) (XS.iload X1.here hx rfl (hb hby d38_13) rfl (XS.iloadN X1.here hx rfl (hb hby d38_15) rfl (XS.icmpNo X1.here hx rfl (hb hby d38_16) rfl (XT.ii_ge_f (by decide)) (XS.aloadN X1.here hx rfl (hb hby d38_19) rfl rfl (XS.iload X1.here hx rfl (hb hby d38_20) rfl k_)))))) ?_
   obtain ⟨cl37, Ar37, q37, S37, M37, H37, G37⟩ := id Vp
   have hin37 : ¬ ((2 : Int32) < 0 ∨ cl37.slots.size ≤ ((2 : Int32)).toNatClampNeg) := inb_of S37 ⟨by decide, by decide⟩
   have hat37 : cl37.slots[((2 : Int32)).toNatClampNeg]? = some (.int v2) := H37.at hin37 rfl
   refine own_b T1 m 23 #[vr wk, vi 1, vr wp, vi 4, vi 2, vi v1] [.int v2] (fun _ k_ => X1.iaload hx (j := (2 : Int32)) (v := (.int v2)) (by rw [e1]; exact Ar37.1) (State.isArrayOf_alike hZ.alike Ar37.2.1) Ar37.2.2 hin37 hat37 (g := (mkF m 22 #[vr wk, vi 1, vr wp, vi 4, vi 2, vi v1] [.int 2, .ref wp])) rfl rfl (hb hby d38_22) _ k_) ?_
   refine own_b T1 m 27 #[vr wk, vi 1, vr wp, vi 4, vi 2, vi v2] [.int v2] (fun _ k_ => XS.istore X1.here hx rfl (hb hby d38_23) rfl (l' := #[vr wk, vi 1, vr wp, vi 4, vi 2, vi v2]) rfl (XS.iload X1.here hx rfl (hb hby d38_25) rfl k_)) ?_
   by_cases hc38 : v2 = (0 : Int32)
   ·refine own_b T1 m 36 #[vr wk, vi 1, vr wp, vi 4, .val (.int ((2 : Int32) + (1 : Int32))), vi v2] [] (fun _ k_ => XS.ifYes X1.here hx rfl (pc0 := 27) (pc' := 33) rfl (hb hby d38_27) rfl (XT.i0_eq_t hc38) (by decide) (by decide) (XS.iinc X1.here hx rfl (hb hby d38_33) rfl rfl k_)) ?_
    rw [show ((2 : Int32) + (1 : Int32)) = (3 : Int32) from by decide]
    refine own_b T1 m 22 #[vr wk, vi 1, vr wp, vi 4, vi 3, vi v2] [.int 3, .ref wp] (fun _ k_ => XS.goto X1.here hx rfl (pc0 := 36) (pc' := 13) rfl (hb hby d38_36) (by decide) (by decide) (XS.iload X1.here hx rfl (hb hby d38_13) rfl (XS.iloadN X1.here hx rfl (hb hby d38_15) rfl (XS.icmpNo X1.here hx rfl (hb hby d38_16) rfl (XT.ii_ge_f (by decide)) (XS.aloadN X1.here hx rfl (hb hby d38_19) rfl rfl (XS.iload X1.here hx rfl (hb hby d38_20) rfl k_)))))) ?_
    obtain ⟨cl39, Ar39, q39, S39, M39, H39, G39⟩ := id Vp
    have hin39 : ¬ ((3 : Int32) < 0 ∨ cl39.slots.size ≤ ((3 : Int32)).toNatClampNeg) := inb_of S39 ⟨by decide, by decide⟩
    have hat39 : cl39.slots[((3 : Int32)).toNatClampNeg]? = some (.int v3) := H39.at hin39 rfl
    refine own_b T1 m 23 #[vr wk, vi 1, vr wp, vi 4, vi 3, vi v2] [.int v3] (fun _ k_ => X1.iaload hx (j := (3 : Int32)) (v := (.int v3)) (by rw [e1]; exact Ar39.1) (State.isArrayOf_alike hZ.alike Ar39.2.1) Ar39.2.2 hin39 hat39 (g := (mkF m 22 #[vr wk, vi 1, vr wp, vi 4, vi 3, vi v2] [.int 3, .ref wp])) rfl rfl (hb hby d38_22) _ k_) ?_
    refine own_b T1 m 27 #[vr wk, vi 1, vr wp, vi 4, vi 3, vi v3] [.int v3] (fun _ k_ => XS.istore X1.here hx rfl (hb hby d38_23) rfl (l' := #[vr wk, vi 1, vr wp, vi 4, vi 3, vi v3]) rfl (XS.iload X1.here hx rfl (hb hby d38_25) rfl k_)) ?_
    by_cases hc40 : v3 = (0 : Int32)
    ·refine own_b T1 m 36 #[vr wk, vi 1, vr wp, vi 4, .val (.int ((3 : Int32) + (1 : Int32))), vi v3] [] (fun _ k_ => XS.ifYes X1.here hx rfl (pc0 := 27) (pc' := 33) rfl (hb hby d38_27) rfl (XT.i0_eq_t hc40) (by decide) (by decide) (XS.iinc X1.here hx rfl (hb hby d38_33) rfl rfl k_)) ?_
     rw [show ((3 : Int32) + (1 : Int32)) = (4 : Int32) from by decide]
     refine own_b T1 m 40 #[vr wk, vi 1, vr wp, vi 4, vi 4, vi v3] [.int 1] (fun _ k_ => XS.goto X1.here hx rfl (pc0 := 36) (pc' := 13) rfl (hb hby d38_36) (by decide) (by decide) (XS.iload X1.here hx rfl (hb hby d38_13) rfl (XS.iloadN X1.here hx rfl (hb hby d38_15) rfl (XS.icmpYes X1.here hx rfl (pc0 := 16) (pc' := 39) rfl (hb hby d38_16) rfl (XT.ii_ge_t (by decide)) (by decide) (by decide) (XS.iloadN X1.here hx rfl (hb hby d38_39) rfl k_))))) ?_
     have hr41 : (1 : Int32) = (if v0 = (0 : Int32) then (if v1 = (0 : Int32) then (if v2 = (0 : Int32) then (if v3 = (0 : Int32) then (0 : Int32) else (1 : Int32)) else (if v3 = (0 : Int32) then (1 : Int32) else (2 : Int32))) else (if v2 = (0 : Int32) then (if v3 = (0 : Int32) then (1 : Int32) else (2 : Int32)) else (if v3 = (0 : Int32) then (2 : Int32) else (3 : Int32)))) else (if v1 = (0 : Int32) then (if v2 = (0 : Int32) then (if v3 = (0 : Int32) then (1 : Int32) else (2 : Int32)) else (if v3 = (0 : Int32) then (2 : Int32) else (3 : Int32))) else (if v2 = (0 : Int32) then (if v3 = (0 : Int32) then (2 : Int32) else (3 : Int32)) else (if v3 = (0 : Int32) then (3 : Int32) else (4 : Int32))))) := by simp [hc4, hc36, hc38, hc40]
     obtain ⟨fs42, hr42, hrun42, hended42, hW42, hsame42⟩ := X1.leave (v := some (.int 1)) (fun h => by rw [Bd.returns] at h; cases h)
     refine ⟨_, _, retOut X1 hx (t := .int) Bd.returns rfl (Or.inl ⟨rfl, Or.inl rfl, _, rfl⟩) (hb hby d38_40) hr42, hrun42, hended42, _, _, rfl, ?_, ⟨_, rfl⟩, hW42, hsame42.mono (by decide) (by decide)⟩
     show Q_rmCn_4 Z wC cC wD kD mA mL mR wk wp kW v0 v1 v2 v3 h0 n0 _ T1.heap _
     exact ⟨(congrArg (fun z => some (Value.int z)) hr41), N0, e1⟩
    ·refine own_b T1 m 33 #[vr wk, .val (.int ((1 : Int32) + (1 : Int32))), vr wp, vi 4, vi 3, vi v3] [] (fun _ k_ => XS.ifNo X1.here hx rfl (hb hby d38_27) rfl (XT.i0_eq_f hc40) (XS.iinc X1.here hx rfl (hb hby d38_30) rfl rfl k_)) ?_
     rw [show ((1 : Int32) + (1 : Int32)) = (2 : Int32) from by decide]
     refine own_b T1 m 36 #[vr wk, vi 2, vr wp, vi 4, .val (.int ((3 : Int32) + (1 : Int32))), vi v3] [] (fun _ k_ => XS.iinc X1.here hx rfl (hb hby d38_33) rfl rfl k_) ?_
     rw [show ((3 : Int32) + (1 : Int32)) = (4 : Int32) from by decide]
     refine own_b T1 m 40 #[vr wk, vi 2, vr wp, vi 4, vi 4, vi v3] [.int 2] (fun _ k_ => XS.goto X1.here hx rfl (pc0 := 36) (pc' := 13) rfl (hb hby d38_36) (by decide) (by decide) (XS.iload X1.here hx rfl (hb hby d38_13) rfl (XS.iloadN X1.here hx rfl (hb hby d38_15) rfl (XS.icmpYes X1.here hx rfl (pc0 := 16) (pc' := 39) rfl (hb hby d38_16) rfl (XT.ii_ge_t (by decide)) (by decide) (by decide) (XS.iloadN X1.here hx rfl (hb hby d38_39) rfl k_))))) ?_
     have hr43 : (2 : Int32) = (if v0 = (0 : Int32) then (if v1 = (0 : Int32) then (if v2 = (0 : Int32) then (if v3 = (0 : Int32) then (0 : Int32) else (1 : Int32)) else (if v3 = (0 : Int32) then (1 : Int32) else (2 : Int32))) else (if v2 = (0 : Int32) then (if v3 = (0 : Int32) then (1 : Int32) else (2 : Int32)) else (if v3 = (0 : Int32) then (2 : Int32) else (3 : Int32)))) else (if v1 = (0 : Int32) then (if v2 = (0 : Int32) then (if v3 = (0 : Int32) then (1 : Int32) else (2 : Int32)) else (if v3 = (0 : Int32) then (2 : Int32) else (3 : Int32))) else (if v2 = (0 : Int32) then (if v3 = (0 : Int32) then (2 : Int32) else (3 : Int32)) else (if v3 = (0 : Int32) then (3 : Int32) else (4 : Int32))))) := by simp [hc4, hc36, hc38, hc40]
     obtain ⟨fs44, hr44, hrun44, hended44, hW44, hsame44⟩ := X1.leave (v := some (.int 2)) (fun h => by rw [Bd.returns] at h; cases h)
     refine ⟨_, _, retOut X1 hx (t := .int) Bd.returns rfl (Or.inl ⟨rfl, Or.inl rfl, _, rfl⟩) (hb hby d38_40) hr44, hrun44, hended44, _, _, rfl, ?_, ⟨_, rfl⟩, hW44, hsame44.mono (by decide) (by decide)⟩
     show Q_rmCn_4 Z wC cC wD kD mA mL mR wk wp kW v0 v1 v2 v3 h0 n0 _ T1.heap _
     exact ⟨(congrArg (fun z => some (Value.int z)) hr43), N0, e1⟩
   ·refine own_b T1 m 33 #[vr wk, .val (.int ((1 : Int32) + (1 : Int32))), vr wp, vi 4, vi 2, vi v2] [] (fun _ k_ => XS.ifNo X1.here hx rfl (hb hby d38_27) rfl (XT.i0_eq_f hc38) (XS.iinc X1.here hx rfl (hb hby d38_30) rfl rfl k_)) ?_
    rw [show ((1 : Int32) + (1 : Int32)) = (2 : Int32) from by decide]
    refine own_b T1 m 36 #[vr wk, vi 2, vr wp, vi 4, .val (.int ((2 : Int32) + (1 : Int32))), vi v2] [] (fun _ k_ => XS.iinc X1.here hx rfl (hb hby d38_33) rfl rfl k_) ?_
    rw [show ((2 : Int32) + (1 : Int32)) = (3 : Int32) from by decide]
    refine own_b T1 m 22 #[vr wk, vi 2, vr wp, vi 4, vi 3, vi v2] [.int 3, .ref wp] (fun _ k_ => XS.goto X1.here hx rfl (pc0 := 36) (pc' := 13) rfl (hb hby d38_36) (by decide) (by decide) (XS.iload X1.here hx rfl (hb hby d38_13) rfl (XS.iloadN X1.here hx rfl (hb hby d38_15) rfl (XS.icmpNo X1.here hx rfl (hb hby d38_16) rfl (XT.ii_ge_f (by decide)) (XS.aloadN X1.here hx rfl (hb hby d38_19) rfl rfl (XS.iload X1.here hx rfl (hb hby d38_20) rfl k_)))))) ?_
    obtain ⟨cl45, Ar45, q45, S45, M45, H45, G45⟩ := id Vp
    have hin45 : ¬ ((3 : Int32) < 0 ∨ cl45.slots.size ≤ ((3 : Int32)).toNatClampNeg) := inb_of S45 ⟨by decide, by decide⟩
    have hat45 : cl45.slots[((3 : Int32)).toNatClampNeg]? = some (.int v3) := H45.at hin45 rfl
    refine own_b T1 m 23 #[vr wk, vi 2, vr wp, vi 4, vi 3, vi v2] [.int v3] (fun _ k_ => X1.iaload hx (j := (3 : Int32)) (v := (.int v3)) (by rw [e1]; exact Ar45.1) (State.isArrayOf_alike hZ.alike Ar45.2.1) Ar45.2.2 hin45 hat45 (g := (mkF m 22 #[vr wk, vi 2, vr wp, vi 4, vi 3, vi v2] [.int 3, .ref wp])) rfl rfl (hb hby d38_22) _ k_) ?_
    refine own_b T1 m 27 #[vr wk, vi 2, vr wp, vi 4, vi 3, vi v3] [.int v3] (fun _ k_ => XS.istore X1.here hx rfl (hb hby d38_23) rfl (l' := #[vr wk, vi 2, vr wp, vi 4, vi 3, vi v3]) rfl (XS.iload X1.here hx rfl (hb hby d38_25) rfl k_)) ?_
    by_cases hc46 : v3 = (0 : Int32)
    ·refine own_b T1 m 36 #[vr wk, vi 2, vr wp, vi 4, .val (.int ((3 : Int32) + (1 : Int32))), vi v3] [] (fun _ k_ => XS.ifYes X1.here hx rfl (pc0 := 27) (pc' := 33) rfl (hb hby d38_27) rfl (XT.i0_eq_t hc46) (by decide) (by decide) (XS.iinc X1.here hx rfl (hb hby d38_33) rfl rfl k_)) ?_
     rw [show ((3 : Int32) + (1 : Int32)) = (4 : Int32) from by decide]
     refine own_b T1 m 40 #[vr wk, vi 2, vr wp, vi 4, vi 4, vi v3] [.int 2] (fun _ k_ => XS.goto X1.here hx rfl (pc0 := 36) (pc' := 13) rfl (hb hby d38_36) (by decide) (by decide) (XS.iload X1.here hx rfl (hb hby d38_13) rfl (XS.iloadN X1.here hx rfl (hb hby d38_15) rfl (XS.icmpYes X1.here hx rfl (pc0 := 16) (pc' := 39) rfl (hb hby d38_16) rfl (XT.ii_ge_t (by decide)) (by decide) (by decide) (XS.iloadN X1.here hx rfl (hb hby d38_39) rfl k_))))) ?_
     have hr47 : (2 : Int32) = (if v0 = (0 : Int32) then (if v1 = (0 : Int32) then (if v2 = (0 : Int32) then (if v3 = (0 : Int32) then (0 : Int32) else (1 : Int32)) else (if v3 = (0 : Int32) then (1 : Int32) else (2 : Int32))) else (if v2 = (0 : Int32) then (if v3 = (0 : Int32) then (1 : Int32) else (2 : Int32)) else (if v3 = (0 : Int32) then (2 : Int32) else (3 : Int32)))) else (if v1 = (0 : Int32) then (if v2 = (0 : Int32) then (if v3 = (0 : Int32) then (1 : Int32) else (2 : Int32)) else (if v3 = (0 : Int32) then (2 : Int32) else (3 : Int32))) else (if v2 = (0 : Int32) then (if v3 = (0 : Int32) then (2 : Int32) else (3 : Int32)) else (if v3 = (0 : Int32) then (3 : Int32) else (4 : Int32))))) := by simp [hc4, hc36, hc38, hc46]
     obtain ⟨fs48, hr48, hrun48, hended48, hW48, hsame48⟩ := X1.leave (v := some (.int 2)) (fun h => by rw [Bd.returns] at h; cases h)
     refine ⟨_, _, retOut X1 hx (t := .int) Bd.returns rfl (Or.inl ⟨rfl, Or.inl rfl, _, rfl⟩) (hb hby d38_40) hr48, hrun48, hended48, _, _, rfl, ?_, ⟨_, rfl⟩, hW48, hsame48.mono (by decide) (by decide)⟩
     show Q_rmCn_4 Z wC cC wD kD mA mL mR wk wp kW v0 v1 v2 v3 h0 n0 _ T1.heap _
     exact ⟨(congrArg (fun z => some (Value.int z)) hr47), N0, e1⟩
    ·refine own_b T1 m 33 #[vr wk, .val (.int ((2 : Int32) + (1 : Int32))), vr wp, vi 4, vi 3, vi v3] [] (fun _ k_ => XS.ifNo X1.here hx rfl (hb hby d38_27) rfl (XT.i0_eq_f hc46) (XS.iinc X1.here hx rfl (hb hby d38_30) rfl rfl k_)) ?_
     rw [show ((2 : Int32) + (1 : Int32)) = (3 : Int32) from by decide]
     refine own_b T1 m 36 #[vr wk, vi 3, vr wp, vi 4, .val (.int ((3 : Int32) + (1 : Int32))), vi v3] [] (fun _ k_ => XS.iinc X1.here hx rfl (hb hby d38_33) rfl rfl k_) ?_
     rw [show ((3 : Int32) + (1 : Int32)) = (4 : Int32) from by decide]
     refine own_b T1 m 40 #[vr wk, vi 3, vr wp, vi 4, vi 4, vi v3] [.int 3] (fun _ k_ => XS.goto X1.here hx rfl (pc0 := 36) (pc' := 13) rfl (hb hby d38_36) (by decide) (by decide) (XS.iload X1.here hx rfl (hb hby d38_13) rfl (XS.iloadN X1.here hx rfl (hb hby d38_15) rfl (XS.icmpYes X1.here hx rfl (pc0 := 16) (pc' := 39) rfl (hb hby d38_16) rfl (XT.ii_ge_t (by decide)) (by decide) (by decide) (XS.iloadN X1.here hx rfl (hb hby d38_39) rfl k_))))) ?_
     have hr49 : (3 : Int32) = (if v0 = (0 : Int32) then (if v1 = (0 : Int32) then (if v2 = (0 : Int32) then (if v3 = (0 : Int32) then (0 : Int32) else (1 : Int32)) else (if v3 = (0 : Int32) then (1 : Int32) else (2 : Int32))) else (if v2 = (0 : Int32) then (if v3 = (0 : Int32) then (1 : Int32) else (2 : Int32)) else (if v3 = (0 : Int32) then (2 : Int32) else (3 : Int32)))) else (if v1 = (0 : Int32) then (if v2 = (0 : Int32) then (if v3 = (0 : Int32) then (1 : Int32) else (2 : Int32)) else (if v3 = (0 : Int32) then (2 : Int32) else (3 : Int32))) else (if v2 = (0 : Int32) then (if v3 = (0 : Int32) then (2 : Int32) else (3 : Int32)) else (if v3 = (0 : Int32) then (3 : Int32) else (4 : Int32))))) := by simp [hc4, hc36, hc38, hc46]
     obtain ⟨fs50, hr50, hrun50, hended50, hW50, hsame50⟩ := X1.leave (v := some (.int 3)) (fun h => by rw [Bd.returns] at h; cases h)
     refine ⟨_, _, retOut X1 hx (t := .int) Bd.returns rfl (Or.inl ⟨rfl, Or.inl rfl, _, rfl⟩) (hb hby d38_40) hr50, hrun50, hended50, _, _, rfl, ?_, ⟨_, rfl⟩, hW50, hsame50.mono (by decide) (by decide)⟩
     show Q_rmCn_4 Z wC cC wD kD mA mL mR wk wp kW v0 v1 v2 v3 h0 n0 _ T1.heap _
     exact ⟨(congrArg (fun z => some (Value.int z)) hr49), N0, e1⟩
  ·refine own_b T1 m 33 #[vr wk, .val (.int ((1 : Int32) + (1 : Int32))), vr wp, vi 4, vi 1, vi v1] [] (fun _ k_ => XS.ifNo X1.here hx rfl (hb hby d38_27) rfl (XT.i0_eq_f hc36) (XS.iinc X1.here hx rfl (hb hby d38_30) rfl rfl k_)) ?_
   rw [show ((1 : Int32) + (1 : Int32)) = (2 : Int32) from by decide]
   refine own_b T1 m 36 #[vr wk, vi 2, vr wp, vi 4, .val (.int ((1 : Int32) + (1 : Int32))), vi v1] [] (fun _ k_ => XS.iinc X1.here hx rfl (hb hby d38_33) rfl rfl k_) ?_
   rw [show ((1 : Int32) + (1 : Int32)) = (2 : Int32) from by decide]
   refine own_b T1 m 22 #[vr wk, vi 2, vr wp, vi 4, vi 2, vi v1] [.int 2, .ref wp] (fun _ k_ => XS.goto X1.here hx rfl (pc0 := 36) (pc' := 13) rfl (hb hby d38_36) (by decide) (by decide) (XS.iload X1.here hx rfl (hb hby d38_13) rfl (XS.iloadN X1.here hx rfl (hb hby d38_15) rfl (XS.icmpNo X1.here hx rfl (hb hby d38_16) rfl (XT.ii_ge_f (by decide)) (XS.aloadN X1.here hx rfl (hb hby d38_19) rfl rfl (XS.iload X1.here hx rfl (hb hby d38_20) rfl k_)))))) ?_
   obtain ⟨cl51, Ar51, q51, S51, M51, H51, G51⟩ := id Vp
   have hin51 : ¬ ((2 : Int32) < 0 ∨ cl51.slots.size ≤ ((2 : Int32)).toNatClampNeg) := inb_of S51 ⟨by decide, by decide⟩
   have hat51 : cl51.slots[((2 : Int32)).toNatClampNeg]? = some (.int v2) := H51.at hin51 rfl
   refine own_b T1 m 23 #[vr wk, vi 2, vr wp, vi 4, vi 2, vi v1] [.int v2] (fun _ k_ => X1.iaload hx (j := (2 : Int32)) (v := (.int v2)) (by rw [e1]; exact Ar51.1) (State.isArrayOf_alike hZ.alike Ar51.2.1) Ar51.2.2 hin51 hat51 (g := (mkF m 22 #[vr wk, vi 2, vr wp, vi 4, vi 2, vi v1] [.int 2, .ref wp])) rfl rfl (hb hby d38_22) _ k_) ?_
   refine own_b T1 m 27 #[vr wk, vi 2, vr wp, vi 4, vi 2, vi v2] [.int v2] (fun _ k_ => XS.istore X1.here hx rfl (hb hby d38_23) rfl (l' := #[vr wk, vi 2, vr wp, vi 4, vi 2, vi v2]) rfl (XS.iload X1.here hx rfl (hb hby d38_25) rfl k_)) ?_
   by_cases hc52 : v2 = (0 : Int32)
   ·refine own_b T1 m 36 #[vr wk, vi 2, vr wp, vi 4, .val (.int ((2 : Int32) + (1 : Int32))), vi v2] [] (fun _ k_ => XS.ifYes X1.here hx rfl (pc0 := 27) (pc' := 33) rfl (hb hby d38_27) rfl (XT.i0_eq_t hc52) (by decide) (by decide) (XS.iinc X1.here hx rfl (hb hby d38_33) rfl rfl k_)) ?_
    rw [show ((2 : Int32) + (1 : Int32)) = (3 : Int32) from by decide]
    refine own_b T1 m 22 #[vr wk, vi 2, vr wp, vi 4, vi 3, vi v2] [.int 3, .ref wp] (fun _ k_ => XS.goto X1.here hx rfl (pc0 := 36) (pc' := 13) rfl (hb hby d38_36) (by decide) (by decide) (XS.iload X1.here hx rfl (hb hby d38_13) rfl (XS.iloadN X1.here hx rfl (hb hby d38_15) rfl (XS.icmpNo X1.here hx rfl (hb hby d38_16) rfl (XT.ii_ge_f (by decide)) (XS.aloadN X1.here hx rfl (hb hby d38_19) rfl rfl (XS.iload X1.here hx rfl (hb hby d38_20) rfl k_)))))) ?_
    obtain ⟨cl53, Ar53, q53, S53, M53, H53, G53⟩ := id Vp
    have hin53 : ¬ ((3 : Int32) < 0 ∨ cl53.slots.size ≤ ((3 : Int32)).toNatClampNeg) := inb_of S53 ⟨by decide, by decide⟩
    have hat53 : cl53.slots[((3 : Int32)).toNatClampNeg]? = some (.int v3) := H53.at hin53 rfl
    refine own_b T1 m 23 #[vr wk, vi 2, vr wp, vi 4, vi 3, vi v2] [.int v3] (fun _ k_ => X1.iaload hx (j := (3 : Int32)) (v := (.int v3)) (by rw [e1]; exact Ar53.1) (State.isArrayOf_alike hZ.alike Ar53.2.1) Ar53.2.2 hin53 hat53 (g := (mkF m 22 #[vr wk, vi 2, vr wp, vi 4, vi 3, vi v2] [.int 3, .ref wp])) rfl rfl (hb hby d38_22) _ k_) ?_
    refine own_b T1 m 27 #[vr wk, vi 2, vr wp, vi 4, vi 3, vi v3] [.int v3] (fun _ k_ => XS.istore X1.here hx rfl (hb hby d38_23) rfl (l' := #[vr wk, vi 2, vr wp, vi 4, vi 3, vi v3]) rfl (XS.iload X1.here hx rfl (hb hby d38_25) rfl k_)) ?_
    by_cases hc54 : v3 = (0 : Int32)
    ·refine own_b T1 m 36 #[vr wk, vi 2, vr wp, vi 4, .val (.int ((3 : Int32) + (1 : Int32))), vi v3] [] (fun _ k_ => XS.ifYes X1.here hx rfl (pc0 := 27) (pc' := 33) rfl (hb hby d38_27) rfl (XT.i0_eq_t hc54) (by decide) (by decide) (XS.iinc X1.here hx rfl (hb hby d38_33) rfl rfl k_)) ?_
     rw [show ((3 : Int32) + (1 : Int32)) = (4 : Int32) from by decide]
     refine own_b T1 m 40 #[vr wk, vi 2, vr wp, vi 4, vi 4, vi v3] [.int 2] (fun _ k_ => XS.goto X1.here hx rfl (pc0 := 36) (pc' := 13) rfl (hb hby d38_36) (by decide) (by decide) (XS.iload X1.here hx rfl (hb hby d38_13) rfl (XS.iloadN X1.here hx rfl (hb hby d38_15) rfl (XS.icmpYes X1.here hx rfl (pc0 := 16) (pc' := 39) rfl (hb hby d38_16) rfl (XT.ii_ge_t (by decide)) (by decide) (by decide) (XS.iloadN X1.here hx rfl (hb hby d38_39) rfl k_))))) ?_
     have hr55 : (2 : Int32) = (if v0 = (0 : Int32) then (if v1 = (0 : Int32) then (if v2 = (0 : Int32) then (if v3 = (0 : Int32) then (0 : Int32) else (1 : Int32)) else (if v3 = (0 : Int32) then (1 : Int32) else (2 : Int32))) else (if v2 = (0 : Int32) then (if v3 = (0 : Int32) then (1 : Int32) else (2 : Int32)) else (if v3 = (0 : Int32) then (2 : Int32) else (3 : Int32)))) else (if v1 = (0 : Int32) then (if v2 = (0 : Int32) then (if v3 = (0 : Int32) then (1 : Int32) else (2 : Int32)) else (if v3 = (0 : Int32) then (2 : Int32) else (3 : Int32))) else (if v2 = (0 : Int32) then (if v3 = (0 : Int32) then (2 : Int32) else (3 : Int32)) else (if v3 = (0 : Int32) then (3 : Int32) else (4 : Int32))))) := by simp [hc4, hc36, hc52, hc54]
     obtain ⟨fs56, hr56, hrun56, hended56, hW56, hsame56⟩ := X1.leave (v := some (.int 2)) (fun h => by rw [Bd.returns] at h; cases h)
     refine ⟨_, _, retOut X1 hx (t := .int) Bd.returns rfl (Or.inl ⟨rfl, Or.inl rfl, _, rfl⟩) (hb hby d38_40) hr56, hrun56, hended56, _, _, rfl, ?_, ⟨_, rfl⟩, hW56, hsame56.mono (by decide) (by decide)⟩
     show Q_rmCn_4 Z wC cC wD kD mA mL mR wk wp kW v0 v1 v2 v3 h0 n0 _ T1.heap _
     exact ⟨(congrArg (fun z => some (Value.int z)) hr55), N0, e1⟩
    ·refine own_b T1 m 33 #[vr wk, .val (.int ((2 : Int32) + (1 : Int32))), vr wp, vi 4, vi 3, vi v3] [] (fun _ k_ => XS.ifNo X1.here hx rfl (hb hby d38_27) rfl (XT.i0_eq_f hc54) (XS.iinc X1.here hx rfl (hb hby d38_30) rfl rfl k_)) ?_
     rw [show ((2 : Int32) + (1 : Int32)) = (3 : Int32) from by decide]
     refine own_b T1 m 36 #[vr wk, vi 3, vr wp, vi 4, .val (.int ((3 : Int32) + (1 : Int32))), vi v3] [] (fun _ k_ => XS.iinc X1.here hx rfl (hb hby d38_33) rfl rfl k_) ?_
     rw [show ((3 : Int32) + (1 : Int32)) = (4 : Int32) from by decide]
     refine own_b T1 m 40 #[vr wk, vi 3, vr wp, vi 4, vi 4, vi v3] [.int 3] (fun _ k_ => XS.goto X1.here hx rfl (pc0 := 36) (pc' := 13) rfl (hb hby d38_36) (by decide) (by decide) (XS.iload X1.here hx rfl (hb hby d38_13) rfl (XS.iloadN X1.here hx rfl (hb hby d38_15) rfl (XS.icmpYes X1.here hx rfl (pc0 := 16) (pc' := 39) rfl (hb hby d38_16) rfl (XT.ii_ge_t (by decide)) (by decide) (by decide) (XS.iloadN X1.here hx rfl (hb hby d38_39) rfl k_))))) ?_
     have hr57 : (3 : Int32) = (if v0 = (0 : Int32) then (if v1 = (0 : Int32) then (if v2 = (0 : Int32) then (if v3 = (0 : Int32) then (0 : Int32) else (1 : Int32)) else (if v3 = (0 : Int32) then (1 : Int32) else (2 : Int32))) else (if v2 = (0 : Int32) then (if v3 = (0 : Int32) then (1 : Int32) else (2 : Int32)) else (if v3 = (0 : Int32) then (2 : Int32) else (3 : Int32)))) else (if v1 = (0 : Int32) then (if v2 = (0 : Int32) then (if v3 = (0 : Int32) then (1 : Int32) else (2 : Int32)) else (if v3 = (0 : Int32) then (2 : Int32) else (3 : Int32))) else (if v2 = (0 : Int32) then (if v3 = (0 : Int32) then (2 : Int32) else (3 : Int32)) else (if v3 = (0 : Int32) then (3 : Int32) else (4 : Int32))))) := by simp [hc4, hc36, hc52, hc54]
     obtain ⟨fs58, hr58, hrun58, hended58, hW58, hsame58⟩ := X1.leave (v := some (.int 3)) (fun h => by rw [Bd.returns] at h; cases h)
     refine ⟨_, _, retOut X1 hx (t := .int) Bd.returns rfl (Or.inl ⟨rfl, Or.inl rfl, _, rfl⟩) (hb hby d38_40) hr58, hrun58, hended58, _, _, rfl, ?_, ⟨_, rfl⟩, hW58, hsame58.mono (by decide) (by decide)⟩
     show Q_rmCn_4 Z wC cC wD kD mA mL mR wk wp kW v0 v1 v2 v3 h0 n0 _ T1.heap _
     exact ⟨(congrArg (fun z => some (Value.int z)) hr57), N0, e1⟩
   ·refine own_b T1 m 33 #[vr wk, .val (.int ((2 : Int32) + (1 : Int32))), vr wp, vi 4, vi 2, vi v2] [] (fun _ k_ => XS.ifNo X1.here hx rfl (hb hby d38_27) rfl (XT.i0_eq_f hc52) (XS.iinc X1.here hx rfl (hb hby d38_30) rfl rfl k_)) ?_
    rw [show ((2 : Int32) + (1 : Int32)) = (3 : Int32) from by decide]
    refine own_b T1 m 36 #[vr wk, vi 3, vr wp, vi 4, .val (.int ((2 : Int32) + (1 : Int32))), vi v2] [] (fun _ k_ => XS.iinc X1.here hx rfl (hb hby d38_33) rfl rfl k_) ?_
    rw [show ((2 : Int32) + (1 : Int32)) = (3 : Int32) from by decide]
    refine own_b T1 m 22 #[vr wk, vi 3, vr wp, vi 4, vi 3, vi v2] [.int 3, .ref wp] (fun _ k_ => XS.goto X1.here hx rfl (pc0 := 36) (pc' := 13) rfl (hb hby d38_36) (by decide) (by decide) (XS.iload X1.here hx rfl (hb hby d38_13) rfl (XS.iloadN X1.here hx rfl (hb hby d38_15) rfl (XS.icmpNo X1.here hx rfl (hb hby d38_16) rfl (XT.ii_ge_f (by decide)) (XS.aloadN X1.here hx rfl (hb hby d38_19) rfl rfl (XS.iload X1.here hx rfl (hb hby d38_20) rfl k_)))))) ?_
    obtain ⟨cl59, Ar59, q59, S59, M59, H59, G59⟩ := id Vp
    have hin59 : ¬ ((3 : Int32) < 0 ∨ cl59.slots.size ≤ ((3 : Int32)).toNatClampNeg) := inb_of S59 ⟨by decide, by decide⟩
    have hat59 : cl59.slots[((3 : Int32)).toNatClampNeg]? = some (.int v3) := H59.at hin59 rfl
    refine own_b T1 m 23 #[vr wk, vi 3, vr wp, vi 4, vi 3, vi v2] [.int v3] (fun _ k_ => X1.iaload hx (j := (3 : Int32)) (v := (.int v3)) (by rw [e1]; exact Ar59.1) (State.isArrayOf_alike hZ.alike Ar59.2.1) Ar59.2.2 hin59 hat59 (g := (mkF m 22 #[vr wk, vi 3, vr wp, vi 4, vi 3, vi v2] [.int 3, .ref wp])) rfl rfl (hb hby d38_22) _ k_) ?_
    refine own_b T1 m 27 #[vr wk, vi 3, vr wp, vi 4, vi 3, vi v3] [.int v3] (fun _ k_ => XS.istore X1.here hx rfl (hb hby d38_23) rfl (l' := #[vr wk, vi 3, vr wp, vi 4, vi 3, vi v3]) rfl (XS.iload X1.here hx rfl (hb hby d38_25) rfl k_)) ?_
    by_cases hc60 : v3 = (0 : Int32)
    ·refine own_b T1 m 36 #[vr wk, vi 3, vr wp, vi 4, .val (.int ((3 : Int32) + (1 : Int32))), vi v3] [] (fun _ k_ => XS.ifYes X1.here hx rfl (pc0 := 27) (pc' := 33) rfl (hb hby d38_27) rfl (XT.i0_eq_t hc60) (by decide) (by decide) (XS.iinc X1.here hx rfl (hb hby d38_33) rfl rfl k_)) ?_
     rw [show ((3 : Int32) + (1 : Int32)) = (4 : Int32) from by decide]
     refine own_b T1 m 40 #[vr wk, vi 3, vr wp, vi 4, vi 4, vi v3] [.int 3] (fun _ k_ => XS.goto X1.here hx rfl (pc0 := 36) (pc' := 13) rfl (hb hby d38_36) (by decide) (by decide) (XS.iload X1.here hx rfl (hb hby d38_13) rfl (XS.iloadN X1.here hx rfl (hb hby d38_15) rfl (XS.icmpYes X1.here hx rfl (pc0 := 16) (pc' := 39) rfl (hb hby d38_16) rfl (XT.ii_ge_t (by decide)) (by decide) (by decide) (XS.iloadN X1.here hx rfl (hb hby d38_39) rfl k_))))) ?_
     have hr61 : (3 : Int32) = (if v0 = (0 : Int32) then (if v1 = (0 : Int32) then (if v2 = (0 : Int32) then (if v3 = (0 : Int32) then (0 : Int32) else (1 : Int32)) else (if v3 = (0 : Int32) then (1 : Int32) else (2 : Int32))) else (if v2 = (0 : Int32) then (if v3 = (0 : Int32) then (1 : Int32) else (2 : Int32)) else (if v3 = (0 : Int32) then (2 : Int32) else (3 : Int32)))) else (if v1 = (0 : Int32) then (if v2 = (0 : Int32) then (if v3 = (0 : Int32) then (1 : Int32) else (2 : Int32)) else (if v3 = (0 : Int32) then (2 : Int32) else (3 : Int32))) else (if v2 = (0 : Int32) then (if v3 = (0 : Int32) then (2 : Int32) else (3 : Int32)) else (if v3 = (0 : Int32) then (3 : Int32) else (4 : Int32))))) := by simp [hc4, hc36, hc52, hc60]
     obtain ⟨fs62, hr62, hrun62, hended62, hW62, hsame62⟩ := X1.leave (v := some (.int 3)) (fun h => by rw [Bd.returns] at h; cases h)
     refine ⟨_, _, retOut X1 hx (t := .int) Bd.returns rfl (Or.inl ⟨rfl, Or.inl rfl, _, rfl⟩) (hb hby d38_40) hr62, hrun62, hended62, _, _, rfl, ?_, ⟨_, rfl⟩, hW62, hsame62.mono (by decide) (by decide)⟩
     show Q_rmCn_4 Z wC cC wD kD mA mL mR wk wp kW v0 v1 v2 v3 h0 n0 _ T1.heap _
     exact ⟨(congrArg (fun z => some (Value.int z)) hr61), N0, e1⟩
    ·refine own_b T1 m 33 #[vr wk, .val (.int ((3 : Int32) + (1 : Int32))), vr wp, vi 4, vi 3, vi v3] [] (fun _ k_ => XS.ifNo X1.here hx rfl (hb hby d38_27) rfl (XT.i0_eq_f hc60) (XS.iinc X1.here hx rfl (hb hby d38_30) rfl rfl k_)) ?_
     rw [show ((3 : Int32) + (1 : Int32)) = (4 : Int32) from by decide]
     refine own_b T1 m 36 #[vr wk, vi 4, vr wp, vi 4, .val (.int ((3 : Int32) + (1 : Int32))), vi v3] [] (fun _ k_ => XS.iinc X1.here hx rfl (hb hby d38_33) rfl rfl k_) ?_
     rw [show ((3 : Int32) + (1 : Int32)) = (4 : Int32) from by decide]
     refine own_b T1 m 40 #[vr wk, vi 4, vr wp, vi 4, vi 4, vi v3] [.int 4] (fun _ k_ => XS.goto X1.here hx rfl (pc0 := 36) (pc' := 13) rfl (hb hby d38_36) (by decide) (by decide) (XS.iload X1.here hx rfl (hb hby d38_13) rfl (XS.iloadN X1.here hx rfl (hb hby d38_15) rfl (XS.icmpYes X1.here hx rfl (pc0 := 16) (pc' := 39) rfl (hb hby d38_16) rfl (XT.ii_ge_t (by decide)) (by decide) (by decide) (XS.iloadN X1.here hx rfl (hb hby d38_39) rfl k_))))) ?_
     have hr63 : (4 : Int32) = (if v0 = (0 : Int32) then (if v1 = (0 : Int32) then (if v2 = (0 : Int32) then (if v3 = (0 : Int32) then (0 : Int32) else (1 : Int32)) else (if v3 = (0 : Int32) then (1 : Int32) else (2 : Int32))) else (if v2 = (0 : Int32) then (if v3 = (0 : Int32) then (1 : Int32) else (2 : Int32)) else (if v3 = (0 : Int32) then (2 : Int32) else (3 : Int32)))) else (if v1 = (0 : Int32) then (if v2 = (0 : Int32) then (if v3 = (0 : Int32) then (1 : Int32) else (2 : Int32)) else (if v3 = (0 : Int32) then (2 : Int32) else (3 : Int32))) else (if v2 = (0 : Int32) then (if v3 = (0 : Int32) then (2 : Int32) else (3 : Int32)) else (if v3 = (0 : Int32) then (3 : Int32) else (4 : Int32))))) := by simp [hc4, hc36, hc52, hc60]
     obtain ⟨fs64, hr64, hrun64, hended64, hW64, hsame64⟩ := X1.leave (v := some (.int 4)) (fun h => by rw [Bd.returns] at h; cases h)
     refine ⟨_, _, retOut X1 hx (t := .int) Bd.returns rfl (Or.inl ⟨rfl, Or.inl rfl, _, rfl⟩) (hb hby d38_40) hr64, hrun64, hended64, _, _, rfl, ?_, ⟨_, rfl⟩, hW64, hsame64.mono (by decide) (by decide)⟩
     show Q_rmCn_4 Z wC cC wD kD mA mL mR wk wp kW v0 v1 v2 v3 h0 n0 _ T1.heap _
     exact ⟨(congrArg (fun z => some (Value.int z)) hr63), N0, e1⟩
theorem own_nn (x : Int32) : (((x &&& (7 : Int32)) % (5 : Int32)) = (0 : Int32) ∨ ((x &&& (7 : Int32)) % (5 : Int32)) = (1 : Int32) ∨ ((x &&& (7 : Int32)) % (5 : Int32)) = (2 : Int32) ∨ ((x &&& (7 : Int32)) % (5 : Int32)) = (3 : Int32) ∨ ((x &&& (7 : Int32)) % (5 : Int32)) = (4 : Int32)) := by
 have h : (x &&& (7 : Int32)).toInt = x.toInt % 8 := c_mask x (7 : Int32) 3 (by decide) (by decide)
 have r := (c_irem (x &&& (7 : Int32)) (5 : Int32) 5 rfl).1 (by rw [h]; exact Int.emod_nonneg _ (by decide))
 simp only [← Int32.toInt_inj]
 have e0 : (0 : Int32).toInt = 0 := rfl
 have e1 : (1 : Int32).toInt = 1 := rfl
 have e2 : (2 : Int32).toInt = 2 := rfl
 have e3 : (3 : Int32).toInt = 3 := rfl
 have e4 : (4 : Int32).toInt = 4 := rfl
 omega
theorem own_pd_23 : parseMethodDescriptor "(II)V" = some ⟨[.int, .int], none⟩ := by decide +kernel
theorem own_pd_24 : parseMethodDescriptor "(Lcom/example/even_commute/evencommute/demand/ZoneCounts;Lcom/example/even_commute/evencommute/demand/ZoneCounts;[I)V" = some ⟨[(.object "com/example/even_commute/evencommute/demand/ZoneCounts"), (.object "com/example/even_commute/evencommute/demand/ZoneCounts"), (.array .int)], none⟩ := by decide +kernel
theorem own_pd_25 : parseMethodDescriptor "([I)Lcom/example/even_commute/evencommute/demand/Workers;" = some ⟨[(.array .int)], some (.object "com/example/even_commute/evencommute/demand/Workers")⟩ := by decide +kernel
theorem own_p0 : plainName "com/example/even_commute/evencommute/demand/WorkersGetAssignedCountPinLaw" = true := by first | (simp [plainName, overriddenIn]; done) | decide +kernel
theorem own_ef_rm0 (m : MethodId) (x0 : Int32) (x1 : Int32) (x2 : Int32) (x3 : Int32) (x4 : Int32) : entryFrame m #[.int x0, .int x1, .int x2, .int x3, .int x4] maxLocals = mkF m 0 #[.val (.int x0), .val (.int x1), .val (.int x2), .val (.int x3), .val (.int x4), .unset, .unset, .unset, .unset, .unset, .unset, .unset, .unset, .unset, .unset] [] := by first | (simp [entryFrame, mkF, argsToLocals, Value.category, maxLocals]; done) | rfl
def Q_rm0 (Z : State) (wC : Addr) (cC : Cell) (wD : Addr) (kD : ClassId) (mA : Addr) (mL : Addr) (mR : Addr) (p0 : Int32) (p1 : Int32) (p2 : Int32) (p3 : Int32) (p4 : Int32) (h0 : Heap) (n0 : Nat) (vv_ : Option Value) (hh_ : Heap) (LL_ : List Loc) : Prop := vv_ = some (.int 1) ∧ Fr n0 LL_
theorem rm0 (l : Launch) (Z : State) (a0 : Array Value) (hw : ∀ d ∈ tables_1, d.before a0 Z = true) (ws : List Jvm.Cond) (wC : Addr) (cC : Cell) (wD : Addr) (kD : ClassId) (mA : Addr) (mL : Addr) (mR : Addr) (GS : Glob Z wC cC wD kD mA mL mR) (p0 : Int32) (p1 : Int32) (p2 : Int32) (p3 : Int32) (p4 : Int32) (h0 : Heap) (n0 : Nat) (Z0 : n0 ≤ h0.size) (O0 : Old Z n0 h0) :
  MetFree l x (head1 (Jvm.Cond.code x code maxLocals ret :: ws) room_1) (fun aa_ UU_ => aa_ = #[.int p0, .int p1, .int p2, .int p3, .int p4] ∧ Z.Warmed39 UU_.vm ∧ UU_.heap = h0) (fun _ _ _ _ _ => True) (fun _ UU_ oo_ UV_ => ∃ vv_ LL_, oo_ = .returned vv_ ∧ Q_rm0 Z wC cC wD kD mA mL mR p0 p1 p2 p3 p4 h0 n0 vv_ UV_.heap LL_ ∧ FrameEnd UU_ oo_ UV_ LL_ 15 57) := by
 refine MetFree.of_bodySF (plainFor_of_name own_p0) hisR ?_
 intro p e s m args below meth c s₁ Bd hml0 hP hK
 obtain ⟨rfl, hZ, hh⟩ := hP
 have hx := Bd.exec
 have hby := Bd.bytes
 have hml : c.maxLocals = 15 := hml0
 have hown : s.vm.findClass "com/example/even_commute/evencommute/demand/WorkersGetAssignedCountPinLaw" = some m.cls := findClass_of_methodNamed Bd.named
 have hnm := (name_of_methodNamed Bd.named Bd.method).1
 have X0 : Stand p l e room_1 s m #[.int p0, .int p1, .int p2, .int p3, .int p4] below meth c s₁ [] 0 0 := Stand.of_body Bd
 have e0 : s₁.heap = h0 := by rw [← hh, Bd.state]; rfl
 have N0 := Fr.nil n0
 have hn0 : Z.heap.size = n0 := O0.1
 have KT0 : Keep h0 h0 [] := Keep.refl _ _
 refine own_enter (Φ := fun oo_ UV_ => ∃ vv_ LL_, oo_ = .returned vv_ ∧ Q_rm0 Z wC cC wD kD mA mL mR p0 p1 p2 p3 p4 h0 n0 vv_ UV_.heap LL_ ∧ FrameEnd s oo_ UV_ LL_ 15 57) (own_ef_rm0 m p0 p1 p2 p3 p4) ?_
 refine own_b s₁ m 5 #[vi p0, vi p1, vi p2, vi p3, vi p4, un, un, un, un, un, un, un, un, un, un] [.int 5, (.int (p0 &&& (7 : Int32)))] (fun _ k_ => XS.iloadN X0.here hx rfl (hb hby at_0) rfl (XS.bipush X0.here hx rfl (hb hby at_1) (XS.iand X0.here hx rfl (hb hby at_3) rfl (XS.iconst X0.here hx rfl (hb hby at_4) k_)))) ?_
 refine own_b s₁ m 6 #[vi p0, vi p1, vi p2, vi p3, vi p4, un, un, un, un, un, un, un, un, un, un] [(.int ((p0 &&& (7 : Int32)) % (5 : Int32)))] (fun _ k_ => iremM X0 hx rfl (hb hby at_5) rfl (by decide) k_) ?_
 refine own_b s₁ m 9 #[vi p0, vi p1, vi p2, vi p3, vi p4, .val (.int ((p0 &&& (7 : Int32)) % (5 : Int32))), un, un, un, un, un, un, un, un, un] [.int p1] (fun _ k_ => XS.istore X0.here hx rfl (hb hby at_6) rfl (l' := #[vi p0, vi p1, vi p2, vi p3, vi p4, .val (.int ((p0 &&& (7 : Int32)) % (5 : Int32))), un, un, un, un, un, un, un, un, un]) rfl (XS.iloadN X0.here hx rfl (hb hby at_8) rfl k_)) ?_
 refine own_b s₁ m 11 #[vi p0, vi p1, vi p2, vi p3, vi p4, .val (.int ((p0 &&& (7 : Int32)) % (5 : Int32))), un, un, un, un, un, un, un, un, un] [.int 2147483647, .int p1] (fun _ k_ => X0.ldcInt hx hown (mvT hZ (ww hw 0 rfl)) (g := (mkF m 9 #[vi p0, vi p1, vi p2, vi p3, vi p4, .val (.int ((p0 &&& (7 : Int32)) % (5 : Int32))), un, un, un, un, un, un, un, un, un] [.int p1])) rfl (hb hby at_9) _ k_) ?_
 refine own_b s₁ m 15 #[vi p0, vi p1, vi p2, vi p3, vi p4, .val (.int ((p0 &&& (7 : Int32)) % (5 : Int32))), .val (.int (p1 &&& (2147483647 : Int32))), un, un, un, un, un, un, un, un] [.int p2] (fun _ k_ => XS.iand X0.here hx rfl (hb hby at_11) rfl (XS.istore X0.here hx rfl (hb hby at_12) rfl (l' := #[vi p0, vi p1, vi p2, vi p3, vi p4, .val (.int ((p0 &&& (7 : Int32)) % (5 : Int32))), .val (.int (p1 &&& (2147483647 : Int32))), un, un, un, un, un, un, un, un]) rfl (XS.iloadN X0.here hx rfl (hb hby at_14) rfl k_))) ?_
 refine own_b s₁ m 17 #[vi p0, vi p1, vi p2, vi p3, vi p4, .val (.int ((p0 &&& (7 : Int32)) % (5 : Int32))), .val (.int (p1 &&& (2147483647 : Int32))), un, un, un, un, un, un, un, un] [.int 2147483647, .int p2] (fun _ k_ => X0.ldcInt hx hown (mvT hZ (ww hw 0 rfl)) (g := (mkF m 15 #[vi p0, vi p1, vi p2, vi p3, vi p4, .val (.int ((p0 &&& (7 : Int32)) % (5 : Int32))), .val (.int (p1 &&& (2147483647 : Int32))), un, un, un, un, un, un, un, un] [.int p2])) rfl (hb hby at_15) _ k_) ?_
 refine own_b s₁ m 21 #[vi p0, vi p1, vi p2, vi p3, vi p4, .val (.int ((p0 &&& (7 : Int32)) % (5 : Int32))), .val (.int (p1 &&& (2147483647 : Int32))), .val (.int (p2 &&& (2147483647 : Int32))), un, un, un, un, un, un, un] [.int p3] (fun _ k_ => XS.iand X0.here hx rfl (hb hby at_17) rfl (XS.istore X0.here hx rfl (hb hby at_18) rfl (l' := #[vi p0, vi p1, vi p2, vi p3, vi p4, .val (.int ((p0 &&& (7 : Int32)) % (5 : Int32))), .val (.int (p1 &&& (2147483647 : Int32))), .val (.int (p2 &&& (2147483647 : Int32))), un, un, un, un, un, un, un]) rfl (XS.iloadN X0.here hx rfl (hb hby at_20) rfl k_))) ?_
 refine own_b s₁ m 23 #[vi p0, vi p1, vi p2, vi p3, vi p4, .val (.int ((p0 &&& (7 : Int32)) % (5 : Int32))), .val (.int (p1 &&& (2147483647 : Int32))), .val (.int (p2 &&& (2147483647 : Int32))), un, un, un, un, un, un, un] [.int 2147483647, .int p3] (fun _ k_ => X0.ldcInt hx hown (mvT hZ (ww hw 0 rfl)) (g := (mkF m 21 #[vi p0, vi p1, vi p2, vi p3, vi p4, .val (.int ((p0 &&& (7 : Int32)) % (5 : Int32))), .val (.int (p1 &&& (2147483647 : Int32))), .val (.int (p2 &&& (2147483647 : Int32))), un, un, un, un, un, un, un] [.int p3])) rfl (hb hby at_21) _ k_) ?_
 refine own_b s₁ m 28 #[vi p0, vi p1, vi p2, vi p3, vi p4, .val (.int ((p0 &&& (7 : Int32)) % (5 : Int32))), .val (.int (p1 &&& (2147483647 : Int32))), .val (.int (p2 &&& (2147483647 : Int32))), .val (.int (p3 &&& (2147483647 : Int32))), un, un, un, un, un, un] [.int p4] (fun _ k_ => XS.iand X0.here hx rfl (hb hby at_23) rfl (XS.istore X0.here hx rfl (hb hby at_24) rfl (l' := #[vi p0, vi p1, vi p2, vi p3, vi p4, .val (.int ((p0 &&& (7 : Int32)) % (5 : Int32))), .val (.int (p1 &&& (2147483647 : Int32))), .val (.int (p2 &&& (2147483647 : Int32))), .val (.int (p3 &&& (2147483647 : Int32))), un, un, un, un, un, un]) rfl (XS.iload X0.here hx rfl (hb hby at_26) rfl k_))) ?_
 refine own_b s₁ m 30 #[vi p0, vi p1, vi p2, vi p3, vi p4, .val (.int ((p0 &&& (7 : Int32)) % (5 : Int32))), .val (.int (p1 &&& (2147483647 : Int32))), .val (.int (p2 &&& (2147483647 : Int32))), .val (.int (p3 &&& (2147483647 : Int32))), un, un, un, un, un, un] [.int 2147483647, .int p4] (fun _ k_ => X0.ldcInt hx hown (mvT hZ (ww hw 0 rfl)) (g := (mkF m 28 #[vi p0, vi p1, vi p2, vi p3, vi p4, .val (.int ((p0 &&& (7 : Int32)) % (5 : Int32))), .val (.int (p1 &&& (2147483647 : Int32))), .val (.int (p2 &&& (2147483647 : Int32))), .val (.int (p3 &&& (2147483647 : Int32))), un, un, un, un, un, un] [.int p4])) rfl (hb hby at_28) _ k_) ?_
 refine own_b s₁ m 31 #[vi p0, vi p1, vi p2, vi p3, vi p4, .val (.int ((p0 &&& (7 : Int32)) % (5 : Int32))), .val (.int (p1 &&& (2147483647 : Int32))), .val (.int (p2 &&& (2147483647 : Int32))), .val (.int (p3 &&& (2147483647 : Int32))), un, un, un, un, un, un] [(.int (p4 &&& (2147483647 : Int32)))] (fun _ k_ => XS.iand X0.here hx rfl (hb hby at_30) rfl k_) ?_
 have J5 : ∀ (T5 : State) (lo5 : List Loc) (X5 : Stand p l e room_1 s m #[.int p0, .int p1, .int p2, .int p3, .int p4] below meth c T5 lo5 0 0) (e5 : T5.heap = h0) (N5 : Fr n0 lo5) (nn : Int32) (w0 : Int32) (w1 : Int32) (w2 : Int32) (w3 : Int32), (nn = (0 : Int32) ∨ nn = (1 : Int32) ∨ nn = (2 : Int32) ∨ nn = (3 : Int32) ∨ nn = (4 : Int32)) → OGoal p e below (fun oo_ UV_ => ∃ vv_ LL_, oo_ = .returned vv_ ∧ Q_rm0 Z wC cC wD kD mA mL mR p0 p1 p2 p3 p4 h0 n0 vv_ UV_.heap LL_ ∧ FrameEnd s oo_ UV_ LL_ 15 57) T5 (mkF m 33 #[.val (.int p0), .val (.int p1), .val (.int p2), .val (.int p3), .val (.int p4), .val (.int nn), .val (.int w0), .val (.int w1), .val (.int w2), .val (.int w3), .unset, .unset, .unset, .unset, .unset] []) := by
  intro T5 lo5 X5 e5 N5 nn w0 w1 w2 w3  hj6
  rcases hj6 with rfl | rfl | rfl | rfl | rfl
  ·refine own_b T5 m 35 #[vi p0, vi p1, vi p2, vi p3, vi p4, vi 0, vi w0, vi w1, vi w2, vi w3, un, un, un, un, un] [.int 0] (fun _ k_ => XS.iload X5.here hx rfl (hb hby at_33) rfl k_) ?_
   obtain ⟨T7, h7, k7, X7, e7, E7, A7, EX7, st7⟩ := newPE X5 hx hZ (ww hw 1 rfl) e5 (g := (mkF m 35 #[vi p0, vi p1, vi p2, vi p3, vi p4, vi 0, vi w0, vi w1, vi w2, vi w3, un, un, un, un, un] [.int 0])) rfl (hb hby at_35) rfl (by decide) (cap := 0) (by decide) (by decide) (by decide) (by decide) (ad := "[I") rfl
   obtain ⟨bz7, gz7⟩ : ∃ z, z = h0.size := ⟨_, rfl⟩
   rw [← gz7] at EX7
   obtain ⟨b7, g7⟩ : ∃ z, z = h0.size := ⟨_, rfl⟩
   rw [← g7] at A7 st7
   have K8 : Keep h0 h7 [] := own_kext E7
   have zzK8 : h0.size ≤ h7.size := K8.1
   have oo9 : Old Z n0 h7 := O0.keep K8 all0
   have kt10 : Keep h0 h7 [] := KT0.trans K8 all0
   have lab7 : b7 < h7.size := A7.lt
   have f11 : Exa Z h7 b7 "[I" := by rw [g7, ← gz7]; exact EX7
   have f12 : Arv Z h7 b7 k7 .int (0 : Int32) [] (.int 0) := (Arv.new A7 (by decide)).pad (pad_rep [] (.int 0) 0)
   refine own_b T7 m 37 #[vi p0, vi p1, vi p2, vi p3, vi p4, vi 0, vi w0, vi w1, vi w2, vi w3, un, un, un, un, un] [.ref b7] st7 ?_
   refine own_b T7 m 65 #[vi p0, vi p1, vi p2, vi p3, vi p4, vi 0, vi w0, vi w1, vi w2, vi w3, vr b7, un, un, un, un] [.int 2, .int 0] (fun _ k_ => XS.astore X7.here hx rfl (hb hby at_37) rfl rfl (l' := #[vi p0, vi p1, vi p2, vi p3, vi p4, vi 0, vi w0, vi w1, vi w2, vi w3, vr b7, un, un, un, un]) rfl (XS.iload X7.here hx rfl (hb hby at_39) rfl (XS.ifYes X7.here hx rfl (pc0 := 41) (pc' := 50) rfl (hb hby at_41) rfl (XT.i0_le_t (by decide)) (by decide) (by decide) (XS.iload X7.here hx rfl (hb hby at_50) rfl (XS.iconst X7.here hx rfl (hb hby at_52) (XS.icmpYes X7.here hx rfl (pc0 := 53) (pc' := 62) rfl (hb hby at_53) rfl (XT.ii_le_t (by decide)) (by decide) (by decide) (XS.iload X7.here hx rfl (hb hby at_62) rfl (XS.iconst X7.here hx rfl (hb hby at_64) k_)))))))) ?_
   refine own_b T7 m 102 #[vi p0, vi p1, vi p2, vi p3, vi p4, vi 0, vi w0, vi w1, vi w2, vi w3, vr b7, vi 0, un, un, un] [] (fun _ k_ => XS.icmpYes X7.here hx rfl (pc0 := 65) (pc' := 74) rfl (hb hby at_65) rfl (XT.ii_le_t (by decide)) (by decide) (by decide) (XS.iload X7.here hx rfl (hb hby at_74) rfl (XS.iconst X7.here hx rfl (hb hby at_76) (XS.icmpYes X7.here hx rfl (pc0 := 77) (pc' := 86) rfl (hb hby at_77) rfl (XT.ii_le_t (by decide)) (by decide) (by decide) (XS.iconst X7.here hx rfl (hb hby at_86) (XS.istore X7.here hx rfl (hb hby at_87) rfl (l' := #[vi p0, vi p1, vi p2, vi p3, vi p4, vi 0, vi w0, vi w1, vi w2, vi w3, vr b7, vi 0, un, un, un]) rfl (XS.iload X7.here hx rfl (hb hby at_89) rfl (XS.ifYes X7.here hx rfl (pc0 := 91) (pc' := 102) rfl (hb hby at_91) rfl (XT.i0_le_t (by decide)) (by decide) (by decide) k_)))))))) ?_
   refine own_b T7 m 133 #[vi p0, vi p1, vi p2, vi p3, vi p4, vi 0, vi w0, vi w1, vi w2, vi w3, vr b7, vi 0, un, un, un] [.int 3, .int 0] (fun _ k_ => XS.iload X7.here hx rfl (hb hby at_102) rfl (XS.iconst X7.here hx rfl (hb hby at_104) (XS.icmpYes X7.here hx rfl (pc0 := 105) (pc' := 116) rfl (hb hby at_105) rfl (XT.ii_le_t (by decide)) (by decide) (by decide) (XS.iload X7.here hx rfl (hb hby at_116) rfl (XS.iconst X7.here hx rfl (hb hby at_118) (XS.icmpYes X7.here hx rfl (pc0 := 119) (pc' := 130) rfl (hb hby at_119) rfl (XT.ii_le_t (by decide)) (by decide) (by decide) (XS.iload X7.here hx rfl (hb hby at_130) rfl (XS.iconst X7.here hx rfl (hb hby at_132) k_)))))))) ?_
   refine own_b T7 m 144 #[vi p0, vi p1, vi p2, vi p3, vi p4, vi 0, vi w0, vi w1, vi w2, vi w3, vr b7, vi 0, un, un, un] [] (fun _ k_ => XS.icmpYes X7.here hx rfl (pc0 := 133) (pc' := 144) rfl (hb hby at_133) rfl (XT.ii_le_t (by decide)) (by decide) (by decide) k_) ?_
   obtain ⟨T13, h13, X13, e13, E13, A13, D13, -, st13⟩ := newO X7 hx hZ hown (ww hw 2 rfl) (ww hw 3 rfl) (ww hw 4 rfl) e7 (g := (mkF m 144 #[vi p0, vi p1, vi p2, vi p3, vi p4, vi 0, vi w0, vi w1, vi w2, vi w3, vr b7, vi 0, un, un, un] [])) rfl (hb hby at_144) (by decide) (by decide)
   obtain ⟨b13, g13⟩ : ∃ z, z = h7.size := ⟨_, rfl⟩
   rw [← g13] at A13 D13 st13
   have K14 : Keep h7 h13 [] := own_kext E13
   have zzK14 : h7.size ≤ h13.size := K14.1
   have oo15 : Old Z n0 h13 := oo9.keep K14 all0
   have kt16 : Keep h0 h13 [] := kt10.trans K14 all0
   have lab13 : b13 < h13.size := A13.lt
   have f17 : Fld Z h13 b13 cn1 "zones" "Ljava/util/List;" .null := D13 (Or.inr (ww hw 36 rfl)) (ty := (.object "java/util/List")) (by decide)
   have f18 : Fld Z h13 b13 cn1 "counts" "[I" .null := D13 (Or.inr (ww hw 38 rfl)) (ty := (.array .int)) (by decide)
   have f19 : Fld Z h13 b13 cn1 "given" "[Z" .null := D13 (Or.inr (ww hw 41 rfl)) (ty := (.array .boolean)) (by decide)
   have f20 : Fld Z h13 b13 cn1 "total" "I" (.int 0) := D13 (Or.inl (ww hw 58 rfl)) (ty := .int) (by decide)
   refine own_b T13 m 147 #[vi p0, vi p1, vi p2, vi p3, vi p4, vi 0, vi w0, vi w1, vi w2, vi w3, vr b7, vi 0, un, un, un] [.ref b13] st13 ?_
   refine own_b T13 m 149 #[vi p0, vi p1, vi p2, vi p3, vi p4, vi 0, vi w0, vi w1, vi w2, vi w3, vr b7, vi 0, un, un, un] [.int 1, .ref b13, .ref b13] (fun _ k_ => XS.dup X13.here hx rfl (hb hby at_147) rfl rfl (XS.iconst X13.here hx rfl (hb hby at_148) k_)) ?_
   obtain ⟨_, _, ⟨T21, L21, k21, n21⟩, -, X21, ⟨Lc21, hQ21, l21, y21, z21⟩, st21⟩ := X13.specialBack hx (y := (⟨cn1, "<init>", "(I)V"⟩ : MethodName)) rfl hown (mvT hZ (ww hw 5 rfl)) (mvT hZ (ww hw 6 rfl)) (mvT hZ (ww hw 7 rfl)) (by decide) (backOf (W := 1) (rmZI l Z a0 hw [] wC cC wD kD mA mL mR GS b13 h13 n0 (by omega) oo15 A13 (by omega) f17 f18 f19 f20) hZ (ww hw 7 rfl) (ww hw 4 rfl) (by decide) (by decide)) (g := (mkF m 149 #[vi p0, vi p1, vi p2, vi p3, vi p4, vi 0, vi w0, vi w1, vi w2, vi w3, vr b7, vi 0, un, un, un] [.int 1, .ref b13, .ref b13])) rfl (by rw [hml]; rfl) (Steps.refl _) (a := b13) (argsL := [.int 1]) (rest := [.ref b13]) (lenOf own_pd_6 rfl) rfl (by show 2 * 0 + _ ≤ _; exact Nat.le_of_eq rfl) (hb hby at_149) (fun _ _ => ⟨rfl, e13, (by decide : 2 + 3 ≤ _), (by decide : 4 + 7 ≤ _)⟩)
   dsimp only [Pt.U, Pt.locs, Pt.cells, Pt.slots] at X21 l21 y21 z21 st21 hQ21
   subst l21 y21 z21
   obtain ⟨al_22, ct_23, gv_24, kC_25, kG_26, rfl, N21q, K21, p21_0, p21_1, p21_2, p21_3, p21_4, p21_5, p21_6, p21_7, p21_8, p21_9, p21_10, p21_11, p21_12, p21_13, p21_14, p21_15⟩ := hQ21
   have N27 := Fr.app N5 N21q
   have gal_22 : h13.size ≤ al_22 := p21_0
   have gct_23 : h13.size ≤ ct_23 := p21_1
   have ggv_24 : h13.size ≤ gv_24 := p21_2
   have zzK21 : h13.size ≤ T21.heap.size := K21.1
   have oo28 : Old Z n0 T21.heap := oo15.keep K21 (allS (by omega : n0 ≤ b13) all0)
   have kt29 : Keep h0 T21.heap [] := kt16.trans K21 (allS (Or.inr (by omega : h0.size ≤ b13)) all0)
   refine own_b T21 m 152 #[vi p0, vi p1, vi p2, vi p3, vi p4, vi 0, vi w0, vi w1, vi w2, vi w3, vr b7, vi 0, un, un, un] [.ref b13] (fun _ k_ => st21.trans k_) ?_
   refine own_b T21 m 159 #[vi p0, vi p1, vi p2, vi p3, vi p4, vi 0, vi w0, vi w1, vi w2, vi w3, vr b7, vi 0, vr b13, un, un] [.int 0, .int 1, .ref b13] (fun _ k_ => XS.astore X21.here hx rfl (hb hby at_152) rfl rfl (l' := #[vi p0, vi p1, vi p2, vi p3, vi p4, vi 0, vi w0, vi w1, vi w2, vi w3, vr b7, vi 0, vr b13, un, un]) rfl (XS.aload X21.here hx rfl (hb hby at_154) rfl rfl (XS.iconst X21.here hx rfl (hb hby at_156) (XS.iload X21.here hx rfl (hb hby at_157) rfl k_)))) ?_
   have f30 : Exa Z T21.heap b13 cn1 := (A13.keep K21)
   have la31 : @LT.lt Nat instLTNat ct_23 T21.heap.size := p21_11.lt
   have la32 : @LT.lt Nat instLTNat gv_24 T21.heap.size := p21_12.lt
   have ne33 : @Ne Nat ct_23 gv_24 := by omega
   have la34 : @LT.lt Nat instLTNat al_22 T21.heap.size := p21_7.lt
   have ne35 : @Ne Nat al_22 gv_24 := by omega
   have ne36 : @Ne Nat al_22 ct_23 := by omega
   have ne37 : @Ne Nat b13 al_22 := by omega
   have ne38 : @Ne Nat b13 ct_23 := by omega
   have ne39 : @Ne Nat b13 gv_24 := by omega
   obtain ⟨cq40, kq40, q40a, q40b, q40c⟩ := isOf hZ rfl f30
   obtain ⟨_, _, ⟨T40, L40, k40, n40⟩, -, X40, ⟨Lc40, hQ40, l40, y40, z40⟩, st40⟩ := X21.virtualBack hx (y := (⟨cn1, "add", "(II)V"⟩ : MethodName)) (z := (⟨cn1, "add", "(II)V"⟩ : MethodName)) hown (mvT hZ (ww hw 42 rfl)) (mvT hZ (ww hw 43 rfl)) (notFace_of_selects (args := #[]) (mvT hZ (ww hw 45 rfl))) (mvT hZ (ww hw 45 rfl)) (mvT hZ (ww hw 44 rfl)) (by decide) (backOf (W := 0) (rmZA l Z a0 hw [] wC cC wD kD mA mL mR GS b13 al_22 ct_23 gv_24 kC_25 kG_26 (0 : Int32) T21.heap n0 (by omega) oo28 f30 (by omega) (by omega) (by omega) (by omega) p21_3 p21_4 p21_5 p21_6 p21_7 p21_8 p21_9 p21_10 p21_11 p21_12 ne33 ne35 ne36 ne37 ne38 ne39 (by decide) (by decide)) hZ (ww hw 46 rfl) (ww hw 4 rfl) (by decide) (by decide)) q40a q40c (g := (mkF m 159 #[vi p0, vi p1, vi p2, vi p3, vi p4, vi 0, vi w0, vi w1, vi w2, vi w3, vr b7, vi 0, vr b13, un, un] [.int 0, .int 1, .ref b13])) rfl (by rw [hml]; rfl) (Steps.refl _) (argsL := [.int 1, .int 0]) (rest := []) (lenOf own_pd_23 rfl) rfl (by show 2 * 0 + _ ≤ _; exact Nat.le_of_eq rfl) (hb hby at_159) (fun _ _ => ⟨rfl, rfl, (by decide : 5 + 1 ≤ _), (by decide : 11 + 10 ≤ _)⟩)
   dsimp only [Pt.U, Pt.locs, Pt.cells, Pt.slots] at X40 l40 y40 z40 st40 hQ40
   subst l40 y40 z40
   obtain ⟨t_41, kE_42, b_43, rfl, N40q, K40, p40_0, p40_1, p40_2, p40_3, p40_4, p40_5, p40_6, p40_7, p40_8, p40_9, p40_10⟩ := hQ40
   have N44 := Fr.app N27 N40q
   have gt_41 : T21.heap.size ≤ t_41 := p40_0
   have zzK40 : T21.heap.size ≤ T40.heap.size := K40.1
   have oo45 : Old Z n0 T40.heap := oo28.keep K40 (allS (by omega : n0 ≤ b13) (allS (by omega : n0 ≤ al_22) (allS (by omega : n0 ≤ ct_23) (allS (by omega : n0 ≤ gv_24) all0))))
   have kt46 : Keep h0 T40.heap [] := kt29.trans K40 (allS (Or.inr (by omega : h0.size ≤ b13)) (allS (Or.inr (by omega : h0.size ≤ al_22)) (allS (Or.inr (by omega : h0.size ≤ ct_23)) (allS (Or.inr (by omega : h0.size ≤ gv_24)) all0))))
   refine own_b T40 m 162 #[vi p0, vi p1, vi p2, vi p3, vi p4, vi 0, vi w0, vi w1, vi w2, vi w3, vr b7, vi 0, vr b13, un, un] [] (fun _ k_ => st40.trans k_) ?_
   obtain ⟨T47, h47, X47, e47, E47, A47, D47, -, st47⟩ := newO X40 hx hZ hown (ww hw 101 rfl) (ww hw 102 rfl) (ww hw 103 rfl) rfl (g := (mkF m 162 #[vi p0, vi p1, vi p2, vi p3, vi p4, vi 0, vi w0, vi w1, vi w2, vi w3, vr b7, vi 0, vr b13, un, un] [])) rfl (hb hby at_162) (by decide) (by decide)
   obtain ⟨b47, g47⟩ : ∃ z, z = T40.heap.size := ⟨_, rfl⟩
   rw [← g47] at A47 D47 st47
   have K48 : Keep T40.heap h47 [] := own_kext E47
   have zzK48 : T40.heap.size ≤ h47.size := K48.1
   have oo49 : Old Z n0 h47 := oo45.keep K48 all0
   have kt50 : Keep h0 h47 [] := kt46.trans K48 all0
   have lab47 : b47 < h47.size := A47.lt
   have f51 : Fld Z h47 b47 cn0 "jobs" cn4 .null := D47 (Or.inr (ww hw 273 rfl)) (ty := (.object cn1)) (by decide)
   have f52 : Fld Z h47 b47 cn0 "homeZones" "[I" .null := D47 (Or.inr (ww hw 275 rfl)) (ty := (.array .int)) (by decide)
   have f53 : Fld Z h47 b47 cn0 "departures" "[I" .null := D47 (Or.inr (ww hw 277 rfl)) (ty := (.array .int)) (by decide)
   have f54 : Fld Z h47 b47 cn0 "workplaces" "[I" .null := D47 (Or.inr (ww hw 279 rfl)) (ty := (.array .int)) (by decide)
   refine own_b T47 m 165 #[vi p0, vi p1, vi p2, vi p3, vi p4, vi 0, vi w0, vi w1, vi w2, vi w3, vr b7, vi 0, vr b13, un, un] [.ref b47] st47 ?_
   refine own_b T47 m 172 #[vi p0, vi p1, vi p2, vi p3, vi p4, vi 0, vi w0, vi w1, vi w2, vi w3, vr b7, vi 0, vr b13, un, un] [.int 0, .ref b13, .ref b13, .ref b47, .ref b47] (fun _ k_ => XS.dup X47.here hx rfl (hb hby at_165) rfl rfl (XS.aload X47.here hx rfl (hb hby at_166) rfl rfl (XS.aload X47.here hx rfl (hb hby at_168) rfl rfl (XS.iload X47.here hx rfl (hb hby at_170) rfl k_)))) ?_
   obtain ⟨T55, h55, k55, X55, e55, E55, A55, st55⟩ := newP X47 hx hZ (ww hw 1 rfl) e47 (g := (mkF m 172 #[vi p0, vi p1, vi p2, vi p3, vi p4, vi 0, vi w0, vi w1, vi w2, vi w3, vr b7, vi 0, vr b13, un, un] [.int 0, .ref b13, .ref b13, .ref b47, .ref b47])) rfl (hb hby at_172) rfl (by decide) (cap := 0) (by decide) (by decide) (by decide) (by decide)
   obtain ⟨b55, g55⟩ : ∃ z, z = h47.size := ⟨_, rfl⟩
   rw [← g55] at A55 st55
   have K56 : Keep h47 h55 [] := own_kext E55
   have zzK56 : h47.size ≤ h55.size := K56.1
   have oo57 : Old Z n0 h55 := oo49.keep K56 all0
   have kt58 : Keep h0 h55 [] := kt50.trans K56 all0
   have lab55 : b55 < h55.size := A55.lt
   have f59 : Arv Z h55 b55 k55 .int (0 : Int32) [] (.int 0) := (Arv.new A55 (by decide)).pad (pad_rep [] (.int 0) 0)
   refine own_b T55 m 174 #[vi p0, vi p1, vi p2, vi p3, vi p4, vi 0, vi w0, vi w1, vi w2, vi w3, vr b7, vi 0, vr b13, un, un] [.ref b55, .ref b13, .ref b13, .ref b47, .ref b47] st55 ?_
   have f60 : Exa Z h55 b47 cn0 := (A47.keep K56)
   have f61 : Fld Z h55 b47 cn0 "jobs" cn4 .null := (f51.keep K56 nin0)
   have f62 : Fld Z h55 b47 cn0 "homeZones" "[I" .null := (f52.keep K56 nin0)
   have f63 : Fld Z h55 b47 cn0 "departures" "[I" .null := (f53.keep K56 nin0)
   have f64 : Fld Z h55 b47 cn0 "workplaces" "[I" .null := (f54.keep K56 nin0)
   have f65 : Exa Z h55 b13 cn1 := (((f30.keep K40).keep K48).keep K56)
   have f66 : Fld Z h55 b13 cn1 "total" "I" (.int 0) := ((p40_3.keep K48 nin0).keep K56 nin0)
   have f67 : Fld Z h55 b13 cn1 "zones" "Ljava/util/List;" (.ref al_22) := ((p40_1.keep K48 nin0).keep K56 nin0)
   have f68 : Fld Z h55 b13 cn1 "counts" "[I" (.ref ct_23) := ((p40_2.keep K48 nin0).keep K56 nin0)
   have f69 : Arv Z h55 ct_23 kC_25 .int (2 : Int32) [.int 0, .int 0] (.int 0) := ((p40_10.keep K48 nin0).keep K56 nin0)
   have f70 : Exa Z h55 al_22 cn2 := (((p21_7.keep K40).keep K48).keep K56)
   have f71 : Fld Z h55 al_22 "java/util/AbstractList" "modCount" "I" (.int 1) := ((p40_4.keep K48 nin0).keep K56 nin0)
   have f72 : Fld Z h55 al_22 cn2 "size" "I" (.int 1) := ((p40_6.keep K48 nin0).keep K56 nin0)
   have f73 : Fld Z h55 al_22 cn2 "elementData" "[Ljava/lang/Object;" (.ref t_41) := ((p40_5.keep K48 nin0).keep K56 nin0)
   have f74 : Arv Z h55 t_41 kE_42 (.object "java/lang/Object") (10 : Int32) [.ref b_43, .null, .null, .null, .null, .null, .null, .null, .null, .null] .null := ((p40_7.keep K48 nin0).keep K56 nin0)
   have f75 : Exa Z h55 b_43 "java/lang/Integer" := ((p40_8.keep K48).keep K56)
   have f76 : Fld Z h55 b_43 "java/lang/Integer" "value" "I" (.int 1) := ((p40_9.keep K48 nin0).keep K56 nin0)
   obtain ⟨_, _, ⟨T77, L77, k77, n77⟩, -, X77, ⟨Lc77, hQ77, l77, y77, z77⟩, st77⟩ := X55.specialBack hx (y := (⟨cn0, "<init>", cn6⟩ : MethodName)) rfl hown (mvT hZ (ww hw 104 rfl)) (mvT hZ (ww hw 105 rfl)) (mvT hZ (ww hw 106 rfl)) (by decide) (backOf (W := 1) (rmWI3_0 l Z a0 hw [] wC cC wD kD mA mL mR GS b47 b55 k55 b13 al_22 ct_23 kC_25 t_41 kE_42 b_43 h55 n0 (by omega) oo57 f60 (by omega) f61 f62 f63 f64 f59 f65 f66 f67 f68 f69 f70 f71 f72 f73 f74 f75 f76) hZ (ww hw 106 rfl) (ww hw 103 rfl) (by decide) (by decide)) (g := (mkF m 174 #[vi p0, vi p1, vi p2, vi p3, vi p4, vi 0, vi w0, vi w1, vi w2, vi w3, vr b7, vi 0, vr b13, un, un] [.ref b55, .ref b13, .ref b13, .ref b47, .ref b47])) rfl (by rw [hml]; rfl) (Steps.refl _) (a := b47) (argsL := [.ref b13, .ref b13, .ref b55]) (rest := [.ref b47]) (lenOf own_pd_24 rfl) rfl (by show 2 * 0 + _ ≤ _; exact Nat.le_of_eq rfl) (hb hby at_174) (fun _ _ => ⟨rfl, e55, (by decide : 8 + 5 ≤ _), (by decide : 25 + 8 ≤ _)⟩)
   dsimp only [Pt.U, Pt.locs, Pt.cells, Pt.slots] at X77 l77 y77 z77 st77 hQ77
   subst l77 y77 z77
   obtain ⟨h_78, wp_79, kW_80, rfl, N77q, K77, p77_0, p77_1, p77_2, p77_3, p77_4, p77_5⟩ := hQ77
   have N81 := Fr.app N44 N77q
   have gwp_79 : h55.size ≤ wp_79 := p77_0
   have zzK77 : h55.size ≤ T77.heap.size := K77.1
   have oo82 : Old Z n0 T77.heap := oo57.keep K77 (allS (by omega : n0 ≤ b47) all0)
   have kt83 : Keep h0 T77.heap [] := kt58.trans K77 (allS (Or.inr (by omega : h0.size ≤ b47)) all0)
   refine own_b T77 m 177 #[vi p0, vi p1, vi p2, vi p3, vi p4, vi 0, vi w0, vi w1, vi w2, vi w3, vr b7, vi 0, vr b13, un, un] [.ref b47] (fun _ k_ => st77.trans k_) ?_
   refine own_b T77 m 183 #[vi p0, vi p1, vi p2, vi p3, vi p4, vi 0, vi w0, vi w1, vi w2, vi w3, vr b7, vi 0, vr b13, vr b47, un] [.ref b7, .ref b47] (fun _ k_ => XS.astore X77.here hx rfl (hb hby at_177) rfl rfl (l' := #[vi p0, vi p1, vi p2, vi p3, vi p4, vi 0, vi w0, vi w1, vi w2, vi w3, vr b7, vi 0, vr b13, vr b47, un]) rfl (XS.aload X77.here hx rfl (hb hby at_179) rfl rfl (XS.aload X77.here hx rfl (hb hby at_181) rfl rfl k_))) ?_
   have f84 : Exa Z T77.heap b47 cn0 := (f60.keep K77)
   have f85 : Exa Z T77.heap b7 "[I" := ((((((f11.keep K14).keep K21).keep K40).keep K48).keep K56).keep K77)
   have ne86 : @Ne Nat b7 b13 := by omega
   have ne87 : @Ne Nat b7 gv_24 := by omega
   have ne88 : @Ne Nat b7 ct_23 := by omega
   have ne89 : @Ne Nat b7 al_22 := by omega
   have ne90 : @Ne Nat b7 b47 := by omega
   have f91 : Arv Z T77.heap b7 k7 .int (0 : Int32) [] (.int 0) := ((((((f12.keep K14 nin0).keep K21 (ninS ne86 nin0)).keep K40 (ninS ne86 (ninS ne89 (ninS ne88 (ninS ne87 nin0))))).keep K48 nin0).keep K56 nin0).keep K77 (ninS ne90 nin0))
   obtain ⟨cq92, kq92, q92a, q92b, q92c⟩ := isOf hZ rfl f84
   obtain ⟨_, _, ⟨T92, L92, k92, n92⟩, -, X92, ⟨Lc92, hQ92, l92, y92, z92⟩, st92⟩ := X77.virtualBack hx (y := (⟨cn0, "withWorkplaces", "([I)Lcom/example/even_commute/evencommute/demand/Workers;"⟩ : MethodName)) (z := (⟨cn0, "withWorkplaces", "([I)Lcom/example/even_commute/evencommute/demand/Workers;"⟩ : MethodName)) hown (mvT hZ (ww hw 280 rfl)) (mvT hZ (ww hw 281 rfl)) (notFace_of_selects (args := #[]) (mvT hZ (ww hw 283 rfl))) (mvT hZ (ww hw 283 rfl)) (mvT hZ (ww hw 282 rfl)) (by decide) (backOf (W := 0) (rmWw_0 l Z a0 hw [] wC cC wD kD mA mL mR GS b47 b7 k7 b13 h_78 b55 wp_79 T77.heap n0 (by omega) oo82 f84 f85 f91 p77_1 p77_2 p77_3 p77_4) hZ (ww hw 284 rfl) (ww hw 103 rfl) (by decide) (by decide)) q92a q92c (g := (mkF m 183 #[vi p0, vi p1, vi p2, vi p3, vi p4, vi 0, vi w0, vi w1, vi w2, vi w3, vr b7, vi 0, vr b13, vr b47, un] [.ref b7, .ref b47])) rfl (by rw [hml]; rfl) (Steps.refl _) (argsL := [.ref b7]) (rest := []) (lenOf own_pd_25 rfl) rfl (by show 2 * 0 + _ ≤ _; exact Nat.le_of_eq rfl) (hb hby at_183) (fun _ _ => ⟨rfl, rfl, (by decide : 13 + 2 ≤ _), (by decide : 33 + 4 ≤ _)⟩)
   dsimp only [Pt.U, Pt.locs, Pt.cells, Pt.slots] at X92 l92 y92 z92 st92 hQ92
   subst l92 y92 z92
   obtain ⟨r_93, wr_94, kR_95, rfl, N92q, K92, p92_0, p92_1, p92_2, p92_3, p92_4⟩ := hQ92
   have N96 := Fr.app N81 N92q
   have gr_93 : T77.heap.size ≤ r_93 := p92_0
   have gwr_94 : T77.heap.size ≤ wr_94 := p92_1
   have zzK92 : T77.heap.size ≤ T92.heap.size := K92.1
   have oo97 : Old Z n0 T92.heap := oo82.keep K92 all0
   have kt98 : Keep h0 T92.heap [] := kt83.trans K92 all0
   refine own_b T92 m 186 #[vi p0, vi p1, vi p2, vi p3, vi p4, vi 0, vi w0, vi w1, vi w2, vi w3, vr b7, vi 0, vr b13, vr b47, un] [.ref r_93] (fun _ k_ => st92.trans k_) ?_
   refine own_b T92 m 190 #[vi p0, vi p1, vi p2, vi p3, vi p4, vi 0, vi w0, vi w1, vi w2, vi w3, vr b7, vi 0, vr b13, vr b47, vr r_93] [.ref b47] (fun _ k_ => XS.astore X92.here hx rfl (hb hby at_186) rfl rfl (l' := #[vi p0, vi p1, vi p2, vi p3, vi p4, vi 0, vi w0, vi w1, vi w2, vi w3, vr b7, vi 0, vr b13, vr b47, vr r_93]) rfl (XS.aload X92.here hx rfl (hb hby at_188) rfl rfl k_)) ?_
   have f99 : Exa Z T92.heap b47 cn0 := (f84.keep K92)
   have f100 : Fld Z T92.heap b47 cn0 "workplaces" "[I" (.ref wp_79) := (p77_4.keep K92 nin0)
   have f101 : Arv Z T92.heap wp_79 kW_80 .int (0 : Int32) [] (.int 0) := (p77_5.keep K92 nin0)
   obtain ⟨cq102, kq102, q102a, q102b, q102c⟩ := isOf hZ rfl f99
   obtain ⟨_, _, ⟨T102, L102, k102, n102⟩, -, X102, ⟨Lc102, hQ102, l102, y102, z102⟩, st102⟩ := X92.virtualBack hx (y := (⟨cn0, "getAssignedCount", "()I"⟩ : MethodName)) (z := (⟨cn0, "getAssignedCount", "()I"⟩ : MethodName)) hown (mvT hZ (ww hw 295 rfl)) (mvT hZ (ww hw 296 rfl)) (notFace_of_selects (args := #[]) (mvT hZ (ww hw 298 rfl))) (mvT hZ (ww hw 298 rfl)) (mvT hZ (ww hw 297 rfl)) (by decide) (backOf (W := 0) (rmC0_0 l Z a0 hw [] wC cC wD kD mA mL mR GS b47 wp_79 kW_80 T92.heap n0 (by omega) oo97 f99 f100 f101) hZ (ww hw 299 rfl) (ww hw 103 rfl) (by decide) (by decide)) q102a q102c (g := (mkF m 190 #[vi p0, vi p1, vi p2, vi p3, vi p4, vi 0, vi w0, vi w1, vi w2, vi w3, vr b7, vi 0, vr b13, vr b47, vr r_93] [.ref b47])) rfl (by rw [hml]; rfl) (Steps.refl _) (argsL := []) (rest := []) (lenOf own_pd_5 rfl) rfl (by show 2 * 0 + _ ≤ _; exact Nat.le_of_eq rfl) (hb hby at_190) (fun _ _ => ⟨rfl, rfl, (by decide : 15 + 0 ≤ _), (by decide : 37 + 0 ≤ _)⟩)
   dsimp only [Pt.U, Pt.locs, Pt.cells, Pt.slots] at X102 l102 y102 z102 st102 hQ102
   subst l102 y102 z102
   obtain ⟨rfl, N102q, e102⟩ := hQ102
   have N103 := Fr.app N96 N102q
   refine own_b T102 m 193 #[vi p0, vi p1, vi p2, vi p3, vi p4, vi 0, vi w0, vi w1, vi w2, vi w3, vr b7, vi 0, vr b13, vr b47, vr r_93] [.int 0] (fun _ k_ => st102.trans k_) ?_
   refine own_b T102 m 198 #[vi p0, vi p1, vi p2, vi p3, vi p4, vi 0, vi w0, vi w1, vi w2, vi w3, vr b7, vi 0, vr b13, vr b47, vr r_93] [.ref r_93] (fun _ k_ => XS.ifNo X102.here hx rfl (hb hby at_193) rfl (XT.i0_ne_f (by decide)) (XS.aload X102.here hx rfl (hb hby at_196) rfl rfl k_)) ?_
   obtain ⟨cq104, kq104, q104a, q104b, q104c⟩ := isOf hZ e102 p92_2
   obtain ⟨_, _, ⟨T104, L104, k104, n104⟩, -, X104, ⟨Lc104, hQ104, l104, y104, z104⟩, st104⟩ := X102.virtualBack hx (y := (⟨cn0, "getAssignedCount", "()I"⟩ : MethodName)) (z := (⟨cn0, "getAssignedCount", "()I"⟩ : MethodName)) hown (mvT hZ (ww hw 295 rfl)) (mvT hZ (ww hw 296 rfl)) (notFace_of_selects (args := #[]) (mvT hZ (ww hw 298 rfl))) (mvT hZ (ww hw 298 rfl)) (mvT hZ (ww hw 297 rfl)) (by decide) (backOf (W := 0) (rmCn_0 l Z a0 hw [] wC cC wD kD mA mL mR GS r_93 wr_94 kR_95 T92.heap n0 (by omega) oo97 p92_2 p92_3 p92_4) hZ (ww hw 299 rfl) (ww hw 103 rfl) (by decide) (by decide)) q104a q104c (g := (mkF m 198 #[vi p0, vi p1, vi p2, vi p3, vi p4, vi 0, vi w0, vi w1, vi w2, vi w3, vr b7, vi 0, vr b13, vr b47, vr r_93] [.ref r_93])) rfl (by rw [hml]; rfl) (Steps.refl _) (argsL := []) (rest := []) (lenOf own_pd_5 rfl) rfl (by show 2 * 0 + _ ≤ _; exact Nat.le_of_eq rfl) (hb hby at_198) (fun _ _ => ⟨rfl, e102, (by decide : 15 + 0 ≤ _), (by decide : 37 + 0 ≤ _)⟩)
   dsimp only [Pt.U, Pt.locs, Pt.cells, Pt.slots] at X104 l104 y104 z104 st104 hQ104
   subst l104 y104 z104
   obtain ⟨rfl, N104q, e104⟩ := hQ104
   have N105 := Fr.app N103 N104q
   refine own_b T104 m 201 #[vi p0, vi p1, vi p2, vi p3, vi p4, vi 0, vi w0, vi w1, vi w2, vi w3, vr b7, vi 0, vr b13, vr b47, vr r_93] [.int 0] (fun _ k_ => st104.trans k_) ?_
   refine own_b T104 m 211 #[vi p0, vi p1, vi p2, vi p3, vi p4, vi 0, vi w0, vi w1, vi w2, vi w3, vr b7, vi 0, vr b13, vr b47, vr r_93] [.int 1] (fun _ k_ => XS.iload X104.here hx rfl (hb hby at_201) rfl (XS.icmpNo X104.here hx rfl (hb hby at_203) rfl (XT.ii_ne_f (by simp)) (XS.iconst X104.here hx rfl (hb hby at_206) (XS.goto X104.here hx rfl (pc0 := 207) (pc' := 211) rfl (hb hby at_207) (by decide) (by decide) k_)))) ?_
   have hn106 : nar .boolean (1 : Int32) = (1 : Int32) := rfl
   obtain ⟨fs107, hr107, hrun107, hended107, hW107, hsame107⟩ := X104.leave (v := some (.int (nar .boolean (1 : Int32)))) (fun h => by rw [Bd.returns] at h; cases h)
   refine ⟨_, _, retN X104 hx (t := .boolean) Bd.returns (by simp) (hb hby at_211) hr107, hrun107, hended107, _, _, rfl, ?_, ⟨_, rfl⟩, hW107, hsame107.mono (by decide) (by decide)⟩
   show Q_rm0 Z wC cC wD kD mA mL mR p0 p1 p2 p3 p4 h0 n0 _ T104.heap _
   exact ⟨(congrArg (fun z => some (Value.int z)) hn106), N105⟩
  ·refine own_b T5 m 35 #[vi p0, vi p1, vi p2, vi p3, vi p4, vi 1, vi w0, vi w1, vi w2, vi w3, un, un, un, un, un] [.int 1] (fun _ k_ => XS.iload X5.here hx rfl (hb hby at_33) rfl k_) ?_
   obtain ⟨T108, h108, k108, X108, e108, E108, A108, EX108, st108⟩ := newPE X5 hx hZ (ww hw 1 rfl) e5 (g := (mkF m 35 #[vi p0, vi p1, vi p2, vi p3, vi p4, vi 1, vi w0, vi w1, vi w2, vi w3, un, un, un, un, un] [.int 1])) rfl (hb hby at_35) rfl (by decide) (cap := 1) (by decide) (by decide) (by decide) (by decide) (ad := "[I") rfl
   obtain ⟨bz108, gz108⟩ : ∃ z, z = h0.size := ⟨_, rfl⟩
   rw [← gz108] at EX108
   obtain ⟨b108, g108⟩ : ∃ z, z = h0.size := ⟨_, rfl⟩
   rw [← g108] at A108 st108
   have K109 : Keep h0 h108 [] := own_kext E108
   have zzK109 : h0.size ≤ h108.size := K109.1
   have oo110 : Old Z n0 h108 := O0.keep K109 all0
   have kt111 : Keep h0 h108 [] := KT0.trans K109 all0
   have lab108 : b108 < h108.size := A108.lt
   have f112 : Exa Z h108 b108 "[I" := by rw [g108, ← gz108]; exact EX108
   have f113 : Arv Z h108 b108 k108 .int (1 : Int32) [.int 0] (.int 0) := (Arv.new A108 (by decide)).pad (pad_rep [] (.int 0) 1)
   refine own_b T108 m 37 #[vi p0, vi p1, vi p2, vi p3, vi p4, vi 1, vi w0, vi w1, vi w2, vi w3, un, un, un, un, un] [.ref b108] st108 ?_
   refine own_b T108 m 49 #[vi p0, vi p1, vi p2, vi p3, vi p4, vi 1, vi w0, vi w1, vi w2, vi w3, vr b108, un, un, un, un] [.int w0, .int 0, .ref b108] (fun _ k_ => XS.astore X108.here hx rfl (hb hby at_37) rfl rfl (l' := #[vi p0, vi p1, vi p2, vi p3, vi p4, vi 1, vi w0, vi w1, vi w2, vi w3, vr b108, un, un, un, un]) rfl (XS.iload X108.here hx rfl (hb hby at_39) rfl (XS.ifNo X108.here hx rfl (hb hby at_41) rfl (XT.i0_le_f (by decide)) (XS.aload X108.here hx rfl (hb hby at_44) rfl rfl (XS.iconst X108.here hx rfl (hb hby at_46) (XS.iload X108.here hx rfl (hb hby at_47) rfl k_)))))) ?_
   obtain ⟨cl114, Ar114, q114, S114, M114, H114, G114⟩ := id f113
   have hin114 : ¬ ((0 : Int32) < 0 ∨ cl114.slots.size ≤ ((0 : Int32)).toNatClampNeg) := inb_of S114 ⟨by decide, by decide⟩
   obtain ⟨T114, h114, X114, e114, W114, st114⟩ := stI X108 hx hZ e108 Ar114 (j := (0 : Int32)) hin114 (g := (mkF m 49 #[vi p0, vi p1, vi p2, vi p3, vi p4, vi 1, vi w0, vi w1, vi w2, vi w3, vr b108, un, un, un, un] [.int w0, .int 0, .ref b108])) rfl rfl (hb hby at_49)
   have K115 : Keep h108 h114 [b108] := Keep.of_wr W114
   have zzK115 : h108.size ≤ h114.size := K115.1
   have oo116 : Old Z n0 h114 := oo110.keep K115 (allS (by omega : n0 ≤ b108) all0)
   have kt117 : Keep h0 h114 [] := kt111.trans K115 (allS (Or.inr (by omega : h0.size ≤ b108)) all0)
   have f118 : Arv Z h114 b108 k108 .int (1 : Int32) [.int w0] (.int 0) := Arv.set Ar114 q114 S114 M114 H114 G114 rfl W114 0 rfl (Nat.le_of_ble_eq_true rfl)
   have N119 := Fr.snoc X114 N5 (by omega : n0 ≤ b108)
   refine own_b T114 m 50 #[vi p0, vi p1, vi p2, vi p3, vi p4, vi 1, vi w0, vi w1, vi w2, vi w3, vr b108, un, un, un, un] [] st114 ?_
   refine own_b T114 m 77 #[vi p0, vi p1, vi p2, vi p3, vi p4, vi 1, vi w0, vi w1, vi w2, vi w3, vr b108, un, un, un, un] [.int 3, .int 1] (fun _ k_ => XS.iload X114.here hx rfl (hb hby at_50) rfl (XS.iconst X114.here hx rfl (hb hby at_52) (XS.icmpYes X114.here hx rfl (pc0 := 53) (pc' := 62) rfl (hb hby at_53) rfl (XT.ii_le_t (by decide)) (by decide) (by decide) (XS.iload X114.here hx rfl (hb hby at_62) rfl (XS.iconst X114.here hx rfl (hb hby at_64) (XS.icmpYes X114.here hx rfl (pc0 := 65) (pc' := 74) rfl (hb hby at_65) rfl (XT.ii_le_t (by decide)) (by decide) (by decide) (XS.iload X114.here hx rfl (hb hby at_74) rfl (XS.iconst X114.here hx rfl (hb hby at_76) k_)))))))) ?_
   refine own_b T114 m 94 #[vi p0, vi p1, vi p2, vi p3, vi p4, vi 1, vi w0, vi w1, vi w2, vi w3, vr b108, vi 0, un, un, un] [] (fun _ k_ => XS.icmpYes X114.here hx rfl (pc0 := 77) (pc' := 86) rfl (hb hby at_77) rfl (XT.ii_le_t (by decide)) (by decide) (by decide) (XS.iconst X114.here hx rfl (hb hby at_86) (XS.istore X114.here hx rfl (hb hby at_87) rfl (l' := #[vi p0, vi p1, vi p2, vi p3, vi p4, vi 1, vi w0, vi w1, vi w2, vi w3, vr b108, vi 0, un, un, un]) rfl (XS.iload X114.here hx rfl (hb hby at_89) rfl (XS.ifNo X114.here hx rfl (hb hby at_91) rfl (XT.i0_le_f (by decide)) k_))))) ?_
   have J120 : ∀ (T120 : State) (lo120 : List Loc) (X120 : Stand p l e room_1 s m #[.int p0, .int p1, .int p2, .int p3, .int p4] below meth c T120 lo120 1 1) (e120 : T120.heap = h114) (N120 : Fr n0 lo120) (e0_ : Int32), e0_ = (if w0 = (0 : Int32) then (0 : Int32) else ((0 : Int32) + (1 : Int32))) → OGoal p e below (fun oo_ UV_ => ∃ vv_ LL_, oo_ = .returned vv_ ∧ Q_rm0 Z wC cC wD kD mA mL mR p0 p1 p2 p3 p4 h0 n0 vv_ UV_.heap LL_ ∧ FrameEnd s oo_ UV_ LL_ 15 57) T120 (mkF m 102 #[.val (.int p0), .val (.int p1), .val (.int p2), .val (.int p3), .val (.int p4), .val (.int 1), .val (.int w0), .val (.int w1), .val (.int w2), .val (.int w3), .val (.ref b108), .val (.int e0_), .unset, .unset, .unset] []) := by
    intro T120 lo120 X120 e120 N120 e0_  hj121
    refine own_b T120 m 133 #[vi p0, vi p1, vi p2, vi p3, vi p4, vi 1, vi w0, vi w1, vi w2, vi w3, vr b108, vi e0_, un, un, un] [.int 3, .int 1] (fun _ k_ => XS.iload X120.here hx rfl (hb hby at_102) rfl (XS.iconst X120.here hx rfl (hb hby at_104) (XS.icmpYes X120.here hx rfl (pc0 := 105) (pc' := 116) rfl (hb hby at_105) rfl (XT.ii_le_t (by decide)) (by decide) (by decide) (XS.iload X120.here hx rfl (hb hby at_116) rfl (XS.iconst X120.here hx rfl (hb hby at_118) (XS.icmpYes X120.here hx rfl (pc0 := 119) (pc' := 130) rfl (hb hby at_119) rfl (XT.ii_le_t (by decide)) (by decide) (by decide) (XS.iload X120.here hx rfl (hb hby at_130) rfl (XS.iconst X120.here hx rfl (hb hby at_132) k_)))))))) ?_
    refine own_b T120 m 144 #[vi p0, vi p1, vi p2, vi p3, vi p4, vi 1, vi w0, vi w1, vi w2, vi w3, vr b108, vi e0_, un, un, un] [] (fun _ k_ => XS.icmpYes X120.here hx rfl (pc0 := 133) (pc' := 144) rfl (hb hby at_133) rfl (XT.ii_le_t (by decide)) (by decide) (by decide) k_) ?_
    obtain ⟨T122, h122, X122, e122, E122, A122, D122, -, st122⟩ := newO X120 hx hZ hown (ww hw 2 rfl) (ww hw 3 rfl) (ww hw 4 rfl) e120 (g := (mkF m 144 #[vi p0, vi p1, vi p2, vi p3, vi p4, vi 1, vi w0, vi w1, vi w2, vi w3, vr b108, vi e0_, un, un, un] [])) rfl (hb hby at_144) (by decide) (by decide)
    obtain ⟨b122, g122⟩ : ∃ z, z = h114.size := ⟨_, rfl⟩
    rw [← g122] at A122 D122 st122
    have K123 : Keep h114 h122 [] := own_kext E122
    have zzK123 : h114.size ≤ h122.size := K123.1
    have oo124 : Old Z n0 h122 := oo116.keep K123 all0
    have kt125 : Keep h0 h122 [] := kt117.trans K123 all0
    have lab122 : b122 < h122.size := A122.lt
    have f126 : Fld Z h122 b122 cn1 "zones" "Ljava/util/List;" .null := D122 (Or.inr (ww hw 36 rfl)) (ty := (.object "java/util/List")) (by decide)
    have f127 : Fld Z h122 b122 cn1 "counts" "[I" .null := D122 (Or.inr (ww hw 38 rfl)) (ty := (.array .int)) (by decide)
    have f128 : Fld Z h122 b122 cn1 "given" "[Z" .null := D122 (Or.inr (ww hw 41 rfl)) (ty := (.array .boolean)) (by decide)
    have f129 : Fld Z h122 b122 cn1 "total" "I" (.int 0) := D122 (Or.inl (ww hw 58 rfl)) (ty := .int) (by decide)
    refine own_b T122 m 147 #[vi p0, vi p1, vi p2, vi p3, vi p4, vi 1, vi w0, vi w1, vi w2, vi w3, vr b108, vi e0_, un, un, un] [.ref b122] st122 ?_
    refine own_b T122 m 149 #[vi p0, vi p1, vi p2, vi p3, vi p4, vi 1, vi w0, vi w1, vi w2, vi w3, vr b108, vi e0_, un, un, un] [.int 1, .ref b122, .ref b122] (fun _ k_ => XS.dup X122.here hx rfl (hb hby at_147) rfl rfl (XS.iconst X122.here hx rfl (hb hby at_148) k_)) ?_
    obtain ⟨_, _, ⟨T130, L130, k130, n130⟩, -, X130, ⟨Lc130, hQ130, l130, y130, z130⟩, st130⟩ := X122.specialBack hx (y := (⟨cn1, "<init>", "(I)V"⟩ : MethodName)) rfl hown (mvT hZ (ww hw 5 rfl)) (mvT hZ (ww hw 6 rfl)) (mvT hZ (ww hw 7 rfl)) (by decide) (backOf (W := 1) (rmZI l Z a0 hw [] wC cC wD kD mA mL mR GS b122 h122 n0 (by omega) oo124 A122 (by omega) f126 f127 f128 f129) hZ (ww hw 7 rfl) (ww hw 4 rfl) (by decide) (by decide)) (g := (mkF m 149 #[vi p0, vi p1, vi p2, vi p3, vi p4, vi 1, vi w0, vi w1, vi w2, vi w3, vr b108, vi e0_, un, un, un] [.int 1, .ref b122, .ref b122])) rfl (by rw [hml]; rfl) (Steps.refl _) (a := b122) (argsL := [.int 1]) (rest := [.ref b122]) (lenOf own_pd_6 rfl) rfl (by show 2 * 0 + _ ≤ _; exact Nat.le_of_eq rfl) (hb hby at_149) (fun _ _ => ⟨rfl, e122, (by decide : 2 + 3 ≤ _), (by decide : 5 + 7 ≤ _)⟩)
    dsimp only [Pt.U, Pt.locs, Pt.cells, Pt.slots] at X130 l130 y130 z130 st130 hQ130
    subst l130 y130 z130
    obtain ⟨al_131, ct_132, gv_133, kC_134, kG_135, rfl, N130q, K130, p130_0, p130_1, p130_2, p130_3, p130_4, p130_5, p130_6, p130_7, p130_8, p130_9, p130_10, p130_11, p130_12, p130_13, p130_14, p130_15⟩ := hQ130
    have N136 := Fr.app N120 N130q
    have gal_131 : h122.size ≤ al_131 := p130_0
    have gct_132 : h122.size ≤ ct_132 := p130_1
    have ggv_133 : h122.size ≤ gv_133 := p130_2
    have zzK130 : h122.size ≤ T130.heap.size := K130.1
    have oo137 : Old Z n0 T130.heap := oo124.keep K130 (allS (by omega : n0 ≤ b122) all0)
    have kt138 : Keep h0 T130.heap [] := kt125.trans K130 (allS (Or.inr (by omega : h0.size ≤ b122)) all0)
    refine own_b T130 m 152 #[vi p0, vi p1, vi p2, vi p3, vi p4, vi 1, vi w0, vi w1, vi w2, vi w3, vr b108, vi e0_, un, un, un] [.ref b122] (fun _ k_ => st130.trans k_) ?_
    refine own_b T130 m 159 #[vi p0, vi p1, vi p2, vi p3, vi p4, vi 1, vi w0, vi w1, vi w2, vi w3, vr b108, vi e0_, vr b122, un, un] [.int 1, .int 1, .ref b122] (fun _ k_ => XS.astore X130.here hx rfl (hb hby at_152) rfl rfl (l' := #[vi p0, vi p1, vi p2, vi p3, vi p4, vi 1, vi w0, vi w1, vi w2, vi w3, vr b108, vi e0_, vr b122, un, un]) rfl (XS.aload X130.here hx rfl (hb hby at_154) rfl rfl (XS.iconst X130.here hx rfl (hb hby at_156) (XS.iload X130.here hx rfl (hb hby at_157) rfl k_)))) ?_
    have f139 : Exa Z T130.heap b122 cn1 := (A122.keep K130)
    have la140 : @LT.lt Nat instLTNat ct_132 T130.heap.size := p130_11.lt
    have la141 : @LT.lt Nat instLTNat gv_133 T130.heap.size := p130_12.lt
    have ne142 : @Ne Nat ct_132 gv_133 := by omega
    have la143 : @LT.lt Nat instLTNat al_131 T130.heap.size := p130_7.lt
    have ne144 : @Ne Nat al_131 gv_133 := by omega
    have ne145 : @Ne Nat al_131 ct_132 := by omega
    have ne146 : @Ne Nat b122 al_131 := by omega
    have ne147 : @Ne Nat b122 ct_132 := by omega
    have ne148 : @Ne Nat b122 gv_133 := by omega
    obtain ⟨cq149, kq149, q149a, q149b, q149c⟩ := isOf hZ rfl f139
    obtain ⟨_, _, ⟨T149, L149, k149, n149⟩, -, X149, ⟨Lc149, hQ149, l149, y149, z149⟩, st149⟩ := X130.virtualBack hx (y := (⟨cn1, "add", "(II)V"⟩ : MethodName)) (z := (⟨cn1, "add", "(II)V"⟩ : MethodName)) hown (mvT hZ (ww hw 42 rfl)) (mvT hZ (ww hw 43 rfl)) (notFace_of_selects (args := #[]) (mvT hZ (ww hw 45 rfl))) (mvT hZ (ww hw 45 rfl)) (mvT hZ (ww hw 44 rfl)) (by decide) (backOf (W := 0) (rmZA l Z a0 hw [] wC cC wD kD mA mL mR GS b122 al_131 ct_132 gv_133 kC_134 kG_135 (1 : Int32) T130.heap n0 (by omega) oo137 f139 (by omega) (by omega) (by omega) (by omega) p130_3 p130_4 p130_5 p130_6 p130_7 p130_8 p130_9 p130_10 p130_11 p130_12 ne142 ne144 ne145 ne146 ne147 ne148 (by decide) (by decide)) hZ (ww hw 46 rfl) (ww hw 4 rfl) (by decide) (by decide)) q149a q149c (g := (mkF m 159 #[vi p0, vi p1, vi p2, vi p3, vi p4, vi 1, vi w0, vi w1, vi w2, vi w3, vr b108, vi e0_, vr b122, un, un] [.int 1, .int 1, .ref b122])) rfl (by rw [hml]; rfl) (Steps.refl _) (argsL := [.int 1, .int 1]) (rest := []) (lenOf own_pd_23 rfl) rfl (by show 2 * 0 + _ ≤ _; exact Nat.le_of_eq rfl) (hb hby at_159) (fun _ _ => ⟨rfl, rfl, (by decide : 5 + 1 ≤ _), (by decide : 12 + 10 ≤ _)⟩)
    dsimp only [Pt.U, Pt.locs, Pt.cells, Pt.slots] at X149 l149 y149 z149 st149 hQ149
    subst l149 y149 z149
    obtain ⟨t_150, kE_151, b_152, rfl, N149q, K149, p149_0, p149_1, p149_2, p149_3, p149_4, p149_5, p149_6, p149_7, p149_8, p149_9, p149_10⟩ := hQ149
    have N153 := Fr.app N136 N149q
    have gt_150 : T130.heap.size ≤ t_150 := p149_0
    have zzK149 : T130.heap.size ≤ T149.heap.size := K149.1
    have oo154 : Old Z n0 T149.heap := oo137.keep K149 (allS (by omega : n0 ≤ b122) (allS (by omega : n0 ≤ al_131) (allS (by omega : n0 ≤ ct_132) (allS (by omega : n0 ≤ gv_133) all0))))
    have kt155 : Keep h0 T149.heap [] := kt138.trans K149 (allS (Or.inr (by omega : h0.size ≤ b122)) (allS (Or.inr (by omega : h0.size ≤ al_131)) (allS (Or.inr (by omega : h0.size ≤ ct_132)) (allS (Or.inr (by omega : h0.size ≤ gv_133)) all0))))
    refine own_b T149 m 162 #[vi p0, vi p1, vi p2, vi p3, vi p4, vi 1, vi w0, vi w1, vi w2, vi w3, vr b108, vi e0_, vr b122, un, un] [] (fun _ k_ => st149.trans k_) ?_
    obtain ⟨T156, h156, X156, e156, E156, A156, D156, -, st156⟩ := newO X149 hx hZ hown (ww hw 101 rfl) (ww hw 102 rfl) (ww hw 103 rfl) rfl (g := (mkF m 162 #[vi p0, vi p1, vi p2, vi p3, vi p4, vi 1, vi w0, vi w1, vi w2, vi w3, vr b108, vi e0_, vr b122, un, un] [])) rfl (hb hby at_162) (by decide) (by decide)
    obtain ⟨b156, g156⟩ : ∃ z, z = T149.heap.size := ⟨_, rfl⟩
    rw [← g156] at A156 D156 st156
    have K157 : Keep T149.heap h156 [] := own_kext E156
    have zzK157 : T149.heap.size ≤ h156.size := K157.1
    have oo158 : Old Z n0 h156 := oo154.keep K157 all0
    have kt159 : Keep h0 h156 [] := kt155.trans K157 all0
    have lab156 : b156 < h156.size := A156.lt
    have f160 : Fld Z h156 b156 cn0 "jobs" cn4 .null := D156 (Or.inr (ww hw 273 rfl)) (ty := (.object cn1)) (by decide)
    have f161 : Fld Z h156 b156 cn0 "homeZones" "[I" .null := D156 (Or.inr (ww hw 275 rfl)) (ty := (.array .int)) (by decide)
    have f162 : Fld Z h156 b156 cn0 "departures" "[I" .null := D156 (Or.inr (ww hw 277 rfl)) (ty := (.array .int)) (by decide)
    have f163 : Fld Z h156 b156 cn0 "workplaces" "[I" .null := D156 (Or.inr (ww hw 279 rfl)) (ty := (.array .int)) (by decide)
    refine own_b T156 m 165 #[vi p0, vi p1, vi p2, vi p3, vi p4, vi 1, vi w0, vi w1, vi w2, vi w3, vr b108, vi e0_, vr b122, un, un] [.ref b156] st156 ?_
    refine own_b T156 m 172 #[vi p0, vi p1, vi p2, vi p3, vi p4, vi 1, vi w0, vi w1, vi w2, vi w3, vr b108, vi e0_, vr b122, un, un] [.int 1, .ref b122, .ref b122, .ref b156, .ref b156] (fun _ k_ => XS.dup X156.here hx rfl (hb hby at_165) rfl rfl (XS.aload X156.here hx rfl (hb hby at_166) rfl rfl (XS.aload X156.here hx rfl (hb hby at_168) rfl rfl (XS.iload X156.here hx rfl (hb hby at_170) rfl k_)))) ?_
    obtain ⟨T164, h164, k164, X164, e164, E164, A164, st164⟩ := newP X156 hx hZ (ww hw 1 rfl) e156 (g := (mkF m 172 #[vi p0, vi p1, vi p2, vi p3, vi p4, vi 1, vi w0, vi w1, vi w2, vi w3, vr b108, vi e0_, vr b122, un, un] [.int 1, .ref b122, .ref b122, .ref b156, .ref b156])) rfl (hb hby at_172) rfl (by decide) (cap := 1) (by decide) (by decide) (by decide) (by decide)
    obtain ⟨b164, g164⟩ : ∃ z, z = h156.size := ⟨_, rfl⟩
    rw [← g164] at A164 st164
    have K165 : Keep h156 h164 [] := own_kext E164
    have zzK165 : h156.size ≤ h164.size := K165.1
    have oo166 : Old Z n0 h164 := oo158.keep K165 all0
    have kt167 : Keep h0 h164 [] := kt159.trans K165 all0
    have lab164 : b164 < h164.size := A164.lt
    have f168 : Arv Z h164 b164 k164 .int (1 : Int32) [.int 0] (.int 0) := (Arv.new A164 (by decide)).pad (pad_rep [] (.int 0) 1)
    refine own_b T164 m 174 #[vi p0, vi p1, vi p2, vi p3, vi p4, vi 1, vi w0, vi w1, vi w2, vi w3, vr b108, vi e0_, vr b122, un, un] [.ref b164, .ref b122, .ref b122, .ref b156, .ref b156] st164 ?_
    have f169 : Exa Z h164 b156 cn0 := (A156.keep K165)
    have f170 : Fld Z h164 b156 cn0 "jobs" cn4 .null := (f160.keep K165 nin0)
    have f171 : Fld Z h164 b156 cn0 "homeZones" "[I" .null := (f161.keep K165 nin0)
    have f172 : Fld Z h164 b156 cn0 "departures" "[I" .null := (f162.keep K165 nin0)
    have f173 : Fld Z h164 b156 cn0 "workplaces" "[I" .null := (f163.keep K165 nin0)
    have f174 : Exa Z h164 b122 cn1 := (((f139.keep K149).keep K157).keep K165)
    have f175 : Fld Z h164 b122 cn1 "total" "I" (.int 1) := ((p149_3.keep K157 nin0).keep K165 nin0)
    have f176 : Fld Z h164 b122 cn1 "zones" "Ljava/util/List;" (.ref al_131) := ((p149_1.keep K157 nin0).keep K165 nin0)
    have f177 : Fld Z h164 b122 cn1 "counts" "[I" (.ref ct_132) := ((p149_2.keep K157 nin0).keep K165 nin0)
    have f178 : Arv Z h164 ct_132 kC_134 .int (2 : Int32) [.int 0, .int 1] (.int 0) := ((p149_10.keep K157 nin0).keep K165 nin0)
    have f179 : Exa Z h164 al_131 cn2 := (((p130_7.keep K149).keep K157).keep K165)
    have f180 : Fld Z h164 al_131 "java/util/AbstractList" "modCount" "I" (.int 1) := ((p149_4.keep K157 nin0).keep K165 nin0)
    have f181 : Fld Z h164 al_131 cn2 "size" "I" (.int 1) := ((p149_6.keep K157 nin0).keep K165 nin0)
    have f182 : Fld Z h164 al_131 cn2 "elementData" "[Ljava/lang/Object;" (.ref t_150) := ((p149_5.keep K157 nin0).keep K165 nin0)
    have f183 : Arv Z h164 t_150 kE_151 (.object "java/lang/Object") (10 : Int32) [.ref b_152, .null, .null, .null, .null, .null, .null, .null, .null, .null] .null := ((p149_7.keep K157 nin0).keep K165 nin0)
    have f184 : Exa Z h164 b_152 "java/lang/Integer" := ((p149_8.keep K157).keep K165)
    have f185 : Fld Z h164 b_152 "java/lang/Integer" "value" "I" (.int 1) := ((p149_9.keep K157 nin0).keep K165 nin0)
    obtain ⟨_, _, ⟨T186, L186, k186, n186⟩, -, X186, ⟨Lc186, hQ186, l186, y186, z186⟩, st186⟩ := X164.specialBack hx (y := (⟨cn0, "<init>", cn6⟩ : MethodName)) rfl hown (mvT hZ (ww hw 104 rfl)) (mvT hZ (ww hw 105 rfl)) (mvT hZ (ww hw 106 rfl)) (by decide) (backOf (W := 1) (rmWI3_1 l Z a0 hw [] wC cC wD kD mA mL mR GS b156 b164 k164 b122 al_131 ct_132 kC_134 t_150 kE_151 b_152 h164 n0 (by omega) oo166 f169 (by omega) f170 f171 f172 f173 f168 f174 f175 f176 f177 f178 f179 f180 f181 f182 f183 f184 f185) hZ (ww hw 106 rfl) (ww hw 103 rfl) (by decide) (by decide)) (g := (mkF m 174 #[vi p0, vi p1, vi p2, vi p3, vi p4, vi 1, vi w0, vi w1, vi w2, vi w3, vr b108, vi e0_, vr b122, un, un] [.ref b164, .ref b122, .ref b122, .ref b156, .ref b156])) rfl (by rw [hml]; rfl) (Steps.refl _) (a := b156) (argsL := [.ref b122, .ref b122, .ref b164]) (rest := [.ref b156]) (lenOf own_pd_24 rfl) rfl (by show 2 * 0 + _ ≤ _; exact Nat.le_of_eq rfl) (hb hby at_174) (fun _ _ => ⟨rfl, e164, (by decide : 8 + 5 ≤ _), (by decide : 27 + 10 ≤ _)⟩)
    dsimp only [Pt.U, Pt.locs, Pt.cells, Pt.slots] at X186 l186 y186 z186 st186 hQ186
    subst l186 y186 z186
    obtain ⟨h_187, wp_188, kW_189, rfl, N186q, K186, p186_0, p186_1, p186_2, p186_3, p186_4, p186_5⟩ := hQ186
    have N190 := Fr.app N153 N186q
    have gwp_188 : h164.size ≤ wp_188 := p186_0
    have zzK186 : h164.size ≤ T186.heap.size := K186.1
    have oo191 : Old Z n0 T186.heap := oo166.keep K186 (allS (by omega : n0 ≤ b156) all0)
    have kt192 : Keep h0 T186.heap [] := kt167.trans K186 (allS (Or.inr (by omega : h0.size ≤ b156)) all0)
    refine own_b T186 m 177 #[vi p0, vi p1, vi p2, vi p3, vi p4, vi 1, vi w0, vi w1, vi w2, vi w3, vr b108, vi e0_, vr b122, un, un] [.ref b156] (fun _ k_ => st186.trans k_) ?_
    refine own_b T186 m 183 #[vi p0, vi p1, vi p2, vi p3, vi p4, vi 1, vi w0, vi w1, vi w2, vi w3, vr b108, vi e0_, vr b122, vr b156, un] [.ref b108, .ref b156] (fun _ k_ => XS.astore X186.here hx rfl (hb hby at_177) rfl rfl (l' := #[vi p0, vi p1, vi p2, vi p3, vi p4, vi 1, vi w0, vi w1, vi w2, vi w3, vr b108, vi e0_, vr b122, vr b156, un]) rfl (XS.aload X186.here hx rfl (hb hby at_179) rfl rfl (XS.aload X186.here hx rfl (hb hby at_181) rfl rfl k_))) ?_
    have f193 : Exa Z T186.heap b156 cn0 := (f169.keep K186)
    have f194 : Exa Z T186.heap b108 "[I" := (((((((f112.keep K115).keep K123).keep K130).keep K149).keep K157).keep K165).keep K186)
    have ne195 : @Ne Nat b108 b122 := by omega
    have ne196 : @Ne Nat b108 gv_133 := by omega
    have ne197 : @Ne Nat b108 ct_132 := by omega
    have ne198 : @Ne Nat b108 al_131 := by omega
    have ne199 : @Ne Nat b108 b156 := by omega
    have f200 : Arv Z T186.heap b108 k108 .int (1 : Int32) [.int w0] (.int 0) := ((((((f118.keep K123 nin0).keep K130 (ninS ne195 nin0)).keep K149 (ninS ne195 (ninS ne198 (ninS ne197 (ninS ne196 nin0))))).keep K157 nin0).keep K165 nin0).keep K186 (ninS ne199 nin0))
    obtain ⟨cq201, kq201, q201a, q201b, q201c⟩ := isOf hZ rfl f193
    obtain ⟨_, _, ⟨T201, L201, k201, n201⟩, -, X201, ⟨Lc201, hQ201, l201, y201, z201⟩, st201⟩ := X186.virtualBack hx (y := (⟨cn0, "withWorkplaces", "([I)Lcom/example/even_commute/evencommute/demand/Workers;"⟩ : MethodName)) (z := (⟨cn0, "withWorkplaces", "([I)Lcom/example/even_commute/evencommute/demand/Workers;"⟩ : MethodName)) hown (mvT hZ (ww hw 280 rfl)) (mvT hZ (ww hw 281 rfl)) (notFace_of_selects (args := #[]) (mvT hZ (ww hw 283 rfl))) (mvT hZ (ww hw 283 rfl)) (mvT hZ (ww hw 282 rfl)) (by decide) (backOf (W := 0) (rmWw_1 l Z a0 hw [] wC cC wD kD mA mL mR GS b156 b108 k108 b122 h_187 b164 wp_188 w0 T186.heap n0 (by omega) oo191 f193 f194 f200 p186_1 p186_2 p186_3 p186_4) hZ (ww hw 284 rfl) (ww hw 103 rfl) (by decide) (by decide)) q201a q201c (g := (mkF m 183 #[vi p0, vi p1, vi p2, vi p3, vi p4, vi 1, vi w0, vi w1, vi w2, vi w3, vr b108, vi e0_, vr b122, vr b156, un] [.ref b108, .ref b156])) rfl (by rw [hml]; rfl) (Steps.refl _) (argsL := [.ref b108]) (rest := []) (lenOf own_pd_25 rfl) rfl (by show 2 * 0 + _ ≤ _; exact Nat.le_of_eq rfl) (hb hby at_183) (fun _ _ => ⟨rfl, rfl, (by decide : 13 + 2 ≤ _), (by decide : 37 + 5 ≤ _)⟩)
    dsimp only [Pt.U, Pt.locs, Pt.cells, Pt.slots] at X201 l201 y201 z201 st201 hQ201
    subst l201 y201 z201
    obtain ⟨r_202, wr_203, kR_204, rfl, N201q, K201, p201_0, p201_1, p201_2, p201_3, p201_4⟩ := hQ201
    have N205 := Fr.app N190 N201q
    have gr_202 : T186.heap.size ≤ r_202 := p201_0
    have gwr_203 : T186.heap.size ≤ wr_203 := p201_1
    have zzK201 : T186.heap.size ≤ T201.heap.size := K201.1
    have oo206 : Old Z n0 T201.heap := oo191.keep K201 all0
    have kt207 : Keep h0 T201.heap [] := kt192.trans K201 all0
    refine own_b T201 m 186 #[vi p0, vi p1, vi p2, vi p3, vi p4, vi 1, vi w0, vi w1, vi w2, vi w3, vr b108, vi e0_, vr b122, vr b156, un] [.ref r_202] (fun _ k_ => st201.trans k_) ?_
    refine own_b T201 m 190 #[vi p0, vi p1, vi p2, vi p3, vi p4, vi 1, vi w0, vi w1, vi w2, vi w3, vr b108, vi e0_, vr b122, vr b156, vr r_202] [.ref b156] (fun _ k_ => XS.astore X201.here hx rfl (hb hby at_186) rfl rfl (l' := #[vi p0, vi p1, vi p2, vi p3, vi p4, vi 1, vi w0, vi w1, vi w2, vi w3, vr b108, vi e0_, vr b122, vr b156, vr r_202]) rfl (XS.aload X201.here hx rfl (hb hby at_188) rfl rfl k_)) ?_
    have f208 : Exa Z T201.heap b156 cn0 := (f193.keep K201)
    have f209 : Fld Z T201.heap b156 cn0 "workplaces" "[I" (.ref wp_188) := (p186_4.keep K201 nin0)
    have f210 : Arv Z T201.heap wp_188 kW_189 .int (1 : Int32) [.int 0] (.int 0) := (p186_5.keep K201 nin0)
    obtain ⟨cq211, kq211, q211a, q211b, q211c⟩ := isOf hZ rfl f208
    obtain ⟨_, _, ⟨T211, L211, k211, n211⟩, -, X211, ⟨Lc211, hQ211, l211, y211, z211⟩, st211⟩ := X201.virtualBack hx (y := (⟨cn0, "getAssignedCount", "()I"⟩ : MethodName)) (z := (⟨cn0, "getAssignedCount", "()I"⟩ : MethodName)) hown (mvT hZ (ww hw 295 rfl)) (mvT hZ (ww hw 296 rfl)) (notFace_of_selects (args := #[]) (mvT hZ (ww hw 298 rfl))) (mvT hZ (ww hw 298 rfl)) (mvT hZ (ww hw 297 rfl)) (by decide) (backOf (W := 0) (rmC0_1 l Z a0 hw [] wC cC wD kD mA mL mR GS b156 wp_188 kW_189 T201.heap n0 (by omega) oo206 f208 f209 f210) hZ (ww hw 299 rfl) (ww hw 103 rfl) (by decide) (by decide)) q211a q211c (g := (mkF m 190 #[vi p0, vi p1, vi p2, vi p3, vi p4, vi 1, vi w0, vi w1, vi w2, vi w3, vr b108, vi e0_, vr b122, vr b156, vr r_202] [.ref b156])) rfl (by rw [hml]; rfl) (Steps.refl _) (argsL := []) (rest := []) (lenOf own_pd_5 rfl) rfl (by show 2 * 0 + _ ≤ _; exact Nat.le_of_eq rfl) (hb hby at_190) (fun _ _ => ⟨rfl, rfl, (by decide : 15 + 0 ≤ _), (by decide : 42 + 0 ≤ _)⟩)
    dsimp only [Pt.U, Pt.locs, Pt.cells, Pt.slots] at X211 l211 y211 z211 st211 hQ211
    subst l211 y211 z211
    obtain ⟨rfl, N211q, e211⟩ := hQ211
    have N212 := Fr.app N205 N211q
    refine own_b T211 m 193 #[vi p0, vi p1, vi p2, vi p3, vi p4, vi 1, vi w0, vi w1, vi w2, vi w3, vr b108, vi e0_, vr b122, vr b156, vr r_202] [.int 0] (fun _ k_ => st211.trans k_) ?_
    refine own_b T211 m 198 #[vi p0, vi p1, vi p2, vi p3, vi p4, vi 1, vi w0, vi w1, vi w2, vi w3, vr b108, vi e0_, vr b122, vr b156, vr r_202] [.ref r_202] (fun _ k_ => XS.ifNo X211.here hx rfl (hb hby at_193) rfl (XT.i0_ne_f (by decide)) (XS.aload X211.here hx rfl (hb hby at_196) rfl rfl k_)) ?_
    obtain ⟨cq213, kq213, q213a, q213b, q213c⟩ := isOf hZ e211 p201_2
    obtain ⟨_, _, ⟨T213, L213, k213, n213⟩, -, X213, ⟨Lc213, hQ213, l213, y213, z213⟩, st213⟩ := X211.virtualBack hx (y := (⟨cn0, "getAssignedCount", "()I"⟩ : MethodName)) (z := (⟨cn0, "getAssignedCount", "()I"⟩ : MethodName)) hown (mvT hZ (ww hw 295 rfl)) (mvT hZ (ww hw 296 rfl)) (notFace_of_selects (args := #[]) (mvT hZ (ww hw 298 rfl))) (mvT hZ (ww hw 298 rfl)) (mvT hZ (ww hw 297 rfl)) (by decide) (backOf (W := 0) (rmCn_1 l Z a0 hw [] wC cC wD kD mA mL mR GS r_202 wr_203 kR_204 w0 T201.heap n0 (by omega) oo206 p201_2 p201_3 p201_4) hZ (ww hw 299 rfl) (ww hw 103 rfl) (by decide) (by decide)) q213a q213c (g := (mkF m 198 #[vi p0, vi p1, vi p2, vi p3, vi p4, vi 1, vi w0, vi w1, vi w2, vi w3, vr b108, vi e0_, vr b122, vr b156, vr r_202] [.ref r_202])) rfl (by rw [hml]; rfl) (Steps.refl _) (argsL := []) (rest := []) (lenOf own_pd_5 rfl) rfl (by show 2 * 0 + _ ≤ _; exact Nat.le_of_eq rfl) (hb hby at_198) (fun _ _ => ⟨rfl, e211, (by decide : 15 + 0 ≤ _), (by decide : 42 + 0 ≤ _)⟩)
    dsimp only [Pt.U, Pt.locs, Pt.cells, Pt.slots] at X213 l213 y213 z213 st213 hQ213
    subst l213 y213 z213
    obtain ⟨rfl, N213q, e213⟩ := hQ213
    have N214 := Fr.app N212 N213q
    refine own_b T213 m 201 #[vi p0, vi p1, vi p2, vi p3, vi p4, vi 1, vi w0, vi w1, vi w2, vi w3, vr b108, vi e0_, vr b122, vr b156, vr r_202] [(.int (if w0 = (0 : Int32) then (0 : Int32) else (1 : Int32)))] (fun _ k_ => st213.trans k_) ?_
    refine own_b T213 m 211 #[vi p0, vi p1, vi p2, vi p3, vi p4, vi 1, vi w0, vi w1, vi w2, vi w3, vr b108, vi e0_, vr b122, vr b156, vr r_202] [.int 1] (fun _ k_ => XS.iload X213.here hx rfl (hb hby at_201) rfl (XS.icmpNo X213.here hx rfl (hb hby at_203) rfl (XT.ii_ne_f (by simp only [hj121]; by_cases u0 : w0 = (0 : Int32) <;> simp +decide [u0])) (XS.iconst X213.here hx rfl (hb hby at_206) (XS.goto X213.here hx rfl (pc0 := 207) (pc' := 211) rfl (hb hby at_207) (by decide) (by decide) k_)))) ?_
    have hn215 : nar .boolean (1 : Int32) = (1 : Int32) := rfl
    obtain ⟨fs216, hr216, hrun216, hended216, hW216, hsame216⟩ := X213.leave (v := some (.int (nar .boolean (1 : Int32)))) (fun h => by rw [Bd.returns] at h; cases h)
    refine ⟨_, _, retN X213 hx (t := .boolean) Bd.returns (by simp) (hb hby at_211) hr216, hrun216, hended216, _, _, rfl, ?_, ⟨_, rfl⟩, hW216, hsame216.mono (by decide) (by decide)⟩
    show Q_rm0 Z wC cC wD kD mA mL mR p0 p1 p2 p3 p4 h0 n0 _ T213.heap _
    exact ⟨(congrArg (fun z => some (Value.int z)) hn215), N214⟩
   refine own_b T114 m 96 #[vi p0, vi p1, vi p2, vi p3, vi p4, vi 1, vi w0, vi w1, vi w2, vi w3, vr b108, vi 0, un, un, un] [.int w0] (fun _ k_ => XS.iload X114.here hx rfl (hb hby at_94) rfl k_) ?_
   by_cases hc217 : w0 = (0 : Int32)
   ·refine own_b T114 m 102 #[vi p0, vi p1, vi p2, vi p3, vi p4, vi 1, vi w0, vi w1, vi w2, vi w3, vr b108, vi 0, un, un, un] [] (fun _ k_ => XS.ifYes X114.here hx rfl (pc0 := 96) (pc' := 102) rfl (hb hby at_96) rfl (XT.i0_eq_t hc217) (by decide) (by decide) k_) ?_
    exact J120 T114 _  X114 e114  N119 (0 : Int32)  (by simp [hc217])
   ·refine own_b T114 m 102 #[vi p0, vi p1, vi p2, vi p3, vi p4, vi 1, vi w0, vi w1, vi w2, vi w3, vr b108, .val (.int ((0 : Int32) + (1 : Int32))), un, un, un] [] (fun _ k_ => XS.ifNo X114.here hx rfl (hb hby at_96) rfl (XT.i0_eq_f hc217) (XS.iinc X114.here hx rfl (hb hby at_99) rfl rfl k_)) ?_
    rw [show ((0 : Int32) + (1 : Int32)) = (1 : Int32) from by decide]
    exact J120 T114 _  X114 e114  N119 (1 : Int32)  (by simp [hc217])
  ·refine own_b T5 m 35 #[vi p0, vi p1, vi p2, vi p3, vi p4, vi 2, vi w0, vi w1, vi w2, vi w3, un, un, un, un, un] [.int 2] (fun _ k_ => XS.iload X5.here hx rfl (hb hby at_33) rfl k_) ?_
   obtain ⟨T218, h218, k218, X218, e218, E218, A218, EX218, st218⟩ := newPE X5 hx hZ (ww hw 1 rfl) e5 (g := (mkF m 35 #[vi p0, vi p1, vi p2, vi p3, vi p4, vi 2, vi w0, vi w1, vi w2, vi w3, un, un, un, un, un] [.int 2])) rfl (hb hby at_35) rfl (by decide) (cap := 2) (by decide) (by decide) (by decide) (by decide) (ad := "[I") rfl
   obtain ⟨bz218, gz218⟩ : ∃ z, z = h0.size := ⟨_, rfl⟩
   rw [← gz218] at EX218
   obtain ⟨b218, g218⟩ : ∃ z, z = h0.size := ⟨_, rfl⟩
   rw [← g218] at A218 st218
   have K219 : Keep h0 h218 [] := own_kext E218
   have zzK219 : h0.size ≤ h218.size := K219.1
   have oo220 : Old Z n0 h218 := O0.keep K219 all0
   have kt221 : Keep h0 h218 [] := KT0.trans K219 all0
   have lab218 : b218 < h218.size := A218.lt
   have f222 : Exa Z h218 b218 "[I" := by rw [g218, ← gz218]; exact EX218
   have f223 : Arv Z h218 b218 k218 .int (2 : Int32) [.int 0, .int 0] (.int 0) := (Arv.new A218 (by decide)).pad (pad_rep [] (.int 0) 2)
   refine own_b T218 m 37 #[vi p0, vi p1, vi p2, vi p3, vi p4, vi 2, vi w0, vi w1, vi w2, vi w3, un, un, un, un, un] [.ref b218] st218 ?_
   refine own_b T218 m 49 #[vi p0, vi p1, vi p2, vi p3, vi p4, vi 2, vi w0, vi w1, vi w2, vi w3, vr b218, un, un, un, un] [.int w0, .int 0, .ref b218] (fun _ k_ => XS.astore X218.here hx rfl (hb hby at_37) rfl rfl (l' := #[vi p0, vi p1, vi p2, vi p3, vi p4, vi 2, vi w0, vi w1, vi w2, vi w3, vr b218, un, un, un, un]) rfl (XS.iload X218.here hx rfl (hb hby at_39) rfl (XS.ifNo X218.here hx rfl (hb hby at_41) rfl (XT.i0_le_f (by decide)) (XS.aload X218.here hx rfl (hb hby at_44) rfl rfl (XS.iconst X218.here hx rfl (hb hby at_46) (XS.iload X218.here hx rfl (hb hby at_47) rfl k_)))))) ?_
   obtain ⟨cl224, Ar224, q224, S224, M224, H224, G224⟩ := id f223
   have hin224 : ¬ ((0 : Int32) < 0 ∨ cl224.slots.size ≤ ((0 : Int32)).toNatClampNeg) := inb_of S224 ⟨by decide, by decide⟩
   obtain ⟨T224, h224, X224, e224, W224, st224⟩ := stI X218 hx hZ e218 Ar224 (j := (0 : Int32)) hin224 (g := (mkF m 49 #[vi p0, vi p1, vi p2, vi p3, vi p4, vi 2, vi w0, vi w1, vi w2, vi w3, vr b218, un, un, un, un] [.int w0, .int 0, .ref b218])) rfl rfl (hb hby at_49)
   have K225 : Keep h218 h224 [b218] := Keep.of_wr W224
   have zzK225 : h218.size ≤ h224.size := K225.1
   have oo226 : Old Z n0 h224 := oo220.keep K225 (allS (by omega : n0 ≤ b218) all0)
   have kt227 : Keep h0 h224 [] := kt221.trans K225 (allS (Or.inr (by omega : h0.size ≤ b218)) all0)
   have f228 : Arv Z h224 b218 k218 .int (2 : Int32) [.int w0, .int 0] (.int 0) := Arv.set Ar224 q224 S224 M224 H224 G224 rfl W224 0 rfl (Nat.le_of_ble_eq_true rfl)
   have N229 := Fr.snoc X224 N5 (by omega : n0 ≤ b218)
   refine own_b T224 m 50 #[vi p0, vi p1, vi p2, vi p3, vi p4, vi 2, vi w0, vi w1, vi w2, vi w3, vr b218, un, un, un, un] [] st224 ?_
   refine own_b T224 m 61 #[vi p0, vi p1, vi p2, vi p3, vi p4, vi 2, vi w0, vi w1, vi w2, vi w3, vr b218, un, un, un, un] [.int w1, .int 1, .ref b218] (fun _ k_ => XS.iload X224.here hx rfl (hb hby at_50) rfl (XS.iconst X224.here hx rfl (hb hby at_52) (XS.icmpNo X224.here hx rfl (hb hby at_53) rfl (XT.ii_le_f (by decide)) (XS.aload X224.here hx rfl (hb hby at_56) rfl rfl (XS.iconst X224.here hx rfl (hb hby at_58) (XS.iload X224.here hx rfl (hb hby at_59) rfl k_)))))) ?_
   obtain ⟨cl230, Ar230, q230, S230, M230, H230, G230⟩ := id f228
   have hin230 : ¬ ((1 : Int32) < 0 ∨ cl230.slots.size ≤ ((1 : Int32)).toNatClampNeg) := inb_of S230 ⟨by decide, by decide⟩
   obtain ⟨T230, h230, X230, e230, W230, st230⟩ := stI X224 hx hZ e224 Ar230 (j := (1 : Int32)) hin230 (g := (mkF m 61 #[vi p0, vi p1, vi p2, vi p3, vi p4, vi 2, vi w0, vi w1, vi w2, vi w3, vr b218, un, un, un, un] [.int w1, .int 1, .ref b218])) rfl rfl (hb hby at_61)
   have K231 : Keep h224 h230 [b218] := Keep.of_wr W230
   have zzK231 : h224.size ≤ h230.size := K231.1
   have oo232 : Old Z n0 h230 := oo226.keep K231 (allS (by omega : n0 ≤ b218) all0)
   have kt233 : Keep h0 h230 [] := kt227.trans K231 (allS (Or.inr (by omega : h0.size ≤ b218)) all0)
   have f234 : Arv Z h230 b218 k218 .int (2 : Int32) [.int w0, .int w1] (.int 0) := Arv.set Ar230 q230 S230 M230 H230 G230 rfl W230 1 rfl (Nat.le_of_ble_eq_true rfl)
   have N235 := Fr.snoc X230 N229 (by omega : n0 ≤ b218)
   refine own_b T230 m 62 #[vi p0, vi p1, vi p2, vi p3, vi p4, vi 2, vi w0, vi w1, vi w2, vi w3, vr b218, un, un, un, un] [] st230 ?_
   refine own_b T230 m 89 #[vi p0, vi p1, vi p2, vi p3, vi p4, vi 2, vi w0, vi w1, vi w2, vi w3, vr b218, vi 0, un, un, un] [] (fun _ k_ => XS.iload X230.here hx rfl (hb hby at_62) rfl (XS.iconst X230.here hx rfl (hb hby at_64) (XS.icmpYes X230.here hx rfl (pc0 := 65) (pc' := 74) rfl (hb hby at_65) rfl (XT.ii_le_t (by decide)) (by decide) (by decide) (XS.iload X230.here hx rfl (hb hby at_74) rfl (XS.iconst X230.here hx rfl (hb hby at_76) (XS.icmpYes X230.here hx rfl (pc0 := 77) (pc' := 86) rfl (hb hby at_77) rfl (XT.ii_le_t (by decide)) (by decide) (by decide) (XS.iconst X230.here hx rfl (hb hby at_86) (XS.istore X230.here hx rfl (hb hby at_87) rfl rfl k_)))))))) ?_
   refine own_b T230 m 94 #[vi p0, vi p1, vi p2, vi p3, vi p4, vi 2, vi w0, vi w1, vi w2, vi w3, vr b218, vi 0, un, un, un] [] (fun _ k_ => XS.iload X230.here hx rfl (hb hby at_89) rfl (XS.ifNo X230.here hx rfl (hb hby at_91) rfl (XT.i0_le_f (by decide)) k_)) ?_
   have J236 : ∀ (T236 : State) (lo236 : List Loc) (X236 : Stand p l e room_1 s m #[.int p0, .int p1, .int p2, .int p3, .int p4] below meth c T236 lo236 1 2) (e236 : T236.heap = h230) (N236 : Fr n0 lo236) (e0_ : Int32), e0_ = (if w0 = (0 : Int32) then (0 : Int32) else ((0 : Int32) + (1 : Int32))) → OGoal p e below (fun oo_ UV_ => ∃ vv_ LL_, oo_ = .returned vv_ ∧ Q_rm0 Z wC cC wD kD mA mL mR p0 p1 p2 p3 p4 h0 n0 vv_ UV_.heap LL_ ∧ FrameEnd s oo_ UV_ LL_ 15 57) T236 (mkF m 102 #[.val (.int p0), .val (.int p1), .val (.int p2), .val (.int p3), .val (.int p4), .val (.int 2), .val (.int w0), .val (.int w1), .val (.int w2), .val (.int w3), .val (.ref b218), .val (.int e0_), .unset, .unset, .unset] []) := by
    intro T236 lo236 X236 e236 N236 e0_  hj237
    refine own_b T236 m 108 #[vi p0, vi p1, vi p2, vi p3, vi p4, vi 2, vi w0, vi w1, vi w2, vi w3, vr b218, vi e0_, un, un, un] [] (fun _ k_ => XS.iload X236.here hx rfl (hb hby at_102) rfl (XS.iconst X236.here hx rfl (hb hby at_104) (XS.icmpNo X236.here hx rfl (hb hby at_105) rfl (XT.ii_le_f (by decide)) k_))) ?_
    have J238 : ∀ (T238 : State) (lo238 : List Loc) (X238 : Stand p l e room_1 s m #[.int p0, .int p1, .int p2, .int p3, .int p4] below meth c T238 lo238 1 2) (e238 : T238.heap = h230) (N238 : Fr n0 lo238) (e1_ : Int32), e1_ = (if w1 = (0 : Int32) then e0_ else (e0_ + (1 : Int32))) → OGoal p e below (fun oo_ UV_ => ∃ vv_ LL_, oo_ = .returned vv_ ∧ Q_rm0 Z wC cC wD kD mA mL mR p0 p1 p2 p3 p4 h0 n0 vv_ UV_.heap LL_ ∧ FrameEnd s oo_ UV_ LL_ 15 57) T238 (mkF m 116 #[.val (.int p0), .val (.int p1), .val (.int p2), .val (.int p3), .val (.int p4), .val (.int 2), .val (.int w0), .val (.int w1), .val (.int w2), .val (.int w3), .val (.ref b218), .val (.int e1_), .unset, .unset, .unset] []) := by
     intro T238 lo238 X238 e238 N238 e1_  hj239
     refine own_b T238 m 144 #[vi p0, vi p1, vi p2, vi p3, vi p4, vi 2, vi w0, vi w1, vi w2, vi w3, vr b218, vi e1_, un, un, un] [] (fun _ k_ => XS.iload X238.here hx rfl (hb hby at_116) rfl (XS.iconst X238.here hx rfl (hb hby at_118) (XS.icmpYes X238.here hx rfl (pc0 := 119) (pc' := 130) rfl (hb hby at_119) rfl (XT.ii_le_t (by decide)) (by decide) (by decide) (XS.iload X238.here hx rfl (hb hby at_130) rfl (XS.iconst X238.here hx rfl (hb hby at_132) (XS.icmpYes X238.here hx rfl (pc0 := 133) (pc' := 144) rfl (hb hby at_133) rfl (XT.ii_le_t (by decide)) (by decide) (by decide) k_)))))) ?_
     obtain ⟨T240, h240, X240, e240, E240, A240, D240, -, st240⟩ := newO X238 hx hZ hown (ww hw 2 rfl) (ww hw 3 rfl) (ww hw 4 rfl) e238 (g := (mkF m 144 #[vi p0, vi p1, vi p2, vi p3, vi p4, vi 2, vi w0, vi w1, vi w2, vi w3, vr b218, vi e1_, un, un, un] [])) rfl (hb hby at_144) (by decide) (by decide)
     obtain ⟨b240, g240⟩ : ∃ z, z = h230.size := ⟨_, rfl⟩
     rw [← g240] at A240 D240 st240
     have K241 : Keep h230 h240 [] := own_kext E240
     have zzK241 : h230.size ≤ h240.size := K241.1
     have oo242 : Old Z n0 h240 := oo232.keep K241 all0
     have kt243 : Keep h0 h240 [] := kt233.trans K241 all0
     have lab240 : b240 < h240.size := A240.lt
     have f244 : Fld Z h240 b240 cn1 "zones" "Ljava/util/List;" .null := D240 (Or.inr (ww hw 36 rfl)) (ty := (.object "java/util/List")) (by decide)
     have f245 : Fld Z h240 b240 cn1 "counts" "[I" .null := D240 (Or.inr (ww hw 38 rfl)) (ty := (.array .int)) (by decide)
     have f246 : Fld Z h240 b240 cn1 "given" "[Z" .null := D240 (Or.inr (ww hw 41 rfl)) (ty := (.array .boolean)) (by decide)
     have f247 : Fld Z h240 b240 cn1 "total" "I" (.int 0) := D240 (Or.inl (ww hw 58 rfl)) (ty := .int) (by decide)
     refine own_b T240 m 147 #[vi p0, vi p1, vi p2, vi p3, vi p4, vi 2, vi w0, vi w1, vi w2, vi w3, vr b218, vi e1_, un, un, un] [.ref b240] st240 ?_
     refine own_b T240 m 149 #[vi p0, vi p1, vi p2, vi p3, vi p4, vi 2, vi w0, vi w1, vi w2, vi w3, vr b218, vi e1_, un, un, un] [.int 1, .ref b240, .ref b240] (fun _ k_ => XS.dup X240.here hx rfl (hb hby at_147) rfl rfl (XS.iconst X240.here hx rfl (hb hby at_148) k_)) ?_
     obtain ⟨_, _, ⟨T248, L248, k248, n248⟩, -, X248, ⟨Lc248, hQ248, l248, y248, z248⟩, st248⟩ := X240.specialBack hx (y := (⟨cn1, "<init>", "(I)V"⟩ : MethodName)) rfl hown (mvT hZ (ww hw 5 rfl)) (mvT hZ (ww hw 6 rfl)) (mvT hZ (ww hw 7 rfl)) (by decide) (backOf (W := 1) (rmZI l Z a0 hw [] wC cC wD kD mA mL mR GS b240 h240 n0 (by omega) oo242 A240 (by omega) f244 f245 f246 f247) hZ (ww hw 7 rfl) (ww hw 4 rfl) (by decide) (by decide)) (g := (mkF m 149 #[vi p0, vi p1, vi p2, vi p3, vi p4, vi 2, vi w0, vi w1, vi w2, vi w3, vr b218, vi e1_, un, un, un] [.int 1, .ref b240, .ref b240])) rfl (by rw [hml]; rfl) (Steps.refl _) (a := b240) (argsL := [.int 1]) (rest := [.ref b240]) (lenOf own_pd_6 rfl) rfl (by show 2 * 0 + _ ≤ _; exact Nat.le_of_eq rfl) (hb hby at_149) (fun _ _ => ⟨rfl, e240, (by decide : 2 + 3 ≤ _), (by decide : 6 + 7 ≤ _)⟩)
     dsimp only [Pt.U, Pt.locs, Pt.cells, Pt.slots] at X248 l248 y248 z248 st248 hQ248
     subst l248 y248 z248
     obtain ⟨al_249, ct_250, gv_251, kC_252, kG_253, rfl, N248q, K248, p248_0, p248_1, p248_2, p248_3, p248_4, p248_5, p248_6, p248_7, p248_8, p248_9, p248_10, p248_11, p248_12, p248_13, p248_14, p248_15⟩ := hQ248
     have N254 := Fr.app N238 N248q
     have gal_249 : h240.size ≤ al_249 := p248_0
     have gct_250 : h240.size ≤ ct_250 := p248_1
     have ggv_251 : h240.size ≤ gv_251 := p248_2
     have zzK248 : h240.size ≤ T248.heap.size := K248.1
     have oo255 : Old Z n0 T248.heap := oo242.keep K248 (allS (by omega : n0 ≤ b240) all0)
     have kt256 : Keep h0 T248.heap [] := kt243.trans K248 (allS (Or.inr (by omega : h0.size ≤ b240)) all0)
     refine own_b T248 m 152 #[vi p0, vi p1, vi p2, vi p3, vi p4, vi 2, vi w0, vi w1, vi w2, vi w3, vr b218, vi e1_, un, un, un] [.ref b240] (fun _ k_ => st248.trans k_) ?_
     refine own_b T248 m 159 #[vi p0, vi p1, vi p2, vi p3, vi p4, vi 2, vi w0, vi w1, vi w2, vi w3, vr b218, vi e1_, vr b240, un, un] [.int 2, .int 1, .ref b240] (fun _ k_ => XS.astore X248.here hx rfl (hb hby at_152) rfl rfl (l' := #[vi p0, vi p1, vi p2, vi p3, vi p4, vi 2, vi w0, vi w1, vi w2, vi w3, vr b218, vi e1_, vr b240, un, un]) rfl (XS.aload X248.here hx rfl (hb hby at_154) rfl rfl (XS.iconst X248.here hx rfl (hb hby at_156) (XS.iload X248.here hx rfl (hb hby at_157) rfl k_)))) ?_
     have f257 : Exa Z T248.heap b240 cn1 := (A240.keep K248)
     have la258 : @LT.lt Nat instLTNat ct_250 T248.heap.size := p248_11.lt
     have la259 : @LT.lt Nat instLTNat gv_251 T248.heap.size := p248_12.lt
     have ne260 : @Ne Nat ct_250 gv_251 := by omega
     have la261 : @LT.lt Nat instLTNat al_249 T248.heap.size := p248_7.lt
     have ne262 : @Ne Nat al_249 gv_251 := by omega
     have ne263 : @Ne Nat al_249 ct_250 := by omega
     have ne264 : @Ne Nat b240 al_249 := by omega
     have ne265 : @Ne Nat b240 ct_250 := by omega
     have ne266 : @Ne Nat b240 gv_251 := by omega
     obtain ⟨cq267, kq267, q267a, q267b, q267c⟩ := isOf hZ rfl f257
     obtain ⟨_, _, ⟨T267, L267, k267, n267⟩, -, X267, ⟨Lc267, hQ267, l267, y267, z267⟩, st267⟩ := X248.virtualBack hx (y := (⟨cn1, "add", "(II)V"⟩ : MethodName)) (z := (⟨cn1, "add", "(II)V"⟩ : MethodName)) hown (mvT hZ (ww hw 42 rfl)) (mvT hZ (ww hw 43 rfl)) (notFace_of_selects (args := #[]) (mvT hZ (ww hw 45 rfl))) (mvT hZ (ww hw 45 rfl)) (mvT hZ (ww hw 44 rfl)) (by decide) (backOf (W := 0) (rmZA l Z a0 hw [] wC cC wD kD mA mL mR GS b240 al_249 ct_250 gv_251 kC_252 kG_253 (2 : Int32) T248.heap n0 (by omega) oo255 f257 (by omega) (by omega) (by omega) (by omega) p248_3 p248_4 p248_5 p248_6 p248_7 p248_8 p248_9 p248_10 p248_11 p248_12 ne260 ne262 ne263 ne264 ne265 ne266 (by decide) (by decide)) hZ (ww hw 46 rfl) (ww hw 4 rfl) (by decide) (by decide)) q267a q267c (g := (mkF m 159 #[vi p0, vi p1, vi p2, vi p3, vi p4, vi 2, vi w0, vi w1, vi w2, vi w3, vr b218, vi e1_, vr b240, un, un] [.int 2, .int 1, .ref b240])) rfl (by rw [hml]; rfl) (Steps.refl _) (argsL := [.int 1, .int 2]) (rest := []) (lenOf own_pd_23 rfl) rfl (by show 2 * 0 + _ ≤ _; exact Nat.le_of_eq rfl) (hb hby at_159) (fun _ _ => ⟨rfl, rfl, (by decide : 5 + 1 ≤ _), (by decide : 13 + 10 ≤ _)⟩)
     dsimp only [Pt.U, Pt.locs, Pt.cells, Pt.slots] at X267 l267 y267 z267 st267 hQ267
     subst l267 y267 z267
     obtain ⟨t_268, kE_269, b_270, rfl, N267q, K267, p267_0, p267_1, p267_2, p267_3, p267_4, p267_5, p267_6, p267_7, p267_8, p267_9, p267_10⟩ := hQ267
     have N271 := Fr.app N254 N267q
     have gt_268 : T248.heap.size ≤ t_268 := p267_0
     have zzK267 : T248.heap.size ≤ T267.heap.size := K267.1
     have oo272 : Old Z n0 T267.heap := oo255.keep K267 (allS (by omega : n0 ≤ b240) (allS (by omega : n0 ≤ al_249) (allS (by omega : n0 ≤ ct_250) (allS (by omega : n0 ≤ gv_251) all0))))
     have kt273 : Keep h0 T267.heap [] := kt256.trans K267 (allS (Or.inr (by omega : h0.size ≤ b240)) (allS (Or.inr (by omega : h0.size ≤ al_249)) (allS (Or.inr (by omega : h0.size ≤ ct_250)) (allS (Or.inr (by omega : h0.size ≤ gv_251)) all0))))
     refine own_b T267 m 162 #[vi p0, vi p1, vi p2, vi p3, vi p4, vi 2, vi w0, vi w1, vi w2, vi w3, vr b218, vi e1_, vr b240, un, un] [] (fun _ k_ => st267.trans k_) ?_
     obtain ⟨T274, h274, X274, e274, E274, A274, D274, -, st274⟩ := newO X267 hx hZ hown (ww hw 101 rfl) (ww hw 102 rfl) (ww hw 103 rfl) rfl (g := (mkF m 162 #[vi p0, vi p1, vi p2, vi p3, vi p4, vi 2, vi w0, vi w1, vi w2, vi w3, vr b218, vi e1_, vr b240, un, un] [])) rfl (hb hby at_162) (by decide) (by decide)
     obtain ⟨b274, g274⟩ : ∃ z, z = T267.heap.size := ⟨_, rfl⟩
     rw [← g274] at A274 D274 st274
     have K275 : Keep T267.heap h274 [] := own_kext E274
     have zzK275 : T267.heap.size ≤ h274.size := K275.1
     have oo276 : Old Z n0 h274 := oo272.keep K275 all0
     have kt277 : Keep h0 h274 [] := kt273.trans K275 all0
     have lab274 : b274 < h274.size := A274.lt
     have f278 : Fld Z h274 b274 cn0 "jobs" cn4 .null := D274 (Or.inr (ww hw 273 rfl)) (ty := (.object cn1)) (by decide)
     have f279 : Fld Z h274 b274 cn0 "homeZones" "[I" .null := D274 (Or.inr (ww hw 275 rfl)) (ty := (.array .int)) (by decide)
     have f280 : Fld Z h274 b274 cn0 "departures" "[I" .null := D274 (Or.inr (ww hw 277 rfl)) (ty := (.array .int)) (by decide)
     have f281 : Fld Z h274 b274 cn0 "workplaces" "[I" .null := D274 (Or.inr (ww hw 279 rfl)) (ty := (.array .int)) (by decide)
     refine own_b T274 m 165 #[vi p0, vi p1, vi p2, vi p3, vi p4, vi 2, vi w0, vi w1, vi w2, vi w3, vr b218, vi e1_, vr b240, un, un] [.ref b274] st274 ?_
     refine own_b T274 m 172 #[vi p0, vi p1, vi p2, vi p3, vi p4, vi 2, vi w0, vi w1, vi w2, vi w3, vr b218, vi e1_, vr b240, un, un] [.int 2, .ref b240, .ref b240, .ref b274, .ref b274] (fun _ k_ => XS.dup X274.here hx rfl (hb hby at_165) rfl rfl (XS.aload X274.here hx rfl (hb hby at_166) rfl rfl (XS.aload X274.here hx rfl (hb hby at_168) rfl rfl (XS.iload X274.here hx rfl (hb hby at_170) rfl k_)))) ?_
     obtain ⟨T282, h282, k282, X282, e282, E282, A282, st282⟩ := newP X274 hx hZ (ww hw 1 rfl) e274 (g := (mkF m 172 #[vi p0, vi p1, vi p2, vi p3, vi p4, vi 2, vi w0, vi w1, vi w2, vi w3, vr b218, vi e1_, vr b240, un, un] [.int 2, .ref b240, .ref b240, .ref b274, .ref b274])) rfl (hb hby at_172) rfl (by decide) (cap := 2) (by decide) (by decide) (by decide) (by decide)
     obtain ⟨b282, g282⟩ : ∃ z, z = h274.size := ⟨_, rfl⟩
     rw [← g282] at A282 st282
     have K283 : Keep h274 h282 [] := own_kext E282
     have zzK283 : h274.size ≤ h282.size := K283.1
     have oo284 : Old Z n0 h282 := oo276.keep K283 all0
     have kt285 : Keep h0 h282 [] := kt277.trans K283 all0
     have lab282 : b282 < h282.size := A282.lt
     have f286 : Arv Z h282 b282 k282 .int (2 : Int32) [.int 0, .int 0] (.int 0) := (Arv.new A282 (by decide)).pad (pad_rep [] (.int 0) 2)
     refine own_b T282 m 174 #[vi p0, vi p1, vi p2, vi p3, vi p4, vi 2, vi w0, vi w1, vi w2, vi w3, vr b218, vi e1_, vr b240, un, un] [.ref b282, .ref b240, .ref b240, .ref b274, .ref b274] st282 ?_
     have f287 : Exa Z h282 b274 cn0 := (A274.keep K283)
     have f288 : Fld Z h282 b274 cn0 "jobs" cn4 .null := (f278.keep K283 nin0)
     have f289 : Fld Z h282 b274 cn0 "homeZones" "[I" .null := (f279.keep K283 nin0)
     have f290 : Fld Z h282 b274 cn0 "departures" "[I" .null := (f280.keep K283 nin0)
     have f291 : Fld Z h282 b274 cn0 "workplaces" "[I" .null := (f281.keep K283 nin0)
     have f292 : Exa Z h282 b240 cn1 := (((f257.keep K267).keep K275).keep K283)
     have f293 : Fld Z h282 b240 cn1 "total" "I" (.int 2) := ((p267_3.keep K275 nin0).keep K283 nin0)
     have f294 : Fld Z h282 b240 cn1 "zones" "Ljava/util/List;" (.ref al_249) := ((p267_1.keep K275 nin0).keep K283 nin0)
     have f295 : Fld Z h282 b240 cn1 "counts" "[I" (.ref ct_250) := ((p267_2.keep K275 nin0).keep K283 nin0)
     have f296 : Arv Z h282 ct_250 kC_252 .int (2 : Int32) [.int 0, .int 2] (.int 0) := ((p267_10.keep K275 nin0).keep K283 nin0)
     have f297 : Exa Z h282 al_249 cn2 := (((p248_7.keep K267).keep K275).keep K283)
     have f298 : Fld Z h282 al_249 "java/util/AbstractList" "modCount" "I" (.int 1) := ((p267_4.keep K275 nin0).keep K283 nin0)
     have f299 : Fld Z h282 al_249 cn2 "size" "I" (.int 1) := ((p267_6.keep K275 nin0).keep K283 nin0)
     have f300 : Fld Z h282 al_249 cn2 "elementData" "[Ljava/lang/Object;" (.ref t_268) := ((p267_5.keep K275 nin0).keep K283 nin0)
     have f301 : Arv Z h282 t_268 kE_269 (.object "java/lang/Object") (10 : Int32) [.ref b_270, .null, .null, .null, .null, .null, .null, .null, .null, .null] .null := ((p267_7.keep K275 nin0).keep K283 nin0)
     have f302 : Exa Z h282 b_270 "java/lang/Integer" := ((p267_8.keep K275).keep K283)
     have f303 : Fld Z h282 b_270 "java/lang/Integer" "value" "I" (.int 1) := ((p267_9.keep K275 nin0).keep K283 nin0)
     obtain ⟨_, _, ⟨T304, L304, k304, n304⟩, -, X304, ⟨Lc304, hQ304, l304, y304, z304⟩, st304⟩ := X282.specialBack hx (y := (⟨cn0, "<init>", cn6⟩ : MethodName)) rfl hown (mvT hZ (ww hw 104 rfl)) (mvT hZ (ww hw 105 rfl)) (mvT hZ (ww hw 106 rfl)) (by decide) (backOf (W := 1) (rmWI3_2 l Z a0 hw [] wC cC wD kD mA mL mR GS b274 b282 k282 b240 al_249 ct_250 kC_252 t_268 kE_269 b_270 h282 n0 (by omega) oo284 f287 (by omega) f288 f289 f290 f291 f286 f292 f293 f294 f295 f296 f297 f298 f299 f300 f301 f302 f303) hZ (ww hw 106 rfl) (ww hw 103 rfl) (by decide) (by decide)) (g := (mkF m 174 #[vi p0, vi p1, vi p2, vi p3, vi p4, vi 2, vi w0, vi w1, vi w2, vi w3, vr b218, vi e1_, vr b240, un, un] [.ref b282, .ref b240, .ref b240, .ref b274, .ref b274])) rfl (by rw [hml]; rfl) (Steps.refl _) (a := b274) (argsL := [.ref b240, .ref b240, .ref b282]) (rest := [.ref b274]) (lenOf own_pd_24 rfl) rfl (by show 2 * 0 + _ ≤ _; exact Nat.le_of_eq rfl) (hb hby at_174) (fun _ _ => ⟨rfl, e282, (by decide : 8 + 5 ≤ _), (by decide : 29 + 12 ≤ _)⟩)
     dsimp only [Pt.U, Pt.locs, Pt.cells, Pt.slots] at X304 l304 y304 z304 st304 hQ304
     subst l304 y304 z304
     obtain ⟨h_305, wp_306, kW_307, rfl, N304q, K304, p304_0, p304_1, p304_2, p304_3, p304_4, p304_5⟩ := hQ304
     have N308 := Fr.app N271 N304q
     have gwp_306 : h282.size ≤ wp_306 := p304_0
     have zzK304 : h282.size ≤ T304.heap.size := K304.1
     have oo309 : Old Z n0 T304.heap := oo284.keep K304 (allS (by omega : n0 ≤ b274) all0)
     have kt310 : Keep h0 T304.heap [] := kt285.trans K304 (allS (Or.inr (by omega : h0.size ≤ b274)) all0)
     refine own_b T304 m 177 #[vi p0, vi p1, vi p2, vi p3, vi p4, vi 2, vi w0, vi w1, vi w2, vi w3, vr b218, vi e1_, vr b240, un, un] [.ref b274] (fun _ k_ => st304.trans k_) ?_
     refine own_b T304 m 183 #[vi p0, vi p1, vi p2, vi p3, vi p4, vi 2, vi w0, vi w1, vi w2, vi w3, vr b218, vi e1_, vr b240, vr b274, un] [.ref b218, .ref b274] (fun _ k_ => XS.astore X304.here hx rfl (hb hby at_177) rfl rfl (l' := #[vi p0, vi p1, vi p2, vi p3, vi p4, vi 2, vi w0, vi w1, vi w2, vi w3, vr b218, vi e1_, vr b240, vr b274, un]) rfl (XS.aload X304.here hx rfl (hb hby at_179) rfl rfl (XS.aload X304.here hx rfl (hb hby at_181) rfl rfl k_))) ?_
     have f311 : Exa Z T304.heap b274 cn0 := (f287.keep K304)
     have f312 : Exa Z T304.heap b218 "[I" := ((((((((f222.keep K225).keep K231).keep K241).keep K248).keep K267).keep K275).keep K283).keep K304)
     have ne313 : @Ne Nat b218 b240 := by omega
     have ne314 : @Ne Nat b218 gv_251 := by omega
     have ne315 : @Ne Nat b218 ct_250 := by omega
     have ne316 : @Ne Nat b218 al_249 := by omega
     have ne317 : @Ne Nat b218 b274 := by omega
     have f318 : Arv Z T304.heap b218 k218 .int (2 : Int32) [.int w0, .int w1] (.int 0) := ((((((f234.keep K241 nin0).keep K248 (ninS ne313 nin0)).keep K267 (ninS ne313 (ninS ne316 (ninS ne315 (ninS ne314 nin0))))).keep K275 nin0).keep K283 nin0).keep K304 (ninS ne317 nin0))
     obtain ⟨cq319, kq319, q319a, q319b, q319c⟩ := isOf hZ rfl f311
     obtain ⟨_, _, ⟨T319, L319, k319, n319⟩, -, X319, ⟨Lc319, hQ319, l319, y319, z319⟩, st319⟩ := X304.virtualBack hx (y := (⟨cn0, "withWorkplaces", "([I)Lcom/example/even_commute/evencommute/demand/Workers;"⟩ : MethodName)) (z := (⟨cn0, "withWorkplaces", "([I)Lcom/example/even_commute/evencommute/demand/Workers;"⟩ : MethodName)) hown (mvT hZ (ww hw 280 rfl)) (mvT hZ (ww hw 281 rfl)) (notFace_of_selects (args := #[]) (mvT hZ (ww hw 283 rfl))) (mvT hZ (ww hw 283 rfl)) (mvT hZ (ww hw 282 rfl)) (by decide) (backOf (W := 0) (rmWw_2 l Z a0 hw [] wC cC wD kD mA mL mR GS b274 b218 k218 b240 h_305 b282 wp_306 w0 w1 T304.heap n0 (by omega) oo309 f311 f312 f318 p304_1 p304_2 p304_3 p304_4) hZ (ww hw 284 rfl) (ww hw 103 rfl) (by decide) (by decide)) q319a q319c (g := (mkF m 183 #[vi p0, vi p1, vi p2, vi p3, vi p4, vi 2, vi w0, vi w1, vi w2, vi w3, vr b218, vi e1_, vr b240, vr b274, un] [.ref b218, .ref b274])) rfl (by rw [hml]; rfl) (Steps.refl _) (argsL := [.ref b218]) (rest := []) (lenOf own_pd_25 rfl) rfl (by show 2 * 0 + _ ≤ _; exact Nat.le_of_eq rfl) (hb hby at_183) (fun _ _ => ⟨rfl, rfl, (by decide : 13 + 2 ≤ _), (by decide : 41 + 6 ≤ _)⟩)
     dsimp only [Pt.U, Pt.locs, Pt.cells, Pt.slots] at X319 l319 y319 z319 st319 hQ319
     subst l319 y319 z319
     obtain ⟨r_320, wr_321, kR_322, rfl, N319q, K319, p319_0, p319_1, p319_2, p319_3, p319_4⟩ := hQ319
     have N323 := Fr.app N308 N319q
     have gr_320 : T304.heap.size ≤ r_320 := p319_0
     have gwr_321 : T304.heap.size ≤ wr_321 := p319_1
     have zzK319 : T304.heap.size ≤ T319.heap.size := K319.1
     have oo324 : Old Z n0 T319.heap := oo309.keep K319 all0
     have kt325 : Keep h0 T319.heap [] := kt310.trans K319 all0
     refine own_b T319 m 186 #[vi p0, vi p1, vi p2, vi p3, vi p4, vi 2, vi w0, vi w1, vi w2, vi w3, vr b218, vi e1_, vr b240, vr b274, un] [.ref r_320] (fun _ k_ => st319.trans k_) ?_
     refine own_b T319 m 190 #[vi p0, vi p1, vi p2, vi p3, vi p4, vi 2, vi w0, vi w1, vi w2, vi w3, vr b218, vi e1_, vr b240, vr b274, vr r_320] [.ref b274] (fun _ k_ => XS.astore X319.here hx rfl (hb hby at_186) rfl rfl (l' := #[vi p0, vi p1, vi p2, vi p3, vi p4, vi 2, vi w0, vi w1, vi w2, vi w3, vr b218, vi e1_, vr b240, vr b274, vr r_320]) rfl (XS.aload X319.here hx rfl (hb hby at_188) rfl rfl k_)) ?_
     have f326 : Exa Z T319.heap b274 cn0 := (f311.keep K319)
     have f327 : Fld Z T319.heap b274 cn0 "workplaces" "[I" (.ref wp_306) := (p304_4.keep K319 nin0)
     have f328 : Arv Z T319.heap wp_306 kW_307 .int (2 : Int32) [.int 0, .int 0] (.int 0) := (p304_5.keep K319 nin0)
     obtain ⟨cq329, kq329, q329a, q329b, q329c⟩ := isOf hZ rfl f326
     obtain ⟨_, _, ⟨T329, L329, k329, n329⟩, -, X329, ⟨Lc329, hQ329, l329, y329, z329⟩, st329⟩ := X319.virtualBack hx (y := (⟨cn0, "getAssignedCount", "()I"⟩ : MethodName)) (z := (⟨cn0, "getAssignedCount", "()I"⟩ : MethodName)) hown (mvT hZ (ww hw 295 rfl)) (mvT hZ (ww hw 296 rfl)) (notFace_of_selects (args := #[]) (mvT hZ (ww hw 298 rfl))) (mvT hZ (ww hw 298 rfl)) (mvT hZ (ww hw 297 rfl)) (by decide) (backOf (W := 0) (rmC0_2 l Z a0 hw [] wC cC wD kD mA mL mR GS b274 wp_306 kW_307 T319.heap n0 (by omega) oo324 f326 f327 f328) hZ (ww hw 299 rfl) (ww hw 103 rfl) (by decide) (by decide)) q329a q329c (g := (mkF m 190 #[vi p0, vi p1, vi p2, vi p3, vi p4, vi 2, vi w0, vi w1, vi w2, vi w3, vr b218, vi e1_, vr b240, vr b274, vr r_320] [.ref b274])) rfl (by rw [hml]; rfl) (Steps.refl _) (argsL := []) (rest := []) (lenOf own_pd_5 rfl) rfl (by show 2 * 0 + _ ≤ _; exact Nat.le_of_eq rfl) (hb hby at_190) (fun _ _ => ⟨rfl, rfl, (by decide : 15 + 0 ≤ _), (by decide : 47 + 0 ≤ _)⟩)
     dsimp only [Pt.U, Pt.locs, Pt.cells, Pt.slots] at X329 l329 y329 z329 st329 hQ329
     subst l329 y329 z329
     obtain ⟨rfl, N329q, e329⟩ := hQ329
     have N330 := Fr.app N323 N329q
     refine own_b T329 m 193 #[vi p0, vi p1, vi p2, vi p3, vi p4, vi 2, vi w0, vi w1, vi w2, vi w3, vr b218, vi e1_, vr b240, vr b274, vr r_320] [.int 0] (fun _ k_ => st329.trans k_) ?_
     refine own_b T329 m 198 #[vi p0, vi p1, vi p2, vi p3, vi p4, vi 2, vi w0, vi w1, vi w2, vi w3, vr b218, vi e1_, vr b240, vr b274, vr r_320] [.ref r_320] (fun _ k_ => XS.ifNo X329.here hx rfl (hb hby at_193) rfl (XT.i0_ne_f (by decide)) (XS.aload X329.here hx rfl (hb hby at_196) rfl rfl k_)) ?_
     obtain ⟨cq331, kq331, q331a, q331b, q331c⟩ := isOf hZ e329 p319_2
     obtain ⟨_, _, ⟨T331, L331, k331, n331⟩, -, X331, ⟨Lc331, hQ331, l331, y331, z331⟩, st331⟩ := X329.virtualBack hx (y := (⟨cn0, "getAssignedCount", "()I"⟩ : MethodName)) (z := (⟨cn0, "getAssignedCount", "()I"⟩ : MethodName)) hown (mvT hZ (ww hw 295 rfl)) (mvT hZ (ww hw 296 rfl)) (notFace_of_selects (args := #[]) (mvT hZ (ww hw 298 rfl))) (mvT hZ (ww hw 298 rfl)) (mvT hZ (ww hw 297 rfl)) (by decide) (backOf (W := 0) (rmCn_2 l Z a0 hw [] wC cC wD kD mA mL mR GS r_320 wr_321 kR_322 w0 w1 T319.heap n0 (by omega) oo324 p319_2 p319_3 p319_4) hZ (ww hw 299 rfl) (ww hw 103 rfl) (by decide) (by decide)) q331a q331c (g := (mkF m 198 #[vi p0, vi p1, vi p2, vi p3, vi p4, vi 2, vi w0, vi w1, vi w2, vi w3, vr b218, vi e1_, vr b240, vr b274, vr r_320] [.ref r_320])) rfl (by rw [hml]; rfl) (Steps.refl _) (argsL := []) (rest := []) (lenOf own_pd_5 rfl) rfl (by show 2 * 0 + _ ≤ _; exact Nat.le_of_eq rfl) (hb hby at_198) (fun _ _ => ⟨rfl, e329, (by decide : 15 + 0 ≤ _), (by decide : 47 + 0 ≤ _)⟩)
     dsimp only [Pt.U, Pt.locs, Pt.cells, Pt.slots] at X331 l331 y331 z331 st331 hQ331
     subst l331 y331 z331
     obtain ⟨rfl, N331q, e331⟩ := hQ331
     have N332 := Fr.app N330 N331q
     refine own_b T331 m 201 #[vi p0, vi p1, vi p2, vi p3, vi p4, vi 2, vi w0, vi w1, vi w2, vi w3, vr b218, vi e1_, vr b240, vr b274, vr r_320] [(.int (if w0 = (0 : Int32) then (if w1 = (0 : Int32) then (0 : Int32) else (1 : Int32)) else (if w1 = (0 : Int32) then (1 : Int32) else (2 : Int32))))] (fun _ k_ => st331.trans k_) ?_
     refine own_b T331 m 211 #[vi p0, vi p1, vi p2, vi p3, vi p4, vi 2, vi w0, vi w1, vi w2, vi w3, vr b218, vi e1_, vr b240, vr b274, vr r_320] [.int 1] (fun _ k_ => XS.iload X331.here hx rfl (hb hby at_201) rfl (XS.icmpNo X331.here hx rfl (hb hby at_203) rfl (XT.ii_ne_f (by simp only [hj237, hj239]; by_cases u0 : w0 = (0 : Int32) <;> by_cases u1 : w1 = (0 : Int32) <;> simp +decide [u0, u1])) (XS.iconst X331.here hx rfl (hb hby at_206) (XS.goto X331.here hx rfl (pc0 := 207) (pc' := 211) rfl (hb hby at_207) (by decide) (by decide) k_)))) ?_
     have hn333 : nar .boolean (1 : Int32) = (1 : Int32) := rfl
     obtain ⟨fs334, hr334, hrun334, hended334, hW334, hsame334⟩ := X331.leave (v := some (.int (nar .boolean (1 : Int32)))) (fun h => by rw [Bd.returns] at h; cases h)
     refine ⟨_, _, retN X331 hx (t := .boolean) Bd.returns (by simp) (hb hby at_211) hr334, hrun334, hended334, _, _, rfl, ?_, ⟨_, rfl⟩, hW334, hsame334.mono (by decide) (by decide)⟩
     show Q_rm0 Z wC cC wD kD mA mL mR p0 p1 p2 p3 p4 h0 n0 _ T331.heap _
     exact ⟨(congrArg (fun z => some (Value.int z)) hn333), N332⟩
    refine own_b T236 m 110 #[vi p0, vi p1, vi p2, vi p3, vi p4, vi 2, vi w0, vi w1, vi w2, vi w3, vr b218, vi e0_, un, un, un] [.int w1] (fun _ k_ => XS.iload X236.here hx rfl (hb hby at_108) rfl k_) ?_
    by_cases hc335 : w1 = (0 : Int32)
    ·refine own_b T236 m 116 #[vi p0, vi p1, vi p2, vi p3, vi p4, vi 2, vi w0, vi w1, vi w2, vi w3, vr b218, vi e0_, un, un, un] [] (fun _ k_ => XS.ifYes X236.here hx rfl (pc0 := 110) (pc' := 116) rfl (hb hby at_110) rfl (XT.i0_eq_t hc335) (by decide) (by decide) k_) ?_
     exact J238 T236 _  X236 e236  N236 e0_  (by simp [hc335])
    ·refine own_b T236 m 116 #[vi p0, vi p1, vi p2, vi p3, vi p4, vi 2, vi w0, vi w1, vi w2, vi w3, vr b218, .val (.int (e0_ + (1 : Int32))), un, un, un] [] (fun _ k_ => XS.ifNo X236.here hx rfl (hb hby at_110) rfl (XT.i0_eq_f hc335) (XS.iinc X236.here hx rfl (hb hby at_113) rfl rfl k_)) ?_
     exact J238 T236 _  X236 e236  N236 (e0_ + (1 : Int32))  (by simp [hc335])
   refine own_b T230 m 96 #[vi p0, vi p1, vi p2, vi p3, vi p4, vi 2, vi w0, vi w1, vi w2, vi w3, vr b218, vi 0, un, un, un] [.int w0] (fun _ k_ => XS.iload X230.here hx rfl (hb hby at_94) rfl k_) ?_
   by_cases hc336 : w0 = (0 : Int32)
   ·refine own_b T230 m 102 #[vi p0, vi p1, vi p2, vi p3, vi p4, vi 2, vi w0, vi w1, vi w2, vi w3, vr b218, vi 0, un, un, un] [] (fun _ k_ => XS.ifYes X230.here hx rfl (pc0 := 96) (pc' := 102) rfl (hb hby at_96) rfl (XT.i0_eq_t hc336) (by decide) (by decide) k_) ?_
    exact J236 T230 _  X230 e230  N235 (0 : Int32)  (by simp [hc336])
   ·refine own_b T230 m 102 #[vi p0, vi p1, vi p2, vi p3, vi p4, vi 2, vi w0, vi w1, vi w2, vi w3, vr b218, .val (.int ((0 : Int32) + (1 : Int32))), un, un, un] [] (fun _ k_ => XS.ifNo X230.here hx rfl (hb hby at_96) rfl (XT.i0_eq_f hc336) (XS.iinc X230.here hx rfl (hb hby at_99) rfl rfl k_)) ?_
    rw [show ((0 : Int32) + (1 : Int32)) = (1 : Int32) from by decide]
    exact J236 T230 _  X230 e230  N235 (1 : Int32)  (by simp [hc336])
  ·refine own_b T5 m 35 #[vi p0, vi p1, vi p2, vi p3, vi p4, vi 3, vi w0, vi w1, vi w2, vi w3, un, un, un, un, un] [.int 3] (fun _ k_ => XS.iload X5.here hx rfl (hb hby at_33) rfl k_) ?_
   obtain ⟨T337, h337, k337, X337, e337, E337, A337, EX337, st337⟩ := newPE X5 hx hZ (ww hw 1 rfl) e5 (g := (mkF m 35 #[vi p0, vi p1, vi p2, vi p3, vi p4, vi 3, vi w0, vi w1, vi w2, vi w3, un, un, un, un, un] [.int 3])) rfl (hb hby at_35) rfl (by decide) (cap := 3) (by decide) (by decide) (by decide) (by decide) (ad := "[I") rfl
   obtain ⟨bz337, gz337⟩ : ∃ z, z = h0.size := ⟨_, rfl⟩
   rw [← gz337] at EX337
   obtain ⟨b337, g337⟩ : ∃ z, z = h0.size := ⟨_, rfl⟩
   rw [← g337] at A337 st337
   have K338 : Keep h0 h337 [] := own_kext E337
   have zzK338 : h0.size ≤ h337.size := K338.1
   have oo339 : Old Z n0 h337 := O0.keep K338 all0
   have kt340 : Keep h0 h337 [] := KT0.trans K338 all0
   have lab337 : b337 < h337.size := A337.lt
   have f341 : Exa Z h337 b337 "[I" := by rw [g337, ← gz337]; exact EX337
   have f342 : Arv Z h337 b337 k337 .int (3 : Int32) [.int 0, .int 0, .int 0] (.int 0) := (Arv.new A337 (by decide)).pad (pad_rep [] (.int 0) 3)
   refine own_b T337 m 37 #[vi p0, vi p1, vi p2, vi p3, vi p4, vi 3, vi w0, vi w1, vi w2, vi w3, un, un, un, un, un] [.ref b337] st337 ?_
   refine own_b T337 m 49 #[vi p0, vi p1, vi p2, vi p3, vi p4, vi 3, vi w0, vi w1, vi w2, vi w3, vr b337, un, un, un, un] [.int w0, .int 0, .ref b337] (fun _ k_ => XS.astore X337.here hx rfl (hb hby at_37) rfl rfl (l' := #[vi p0, vi p1, vi p2, vi p3, vi p4, vi 3, vi w0, vi w1, vi w2, vi w3, vr b337, un, un, un, un]) rfl (XS.iload X337.here hx rfl (hb hby at_39) rfl (XS.ifNo X337.here hx rfl (hb hby at_41) rfl (XT.i0_le_f (by decide)) (XS.aload X337.here hx rfl (hb hby at_44) rfl rfl (XS.iconst X337.here hx rfl (hb hby at_46) (XS.iload X337.here hx rfl (hb hby at_47) rfl k_)))))) ?_
   obtain ⟨cl343, Ar343, q343, S343, M343, H343, G343⟩ := id f342
   have hin343 : ¬ ((0 : Int32) < 0 ∨ cl343.slots.size ≤ ((0 : Int32)).toNatClampNeg) := inb_of S343 ⟨by decide, by decide⟩
   obtain ⟨T343, h343, X343, e343, W343, st343⟩ := stI X337 hx hZ e337 Ar343 (j := (0 : Int32)) hin343 (g := (mkF m 49 #[vi p0, vi p1, vi p2, vi p3, vi p4, vi 3, vi w0, vi w1, vi w2, vi w3, vr b337, un, un, un, un] [.int w0, .int 0, .ref b337])) rfl rfl (hb hby at_49)
   have K344 : Keep h337 h343 [b337] := Keep.of_wr W343
   have zzK344 : h337.size ≤ h343.size := K344.1
   have oo345 : Old Z n0 h343 := oo339.keep K344 (allS (by omega : n0 ≤ b337) all0)
   have kt346 : Keep h0 h343 [] := kt340.trans K344 (allS (Or.inr (by omega : h0.size ≤ b337)) all0)
   have f347 : Arv Z h343 b337 k337 .int (3 : Int32) [.int w0, .int 0, .int 0] (.int 0) := Arv.set Ar343 q343 S343 M343 H343 G343 rfl W343 0 rfl (Nat.le_of_ble_eq_true rfl)
   have N348 := Fr.snoc X343 N5 (by omega : n0 ≤ b337)
   refine own_b T343 m 50 #[vi p0, vi p1, vi p2, vi p3, vi p4, vi 3, vi w0, vi w1, vi w2, vi w3, vr b337, un, un, un, un] [] st343 ?_
   refine own_b T343 m 61 #[vi p0, vi p1, vi p2, vi p3, vi p4, vi 3, vi w0, vi w1, vi w2, vi w3, vr b337, un, un, un, un] [.int w1, .int 1, .ref b337] (fun _ k_ => XS.iload X343.here hx rfl (hb hby at_50) rfl (XS.iconst X343.here hx rfl (hb hby at_52) (XS.icmpNo X343.here hx rfl (hb hby at_53) rfl (XT.ii_le_f (by decide)) (XS.aload X343.here hx rfl (hb hby at_56) rfl rfl (XS.iconst X343.here hx rfl (hb hby at_58) (XS.iload X343.here hx rfl (hb hby at_59) rfl k_)))))) ?_
   obtain ⟨cl349, Ar349, q349, S349, M349, H349, G349⟩ := id f347
   have hin349 : ¬ ((1 : Int32) < 0 ∨ cl349.slots.size ≤ ((1 : Int32)).toNatClampNeg) := inb_of S349 ⟨by decide, by decide⟩
   obtain ⟨T349, h349, X349, e349, W349, st349⟩ := stI X343 hx hZ e343 Ar349 (j := (1 : Int32)) hin349 (g := (mkF m 61 #[vi p0, vi p1, vi p2, vi p3, vi p4, vi 3, vi w0, vi w1, vi w2, vi w3, vr b337, un, un, un, un] [.int w1, .int 1, .ref b337])) rfl rfl (hb hby at_61)
   have K350 : Keep h343 h349 [b337] := Keep.of_wr W349
   have zzK350 : h343.size ≤ h349.size := K350.1
   have oo351 : Old Z n0 h349 := oo345.keep K350 (allS (by omega : n0 ≤ b337) all0)
   have kt352 : Keep h0 h349 [] := kt346.trans K350 (allS (Or.inr (by omega : h0.size ≤ b337)) all0)
   have f353 : Arv Z h349 b337 k337 .int (3 : Int32) [.int w0, .int w1, .int 0] (.int 0) := Arv.set Ar349 q349 S349 M349 H349 G349 rfl W349 1 rfl (Nat.le_of_ble_eq_true rfl)
   have N354 := Fr.snoc X349 N348 (by omega : n0 ≤ b337)
   refine own_b T349 m 62 #[vi p0, vi p1, vi p2, vi p3, vi p4, vi 3, vi w0, vi w1, vi w2, vi w3, vr b337, un, un, un, un] [] st349 ?_
   refine own_b T349 m 73 #[vi p0, vi p1, vi p2, vi p3, vi p4, vi 3, vi w0, vi w1, vi w2, vi w3, vr b337, un, un, un, un] [.int w2, .int 2, .ref b337] (fun _ k_ => XS.iload X349.here hx rfl (hb hby at_62) rfl (XS.iconst X349.here hx rfl (hb hby at_64) (XS.icmpNo X349.here hx rfl (hb hby at_65) rfl (XT.ii_le_f (by decide)) (XS.aload X349.here hx rfl (hb hby at_68) rfl rfl (XS.iconst X349.here hx rfl (hb hby at_70) (XS.iload X349.here hx rfl (hb hby at_71) rfl k_)))))) ?_
   obtain ⟨cl355, Ar355, q355, S355, M355, H355, G355⟩ := id f353
   have hin355 : ¬ ((2 : Int32) < 0 ∨ cl355.slots.size ≤ ((2 : Int32)).toNatClampNeg) := inb_of S355 ⟨by decide, by decide⟩
   obtain ⟨T355, h355, X355, e355, W355, st355⟩ := stI X349 hx hZ e349 Ar355 (j := (2 : Int32)) hin355 (g := (mkF m 73 #[vi p0, vi p1, vi p2, vi p3, vi p4, vi 3, vi w0, vi w1, vi w2, vi w3, vr b337, un, un, un, un] [.int w2, .int 2, .ref b337])) rfl rfl (hb hby at_73)
   have K356 : Keep h349 h355 [b337] := Keep.of_wr W355
   have zzK356 : h349.size ≤ h355.size := K356.1
   have oo357 : Old Z n0 h355 := oo351.keep K356 (allS (by omega : n0 ≤ b337) all0)
   have kt358 : Keep h0 h355 [] := kt352.trans K356 (allS (Or.inr (by omega : h0.size ≤ b337)) all0)
   have f359 : Arv Z h355 b337 k337 .int (3 : Int32) [.int w0, .int w1, .int w2] (.int 0) := Arv.set Ar355 q355 S355 M355 H355 G355 rfl W355 2 rfl (Nat.le_of_ble_eq_true rfl)
   have N360 := Fr.snoc X355 N354 (by omega : n0 ≤ b337)
   refine own_b T355 m 74 #[vi p0, vi p1, vi p2, vi p3, vi p4, vi 3, vi w0, vi w1, vi w2, vi w3, vr b337, un, un, un, un] [] st355 ?_
   refine own_b T355 m 94 #[vi p0, vi p1, vi p2, vi p3, vi p4, vi 3, vi w0, vi w1, vi w2, vi w3, vr b337, vi 0, un, un, un] [] (fun _ k_ => XS.iload X355.here hx rfl (hb hby at_74) rfl (XS.iconst X355.here hx rfl (hb hby at_76) (XS.icmpYes X355.here hx rfl (pc0 := 77) (pc' := 86) rfl (hb hby at_77) rfl (XT.ii_le_t (by decide)) (by decide) (by decide) (XS.iconst X355.here hx rfl (hb hby at_86) (XS.istore X355.here hx rfl (hb hby at_87) rfl (l' := #[vi p0, vi p1, vi p2, vi p3, vi p4, vi 3, vi w0, vi w1, vi w2, vi w3, vr b337, vi 0, un, un, un]) rfl (XS.iload X355.here hx rfl (hb hby at_89) rfl (XS.ifNo X355.here hx rfl (hb hby at_91) rfl (XT.i0_le_f (by decide)) k_))))))) ?_
   have J361 : ∀ (T361 : State) (lo361 : List Loc) (X361 : Stand p l e room_1 s m #[.int p0, .int p1, .int p2, .int p3, .int p4] below meth c T361 lo361 1 3) (e361 : T361.heap = h355) (N361 : Fr n0 lo361) (e0_ : Int32), e0_ = (if w0 = (0 : Int32) then (0 : Int32) else ((0 : Int32) + (1 : Int32))) → OGoal p e below (fun oo_ UV_ => ∃ vv_ LL_, oo_ = .returned vv_ ∧ Q_rm0 Z wC cC wD kD mA mL mR p0 p1 p2 p3 p4 h0 n0 vv_ UV_.heap LL_ ∧ FrameEnd s oo_ UV_ LL_ 15 57) T361 (mkF m 102 #[.val (.int p0), .val (.int p1), .val (.int p2), .val (.int p3), .val (.int p4), .val (.int 3), .val (.int w0), .val (.int w1), .val (.int w2), .val (.int w3), .val (.ref b337), .val (.int e0_), .unset, .unset, .unset] []) := by
    intro T361 lo361 X361 e361 N361 e0_  hj362
    refine own_b T361 m 108 #[vi p0, vi p1, vi p2, vi p3, vi p4, vi 3, vi w0, vi w1, vi w2, vi w3, vr b337, vi e0_, un, un, un] [] (fun _ k_ => XS.iload X361.here hx rfl (hb hby at_102) rfl (XS.iconst X361.here hx rfl (hb hby at_104) (XS.icmpNo X361.here hx rfl (hb hby at_105) rfl (XT.ii_le_f (by decide)) k_))) ?_
    have J363 : ∀ (T363 : State) (lo363 : List Loc) (X363 : Stand p l e room_1 s m #[.int p0, .int p1, .int p2, .int p3, .int p4] below meth c T363 lo363 1 3) (e363 : T363.heap = h355) (N363 : Fr n0 lo363) (e1_ : Int32), e1_ = (if w1 = (0 : Int32) then e0_ else (e0_ + (1 : Int32))) → OGoal p e below (fun oo_ UV_ => ∃ vv_ LL_, oo_ = .returned vv_ ∧ Q_rm0 Z wC cC wD kD mA mL mR p0 p1 p2 p3 p4 h0 n0 vv_ UV_.heap LL_ ∧ FrameEnd s oo_ UV_ LL_ 15 57) T363 (mkF m 116 #[.val (.int p0), .val (.int p1), .val (.int p2), .val (.int p3), .val (.int p4), .val (.int 3), .val (.int w0), .val (.int w1), .val (.int w2), .val (.int w3), .val (.ref b337), .val (.int e1_), .unset, .unset, .unset] []) := by
     intro T363 lo363 X363 e363 N363 e1_  hj364
     refine own_b T363 m 122 #[vi p0, vi p1, vi p2, vi p3, vi p4, vi 3, vi w0, vi w1, vi w2, vi w3, vr b337, vi e1_, un, un, un] [] (fun _ k_ => XS.iload X363.here hx rfl (hb hby at_116) rfl (XS.iconst X363.here hx rfl (hb hby at_118) (XS.icmpNo X363.here hx rfl (hb hby at_119) rfl (XT.ii_le_f (by decide)) k_))) ?_
     have J365 : ∀ (T365 : State) (lo365 : List Loc) (X365 : Stand p l e room_1 s m #[.int p0, .int p1, .int p2, .int p3, .int p4] below meth c T365 lo365 1 3) (e365 : T365.heap = h355) (N365 : Fr n0 lo365) (e2_ : Int32), e2_ = (if w2 = (0 : Int32) then e1_ else (e1_ + (1 : Int32))) → OGoal p e below (fun oo_ UV_ => ∃ vv_ LL_, oo_ = .returned vv_ ∧ Q_rm0 Z wC cC wD kD mA mL mR p0 p1 p2 p3 p4 h0 n0 vv_ UV_.heap LL_ ∧ FrameEnd s oo_ UV_ LL_ 15 57) T365 (mkF m 130 #[.val (.int p0), .val (.int p1), .val (.int p2), .val (.int p3), .val (.int p4), .val (.int 3), .val (.int w0), .val (.int w1), .val (.int w2), .val (.int w3), .val (.ref b337), .val (.int e2_), .unset, .unset, .unset] []) := by
      intro T365 lo365 X365 e365 N365 e2_  hj366
      refine own_b T365 m 144 #[vi p0, vi p1, vi p2, vi p3, vi p4, vi 3, vi w0, vi w1, vi w2, vi w3, vr b337, vi e2_, un, un, un] [] (fun _ k_ => XS.iload X365.here hx rfl (hb hby at_130) rfl (XS.iconst X365.here hx rfl (hb hby at_132) (XS.icmpYes X365.here hx rfl (pc0 := 133) (pc' := 144) rfl (hb hby at_133) rfl (XT.ii_le_t (by decide)) (by decide) (by decide) k_))) ?_
      obtain ⟨T367, h367, X367, e367, E367, A367, D367, -, st367⟩ := newO X365 hx hZ hown (ww hw 2 rfl) (ww hw 3 rfl) (ww hw 4 rfl) e365 (g := (mkF m 144 #[vi p0, vi p1, vi p2, vi p3, vi p4, vi 3, vi w0, vi w1, vi w2, vi w3, vr b337, vi e2_, un, un, un] [])) rfl (hb hby at_144) (by decide) (by decide)
      obtain ⟨b367, g367⟩ : ∃ z, z = h355.size := ⟨_, rfl⟩
      rw [← g367] at A367 D367 st367
      have K368 : Keep h355 h367 [] := own_kext E367
      have zzK368 : h355.size ≤ h367.size := K368.1
      have oo369 : Old Z n0 h367 := oo357.keep K368 all0
      have kt370 : Keep h0 h367 [] := kt358.trans K368 all0
      have lab367 : b367 < h367.size := A367.lt
      have f371 : Fld Z h367 b367 cn1 "zones" "Ljava/util/List;" .null := D367 (Or.inr (ww hw 36 rfl)) (ty := (.object "java/util/List")) (by decide)
      have f372 : Fld Z h367 b367 cn1 "counts" "[I" .null := D367 (Or.inr (ww hw 38 rfl)) (ty := (.array .int)) (by decide)
      have f373 : Fld Z h367 b367 cn1 "given" "[Z" .null := D367 (Or.inr (ww hw 41 rfl)) (ty := (.array .boolean)) (by decide)
      have f374 : Fld Z h367 b367 cn1 "total" "I" (.int 0) := D367 (Or.inl (ww hw 58 rfl)) (ty := .int) (by decide)
      refine own_b T367 m 147 #[vi p0, vi p1, vi p2, vi p3, vi p4, vi 3, vi w0, vi w1, vi w2, vi w3, vr b337, vi e2_, un, un, un] [.ref b367] st367 ?_
      refine own_b T367 m 149 #[vi p0, vi p1, vi p2, vi p3, vi p4, vi 3, vi w0, vi w1, vi w2, vi w3, vr b337, vi e2_, un, un, un] [.int 1, .ref b367, .ref b367] (fun _ k_ => XS.dup X367.here hx rfl (hb hby at_147) rfl rfl (XS.iconst X367.here hx rfl (hb hby at_148) k_)) ?_
      obtain ⟨_, _, ⟨T375, L375, k375, n375⟩, -, X375, ⟨Lc375, hQ375, l375, y375, z375⟩, st375⟩ := X367.specialBack hx (y := (⟨cn1, "<init>", "(I)V"⟩ : MethodName)) rfl hown (mvT hZ (ww hw 5 rfl)) (mvT hZ (ww hw 6 rfl)) (mvT hZ (ww hw 7 rfl)) (by decide) (backOf (W := 1) (rmZI l Z a0 hw [] wC cC wD kD mA mL mR GS b367 h367 n0 (by omega) oo369 A367 (by omega) f371 f372 f373 f374) hZ (ww hw 7 rfl) (ww hw 4 rfl) (by decide) (by decide)) (g := (mkF m 149 #[vi p0, vi p1, vi p2, vi p3, vi p4, vi 3, vi w0, vi w1, vi w2, vi w3, vr b337, vi e2_, un, un, un] [.int 1, .ref b367, .ref b367])) rfl (by rw [hml]; rfl) (Steps.refl _) (a := b367) (argsL := [.int 1]) (rest := [.ref b367]) (lenOf own_pd_6 rfl) rfl (by show 2 * 0 + _ ≤ _; exact Nat.le_of_eq rfl) (hb hby at_149) (fun _ _ => ⟨rfl, e367, (by decide : 2 + 3 ≤ _), (by decide : 7 + 7 ≤ _)⟩)
      dsimp only [Pt.U, Pt.locs, Pt.cells, Pt.slots] at X375 l375 y375 z375 st375 hQ375
      subst l375 y375 z375
      obtain ⟨al_376, ct_377, gv_378, kC_379, kG_380, rfl, N375q, K375, p375_0, p375_1, p375_2, p375_3, p375_4, p375_5, p375_6, p375_7, p375_8, p375_9, p375_10, p375_11, p375_12, p375_13, p375_14, p375_15⟩ := hQ375
      have N381 := Fr.app N365 N375q
      have gal_376 : h367.size ≤ al_376 := p375_0
      have gct_377 : h367.size ≤ ct_377 := p375_1
      have ggv_378 : h367.size ≤ gv_378 := p375_2
      have zzK375 : h367.size ≤ T375.heap.size := K375.1
      have oo382 : Old Z n0 T375.heap := oo369.keep K375 (allS (by omega : n0 ≤ b367) all0)
      have kt383 : Keep h0 T375.heap [] := kt370.trans K375 (allS (Or.inr (by omega : h0.size ≤ b367)) all0)
      refine own_b T375 m 152 #[vi p0, vi p1, vi p2, vi p3, vi p4, vi 3, vi w0, vi w1, vi w2, vi w3, vr b337, vi e2_, un, un, un] [.ref b367] (fun _ k_ => st375.trans k_) ?_
      refine own_b T375 m 159 #[vi p0, vi p1, vi p2, vi p3, vi p4, vi 3, vi w0, vi w1, vi w2, vi w3, vr b337, vi e2_, vr b367, un, un] [.int 3, .int 1, .ref b367] (fun _ k_ => XS.astore X375.here hx rfl (hb hby at_152) rfl rfl (l' := #[vi p0, vi p1, vi p2, vi p3, vi p4, vi 3, vi w0, vi w1, vi w2, vi w3, vr b337, vi e2_, vr b367, un, un]) rfl (XS.aload X375.here hx rfl (hb hby at_154) rfl rfl (XS.iconst X375.here hx rfl (hb hby at_156) (XS.iload X375.here hx rfl (hb hby at_157) rfl k_)))) ?_
      have f384 : Exa Z T375.heap b367 cn1 := (A367.keep K375)
      have la385 : @LT.lt Nat instLTNat ct_377 T375.heap.size := p375_11.lt
      have la386 : @LT.lt Nat instLTNat gv_378 T375.heap.size := p375_12.lt
      have ne387 : @Ne Nat ct_377 gv_378 := by omega
      have la388 : @LT.lt Nat instLTNat al_376 T375.heap.size := p375_7.lt
      have ne389 : @Ne Nat al_376 gv_378 := by omega
      have ne390 : @Ne Nat al_376 ct_377 := by omega
      have ne391 : @Ne Nat b367 al_376 := by omega
      have ne392 : @Ne Nat b367 ct_377 := by omega
      have ne393 : @Ne Nat b367 gv_378 := by omega
      obtain ⟨cq394, kq394, q394a, q394b, q394c⟩ := isOf hZ rfl f384
      obtain ⟨_, _, ⟨T394, L394, k394, n394⟩, -, X394, ⟨Lc394, hQ394, l394, y394, z394⟩, st394⟩ := X375.virtualBack hx (y := (⟨cn1, "add", "(II)V"⟩ : MethodName)) (z := (⟨cn1, "add", "(II)V"⟩ : MethodName)) hown (mvT hZ (ww hw 42 rfl)) (mvT hZ (ww hw 43 rfl)) (notFace_of_selects (args := #[]) (mvT hZ (ww hw 45 rfl))) (mvT hZ (ww hw 45 rfl)) (mvT hZ (ww hw 44 rfl)) (by decide) (backOf (W := 0) (rmZA l Z a0 hw [] wC cC wD kD mA mL mR GS b367 al_376 ct_377 gv_378 kC_379 kG_380 (3 : Int32) T375.heap n0 (by omega) oo382 f384 (by omega) (by omega) (by omega) (by omega) p375_3 p375_4 p375_5 p375_6 p375_7 p375_8 p375_9 p375_10 p375_11 p375_12 ne387 ne389 ne390 ne391 ne392 ne393 (by decide) (by decide)) hZ (ww hw 46 rfl) (ww hw 4 rfl) (by decide) (by decide)) q394a q394c (g := (mkF m 159 #[vi p0, vi p1, vi p2, vi p3, vi p4, vi 3, vi w0, vi w1, vi w2, vi w3, vr b337, vi e2_, vr b367, un, un] [.int 3, .int 1, .ref b367])) rfl (by rw [hml]; rfl) (Steps.refl _) (argsL := [.int 1, .int 3]) (rest := []) (lenOf own_pd_23 rfl) rfl (by show 2 * 0 + _ ≤ _; exact Nat.le_of_eq rfl) (hb hby at_159) (fun _ _ => ⟨rfl, rfl, (by decide : 5 + 1 ≤ _), (by decide : 14 + 10 ≤ _)⟩)
      dsimp only [Pt.U, Pt.locs, Pt.cells, Pt.slots] at X394 l394 y394 z394 st394 hQ394
      subst l394 y394 z394
      obtain ⟨t_395, kE_396, b_397, rfl, N394q, K394, p394_0, p394_1, p394_2, p394_3, p394_4, p394_5, p394_6, p394_7, p394_8, p394_9, p394_10⟩ := hQ394
      have N398 := Fr.app N381 N394q
      have gt_395 : T375.heap.size ≤ t_395 := p394_0
      have zzK394 : T375.heap.size ≤ T394.heap.size := K394.1
      have oo399 : Old Z n0 T394.heap := oo382.keep K394 (allS (by omega : n0 ≤ b367) (allS (by omega : n0 ≤ al_376) (allS (by omega : n0 ≤ ct_377) (allS (by omega : n0 ≤ gv_378) all0))))
      have kt400 : Keep h0 T394.heap [] := kt383.trans K394 (allS (Or.inr (by omega : h0.size ≤ b367)) (allS (Or.inr (by omega : h0.size ≤ al_376)) (allS (Or.inr (by omega : h0.size ≤ ct_377)) (allS (Or.inr (by omega : h0.size ≤ gv_378)) all0))))
      refine own_b T394 m 162 #[vi p0, vi p1, vi p2, vi p3, vi p4, vi 3, vi w0, vi w1, vi w2, vi w3, vr b337, vi e2_, vr b367, un, un] [] (fun _ k_ => st394.trans k_) ?_
      obtain ⟨T401, h401, X401, e401, E401, A401, D401, -, st401⟩ := newO X394 hx hZ hown (ww hw 101 rfl) (ww hw 102 rfl) (ww hw 103 rfl) rfl (g := (mkF m 162 #[vi p0, vi p1, vi p2, vi p3, vi p4, vi 3, vi w0, vi w1, vi w2, vi w3, vr b337, vi e2_, vr b367, un, un] [])) rfl (hb hby at_162) (by decide) (by decide)
      obtain ⟨b401, g401⟩ : ∃ z, z = T394.heap.size := ⟨_, rfl⟩
      rw [← g401] at A401 D401 st401
      have K402 : Keep T394.heap h401 [] := own_kext E401
      have zzK402 : T394.heap.size ≤ h401.size := K402.1
      have oo403 : Old Z n0 h401 := oo399.keep K402 all0
      have kt404 : Keep h0 h401 [] := kt400.trans K402 all0
      have lab401 : b401 < h401.size := A401.lt
      have f405 : Fld Z h401 b401 cn0 "jobs" cn4 .null := D401 (Or.inr (ww hw 273 rfl)) (ty := (.object cn1)) (by decide)
      have f406 : Fld Z h401 b401 cn0 "homeZones" "[I" .null := D401 (Or.inr (ww hw 275 rfl)) (ty := (.array .int)) (by decide)
      have f407 : Fld Z h401 b401 cn0 "departures" "[I" .null := D401 (Or.inr (ww hw 277 rfl)) (ty := (.array .int)) (by decide)
      have f408 : Fld Z h401 b401 cn0 "workplaces" "[I" .null := D401 (Or.inr (ww hw 279 rfl)) (ty := (.array .int)) (by decide)
      refine own_b T401 m 165 #[vi p0, vi p1, vi p2, vi p3, vi p4, vi 3, vi w0, vi w1, vi w2, vi w3, vr b337, vi e2_, vr b367, un, un] [.ref b401] st401 ?_
      refine own_b T401 m 172 #[vi p0, vi p1, vi p2, vi p3, vi p4, vi 3, vi w0, vi w1, vi w2, vi w3, vr b337, vi e2_, vr b367, un, un] [.int 3, .ref b367, .ref b367, .ref b401, .ref b401] (fun _ k_ => XS.dup X401.here hx rfl (hb hby at_165) rfl rfl (XS.aload X401.here hx rfl (hb hby at_166) rfl rfl (XS.aload X401.here hx rfl (hb hby at_168) rfl rfl (XS.iload X401.here hx rfl (hb hby at_170) rfl k_)))) ?_
      obtain ⟨T409, h409, k409, X409, e409, E409, A409, st409⟩ := newP X401 hx hZ (ww hw 1 rfl) e401 (g := (mkF m 172 #[vi p0, vi p1, vi p2, vi p3, vi p4, vi 3, vi w0, vi w1, vi w2, vi w3, vr b337, vi e2_, vr b367, un, un] [.int 3, .ref b367, .ref b367, .ref b401, .ref b401])) rfl (hb hby at_172) rfl (by decide) (cap := 3) (by decide) (by decide) (by decide) (by decide)
      obtain ⟨b409, g409⟩ : ∃ z, z = h401.size := ⟨_, rfl⟩
      rw [← g409] at A409 st409
      have K410 : Keep h401 h409 [] := own_kext E409
      have zzK410 : h401.size ≤ h409.size := K410.1
      have oo411 : Old Z n0 h409 := oo403.keep K410 all0
      have kt412 : Keep h0 h409 [] := kt404.trans K410 all0
      have lab409 : b409 < h409.size := A409.lt
      have f413 : Arv Z h409 b409 k409 .int (3 : Int32) [.int 0, .int 0, .int 0] (.int 0) := (Arv.new A409 (by decide)).pad (pad_rep [] (.int 0) 3)
      refine own_b T409 m 174 #[vi p0, vi p1, vi p2, vi p3, vi p4, vi 3, vi w0, vi w1, vi w2, vi w3, vr b337, vi e2_, vr b367, un, un] [.ref b409, .ref b367, .ref b367, .ref b401, .ref b401] st409 ?_
      have f414 : Exa Z h409 b401 cn0 := (A401.keep K410)
      have f415 : Fld Z h409 b401 cn0 "jobs" cn4 .null := (f405.keep K410 nin0)
      have f416 : Fld Z h409 b401 cn0 "homeZones" "[I" .null := (f406.keep K410 nin0)
      have f417 : Fld Z h409 b401 cn0 "departures" "[I" .null := (f407.keep K410 nin0)
      have f418 : Fld Z h409 b401 cn0 "workplaces" "[I" .null := (f408.keep K410 nin0)
      have f419 : Exa Z h409 b367 cn1 := (((f384.keep K394).keep K402).keep K410)
      have f420 : Fld Z h409 b367 cn1 "total" "I" (.int 3) := ((p394_3.keep K402 nin0).keep K410 nin0)
      have f421 : Fld Z h409 b367 cn1 "zones" "Ljava/util/List;" (.ref al_376) := ((p394_1.keep K402 nin0).keep K410 nin0)
      have f422 : Fld Z h409 b367 cn1 "counts" "[I" (.ref ct_377) := ((p394_2.keep K402 nin0).keep K410 nin0)
      have f423 : Arv Z h409 ct_377 kC_379 .int (2 : Int32) [.int 0, .int 3] (.int 0) := ((p394_10.keep K402 nin0).keep K410 nin0)
      have f424 : Exa Z h409 al_376 cn2 := (((p375_7.keep K394).keep K402).keep K410)
      have f425 : Fld Z h409 al_376 "java/util/AbstractList" "modCount" "I" (.int 1) := ((p394_4.keep K402 nin0).keep K410 nin0)
      have f426 : Fld Z h409 al_376 cn2 "size" "I" (.int 1) := ((p394_6.keep K402 nin0).keep K410 nin0)
      have f427 : Fld Z h409 al_376 cn2 "elementData" "[Ljava/lang/Object;" (.ref t_395) := ((p394_5.keep K402 nin0).keep K410 nin0)
      have f428 : Arv Z h409 t_395 kE_396 (.object "java/lang/Object") (10 : Int32) [.ref b_397, .null, .null, .null, .null, .null, .null, .null, .null, .null] .null := ((p394_7.keep K402 nin0).keep K410 nin0)
      have f429 : Exa Z h409 b_397 "java/lang/Integer" := ((p394_8.keep K402).keep K410)
      have f430 : Fld Z h409 b_397 "java/lang/Integer" "value" "I" (.int 1) := ((p394_9.keep K402 nin0).keep K410 nin0)
      obtain ⟨_, _, ⟨T431, L431, k431, n431⟩, -, X431, ⟨Lc431, hQ431, l431, y431, z431⟩, st431⟩ := X409.specialBack hx (y := (⟨cn0, "<init>", cn6⟩ : MethodName)) rfl hown (mvT hZ (ww hw 104 rfl)) (mvT hZ (ww hw 105 rfl)) (mvT hZ (ww hw 106 rfl)) (by decide) (backOf (W := 1) (rmWI3_3 l Z a0 hw [] wC cC wD kD mA mL mR GS b401 b409 k409 b367 al_376 ct_377 kC_379 t_395 kE_396 b_397 h409 n0 (by omega) oo411 f414 (by omega) f415 f416 f417 f418 f413 f419 f420 f421 f422 f423 f424 f425 f426 f427 f428 f429 f430) hZ (ww hw 106 rfl) (ww hw 103 rfl) (by decide) (by decide)) (g := (mkF m 174 #[vi p0, vi p1, vi p2, vi p3, vi p4, vi 3, vi w0, vi w1, vi w2, vi w3, vr b337, vi e2_, vr b367, un, un] [.ref b409, .ref b367, .ref b367, .ref b401, .ref b401])) rfl (by rw [hml]; rfl) (Steps.refl _) (a := b401) (argsL := [.ref b367, .ref b367, .ref b409]) (rest := [.ref b401]) (lenOf own_pd_24 rfl) rfl (by show 2 * 0 + _ ≤ _; exact Nat.le_of_eq rfl) (hb hby at_174) (fun _ _ => ⟨rfl, e409, (by decide : 8 + 5 ≤ _), (by decide : 31 + 14 ≤ _)⟩)
      dsimp only [Pt.U, Pt.locs, Pt.cells, Pt.slots] at X431 l431 y431 z431 st431 hQ431
      subst l431 y431 z431
      obtain ⟨h_432, wp_433, kW_434, rfl, N431q, K431, p431_0, p431_1, p431_2, p431_3, p431_4, p431_5⟩ := hQ431
      have N435 := Fr.app N398 N431q
      have gwp_433 : h409.size ≤ wp_433 := p431_0
      have zzK431 : h409.size ≤ T431.heap.size := K431.1
      have oo436 : Old Z n0 T431.heap := oo411.keep K431 (allS (by omega : n0 ≤ b401) all0)
      have kt437 : Keep h0 T431.heap [] := kt412.trans K431 (allS (Or.inr (by omega : h0.size ≤ b401)) all0)
      refine own_b T431 m 177 #[vi p0, vi p1, vi p2, vi p3, vi p4, vi 3, vi w0, vi w1, vi w2, vi w3, vr b337, vi e2_, vr b367, un, un] [.ref b401] (fun _ k_ => st431.trans k_) ?_
      refine own_b T431 m 183 #[vi p0, vi p1, vi p2, vi p3, vi p4, vi 3, vi w0, vi w1, vi w2, vi w3, vr b337, vi e2_, vr b367, vr b401, un] [.ref b337, .ref b401] (fun _ k_ => XS.astore X431.here hx rfl (hb hby at_177) rfl rfl (l' := #[vi p0, vi p1, vi p2, vi p3, vi p4, vi 3, vi w0, vi w1, vi w2, vi w3, vr b337, vi e2_, vr b367, vr b401, un]) rfl (XS.aload X431.here hx rfl (hb hby at_179) rfl rfl (XS.aload X431.here hx rfl (hb hby at_181) rfl rfl k_))) ?_
      have f438 : Exa Z T431.heap b401 cn0 := (f414.keep K431)
      have f439 : Exa Z T431.heap b337 "[I" := (((((((((f341.keep K344).keep K350).keep K356).keep K368).keep K375).keep K394).keep K402).keep K410).keep K431)
      have ne440 : @Ne Nat b337 b367 := by omega
      have ne441 : @Ne Nat b337 gv_378 := by omega
      have ne442 : @Ne Nat b337 ct_377 := by omega
      have ne443 : @Ne Nat b337 al_376 := by omega
      have ne444 : @Ne Nat b337 b401 := by omega
      have f445 : Arv Z T431.heap b337 k337 .int (3 : Int32) [.int w0, .int w1, .int w2] (.int 0) := ((((((f359.keep K368 nin0).keep K375 (ninS ne440 nin0)).keep K394 (ninS ne440 (ninS ne443 (ninS ne442 (ninS ne441 nin0))))).keep K402 nin0).keep K410 nin0).keep K431 (ninS ne444 nin0))
      obtain ⟨cq446, kq446, q446a, q446b, q446c⟩ := isOf hZ rfl f438
      obtain ⟨_, _, ⟨T446, L446, k446, n446⟩, -, X446, ⟨Lc446, hQ446, l446, y446, z446⟩, st446⟩ := X431.virtualBack hx (y := (⟨cn0, "withWorkplaces", "([I)Lcom/example/even_commute/evencommute/demand/Workers;"⟩ : MethodName)) (z := (⟨cn0, "withWorkplaces", "([I)Lcom/example/even_commute/evencommute/demand/Workers;"⟩ : MethodName)) hown (mvT hZ (ww hw 280 rfl)) (mvT hZ (ww hw 281 rfl)) (notFace_of_selects (args := #[]) (mvT hZ (ww hw 283 rfl))) (mvT hZ (ww hw 283 rfl)) (mvT hZ (ww hw 282 rfl)) (by decide) (backOf (W := 0) (rmWw_3 l Z a0 hw [] wC cC wD kD mA mL mR GS b401 b337 k337 b367 h_432 b409 wp_433 w0 w1 w2 T431.heap n0 (by omega) oo436 f438 f439 f445 p431_1 p431_2 p431_3 p431_4) hZ (ww hw 284 rfl) (ww hw 103 rfl) (by decide) (by decide)) q446a q446c (g := (mkF m 183 #[vi p0, vi p1, vi p2, vi p3, vi p4, vi 3, vi w0, vi w1, vi w2, vi w3, vr b337, vi e2_, vr b367, vr b401, un] [.ref b337, .ref b401])) rfl (by rw [hml]; rfl) (Steps.refl _) (argsL := [.ref b337]) (rest := []) (lenOf own_pd_25 rfl) rfl (by show 2 * 0 + _ ≤ _; exact Nat.le_of_eq rfl) (hb hby at_183) (fun _ _ => ⟨rfl, rfl, (by decide : 13 + 2 ≤ _), (by decide : 45 + 7 ≤ _)⟩)
      dsimp only [Pt.U, Pt.locs, Pt.cells, Pt.slots] at X446 l446 y446 z446 st446 hQ446
      subst l446 y446 z446
      obtain ⟨r_447, wr_448, kR_449, rfl, N446q, K446, p446_0, p446_1, p446_2, p446_3, p446_4⟩ := hQ446
      have N450 := Fr.app N435 N446q
      have gr_447 : T431.heap.size ≤ r_447 := p446_0
      have gwr_448 : T431.heap.size ≤ wr_448 := p446_1
      have zzK446 : T431.heap.size ≤ T446.heap.size := K446.1
      have oo451 : Old Z n0 T446.heap := oo436.keep K446 all0
      have kt452 : Keep h0 T446.heap [] := kt437.trans K446 all0
      refine own_b T446 m 186 #[vi p0, vi p1, vi p2, vi p3, vi p4, vi 3, vi w0, vi w1, vi w2, vi w3, vr b337, vi e2_, vr b367, vr b401, un] [.ref r_447] (fun _ k_ => st446.trans k_) ?_
      refine own_b T446 m 190 #[vi p0, vi p1, vi p2, vi p3, vi p4, vi 3, vi w0, vi w1, vi w2, vi w3, vr b337, vi e2_, vr b367, vr b401, vr r_447] [.ref b401] (fun _ k_ => XS.astore X446.here hx rfl (hb hby at_186) rfl rfl (l' := #[vi p0, vi p1, vi p2, vi p3, vi p4, vi 3, vi w0, vi w1, vi w2, vi w3, vr b337, vi e2_, vr b367, vr b401, vr r_447]) rfl (XS.aload X446.here hx rfl (hb hby at_188) rfl rfl k_)) ?_
      have f453 : Exa Z T446.heap b401 cn0 := (f438.keep K446)
      have f454 : Fld Z T446.heap b401 cn0 "workplaces" "[I" (.ref wp_433) := (p431_4.keep K446 nin0)
      have f455 : Arv Z T446.heap wp_433 kW_434 .int (3 : Int32) [.int 0, .int 0, .int 0] (.int 0) := (p431_5.keep K446 nin0)
      obtain ⟨cq456, kq456, q456a, q456b, q456c⟩ := isOf hZ rfl f453
      obtain ⟨_, _, ⟨T456, L456, k456, n456⟩, -, X456, ⟨Lc456, hQ456, l456, y456, z456⟩, st456⟩ := X446.virtualBack hx (y := (⟨cn0, "getAssignedCount", "()I"⟩ : MethodName)) (z := (⟨cn0, "getAssignedCount", "()I"⟩ : MethodName)) hown (mvT hZ (ww hw 295 rfl)) (mvT hZ (ww hw 296 rfl)) (notFace_of_selects (args := #[]) (mvT hZ (ww hw 298 rfl))) (mvT hZ (ww hw 298 rfl)) (mvT hZ (ww hw 297 rfl)) (by decide) (backOf (W := 0) (rmC0_3 l Z a0 hw [] wC cC wD kD mA mL mR GS b401 wp_433 kW_434 T446.heap n0 (by omega) oo451 f453 f454 f455) hZ (ww hw 299 rfl) (ww hw 103 rfl) (by decide) (by decide)) q456a q456c (g := (mkF m 190 #[vi p0, vi p1, vi p2, vi p3, vi p4, vi 3, vi w0, vi w1, vi w2, vi w3, vr b337, vi e2_, vr b367, vr b401, vr r_447] [.ref b401])) rfl (by rw [hml]; rfl) (Steps.refl _) (argsL := []) (rest := []) (lenOf own_pd_5 rfl) rfl (by show 2 * 0 + _ ≤ _; exact Nat.le_of_eq rfl) (hb hby at_190) (fun _ _ => ⟨rfl, rfl, (by decide : 15 + 0 ≤ _), (by decide : 52 + 0 ≤ _)⟩)
      dsimp only [Pt.U, Pt.locs, Pt.cells, Pt.slots] at X456 l456 y456 z456 st456 hQ456
      subst l456 y456 z456
      obtain ⟨rfl, N456q, e456⟩ := hQ456
      have N457 := Fr.app N450 N456q
      refine own_b T456 m 193 #[vi p0, vi p1, vi p2, vi p3, vi p4, vi 3, vi w0, vi w1, vi w2, vi w3, vr b337, vi e2_, vr b367, vr b401, vr r_447] [.int 0] (fun _ k_ => st456.trans k_) ?_
      refine own_b T456 m 198 #[vi p0, vi p1, vi p2, vi p3, vi p4, vi 3, vi w0, vi w1, vi w2, vi w3, vr b337, vi e2_, vr b367, vr b401, vr r_447] [.ref r_447] (fun _ k_ => XS.ifNo X456.here hx rfl (hb hby at_193) rfl (XT.i0_ne_f (by decide)) (XS.aload X456.here hx rfl (hb hby at_196) rfl rfl k_)) ?_
      obtain ⟨cq458, kq458, q458a, q458b, q458c⟩ := isOf hZ e456 p446_2
      obtain ⟨_, _, ⟨T458, L458, k458, n458⟩, -, X458, ⟨Lc458, hQ458, l458, y458, z458⟩, st458⟩ := X456.virtualBack hx (y := (⟨cn0, "getAssignedCount", "()I"⟩ : MethodName)) (z := (⟨cn0, "getAssignedCount", "()I"⟩ : MethodName)) hown (mvT hZ (ww hw 295 rfl)) (mvT hZ (ww hw 296 rfl)) (notFace_of_selects (args := #[]) (mvT hZ (ww hw 298 rfl))) (mvT hZ (ww hw 298 rfl)) (mvT hZ (ww hw 297 rfl)) (by decide) (backOf (W := 0) (rmCn_3 l Z a0 hw [] wC cC wD kD mA mL mR GS r_447 wr_448 kR_449 w0 w1 w2 T446.heap n0 (by omega) oo451 p446_2 p446_3 p446_4) hZ (ww hw 299 rfl) (ww hw 103 rfl) (by decide) (by decide)) q458a q458c (g := (mkF m 198 #[vi p0, vi p1, vi p2, vi p3, vi p4, vi 3, vi w0, vi w1, vi w2, vi w3, vr b337, vi e2_, vr b367, vr b401, vr r_447] [.ref r_447])) rfl (by rw [hml]; rfl) (Steps.refl _) (argsL := []) (rest := []) (lenOf own_pd_5 rfl) rfl (by show 2 * 0 + _ ≤ _; exact Nat.le_of_eq rfl) (hb hby at_198) (fun _ _ => ⟨rfl, e456, (by decide : 15 + 0 ≤ _), (by decide : 52 + 0 ≤ _)⟩)
      dsimp only [Pt.U, Pt.locs, Pt.cells, Pt.slots] at X458 l458 y458 z458 st458 hQ458
      subst l458 y458 z458
      obtain ⟨rfl, N458q, e458⟩ := hQ458
      have N459 := Fr.app N457 N458q
      refine own_b T458 m 201 #[vi p0, vi p1, vi p2, vi p3, vi p4, vi 3, vi w0, vi w1, vi w2, vi w3, vr b337, vi e2_, vr b367, vr b401, vr r_447] [(.int (if w0 = (0 : Int32) then (if w1 = (0 : Int32) then (if w2 = (0 : Int32) then (0 : Int32) else (1 : Int32)) else (if w2 = (0 : Int32) then (1 : Int32) else (2 : Int32))) else (if w1 = (0 : Int32) then (if w2 = (0 : Int32) then (1 : Int32) else (2 : Int32)) else (if w2 = (0 : Int32) then (2 : Int32) else (3 : Int32)))))] (fun _ k_ => st458.trans k_) ?_
      refine own_b T458 m 211 #[vi p0, vi p1, vi p2, vi p3, vi p4, vi 3, vi w0, vi w1, vi w2, vi w3, vr b337, vi e2_, vr b367, vr b401, vr r_447] [.int 1] (fun _ k_ => XS.iload X458.here hx rfl (hb hby at_201) rfl (XS.icmpNo X458.here hx rfl (hb hby at_203) rfl (XT.ii_ne_f (by simp only [hj362, hj364, hj366]; by_cases u0 : w0 = (0 : Int32) <;> by_cases u1 : w1 = (0 : Int32) <;> by_cases u2 : w2 = (0 : Int32) <;> simp +decide [u0, u1, u2])) (XS.iconst X458.here hx rfl (hb hby at_206) (XS.goto X458.here hx rfl (pc0 := 207) (pc' := 211) rfl (hb hby at_207) (by decide) (by decide) k_)))) ?_
      have hn460 : nar .boolean (1 : Int32) = (1 : Int32) := rfl
      obtain ⟨fs461, hr461, hrun461, hended461, hW461, hsame461⟩ := X458.leave (v := some (.int (nar .boolean (1 : Int32)))) (fun h => by rw [Bd.returns] at h; cases h)
      refine ⟨_, _, retN X458 hx (t := .boolean) Bd.returns (by simp) (hb hby at_211) hr461, hrun461, hended461, _, _, rfl, ?_, ⟨_, rfl⟩, hW461, hsame461.mono (by decide) (by decide)⟩
      show Q_rm0 Z wC cC wD kD mA mL mR p0 p1 p2 p3 p4 h0 n0 _ T458.heap _
      exact ⟨(congrArg (fun z => some (Value.int z)) hn460), N459⟩
     refine own_b T363 m 124 #[vi p0, vi p1, vi p2, vi p3, vi p4, vi 3, vi w0, vi w1, vi w2, vi w3, vr b337, vi e1_, un, un, un] [.int w2] (fun _ k_ => XS.iload X363.here hx rfl (hb hby at_122) rfl k_) ?_
     by_cases hc462 : w2 = (0 : Int32)
     ·refine own_b T363 m 130 #[vi p0, vi p1, vi p2, vi p3, vi p4, vi 3, vi w0, vi w1, vi w2, vi w3, vr b337, vi e1_, un, un, un] [] (fun _ k_ => XS.ifYes X363.here hx rfl (pc0 := 124) (pc' := 130) rfl (hb hby at_124) rfl (XT.i0_eq_t hc462) (by decide) (by decide) k_) ?_
      exact J365 T363 _  X363 e363  N363 e1_  (by simp [hc462])
     ·refine own_b T363 m 130 #[vi p0, vi p1, vi p2, vi p3, vi p4, vi 3, vi w0, vi w1, vi w2, vi w3, vr b337, .val (.int (e1_ + (1 : Int32))), un, un, un] [] (fun _ k_ => XS.ifNo X363.here hx rfl (hb hby at_124) rfl (XT.i0_eq_f hc462) (XS.iinc X363.here hx rfl (hb hby at_127) rfl rfl k_)) ?_
      exact J365 T363 _  X363 e363  N363 (e1_ + (1 : Int32))  (by simp [hc462])
    refine own_b T361 m 110 #[vi p0, vi p1, vi p2, vi p3, vi p4, vi 3, vi w0, vi w1, vi w2, vi w3, vr b337, vi e0_, un, un, un] [.int w1] (fun _ k_ => XS.iload X361.here hx rfl (hb hby at_108) rfl k_) ?_
    by_cases hc463 : w1 = (0 : Int32)
    ·refine own_b T361 m 116 #[vi p0, vi p1, vi p2, vi p3, vi p4, vi 3, vi w0, vi w1, vi w2, vi w3, vr b337, vi e0_, un, un, un] [] (fun _ k_ => XS.ifYes X361.here hx rfl (pc0 := 110) (pc' := 116) rfl (hb hby at_110) rfl (XT.i0_eq_t hc463) (by decide) (by decide) k_) ?_
     exact J363 T361 _  X361 e361  N361 e0_  (by simp [hc463])
    ·refine own_b T361 m 116 #[vi p0, vi p1, vi p2, vi p3, vi p4, vi 3, vi w0, vi w1, vi w2, vi w3, vr b337, .val (.int (e0_ + (1 : Int32))), un, un, un] [] (fun _ k_ => XS.ifNo X361.here hx rfl (hb hby at_110) rfl (XT.i0_eq_f hc463) (XS.iinc X361.here hx rfl (hb hby at_113) rfl rfl k_)) ?_
     exact J363 T361 _  X361 e361  N361 (e0_ + (1 : Int32))  (by simp [hc463])
   refine own_b T355 m 96 #[vi p0, vi p1, vi p2, vi p3, vi p4, vi 3, vi w0, vi w1, vi w2, vi w3, vr b337, vi 0, un, un, un] [.int w0] (fun _ k_ => XS.iload X355.here hx rfl (hb hby at_94) rfl k_) ?_
   by_cases hc464 : w0 = (0 : Int32)
   ·refine own_b T355 m 102 #[vi p0, vi p1, vi p2, vi p3, vi p4, vi 3, vi w0, vi w1, vi w2, vi w3, vr b337, vi 0, un, un, un] [] (fun _ k_ => XS.ifYes X355.here hx rfl (pc0 := 96) (pc' := 102) rfl (hb hby at_96) rfl (XT.i0_eq_t hc464) (by decide) (by decide) k_) ?_
    exact J361 T355 _  X355 e355  N360 (0 : Int32)  (by simp [hc464])
   ·refine own_b T355 m 102 #[vi p0, vi p1, vi p2, vi p3, vi p4, vi 3, vi w0, vi w1, vi w2, vi w3, vr b337, .val (.int ((0 : Int32) + (1 : Int32))), un, un, un] [] (fun _ k_ => XS.ifNo X355.here hx rfl (hb hby at_96) rfl (XT.i0_eq_f hc464) (XS.iinc X355.here hx rfl (hb hby at_99) rfl rfl k_)) ?_
    rw [show ((0 : Int32) + (1 : Int32)) = (1 : Int32) from by decide]
    exact J361 T355 _  X355 e355  N360 (1 : Int32)  (by simp [hc464])
  ·refine own_b T5 m 35 #[vi p0, vi p1, vi p2, vi p3, vi p4, vi 4, vi w0, vi w1, vi w2, vi w3, un, un, un, un, un] [.int 4] (fun _ k_ => XS.iload X5.here hx rfl (hb hby at_33) rfl k_) ?_
   obtain ⟨T465, h465, k465, X465, e465, E465, A465, EX465, st465⟩ := newPE X5 hx hZ (ww hw 1 rfl) e5 (g := (mkF m 35 #[vi p0, vi p1, vi p2, vi p3, vi p4, vi 4, vi w0, vi w1, vi w2, vi w3, un, un, un, un, un] [.int 4])) rfl (hb hby at_35) rfl (by decide) (cap := 4) (by decide) (by decide) (by decide) (by decide) (ad := "[I") rfl
   obtain ⟨bz465, gz465⟩ : ∃ z, z = h0.size := ⟨_, rfl⟩
   rw [← gz465] at EX465
   obtain ⟨b465, g465⟩ : ∃ z, z = h0.size := ⟨_, rfl⟩
   rw [← g465] at A465 st465
   have K466 : Keep h0 h465 [] := own_kext E465
   have zzK466 : h0.size ≤ h465.size := K466.1
   have oo467 : Old Z n0 h465 := O0.keep K466 all0
   have kt468 : Keep h0 h465 [] := KT0.trans K466 all0
   have lab465 : b465 < h465.size := A465.lt
   have f469 : Exa Z h465 b465 "[I" := by rw [g465, ← gz465]; exact EX465
   have f470 : Arv Z h465 b465 k465 .int (4 : Int32) [.int 0, .int 0, .int 0, .int 0] (.int 0) := (Arv.new A465 (by decide)).pad (pad_rep [] (.int 0) 4)
   refine own_b T465 m 37 #[vi p0, vi p1, vi p2, vi p3, vi p4, vi 4, vi w0, vi w1, vi w2, vi w3, un, un, un, un, un] [.ref b465] st465 ?_
   refine own_b T465 m 49 #[vi p0, vi p1, vi p2, vi p3, vi p4, vi 4, vi w0, vi w1, vi w2, vi w3, vr b465, un, un, un, un] [.int w0, .int 0, .ref b465] (fun _ k_ => XS.astore X465.here hx rfl (hb hby at_37) rfl rfl (l' := #[vi p0, vi p1, vi p2, vi p3, vi p4, vi 4, vi w0, vi w1, vi w2, vi w3, vr b465, un, un, un, un]) rfl (XS.iload X465.here hx rfl (hb hby at_39) rfl (XS.ifNo X465.here hx rfl (hb hby at_41) rfl (XT.i0_le_f (by decide)) (XS.aload X465.here hx rfl (hb hby at_44) rfl rfl (XS.iconst X465.here hx rfl (hb hby at_46) (XS.iload X465.here hx rfl (hb hby at_47) rfl k_)))))) ?_
   obtain ⟨cl471, Ar471, q471, S471, M471, H471, G471⟩ := id f470
   have hin471 : ¬ ((0 : Int32) < 0 ∨ cl471.slots.size ≤ ((0 : Int32)).toNatClampNeg) := inb_of S471 ⟨by decide, by decide⟩
   obtain ⟨T471, h471, X471, e471, W471, st471⟩ := stI X465 hx hZ e465 Ar471 (j := (0 : Int32)) hin471 (g := (mkF m 49 #[vi p0, vi p1, vi p2, vi p3, vi p4, vi 4, vi w0, vi w1, vi w2, vi w3, vr b465, un, un, un, un] [.int w0, .int 0, .ref b465])) rfl rfl (hb hby at_49)
   have K472 : Keep h465 h471 [b465] := Keep.of_wr W471
   have zzK472 : h465.size ≤ h471.size := K472.1
   have oo473 : Old Z n0 h471 := oo467.keep K472 (allS (by omega : n0 ≤ b465) all0)
   have kt474 : Keep h0 h471 [] := kt468.trans K472 (allS (Or.inr (by omega : h0.size ≤ b465)) all0)
   have f475 : Arv Z h471 b465 k465 .int (4 : Int32) [.int w0, .int 0, .int 0, .int 0] (.int 0) := Arv.set Ar471 q471 S471 M471 H471 G471 rfl W471 0 rfl (Nat.le_of_ble_eq_true rfl)
   have N476 := Fr.snoc X471 N5 (by omega : n0 ≤ b465)
   refine own_b T471 m 50 #[vi p0, vi p1, vi p2, vi p3, vi p4, vi 4, vi w0, vi w1, vi w2, vi w3, vr b465, un, un, un, un] [] st471 ?_
   refine own_b T471 m 61 #[vi p0, vi p1, vi p2, vi p3, vi p4, vi 4, vi w0, vi w1, vi w2, vi w3, vr b465, un, un, un, un] [.int w1, .int 1, .ref b465] (fun _ k_ => XS.iload X471.here hx rfl (hb hby at_50) rfl (XS.iconst X471.here hx rfl (hb hby at_52) (XS.icmpNo X471.here hx rfl (hb hby at_53) rfl (XT.ii_le_f (by decide)) (XS.aload X471.here hx rfl (hb hby at_56) rfl rfl (XS.iconst X471.here hx rfl (hb hby at_58) (XS.iload X471.here hx rfl (hb hby at_59) rfl k_)))))) ?_
   obtain ⟨cl477, Ar477, q477, S477, M477, H477, G477⟩ := id f475
   have hin477 : ¬ ((1 : Int32) < 0 ∨ cl477.slots.size ≤ ((1 : Int32)).toNatClampNeg) := inb_of S477 ⟨by decide, by decide⟩
   obtain ⟨T477, h477, X477, e477, W477, st477⟩ := stI X471 hx hZ e471 Ar477 (j := (1 : Int32)) hin477 (g := (mkF m 61 #[vi p0, vi p1, vi p2, vi p3, vi p4, vi 4, vi w0, vi w1, vi w2, vi w3, vr b465, un, un, un, un] [.int w1, .int 1, .ref b465])) rfl rfl (hb hby at_61)
   have K478 : Keep h471 h477 [b465] := Keep.of_wr W477
   have zzK478 : h471.size ≤ h477.size := K478.1
   have oo479 : Old Z n0 h477 := oo473.keep K478 (allS (by omega : n0 ≤ b465) all0)
   have kt480 : Keep h0 h477 [] := kt474.trans K478 (allS (Or.inr (by omega : h0.size ≤ b465)) all0)
   have f481 : Arv Z h477 b465 k465 .int (4 : Int32) [.int w0, .int w1, .int 0, .int 0] (.int 0) := Arv.set Ar477 q477 S477 M477 H477 G477 rfl W477 1 rfl (Nat.le_of_ble_eq_true rfl)
   have N482 := Fr.snoc X477 N476 (by omega : n0 ≤ b465)
   refine own_b T477 m 62 #[vi p0, vi p1, vi p2, vi p3, vi p4, vi 4, vi w0, vi w1, vi w2, vi w3, vr b465, un, un, un, un] [] st477 ?_
   refine own_b T477 m 73 #[vi p0, vi p1, vi p2, vi p3, vi p4, vi 4, vi w0, vi w1, vi w2, vi w3, vr b465, un, un, un, un] [.int w2, .int 2, .ref b465] (fun _ k_ => XS.iload X477.here hx rfl (hb hby at_62) rfl (XS.iconst X477.here hx rfl (hb hby at_64) (XS.icmpNo X477.here hx rfl (hb hby at_65) rfl (XT.ii_le_f (by decide)) (XS.aload X477.here hx rfl (hb hby at_68) rfl rfl (XS.iconst X477.here hx rfl (hb hby at_70) (XS.iload X477.here hx rfl (hb hby at_71) rfl k_)))))) ?_
   obtain ⟨cl483, Ar483, q483, S483, M483, H483, G483⟩ := id f481
   have hin483 : ¬ ((2 : Int32) < 0 ∨ cl483.slots.size ≤ ((2 : Int32)).toNatClampNeg) := inb_of S483 ⟨by decide, by decide⟩
   obtain ⟨T483, h483, X483, e483, W483, st483⟩ := stI X477 hx hZ e477 Ar483 (j := (2 : Int32)) hin483 (g := (mkF m 73 #[vi p0, vi p1, vi p2, vi p3, vi p4, vi 4, vi w0, vi w1, vi w2, vi w3, vr b465, un, un, un, un] [.int w2, .int 2, .ref b465])) rfl rfl (hb hby at_73)
   have K484 : Keep h477 h483 [b465] := Keep.of_wr W483
   have zzK484 : h477.size ≤ h483.size := K484.1
   have oo485 : Old Z n0 h483 := oo479.keep K484 (allS (by omega : n0 ≤ b465) all0)
   have kt486 : Keep h0 h483 [] := kt480.trans K484 (allS (Or.inr (by omega : h0.size ≤ b465)) all0)
   have f487 : Arv Z h483 b465 k465 .int (4 : Int32) [.int w0, .int w1, .int w2, .int 0] (.int 0) := Arv.set Ar483 q483 S483 M483 H483 G483 rfl W483 2 rfl (Nat.le_of_ble_eq_true rfl)
   have N488 := Fr.snoc X483 N482 (by omega : n0 ≤ b465)
   refine own_b T483 m 74 #[vi p0, vi p1, vi p2, vi p3, vi p4, vi 4, vi w0, vi w1, vi w2, vi w3, vr b465, un, un, un, un] [] st483 ?_
   refine own_b T483 m 85 #[vi p0, vi p1, vi p2, vi p3, vi p4, vi 4, vi w0, vi w1, vi w2, vi w3, vr b465, un, un, un, un] [.int w3, .int 3, .ref b465] (fun _ k_ => XS.iload X483.here hx rfl (hb hby at_74) rfl (XS.iconst X483.here hx rfl (hb hby at_76) (XS.icmpNo X483.here hx rfl (hb hby at_77) rfl (XT.ii_le_f (by decide)) (XS.aload X483.here hx rfl (hb hby at_80) rfl rfl (XS.iconst X483.here hx rfl (hb hby at_82) (XS.iload X483.here hx rfl (hb hby at_83) rfl k_)))))) ?_
   obtain ⟨cl489, Ar489, q489, S489, M489, H489, G489⟩ := id f487
   have hin489 : ¬ ((3 : Int32) < 0 ∨ cl489.slots.size ≤ ((3 : Int32)).toNatClampNeg) := inb_of S489 ⟨by decide, by decide⟩
   obtain ⟨T489, h489, X489, e489, W489, st489⟩ := stI X483 hx hZ e483 Ar489 (j := (3 : Int32)) hin489 (g := (mkF m 85 #[vi p0, vi p1, vi p2, vi p3, vi p4, vi 4, vi w0, vi w1, vi w2, vi w3, vr b465, un, un, un, un] [.int w3, .int 3, .ref b465])) rfl rfl (hb hby at_85)
   have K490 : Keep h483 h489 [b465] := Keep.of_wr W489
   have zzK490 : h483.size ≤ h489.size := K490.1
   have oo491 : Old Z n0 h489 := oo485.keep K490 (allS (by omega : n0 ≤ b465) all0)
   have kt492 : Keep h0 h489 [] := kt486.trans K490 (allS (Or.inr (by omega : h0.size ≤ b465)) all0)
   have f493 : Arv Z h489 b465 k465 .int (4 : Int32) [.int w0, .int w1, .int w2, .int w3] (.int 0) := Arv.set Ar489 q489 S489 M489 H489 G489 rfl W489 3 rfl (Nat.le_of_ble_eq_true rfl)
   have N494 := Fr.snoc X489 N488 (by omega : n0 ≤ b465)
   refine own_b T489 m 86 #[vi p0, vi p1, vi p2, vi p3, vi p4, vi 4, vi w0, vi w1, vi w2, vi w3, vr b465, un, un, un, un] [] st489 ?_
   refine own_b T489 m 94 #[vi p0, vi p1, vi p2, vi p3, vi p4, vi 4, vi w0, vi w1, vi w2, vi w3, vr b465, vi 0, un, un, un] [] (fun _ k_ => XS.iconst X489.here hx rfl (hb hby at_86) (XS.istore X489.here hx rfl (hb hby at_87) rfl (l' := #[vi p0, vi p1, vi p2, vi p3, vi p4, vi 4, vi w0, vi w1, vi w2, vi w3, vr b465, vi 0, un, un, un]) rfl (XS.iload X489.here hx rfl (hb hby at_89) rfl (XS.ifNo X489.here hx rfl (hb hby at_91) rfl (XT.i0_le_f (by decide)) k_)))) ?_
   have J495 : ∀ (T495 : State) (lo495 : List Loc) (X495 : Stand p l e room_1 s m #[.int p0, .int p1, .int p2, .int p3, .int p4] below meth c T495 lo495 1 4) (e495 : T495.heap = h489) (N495 : Fr n0 lo495) (e0_ : Int32), e0_ = (if w0 = (0 : Int32) then (0 : Int32) else ((0 : Int32) + (1 : Int32))) → OGoal p e below (fun oo_ UV_ => ∃ vv_ LL_, oo_ = .returned vv_ ∧ Q_rm0 Z wC cC wD kD mA mL mR p0 p1 p2 p3 p4 h0 n0 vv_ UV_.heap LL_ ∧ FrameEnd s oo_ UV_ LL_ 15 57) T495 (mkF m 102 #[.val (.int p0), .val (.int p1), .val (.int p2), .val (.int p3), .val (.int p4), .val (.int 4), .val (.int w0), .val (.int w1), .val (.int w2), .val (.int w3), .val (.ref b465), .val (.int e0_), .unset, .unset, .unset] []) := by
    intro T495 lo495 X495 e495 N495 e0_  hj496
    refine own_b T495 m 108 #[vi p0, vi p1, vi p2, vi p3, vi p4, vi 4, vi w0, vi w1, vi w2, vi w3, vr b465, vi e0_, un, un, un] [] (fun _ k_ => XS.iload X495.here hx rfl (hb hby at_102) rfl (XS.iconst X495.here hx rfl (hb hby at_104) (XS.icmpNo X495.here hx rfl (hb hby at_105) rfl (XT.ii_le_f (by decide)) k_))) ?_
    have J497 : ∀ (T497 : State) (lo497 : List Loc) (X497 : Stand p l e room_1 s m #[.int p0, .int p1, .int p2, .int p3, .int p4] below meth c T497 lo497 1 4) (e497 : T497.heap = h489) (N497 : Fr n0 lo497) (e1_ : Int32), e1_ = (if w1 = (0 : Int32) then e0_ else (e0_ + (1 : Int32))) → OGoal p e below (fun oo_ UV_ => ∃ vv_ LL_, oo_ = .returned vv_ ∧ Q_rm0 Z wC cC wD kD mA mL mR p0 p1 p2 p3 p4 h0 n0 vv_ UV_.heap LL_ ∧ FrameEnd s oo_ UV_ LL_ 15 57) T497 (mkF m 116 #[.val (.int p0), .val (.int p1), .val (.int p2), .val (.int p3), .val (.int p4), .val (.int 4), .val (.int w0), .val (.int w1), .val (.int w2), .val (.int w3), .val (.ref b465), .val (.int e1_), .unset, .unset, .unset] []) := by
     intro T497 lo497 X497 e497 N497 e1_  hj498
     refine own_b T497 m 122 #[vi p0, vi p1, vi p2, vi p3, vi p4, vi 4, vi w0, vi w1, vi w2, vi w3, vr b465, vi e1_, un, un, un] [] (fun _ k_ => XS.iload X497.here hx rfl (hb hby at_116) rfl (XS.iconst X497.here hx rfl (hb hby at_118) (XS.icmpNo X497.here hx rfl (hb hby at_119) rfl (XT.ii_le_f (by decide)) k_))) ?_
     have J499 : ∀ (T499 : State) (lo499 : List Loc) (X499 : Stand p l e room_1 s m #[.int p0, .int p1, .int p2, .int p3, .int p4] below meth c T499 lo499 1 4) (e499 : T499.heap = h489) (N499 : Fr n0 lo499) (e2_ : Int32), e2_ = (if w2 = (0 : Int32) then e1_ else (e1_ + (1 : Int32))) → OGoal p e below (fun oo_ UV_ => ∃ vv_ LL_, oo_ = .returned vv_ ∧ Q_rm0 Z wC cC wD kD mA mL mR p0 p1 p2 p3 p4 h0 n0 vv_ UV_.heap LL_ ∧ FrameEnd s oo_ UV_ LL_ 15 57) T499 (mkF m 130 #[.val (.int p0), .val (.int p1), .val (.int p2), .val (.int p3), .val (.int p4), .val (.int 4), .val (.int w0), .val (.int w1), .val (.int w2), .val (.int w3), .val (.ref b465), .val (.int e2_), .unset, .unset, .unset] []) := by
      intro T499 lo499 X499 e499 N499 e2_  hj500
      refine own_b T499 m 136 #[vi p0, vi p1, vi p2, vi p3, vi p4, vi 4, vi w0, vi w1, vi w2, vi w3, vr b465, vi e2_, un, un, un] [] (fun _ k_ => XS.iload X499.here hx rfl (hb hby at_130) rfl (XS.iconst X499.here hx rfl (hb hby at_132) (XS.icmpNo X499.here hx rfl (hb hby at_133) rfl (XT.ii_le_f (by decide)) k_))) ?_
      have J501 : ∀ (T501 : State) (lo501 : List Loc) (X501 : Stand p l e room_1 s m #[.int p0, .int p1, .int p2, .int p3, .int p4] below meth c T501 lo501 1 4) (e501 : T501.heap = h489) (N501 : Fr n0 lo501) (e3_ : Int32), e3_ = (if w3 = (0 : Int32) then e2_ else (e2_ + (1 : Int32))) → OGoal p e below (fun oo_ UV_ => ∃ vv_ LL_, oo_ = .returned vv_ ∧ Q_rm0 Z wC cC wD kD mA mL mR p0 p1 p2 p3 p4 h0 n0 vv_ UV_.heap LL_ ∧ FrameEnd s oo_ UV_ LL_ 15 57) T501 (mkF m 144 #[.val (.int p0), .val (.int p1), .val (.int p2), .val (.int p3), .val (.int p4), .val (.int 4), .val (.int w0), .val (.int w1), .val (.int w2), .val (.int w3), .val (.ref b465), .val (.int e3_), .unset, .unset, .unset] []) := by
       intro T501 lo501 X501 e501 N501 e3_  hj502
       obtain ⟨T503, h503, X503, e503, E503, A503, D503, -, st503⟩ := newO X501 hx hZ hown (ww hw 2 rfl) (ww hw 3 rfl) (ww hw 4 rfl) e501 (g := (mkF m 144 #[vi p0, vi p1, vi p2, vi p3, vi p4, vi 4, vi w0, vi w1, vi w2, vi w3, vr b465, vi e3_, un, un, un] [])) rfl (hb hby at_144) (by decide) (by decide)
       obtain ⟨b503, g503⟩ : ∃ z, z = h489.size := ⟨_, rfl⟩
       rw [← g503] at A503 D503 st503
       have K504 : Keep h489 h503 [] := own_kext E503
       have zzK504 : h489.size ≤ h503.size := K504.1
       have oo505 : Old Z n0 h503 := oo491.keep K504 all0
       have kt506 : Keep h0 h503 [] := kt492.trans K504 all0
       have lab503 : b503 < h503.size := A503.lt
       have f507 : Fld Z h503 b503 cn1 "zones" "Ljava/util/List;" .null := D503 (Or.inr (ww hw 36 rfl)) (ty := (.object "java/util/List")) (by decide)
       have f508 : Fld Z h503 b503 cn1 "counts" "[I" .null := D503 (Or.inr (ww hw 38 rfl)) (ty := (.array .int)) (by decide)
       have f509 : Fld Z h503 b503 cn1 "given" "[Z" .null := D503 (Or.inr (ww hw 41 rfl)) (ty := (.array .boolean)) (by decide)
       have f510 : Fld Z h503 b503 cn1 "total" "I" (.int 0) := D503 (Or.inl (ww hw 58 rfl)) (ty := .int) (by decide)
       refine own_b T503 m 147 #[vi p0, vi p1, vi p2, vi p3, vi p4, vi 4, vi w0, vi w1, vi w2, vi w3, vr b465, vi e3_, un, un, un] [.ref b503] st503 ?_
       refine own_b T503 m 149 #[vi p0, vi p1, vi p2, vi p3, vi p4, vi 4, vi w0, vi w1, vi w2, vi w3, vr b465, vi e3_, un, un, un] [.int 1, .ref b503, .ref b503] (fun _ k_ => XS.dup X503.here hx rfl (hb hby at_147) rfl rfl (XS.iconst X503.here hx rfl (hb hby at_148) k_)) ?_
       obtain ⟨_, _, ⟨T511, L511, k511, n511⟩, -, X511, ⟨Lc511, hQ511, l511, y511, z511⟩, st511⟩ := X503.specialBack hx (y := (⟨cn1, "<init>", "(I)V"⟩ : MethodName)) rfl hown (mvT hZ (ww hw 5 rfl)) (mvT hZ (ww hw 6 rfl)) (mvT hZ (ww hw 7 rfl)) (by decide) (backOf (W := 1) (rmZI l Z a0 hw [] wC cC wD kD mA mL mR GS b503 h503 n0 (by omega) oo505 A503 (by omega) f507 f508 f509 f510) hZ (ww hw 7 rfl) (ww hw 4 rfl) (by decide) (by decide)) (g := (mkF m 149 #[vi p0, vi p1, vi p2, vi p3, vi p4, vi 4, vi w0, vi w1, vi w2, vi w3, vr b465, vi e3_, un, un, un] [.int 1, .ref b503, .ref b503])) rfl (by rw [hml]; rfl) (Steps.refl _) (a := b503) (argsL := [.int 1]) (rest := [.ref b503]) (lenOf own_pd_6 rfl) rfl (by show 2 * 0 + _ ≤ _; exact Nat.le_of_eq rfl) (hb hby at_149) (fun _ _ => ⟨rfl, e503, (by decide : 2 + 3 ≤ _), (by decide : 8 + 7 ≤ _)⟩)
       dsimp only [Pt.U, Pt.locs, Pt.cells, Pt.slots] at X511 l511 y511 z511 st511 hQ511
       subst l511 y511 z511
       obtain ⟨al_512, ct_513, gv_514, kC_515, kG_516, rfl, N511q, K511, p511_0, p511_1, p511_2, p511_3, p511_4, p511_5, p511_6, p511_7, p511_8, p511_9, p511_10, p511_11, p511_12, p511_13, p511_14, p511_15⟩ := hQ511
       have N517 := Fr.app N501 N511q
       have gal_512 : h503.size ≤ al_512 := p511_0
       have gct_513 : h503.size ≤ ct_513 := p511_1
       have ggv_514 : h503.size ≤ gv_514 := p511_2
       have zzK511 : h503.size ≤ T511.heap.size := K511.1
       have oo518 : Old Z n0 T511.heap := oo505.keep K511 (allS (by omega : n0 ≤ b503) all0)
       have kt519 : Keep h0 T511.heap [] := kt506.trans K511 (allS (Or.inr (by omega : h0.size ≤ b503)) all0)
       refine own_b T511 m 152 #[vi p0, vi p1, vi p2, vi p3, vi p4, vi 4, vi w0, vi w1, vi w2, vi w3, vr b465, vi e3_, un, un, un] [.ref b503] (fun _ k_ => st511.trans k_) ?_
       refine own_b T511 m 159 #[vi p0, vi p1, vi p2, vi p3, vi p4, vi 4, vi w0, vi w1, vi w2, vi w3, vr b465, vi e3_, vr b503, un, un] [.int 4, .int 1, .ref b503] (fun _ k_ => XS.astore X511.here hx rfl (hb hby at_152) rfl rfl (l' := #[vi p0, vi p1, vi p2, vi p3, vi p4, vi 4, vi w0, vi w1, vi w2, vi w3, vr b465, vi e3_, vr b503, un, un]) rfl (XS.aload X511.here hx rfl (hb hby at_154) rfl rfl (XS.iconst X511.here hx rfl (hb hby at_156) (XS.iload X511.here hx rfl (hb hby at_157) rfl k_)))) ?_
       have f520 : Exa Z T511.heap b503 cn1 := (A503.keep K511)
       have la521 : @LT.lt Nat instLTNat ct_513 T511.heap.size := p511_11.lt
       have la522 : @LT.lt Nat instLTNat gv_514 T511.heap.size := p511_12.lt
       have ne523 : @Ne Nat ct_513 gv_514 := by omega
       have la524 : @LT.lt Nat instLTNat al_512 T511.heap.size := p511_7.lt
       have ne525 : @Ne Nat al_512 gv_514 := by omega
       have ne526 : @Ne Nat al_512 ct_513 := by omega
       have ne527 : @Ne Nat b503 al_512 := by omega
       have ne528 : @Ne Nat b503 ct_513 := by omega
       have ne529 : @Ne Nat b503 gv_514 := by omega
       obtain ⟨cq530, kq530, q530a, q530b, q530c⟩ := isOf hZ rfl f520
       obtain ⟨_, _, ⟨T530, L530, k530, n530⟩, -, X530, ⟨Lc530, hQ530, l530, y530, z530⟩, st530⟩ := X511.virtualBack hx (y := (⟨cn1, "add", "(II)V"⟩ : MethodName)) (z := (⟨cn1, "add", "(II)V"⟩ : MethodName)) hown (mvT hZ (ww hw 42 rfl)) (mvT hZ (ww hw 43 rfl)) (notFace_of_selects (args := #[]) (mvT hZ (ww hw 45 rfl))) (mvT hZ (ww hw 45 rfl)) (mvT hZ (ww hw 44 rfl)) (by decide) (backOf (W := 0) (rmZA l Z a0 hw [] wC cC wD kD mA mL mR GS b503 al_512 ct_513 gv_514 kC_515 kG_516 (4 : Int32) T511.heap n0 (by omega) oo518 f520 (by omega) (by omega) (by omega) (by omega) p511_3 p511_4 p511_5 p511_6 p511_7 p511_8 p511_9 p511_10 p511_11 p511_12 ne523 ne525 ne526 ne527 ne528 ne529 (by decide) (by decide)) hZ (ww hw 46 rfl) (ww hw 4 rfl) (by decide) (by decide)) q530a q530c (g := (mkF m 159 #[vi p0, vi p1, vi p2, vi p3, vi p4, vi 4, vi w0, vi w1, vi w2, vi w3, vr b465, vi e3_, vr b503, un, un] [.int 4, .int 1, .ref b503])) rfl (by rw [hml]; rfl) (Steps.refl _) (argsL := [.int 1, .int 4]) (rest := []) (lenOf own_pd_23 rfl) rfl (by show 2 * 0 + _ ≤ _; exact Nat.le_of_eq rfl) (hb hby at_159) (fun _ _ => ⟨rfl, rfl, (by decide : 5 + 1 ≤ _), (by decide : 15 + 10 ≤ _)⟩)
       dsimp only [Pt.U, Pt.locs, Pt.cells, Pt.slots] at X530 l530 y530 z530 st530 hQ530
       subst l530 y530 z530
       obtain ⟨t_531, kE_532, b_533, rfl, N530q, K530, p530_0, p530_1, p530_2, p530_3, p530_4, p530_5, p530_6, p530_7, p530_8, p530_9, p530_10⟩ := hQ530
       have N534 := Fr.app N517 N530q
       have gt_531 : T511.heap.size ≤ t_531 := p530_0
       have zzK530 : T511.heap.size ≤ T530.heap.size := K530.1
       have oo535 : Old Z n0 T530.heap := oo518.keep K530 (allS (by omega : n0 ≤ b503) (allS (by omega : n0 ≤ al_512) (allS (by omega : n0 ≤ ct_513) (allS (by omega : n0 ≤ gv_514) all0))))
       have kt536 : Keep h0 T530.heap [] := kt519.trans K530 (allS (Or.inr (by omega : h0.size ≤ b503)) (allS (Or.inr (by omega : h0.size ≤ al_512)) (allS (Or.inr (by omega : h0.size ≤ ct_513)) (allS (Or.inr (by omega : h0.size ≤ gv_514)) all0))))
       refine own_b T530 m 162 #[vi p0, vi p1, vi p2, vi p3, vi p4, vi 4, vi w0, vi w1, vi w2, vi w3, vr b465, vi e3_, vr b503, un, un] [] (fun _ k_ => st530.trans k_) ?_
       obtain ⟨T537, h537, X537, e537, E537, A537, D537, -, st537⟩ := newO X530 hx hZ hown (ww hw 101 rfl) (ww hw 102 rfl) (ww hw 103 rfl) rfl (g := (mkF m 162 #[vi p0, vi p1, vi p2, vi p3, vi p4, vi 4, vi w0, vi w1, vi w2, vi w3, vr b465, vi e3_, vr b503, un, un] [])) rfl (hb hby at_162) (by decide) (by decide)
       obtain ⟨b537, g537⟩ : ∃ z, z = T530.heap.size := ⟨_, rfl⟩
       rw [← g537] at A537 D537 st537
       have K538 : Keep T530.heap h537 [] := own_kext E537
       have zzK538 : T530.heap.size ≤ h537.size := K538.1
       have oo539 : Old Z n0 h537 := oo535.keep K538 all0
       have kt540 : Keep h0 h537 [] := kt536.trans K538 all0
       have lab537 : b537 < h537.size := A537.lt
       have f541 : Fld Z h537 b537 cn0 "jobs" cn4 .null := D537 (Or.inr (ww hw 273 rfl)) (ty := (.object cn1)) (by decide)
       have f542 : Fld Z h537 b537 cn0 "homeZones" "[I" .null := D537 (Or.inr (ww hw 275 rfl)) (ty := (.array .int)) (by decide)
       have f543 : Fld Z h537 b537 cn0 "departures" "[I" .null := D537 (Or.inr (ww hw 277 rfl)) (ty := (.array .int)) (by decide)
       have f544 : Fld Z h537 b537 cn0 "workplaces" "[I" .null := D537 (Or.inr (ww hw 279 rfl)) (ty := (.array .int)) (by decide)
       refine own_b T537 m 165 #[vi p0, vi p1, vi p2, vi p3, vi p4, vi 4, vi w0, vi w1, vi w2, vi w3, vr b465, vi e3_, vr b503, un, un] [.ref b537] st537 ?_
       refine own_b T537 m 172 #[vi p0, vi p1, vi p2, vi p3, vi p4, vi 4, vi w0, vi w1, vi w2, vi w3, vr b465, vi e3_, vr b503, un, un] [.int 4, .ref b503, .ref b503, .ref b537, .ref b537] (fun _ k_ => XS.dup X537.here hx rfl (hb hby at_165) rfl rfl (XS.aload X537.here hx rfl (hb hby at_166) rfl rfl (XS.aload X537.here hx rfl (hb hby at_168) rfl rfl (XS.iload X537.here hx rfl (hb hby at_170) rfl k_)))) ?_
       obtain ⟨T545, h545, k545, X545, e545, E545, A545, st545⟩ := newP X537 hx hZ (ww hw 1 rfl) e537 (g := (mkF m 172 #[vi p0, vi p1, vi p2, vi p3, vi p4, vi 4, vi w0, vi w1, vi w2, vi w3, vr b465, vi e3_, vr b503, un, un] [.int 4, .ref b503, .ref b503, .ref b537, .ref b537])) rfl (hb hby at_172) rfl (by decide) (cap := 4) (by decide) (by decide) (by decide) (by decide)
       obtain ⟨b545, g545⟩ : ∃ z, z = h537.size := ⟨_, rfl⟩
       rw [← g545] at A545 st545
       have K546 : Keep h537 h545 [] := own_kext E545
       have zzK546 : h537.size ≤ h545.size := K546.1
       have oo547 : Old Z n0 h545 := oo539.keep K546 all0
       have kt548 : Keep h0 h545 [] := kt540.trans K546 all0
       have lab545 : b545 < h545.size := A545.lt
       have f549 : Arv Z h545 b545 k545 .int (4 : Int32) [.int 0, .int 0, .int 0, .int 0] (.int 0) := (Arv.new A545 (by decide)).pad (pad_rep [] (.int 0) 4)
       refine own_b T545 m 174 #[vi p0, vi p1, vi p2, vi p3, vi p4, vi 4, vi w0, vi w1, vi w2, vi w3, vr b465, vi e3_, vr b503, un, un] [.ref b545, .ref b503, .ref b503, .ref b537, .ref b537] st545 ?_
       have f550 : Exa Z h545 b537 cn0 := (A537.keep K546)
       have f551 : Fld Z h545 b537 cn0 "jobs" cn4 .null := (f541.keep K546 nin0)
       have f552 : Fld Z h545 b537 cn0 "homeZones" "[I" .null := (f542.keep K546 nin0)
       have f553 : Fld Z h545 b537 cn0 "departures" "[I" .null := (f543.keep K546 nin0)
       have f554 : Fld Z h545 b537 cn0 "workplaces" "[I" .null := (f544.keep K546 nin0)
       have f555 : Exa Z h545 b503 cn1 := (((f520.keep K530).keep K538).keep K546)
       have f556 : Fld Z h545 b503 cn1 "total" "I" (.int 4) := ((p530_3.keep K538 nin0).keep K546 nin0)
       have f557 : Fld Z h545 b503 cn1 "zones" "Ljava/util/List;" (.ref al_512) := ((p530_1.keep K538 nin0).keep K546 nin0)
       have f558 : Fld Z h545 b503 cn1 "counts" "[I" (.ref ct_513) := ((p530_2.keep K538 nin0).keep K546 nin0)
       have f559 : Arv Z h545 ct_513 kC_515 .int (2 : Int32) [.int 0, .int 4] (.int 0) := ((p530_10.keep K538 nin0).keep K546 nin0)
       have f560 : Exa Z h545 al_512 cn2 := (((p511_7.keep K530).keep K538).keep K546)
       have f561 : Fld Z h545 al_512 "java/util/AbstractList" "modCount" "I" (.int 1) := ((p530_4.keep K538 nin0).keep K546 nin0)
       have f562 : Fld Z h545 al_512 cn2 "size" "I" (.int 1) := ((p530_6.keep K538 nin0).keep K546 nin0)
       have f563 : Fld Z h545 al_512 cn2 "elementData" "[Ljava/lang/Object;" (.ref t_531) := ((p530_5.keep K538 nin0).keep K546 nin0)
       have f564 : Arv Z h545 t_531 kE_532 (.object "java/lang/Object") (10 : Int32) [.ref b_533, .null, .null, .null, .null, .null, .null, .null, .null, .null] .null := ((p530_7.keep K538 nin0).keep K546 nin0)
       have f565 : Exa Z h545 b_533 "java/lang/Integer" := ((p530_8.keep K538).keep K546)
       have f566 : Fld Z h545 b_533 "java/lang/Integer" "value" "I" (.int 1) := ((p530_9.keep K538 nin0).keep K546 nin0)
       obtain ⟨_, _, ⟨T567, L567, k567, n567⟩, -, X567, ⟨Lc567, hQ567, l567, y567, z567⟩, st567⟩ := X545.specialBack hx (y := (⟨cn0, "<init>", cn6⟩ : MethodName)) rfl hown (mvT hZ (ww hw 104 rfl)) (mvT hZ (ww hw 105 rfl)) (mvT hZ (ww hw 106 rfl)) (by decide) (backOf (W := 1) (rmWI3_4 l Z a0 hw [] wC cC wD kD mA mL mR GS b537 b545 k545 b503 al_512 ct_513 kC_515 t_531 kE_532 b_533 h545 n0 (by omega) oo547 f550 (by omega) f551 f552 f553 f554 f549 f555 f556 f557 f558 f559 f560 f561 f562 f563 f564 f565 f566) hZ (ww hw 106 rfl) (ww hw 103 rfl) (by decide) (by decide)) (g := (mkF m 174 #[vi p0, vi p1, vi p2, vi p3, vi p4, vi 4, vi w0, vi w1, vi w2, vi w3, vr b465, vi e3_, vr b503, un, un] [.ref b545, .ref b503, .ref b503, .ref b537, .ref b537])) rfl (by rw [hml]; rfl) (Steps.refl _) (a := b537) (argsL := [.ref b503, .ref b503, .ref b545]) (rest := [.ref b537]) (lenOf own_pd_24 rfl) rfl (by show 2 * 0 + _ ≤ _; exact Nat.le_of_eq rfl) (hb hby at_174) (fun _ _ => ⟨rfl, e545, (by decide : 8 + 5 ≤ _), (by decide : 33 + 16 ≤ _)⟩)
       dsimp only [Pt.U, Pt.locs, Pt.cells, Pt.slots] at X567 l567 y567 z567 st567 hQ567
       subst l567 y567 z567
       obtain ⟨h_568, wp_569, kW_570, rfl, N567q, K567, p567_0, p567_1, p567_2, p567_3, p567_4, p567_5⟩ := hQ567
       have N571 := Fr.app N534 N567q
       have gwp_569 : h545.size ≤ wp_569 := p567_0
       have zzK567 : h545.size ≤ T567.heap.size := K567.1
       have oo572 : Old Z n0 T567.heap := oo547.keep K567 (allS (by omega : n0 ≤ b537) all0)
       have kt573 : Keep h0 T567.heap [] := kt548.trans K567 (allS (Or.inr (by omega : h0.size ≤ b537)) all0)
       refine own_b T567 m 177 #[vi p0, vi p1, vi p2, vi p3, vi p4, vi 4, vi w0, vi w1, vi w2, vi w3, vr b465, vi e3_, vr b503, un, un] [.ref b537] (fun _ k_ => st567.trans k_) ?_
       refine own_b T567 m 183 #[vi p0, vi p1, vi p2, vi p3, vi p4, vi 4, vi w0, vi w1, vi w2, vi w3, vr b465, vi e3_, vr b503, vr b537, un] [.ref b465, .ref b537] (fun _ k_ => XS.astore X567.here hx rfl (hb hby at_177) rfl rfl (l' := #[vi p0, vi p1, vi p2, vi p3, vi p4, vi 4, vi w0, vi w1, vi w2, vi w3, vr b465, vi e3_, vr b503, vr b537, un]) rfl (XS.aload X567.here hx rfl (hb hby at_179) rfl rfl (XS.aload X567.here hx rfl (hb hby at_181) rfl rfl k_))) ?_
       have f574 : Exa Z T567.heap b537 cn0 := (f550.keep K567)
       have f575 : Exa Z T567.heap b465 "[I" := ((((((((((f469.keep K472).keep K478).keep K484).keep K490).keep K504).keep K511).keep K530).keep K538).keep K546).keep K567)
       have ne576 : @Ne Nat b465 b503 := by omega
       have ne577 : @Ne Nat b465 gv_514 := by omega
       have ne578 : @Ne Nat b465 ct_513 := by omega
       have ne579 : @Ne Nat b465 al_512 := by omega
       have ne580 : @Ne Nat b465 b537 := by omega
       have f581 : Arv Z T567.heap b465 k465 .int (4 : Int32) [.int w0, .int w1, .int w2, .int w3] (.int 0) := ((((((f493.keep K504 nin0).keep K511 (ninS ne576 nin0)).keep K530 (ninS ne576 (ninS ne579 (ninS ne578 (ninS ne577 nin0))))).keep K538 nin0).keep K546 nin0).keep K567 (ninS ne580 nin0))
       obtain ⟨cq582, kq582, q582a, q582b, q582c⟩ := isOf hZ rfl f574
       obtain ⟨_, _, ⟨T582, L582, k582, n582⟩, -, X582, ⟨Lc582, hQ582, l582, y582, z582⟩, st582⟩ := X567.virtualBack hx (y := (⟨cn0, "withWorkplaces", "([I)Lcom/example/even_commute/evencommute/demand/Workers;"⟩ : MethodName)) (z := (⟨cn0, "withWorkplaces", "([I)Lcom/example/even_commute/evencommute/demand/Workers;"⟩ : MethodName)) hown (mvT hZ (ww hw 280 rfl)) (mvT hZ (ww hw 281 rfl)) (notFace_of_selects (args := #[]) (mvT hZ (ww hw 283 rfl))) (mvT hZ (ww hw 283 rfl)) (mvT hZ (ww hw 282 rfl)) (by decide) (backOf (W := 0) (rmWw_4 l Z a0 hw [] wC cC wD kD mA mL mR GS b537 b465 k465 b503 h_568 b545 wp_569 w0 w1 w2 w3 T567.heap n0 (by omega) oo572 f574 f575 f581 p567_1 p567_2 p567_3 p567_4) hZ (ww hw 284 rfl) (ww hw 103 rfl) (by decide) (by decide)) q582a q582c (g := (mkF m 183 #[vi p0, vi p1, vi p2, vi p3, vi p4, vi 4, vi w0, vi w1, vi w2, vi w3, vr b465, vi e3_, vr b503, vr b537, un] [.ref b465, .ref b537])) rfl (by rw [hml]; rfl) (Steps.refl _) (argsL := [.ref b465]) (rest := []) (lenOf own_pd_25 rfl) rfl (by show 2 * 0 + _ ≤ _; exact Nat.le_of_eq rfl) (hb hby at_183) (fun _ _ => ⟨rfl, rfl, (by decide : 13 + 2 ≤ _), (by decide : 49 + 8 ≤ _)⟩)
       dsimp only [Pt.U, Pt.locs, Pt.cells, Pt.slots] at X582 l582 y582 z582 st582 hQ582
       subst l582 y582 z582
       obtain ⟨r_583, wr_584, kR_585, rfl, N582q, K582, p582_0, p582_1, p582_2, p582_3, p582_4⟩ := hQ582
       have N586 := Fr.app N571 N582q
       have gr_583 : T567.heap.size ≤ r_583 := p582_0
       have gwr_584 : T567.heap.size ≤ wr_584 := p582_1
       have zzK582 : T567.heap.size ≤ T582.heap.size := K582.1
       have oo587 : Old Z n0 T582.heap := oo572.keep K582 all0
       have kt588 : Keep h0 T582.heap [] := kt573.trans K582 all0
       refine own_b T582 m 186 #[vi p0, vi p1, vi p2, vi p3, vi p4, vi 4, vi w0, vi w1, vi w2, vi w3, vr b465, vi e3_, vr b503, vr b537, un] [.ref r_583] (fun _ k_ => st582.trans k_) ?_
       refine own_b T582 m 190 #[vi p0, vi p1, vi p2, vi p3, vi p4, vi 4, vi w0, vi w1, vi w2, vi w3, vr b465, vi e3_, vr b503, vr b537, vr r_583] [.ref b537] (fun _ k_ => XS.astore X582.here hx rfl (hb hby at_186) rfl rfl (l' := #[vi p0, vi p1, vi p2, vi p3, vi p4, vi 4, vi w0, vi w1, vi w2, vi w3, vr b465, vi e3_, vr b503, vr b537, vr r_583]) rfl (XS.aload X582.here hx rfl (hb hby at_188) rfl rfl k_)) ?_
       have f589 : Exa Z T582.heap b537 cn0 := (f574.keep K582)
       have f590 : Fld Z T582.heap b537 cn0 "workplaces" "[I" (.ref wp_569) := (p567_4.keep K582 nin0)
       have f591 : Arv Z T582.heap wp_569 kW_570 .int (4 : Int32) [.int 0, .int 0, .int 0, .int 0] (.int 0) := (p567_5.keep K582 nin0)
       obtain ⟨cq592, kq592, q592a, q592b, q592c⟩ := isOf hZ rfl f589
       obtain ⟨_, _, ⟨T592, L592, k592, n592⟩, -, X592, ⟨Lc592, hQ592, l592, y592, z592⟩, st592⟩ := X582.virtualBack hx (y := (⟨cn0, "getAssignedCount", "()I"⟩ : MethodName)) (z := (⟨cn0, "getAssignedCount", "()I"⟩ : MethodName)) hown (mvT hZ (ww hw 295 rfl)) (mvT hZ (ww hw 296 rfl)) (notFace_of_selects (args := #[]) (mvT hZ (ww hw 298 rfl))) (mvT hZ (ww hw 298 rfl)) (mvT hZ (ww hw 297 rfl)) (by decide) (backOf (W := 0) (rmC0_4 l Z a0 hw [] wC cC wD kD mA mL mR GS b537 wp_569 kW_570 T582.heap n0 (by omega) oo587 f589 f590 f591) hZ (ww hw 299 rfl) (ww hw 103 rfl) (by decide) (by decide)) q592a q592c (g := (mkF m 190 #[vi p0, vi p1, vi p2, vi p3, vi p4, vi 4, vi w0, vi w1, vi w2, vi w3, vr b465, vi e3_, vr b503, vr b537, vr r_583] [.ref b537])) rfl (by rw [hml]; rfl) (Steps.refl _) (argsL := []) (rest := []) (lenOf own_pd_5 rfl) rfl (by show 2 * 0 + _ ≤ _; exact Nat.le_of_eq rfl) (hb hby at_190) (fun _ _ => ⟨rfl, rfl, (by decide : 15 + 0 ≤ _), (by decide : 57 + 0 ≤ _)⟩)
       dsimp only [Pt.U, Pt.locs, Pt.cells, Pt.slots] at X592 l592 y592 z592 st592 hQ592
       subst l592 y592 z592
       obtain ⟨rfl, N592q, e592⟩ := hQ592
       have N593 := Fr.app N586 N592q
       refine own_b T592 m 193 #[vi p0, vi p1, vi p2, vi p3, vi p4, vi 4, vi w0, vi w1, vi w2, vi w3, vr b465, vi e3_, vr b503, vr b537, vr r_583] [.int 0] (fun _ k_ => st592.trans k_) ?_
       refine own_b T592 m 198 #[vi p0, vi p1, vi p2, vi p3, vi p4, vi 4, vi w0, vi w1, vi w2, vi w3, vr b465, vi e3_, vr b503, vr b537, vr r_583] [.ref r_583] (fun _ k_ => XS.ifNo X592.here hx rfl (hb hby at_193) rfl (XT.i0_ne_f (by decide)) (XS.aload X592.here hx rfl (hb hby at_196) rfl rfl k_)) ?_
       obtain ⟨cq594, kq594, q594a, q594b, q594c⟩ := isOf hZ e592 p582_2
       obtain ⟨_, _, ⟨T594, L594, k594, n594⟩, -, X594, ⟨Lc594, hQ594, l594, y594, z594⟩, st594⟩ := X592.virtualBack hx (y := (⟨cn0, "getAssignedCount", "()I"⟩ : MethodName)) (z := (⟨cn0, "getAssignedCount", "()I"⟩ : MethodName)) hown (mvT hZ (ww hw 295 rfl)) (mvT hZ (ww hw 296 rfl)) (notFace_of_selects (args := #[]) (mvT hZ (ww hw 298 rfl))) (mvT hZ (ww hw 298 rfl)) (mvT hZ (ww hw 297 rfl)) (by decide) (backOf (W := 0) (rmCn_4 l Z a0 hw [] wC cC wD kD mA mL mR GS r_583 wr_584 kR_585 w0 w1 w2 w3 T582.heap n0 (by omega) oo587 p582_2 p582_3 p582_4) hZ (ww hw 299 rfl) (ww hw 103 rfl) (by decide) (by decide)) q594a q594c (g := (mkF m 198 #[vi p0, vi p1, vi p2, vi p3, vi p4, vi 4, vi w0, vi w1, vi w2, vi w3, vr b465, vi e3_, vr b503, vr b537, vr r_583] [.ref r_583])) rfl (by rw [hml]; rfl) (Steps.refl _) (argsL := []) (rest := []) (lenOf own_pd_5 rfl) rfl (by show 2 * 0 + _ ≤ _; exact Nat.le_of_eq rfl) (hb hby at_198) (fun _ _ => ⟨rfl, e592, (by decide : 15 + 0 ≤ _), (by decide : 57 + 0 ≤ _)⟩)
       dsimp only [Pt.U, Pt.locs, Pt.cells, Pt.slots] at X594 l594 y594 z594 st594 hQ594
       subst l594 y594 z594
       obtain ⟨rfl, N594q, e594⟩ := hQ594
       have N595 := Fr.app N593 N594q
       refine own_b T594 m 201 #[vi p0, vi p1, vi p2, vi p3, vi p4, vi 4, vi w0, vi w1, vi w2, vi w3, vr b465, vi e3_, vr b503, vr b537, vr r_583] [(.int (if w0 = (0 : Int32) then (if w1 = (0 : Int32) then (if w2 = (0 : Int32) then (if w3 = (0 : Int32) then (0 : Int32) else (1 : Int32)) else (if w3 = (0 : Int32) then (1 : Int32) else (2 : Int32))) else (if w2 = (0 : Int32) then (if w3 = (0 : Int32) then (1 : Int32) else (2 : Int32)) else (if w3 = (0 : Int32) then (2 : Int32) else (3 : Int32)))) else (if w1 = (0 : Int32) then (if w2 = (0 : Int32) then (if w3 = (0 : Int32) then (1 : Int32) else (2 : Int32)) else (if w3 = (0 : Int32) then (2 : Int32) else (3 : Int32))) else (if w2 = (0 : Int32) then (if w3 = (0 : Int32) then (2 : Int32) else (3 : Int32)) else (if w3 = (0 : Int32) then (3 : Int32) else (4 : Int32))))))] (fun _ k_ => st594.trans k_) ?_
       refine own_b T594 m 211 #[vi p0, vi p1, vi p2, vi p3, vi p4, vi 4, vi w0, vi w1, vi w2, vi w3, vr b465, vi e3_, vr b503, vr b537, vr r_583] [.int 1] (fun _ k_ => XS.iload X594.here hx rfl (hb hby at_201) rfl (XS.icmpNo X594.here hx rfl (hb hby at_203) rfl (XT.ii_ne_f (by simp only [hj496, hj498, hj500, hj502]; by_cases u0 : w0 = (0 : Int32) <;> by_cases u1 : w1 = (0 : Int32) <;> by_cases u2 : w2 = (0 : Int32) <;> by_cases u3 : w3 = (0 : Int32) <;> simp +decide [u0, u1, u2, u3])) (XS.iconst X594.here hx rfl (hb hby at_206) (XS.goto X594.here hx rfl (pc0 := 207) (pc' := 211) rfl (hb hby at_207) (by decide) (by decide) k_)))) ?_
       have hn596 : nar .boolean (1 : Int32) = (1 : Int32) := rfl
       obtain ⟨fs597, hr597, hrun597, hended597, hW597, hsame597⟩ := X594.leave (v := some (.int (nar .boolean (1 : Int32)))) (fun h => by rw [Bd.returns] at h; cases h)
       refine ⟨_, _, retN X594 hx (t := .boolean) Bd.returns (by simp) (hb hby at_211) hr597, hrun597, hended597, _, _, rfl, ?_, ⟨_, rfl⟩, hW597, hsame597.mono (by decide) (by decide)⟩
       show Q_rm0 Z wC cC wD kD mA mL mR p0 p1 p2 p3 p4 h0 n0 _ T594.heap _
       exact ⟨(congrArg (fun z => some (Value.int z)) hn596), N595⟩
      refine own_b T499 m 138 #[vi p0, vi p1, vi p2, vi p3, vi p4, vi 4, vi w0, vi w1, vi w2, vi w3, vr b465, vi e2_, un, un, un] [.int w3] (fun _ k_ => XS.iload X499.here hx rfl (hb hby at_136) rfl k_) ?_
      by_cases hc598 : w3 = (0 : Int32)
      ·refine own_b T499 m 144 #[vi p0, vi p1, vi p2, vi p3, vi p4, vi 4, vi w0, vi w1, vi w2, vi w3, vr b465, vi e2_, un, un, un] [] (fun _ k_ => XS.ifYes X499.here hx rfl (pc0 := 138) (pc' := 144) rfl (hb hby at_138) rfl (XT.i0_eq_t hc598) (by decide) (by decide) k_) ?_
       exact J501 T499 _  X499 e499  N499 e2_  (by simp [hc598])
      ·refine own_b T499 m 144 #[vi p0, vi p1, vi p2, vi p3, vi p4, vi 4, vi w0, vi w1, vi w2, vi w3, vr b465, .val (.int (e2_ + (1 : Int32))), un, un, un] [] (fun _ k_ => XS.ifNo X499.here hx rfl (hb hby at_138) rfl (XT.i0_eq_f hc598) (XS.iinc X499.here hx rfl (hb hby at_141) rfl rfl k_)) ?_
       exact J501 T499 _  X499 e499  N499 (e2_ + (1 : Int32))  (by simp [hc598])
     refine own_b T497 m 124 #[vi p0, vi p1, vi p2, vi p3, vi p4, vi 4, vi w0, vi w1, vi w2, vi w3, vr b465, vi e1_, un, un, un] [.int w2] (fun _ k_ => XS.iload X497.here hx rfl (hb hby at_122) rfl k_) ?_
     by_cases hc599 : w2 = (0 : Int32)
     ·refine own_b T497 m 130 #[vi p0, vi p1, vi p2, vi p3, vi p4, vi 4, vi w0, vi w1, vi w2, vi w3, vr b465, vi e1_, un, un, un] [] (fun _ k_ => XS.ifYes X497.here hx rfl (pc0 := 124) (pc' := 130) rfl (hb hby at_124) rfl (XT.i0_eq_t hc599) (by decide) (by decide) k_) ?_
      exact J499 T497 _  X497 e497  N497 e1_  (by simp [hc599])
     ·refine own_b T497 m 130 #[vi p0, vi p1, vi p2, vi p3, vi p4, vi 4, vi w0, vi w1, vi w2, vi w3, vr b465, .val (.int (e1_ + (1 : Int32))), un, un, un] [] (fun _ k_ => XS.ifNo X497.here hx rfl (hb hby at_124) rfl (XT.i0_eq_f hc599) (XS.iinc X497.here hx rfl (hb hby at_127) rfl rfl k_)) ?_
      exact J499 T497 _  X497 e497  N497 (e1_ + (1 : Int32))  (by simp [hc599])
    refine own_b T495 m 110 #[vi p0, vi p1, vi p2, vi p3, vi p4, vi 4, vi w0, vi w1, vi w2, vi w3, vr b465, vi e0_, un, un, un] [.int w1] (fun _ k_ => XS.iload X495.here hx rfl (hb hby at_108) rfl k_) ?_
    by_cases hc600 : w1 = (0 : Int32)
    ·refine own_b T495 m 116 #[vi p0, vi p1, vi p2, vi p3, vi p4, vi 4, vi w0, vi w1, vi w2, vi w3, vr b465, vi e0_, un, un, un] [] (fun _ k_ => XS.ifYes X495.here hx rfl (pc0 := 110) (pc' := 116) rfl (hb hby at_110) rfl (XT.i0_eq_t hc600) (by decide) (by decide) k_) ?_
     exact J497 T495 _  X495 e495  N495 e0_  (by simp [hc600])
    ·refine own_b T495 m 116 #[vi p0, vi p1, vi p2, vi p3, vi p4, vi 4, vi w0, vi w1, vi w2, vi w3, vr b465, .val (.int (e0_ + (1 : Int32))), un, un, un] [] (fun _ k_ => XS.ifNo X495.here hx rfl (hb hby at_110) rfl (XT.i0_eq_f hc600) (XS.iinc X495.here hx rfl (hb hby at_113) rfl rfl k_)) ?_
     exact J497 T495 _  X495 e495  N495 (e0_ + (1 : Int32))  (by simp [hc600])
   refine own_b T489 m 96 #[vi p0, vi p1, vi p2, vi p3, vi p4, vi 4, vi w0, vi w1, vi w2, vi w3, vr b465, vi 0, un, un, un] [.int w0] (fun _ k_ => XS.iload X489.here hx rfl (hb hby at_94) rfl k_) ?_
   by_cases hc601 : w0 = (0 : Int32)
   ·refine own_b T489 m 102 #[vi p0, vi p1, vi p2, vi p3, vi p4, vi 4, vi w0, vi w1, vi w2, vi w3, vr b465, vi 0, un, un, un] [] (fun _ k_ => XS.ifYes X489.here hx rfl (pc0 := 96) (pc' := 102) rfl (hb hby at_96) rfl (XT.i0_eq_t hc601) (by decide) (by decide) k_) ?_
    exact J495 T489 _  X489 e489  N494 (0 : Int32)  (by simp [hc601])
   ·refine own_b T489 m 102 #[vi p0, vi p1, vi p2, vi p3, vi p4, vi 4, vi w0, vi w1, vi w2, vi w3, vr b465, .val (.int ((0 : Int32) + (1 : Int32))), un, un, un] [] (fun _ k_ => XS.ifNo X489.here hx rfl (hb hby at_96) rfl (XT.i0_eq_f hc601) (XS.iinc X489.here hx rfl (hb hby at_99) rfl rfl k_)) ?_
    rw [show ((0 : Int32) + (1 : Int32)) = (1 : Int32) from by decide]
    exact J495 T489 _  X489 e489  N494 (1 : Int32)  (by simp [hc601])
 refine own_b s₁ m 33 #[vi p0, vi p1, vi p2, vi p3, vi p4, .val (.int ((p0 &&& (7 : Int32)) % (5 : Int32))), .val (.int (p1 &&& (2147483647 : Int32))), .val (.int (p2 &&& (2147483647 : Int32))), .val (.int (p3 &&& (2147483647 : Int32))), .val (.int (p4 &&& (2147483647 : Int32))), un, un, un, un, un] [] (fun _ k_ => XS.istore X0.here hx rfl (hb hby at_31) rfl rfl k_) ?_
 exact J5 s₁ _  X0 e0  N0 ((p0 &&& (7 : Int32)) % (5 : Int32)) (p1 &&& (2147483647 : Int32)) (p2 &&& (2147483647 : Int32)) (p3 &&& (2147483647 : Int32)) (p4 &&& (2147483647 : Int32))  (own_nn _)
theorem comes_1 {Post : Tables → Env → Array Value → State → Outcome → State → Prop} (hpost : ∀ tb e args s v u, (limb_1_1.after args s (.returned v) u = true ∧ limb_1_2.after args s (.returned v) u = true ∧ True) → FrameEnd s (.returned v) u (Jvm.fieldLocs frame_1_writes args s ++ Jvm.arrayLocs frame_1_arrays args s ++ Jvm.staticLocs frame_1_statics s) 40 192 → Post tb e args s (.returned v) u) :
  ArmFor flags0 classFile x code maxLocals ret World_1 tables_1 room_1 Calls_1 rest_1 Pre_1 Post := by
 intro l hfl _ _ p e ha hc hk s m args below hf hA hF happ hP
 obtain ⟨hcalls, hrest, hpre⟩ := hP
 obtain ⟨-, -, -, hnamed, -, -, -, hat⟩ := (Spec.applies_iff hf).mp happ
 obtain ⟨hg, hn⟩ := and_e (Cond.before_iff.mp (show (Jvm.Cond.and given_1 narrow_1).before args s = true from hpre))
 obtain ⟨g1a, g1b⟩ := and_e hg
 obtain ⟨g2a, g2b⟩ := and_e g1b
 obtain ⟨g3a, g3b⟩ := and_e g2b
 obtain ⟨g4a, g4b⟩ := and_e g3b
 obtain ⟨g5a, g5b⟩ := and_e g4b
 obtain ⟨w0, w1, w2, w3, w4, rfl⟩ : ∃ w0 w1 w2 w3 w4 : Value, args = #[w0, w1, w2, w3, w4] := by
  have hs : args.size = 5 := by simpa [Cond.value, given_1] using g1a
  obtain ⟨L⟩ := args
  match L, hs with
  | [w0, w1, w2, w3, w4], _ => exact ⟨w0, w1, w2, w3, w4, rfl⟩
 have hw := fun d (hd : d ∈ tables_1) => atoms_spec (ws := Jvm.Cond.code x code maxLocals ret :: tables_1) hat d (List.mem_cons_of_mem _ hd)
 have hfit : Fit s := fun {y c} hc i hi => by
  obtain ⟨ha, rfl⟩ := Array.getElem?_eq_some_iff.mp hc
  have q := List.all_eq_true.mp ((Array.all_eq_true_iff_forall_mem.mp hF) _ (Array.getElem_mem ha)) i (List.mem_range.mpr hi)
  simpa [Array.getElem?_eq_getElem hi] using q
 obtain ⟨i0, ei0⟩ := is_v g2a
 obtain rfl : w0 = (.int i0) := Option.some.inj ei0
 obtain ⟨i1, ei1⟩ := is_v g3a
 obtain rfl : w1 = (.int i1) := Option.some.inj ei1
 obtain ⟨i2, ei2⟩ := is_v g4a
 obtain rfl : w2 = (.int i2) := Option.some.inj ei2
 obtain ⟨i3, ei3⟩ := is_v g5a
 obtain rfl : w3 = (.int i3) := Option.some.inj ei3
 obtain ⟨i4, ei4⟩ := is_v g5b
 obtain rfl : w4 = (.int i4) := Option.some.inj ei4
 obtain ⟨hsets, hown0⟩ := atoms_of _ (rest_1_c_eq ▸ (show rest_1_c.before _ s = true from hrest))
 have ev_high := eqv_i (Term.int_eval (127 : Int32)) (Cond.before_iff.mp (hsets _ (List.mem_of_getElem? (i := 12) rfl)))
 have sta_high := Sta.start ev_high (Or.inr ⟨(ww hw 64 rfl), Cond.before_iff.mpr (Cond.before_iff.mp (hsets _ (List.mem_of_getElem? (i := 9) rfl)))⟩)
 obtain ⟨wC, ev_wC⟩ := arr_v (Cond.before_iff.mp (hsets _ (List.mem_of_getElem? (i := 13) rfl)))
 have sta_wC := Sta.start ev_wC (Or.inr ⟨(ww hw 64 rfl), Cond.before_iff.mpr (Cond.before_iff.mp (hsets _ (List.mem_of_getElem? (i := 11) rfl)))⟩)
 obtain ⟨cC, AC⟩ := Arr.start ev_wC (Cond.before_iff.mp (hsets _ (List.mem_of_getElem? (i := 13) rfl)))
 obtain ⟨lC1, lC2⟩ := own_len ev_wC AC (Cond.before_iff.mp (hsets _ (List.mem_of_getElem? (i := 15) rfl)))
 have bxi : Bxs s wC cC "java/lang/Integer" "I" (256 : Int32) (fun j => Value.int (j - (128 : Int32))) := Bxs.start (fun idx => (show _ = _ from ev_wC)) AC lC1 lC2 (by decide) (Cond.before_iff.mp (hsets _ (List.mem_of_getElem? (i := 16) rfl))) (fun X j nn hq => eqv_i (y := j - (128 : Int32)) (own_bxF nn) hq)
 obtain ⟨wD, ev_wD⟩ := arr_v (Cond.before_iff.mp (hsets _ (List.mem_of_getElem? (i := 6) rfl)))
 have sta_wD := Sta.start ev_wD (Or.inr ⟨(ww hw 13 rfl), Cond.before_iff.mpr (Cond.before_iff.mp (hsets _ (List.mem_of_getElem? (i := 2) rfl)))⟩)
 obtain ⟨cD, AD⟩ := Arr.start ev_wD (Cond.before_iff.mp (hsets _ (List.mem_of_getElem? (i := 6) rfl)))
 obtain ⟨lD1, lD2⟩ := own_len ev_wD AD (Cond.before_iff.mp (hsets _ (List.mem_of_getElem? (i := 8) rfl)))
 have arvD : Arv s s.heap wD cD.cls (.object "java/lang/Object") (0 : Int32) [] .null := Arv.start hfit AD lD1 lD2 (by decide) rfl trivial
 obtain ⟨kD, hkD⟩ : ∃ z, z = cD.cls := ⟨_, rfl⟩
 rw [← hkD] at arvD
 obtain ⟨ccA, kkA, mA, mm1, mm2, mm3, mm4⟩ := hcalls.1
 have mirA : Mir s cn2 mA := ⟨ccA, kkA, mm1, mm2, mm3, mm4⟩
 obtain ⟨ccL, kkL, mL, ml1, ml2, ml3, ml4⟩ := hcalls.2.1
 have mirL : Mir s "java/util/Collections$UnmodifiableList" mL := ⟨ccL, kkL, ml1, ml2, ml3, ml4⟩
 obtain ⟨ccR, kkR, mR, mr1, mr2, mr3, mr4⟩ := hcalls.2.2.1
 have mirR : Mir s "java/util/Collections$UnmodifiableRandomAccessList" mR := ⟨ccR, kkR, mr1, mr2, mr3, mr4⟩
 have GS : Glob s wC cC wD kD mA mL mR := ⟨sta_high, sta_wC, bxi, sta_wD, arvD, mirA, mirL, mirR⟩
 obtain ⟨n, o, h1, h2, h3, _, L, rfl, ⟨rfl, N⟩, hq⟩ := rm0 l s _ hw tables_1 wC cC wD kD mA mL mR GS i0 i1 i2 i3 i4 s.heap s.heap.size (Nat.le_refl _) (Old.start s) p e ha hc hk s m _ below hf ((Spec.applies_iff_loose hf).mp happ).1 ⟨rfl, State.Warmed39.refl s, rfl⟩ trivial
 refine ⟨n, _, h1, h2, h3, hpost _ _ _ _ _ _ ⟨Cond.after_iff.mpr rfl, Cond.after_iff.mpr (eq_i res_at (Term.int_eval (1)) rfl), trivial⟩ ⟨hq.1, hq.2.1, (hq.2.2.sift fun y hy => Or.inr (N y hy)).mono (by decide) (by decide)⟩⟩
theorem main_1_1 : Claimed_1_1 := comes_1 fun _ _ _ _ _ _ h hF => ⟨h.1, hF⟩
theorem main_1_2 : Claimed_1_2 := comes_1 fun _ _ _ _ _ _ h hF => ⟨h.2.1, hF⟩
end Jvm.Pilot.@@N@@
namespace Jvm.Pilot.@@N@@
open Jvm Jvm.ClassFile Sem Op Lib Jvm.Free Jvm.Stand Jvm.Pilot.@@N@@.Jvm.D
/-! MADE BY PROGRAM (witnessworld.py) out of the Statement's table words and the real class files: 38 classes; the members and pool entries that the words name. The judged class is class 1, her method 1. -/
namespace start1
open Jvm.ClassFile
def u (s : String) : CpInfo := .utf8 (stringToUtf16 s)
/-- a pool by its gaps: so many unusable entries, then the entry; so many at the end -/
def gap : Nat → List CpInfo → List CpInfo
  | 0, r => r
  | n + 1, r => .unusable :: gap n r
def poolList (es : List (Nat × CpInfo)) (last : Nat) : List CpInfo := es.foldr (fun e r => gap e.1 (e.2 :: r)) (gap last [])
def pool (es : List (Nat × CpInfo)) (last : Nat) : Array CpInfo := ⟨poolList es last⟩
def fileOf (pool : Array CpInfo) (this : Nat) (attrs : Array Attribute := #[]) (ms : Array MethodInfo := #[]) (fl : Nat := 33) (sup : Nat := 0) (ifs : Array Nat := #[]) (fds : Array FieldInfo := #[]) : ClassFile where
  minorVersion := 0
  majorVersion := 65
  constantPool := pool
  accessFlags := fl
  thisClass := this
  superClass := sup
  interfaces := ifs
  fields := fds
  methods := ms
  attributes := attrs
def plain (name : String) (sup : Option ClassId) : Class where
  name := name
  kind := .ordinary
  loader := none
  accessFlags := 33
  super := sup
  interfaces := #[]
  cf := none
  fields := #[]
  methods := #[]
  instanceTypes := #[]
  staticTypes := #[]
  resolved := #[]
  callSites := []
  init := .initialized
  statics := none
  mirror := none

def pool0 : Array CpInfo := pool [(5, u "<init>"), (0, u "()V"), (1, .class_ 10), (1, u "java/lang/Object"), (0, u "getClass"), (0, u "()Ljava/lang/Class;"), (83, u "clone"), (0, u "()Ljava/lang/Object;")] 26

def k0c0 : Code := { maxStack := 0, maxLocals := 1, code := object_method_1_code, exceptionTable := #[], attributes := #[] }
def k0m0 : Method := { name := "<init>", desc := "()V", sig := { parameters := [], returnType := none }, accessFlags := 1, code := some k0c0 }
def k0m1 : Method := { name := "getClass", desc := "()Ljava/lang/Class;", sig := { parameters := [], returnType := some (.object "java/lang/Class") }, accessFlags := 273, code := none }
def k0m2 : Method := { name := "clone", desc := "()Ljava/lang/Object;", sig := { parameters := [], returnType := some (.object "java/lang/Object") }, accessFlags := 260, code := none }
/-- java/lang/Object -/
def k0 : Class := { plain "java/lang/Object" none with
  accessFlags := 33
  interfaces := #[]
  cf := some (fileOf pool0 8 #[] #[{ accessFlags := 1, nameIndex := 5, descriptorIndex := 6, attributes := #[] }, { accessFlags := 273, nameIndex := 11, descriptorIndex := 12, attributes := #[] }, { accessFlags := 260, nameIndex := 96, descriptorIndex := 97, attributes := #[] }] 33 0 #[] #[])
  fields := #[]
  methods := #[k0m0, k0m1, k0m2]
  instanceTypes := #[]
  staticTypes := #[]
  resolved := Array.replicate 124 none
  statics := none }

def pool1 : Array CpInfo := pool [(2, .class_ 4), (1, u "java/lang/Object"), (0, u "<init>"), (0, u "()V"), (0, .integer 2147483647), (0, .class_ 9), (0, u "com/example/even_commute/evencommute/demand/ZoneCounts"), (0, .methodref 8 11), (0, .nameAndType 5 12), (0, u "(I)V"), (0, .methodref 8 14), (0, .nameAndType 15 16), (0, u "add"), (0, u "(II)V"), (0, .class_ 18), (0, u "com/example/even_commute/evencommute/demand/Workers"), (0, .methodref 17 20), (0, .nameAndType 5 21), (0, u "(Lcom/example/even_commute/evencommute/demand/ZoneCounts;Lcom/example/even_commute/evencommute/demand/ZoneCounts;[I)V"), (0, .methodref 17 23), (0, .nameAndType 24 25), (0, u "withWorkplaces"), (0, u "([I)Lcom/example/even_commute/evencommute/demand/Workers;"), (0, .methodref 17 27), (0, .nameAndType 28 29), (0, u "getAssignedCount"), (0, u "()I"), (0, .class_ 31), (0, u "com/example/even_commute/evencommute/demand/WorkersGetAssignedCountPinLaw"), (2, u "law"), (0, u "(IIIII)Z")] 5

def k1m0 : Method := { name := "<init>", desc := "()V", sig := { parameters := [], returnType := none }, accessFlags := 1, code := none }
def k1c1 : Code := { maxStack := 5, maxLocals := 15, code := code, exceptionTable := #[], attributes := #[] }
def k1m1 : Method := { name := "law", desc := "(IIIII)Z", sig := { parameters := [.int, .int, .int, .int, .int], returnType := some .boolean }, accessFlags := 9, code := some k1c1 }
/-- com/example/even_commute/evencommute/demand/WorkersGetAssignedCountPinLaw -/
def k1 : Class := { plain "com/example/even_commute/evencommute/demand/WorkersGetAssignedCountPinLaw" (some 0) with
  accessFlags := 49
  interfaces := #[]
  cf := some (fileOf pool1 30 #[] #[{ accessFlags := 1, nameIndex := 5, descriptorIndex := 6, attributes := #[] }, { accessFlags := 9, nameIndex := 34, descriptorIndex := 35, attributes := #[] }] 49 2 #[] #[])
  fields := #[]
  methods := #[k1m0, k1m1]
  instanceTypes := #[]
  staticTypes := #[]
  resolved := Array.replicate 41 none
  statics := none }

def pool2 : Array CpInfo := pool [(1, .class_ 2), (0, u "java/lang/Integer"), (0, .methodref 4 5), (0, .class_ 6), (0, .nameAndType 7 8), (0, u "java/lang/Object"), (0, u "<init>"), (0, u "()V"), (0, .class_ 10), (0, u "java/util/ArrayList"), (0, .methodref 9 5), (0, .fieldref 13 14), (0, .class_ 15), (0, .nameAndType 16 17), (0, u "com/example/even_commute/evencommute/demand/ZoneCounts"), (0, u "zones"), (0, u "Ljava/util/List;"), (9, .fieldref 13 28), (0, .nameAndType 29 30), (0, u "counts"), (0, u "[I"), (0, .fieldref 13 32), (0, .nameAndType 33 34), (0, u "given"), (0, u "[Z"), (0, .methodref 13 36), (0, .nameAndType 37 38), (0, u "checkZone"), (0, u "(I)V"), (2, .integer 2147483647), (0, .fieldref 13 43), (0, .nameAndType 44 45), (0, u "total"), (0, u "I"), (2, .methodref 1 49), (0, .nameAndType 50 51), (0, u "valueOf"), (0, u "(I)Ljava/lang/Integer;"), (6, .interfaceMethodref 59 60), (0, .class_ 61), (0, .nameAndType 62 63), (0, u "java/util/List"), (0, u "add"), (0, u "(Ljava/lang/Object;)Z"), (0, .methodref 65 66), (0, .class_ 67), (0, .nameAndType 68 69), (0, u "java/util/Collections"), (0, u "unmodifiableList"), (0, u "(Ljava/util/List;)Ljava/util/List;"), (0, .methodref 13 71), (0, .nameAndType 72 73), (0, u "getZoneCount"), (0, u "()I"), (2, u "MAX_TOTAL"), (6, u "(II)V"), (0, u "getZones"), (0, u "()Ljava/util/List;"), (1, u "get"), (0, u "(I)I"), (0, u "getTotal")] 21

def k2c0 : Code := { maxStack := 3, maxLocals := 2, code := prog_34_method_1_code, exceptionTable := #[], attributes := #[] }
def k2m0 : Method := { name := "<init>", desc := "(I)V", sig := { parameters := [.int], returnType := none }, accessFlags := 1, code := some k2c0 }
def k2c1 : Code := { maxStack := 7, maxLocals := 3, code := prog_34_method_2_code, exceptionTable := #[], attributes := #[] }
def k2m1 : Method := { name := "add", desc := "(II)V", sig := { parameters := [.int, .int], returnType := none }, accessFlags := 1, code := some k2c1 }
def k2c2 : Code := { maxStack := 2, maxLocals := 1, code := prog_34_method_3_code, exceptionTable := #[], attributes := #[] }
def k2m2 : Method := { name := "getZoneCount", desc := "()I", sig := { parameters := [], returnType := some .int }, accessFlags := 1, code := some k2c2 }
def k2c3 : Code := { maxStack := 1, maxLocals := 1, code := prog_34_method_4_code, exceptionTable := #[], attributes := #[] }
def k2m3 : Method := { name := "getZones", desc := "()Ljava/util/List;", sig := { parameters := [], returnType := some (.object "java/util/List") }, accessFlags := 1, code := some k2c3 }
def k2c4 : Code := { maxStack := 2, maxLocals := 2, code := prog_34_method_5_code, exceptionTable := #[], attributes := #[] }
def k2m4 : Method := { name := "get", desc := "(I)I", sig := { parameters := [.int], returnType := some .int }, accessFlags := 1, code := some k2c4 }
def k2c5 : Code := { maxStack := 1, maxLocals := 1, code := prog_34_method_6_code, exceptionTable := #[], attributes := #[] }
def k2m5 : Method := { name := "getTotal", desc := "()I", sig := { parameters := [], returnType := some .int }, accessFlags := 1, code := some k2c5 }
def k2c6 : Code := { maxStack := 7, maxLocals := 2, code := prog_34_method_7_code, exceptionTable := #[], attributes := #[] }
def k2m6 : Method := { name := "checkZone", desc := "(I)V", sig := { parameters := [.int], returnType := none }, accessFlags := 2, code := some k2c6 }
/-- com/example/even_commute/evencommute/demand/ZoneCounts -/
def k2 : Class := { plain "com/example/even_commute/evencommute/demand/ZoneCounts" (some 0) with
  accessFlags := 49
  interfaces := #[]
  cf := some (fileOf pool2 13 #[] #[{ accessFlags := 1, nameIndex := 7, descriptorIndex := 38, attributes := #[] }, { accessFlags := 1, nameIndex := 62, descriptorIndex := 83, attributes := #[] }, { accessFlags := 1, nameIndex := 72, descriptorIndex := 73, attributes := #[] }, { accessFlags := 1, nameIndex := 84, descriptorIndex := 85, attributes := #[] }, { accessFlags := 1, nameIndex := 87, descriptorIndex := 88, attributes := #[] }, { accessFlags := 1, nameIndex := 89, descriptorIndex := 73, attributes := #[] }, { accessFlags := 2, nameIndex := 37, descriptorIndex := 38, attributes := #[] }] 49 4 #[] #[{ accessFlags := 25, nameIndex := 76, descriptorIndex := 45, attributes := #[] }, { accessFlags := 18, nameIndex := 29, descriptorIndex := 30, attributes := #[] }, { accessFlags := 18, nameIndex := 33, descriptorIndex := 34, attributes := #[] }, { accessFlags := 18, nameIndex := 16, descriptorIndex := 17, attributes := #[] }, { accessFlags := 2, nameIndex := 44, descriptorIndex := 45, attributes := #[] }])
  fields := #[{ name := "MAX_TOTAL", type := .int, accessFlags := 25, slot := 0, constantValue := 0 }, { name := "counts", type := (.array .int), accessFlags := 18, slot := 0, constantValue := 0 }, { name := "given", type := (.array .boolean), accessFlags := 18, slot := 1, constantValue := 0 }, { name := "zones", type := (.object "java/util/List"), accessFlags := 18, slot := 2, constantValue := 0 }, { name := "total", type := .int, accessFlags := 2, slot := 3, constantValue := 0 }]
  methods := #[k2m0, k2m1, k2m2, k2m3, k2m4, k2m5, k2m6]
  instanceTypes := #[(.array .int), (.array .boolean), (.object "java/util/List"), .int]
  staticTypes := #[.int]
  resolved := Array.replicate 111 none
  statics := none }

def pool3 : Array CpInfo := pool [(8, .class_ 10), (1, u "java/lang/Iterable"), (24, .class_ 36), (0, u "java/lang/Object")] 25

/-- java/lang/Iterable -/
def k3 : Class := { plain "java/lang/Iterable" (some 0) with
  accessFlags := 1537
  interfaces := #[]
  cf := some (fileOf pool3 8 #[] #[] 1537 35 #[] #[])
  fields := #[]
  methods := #[]
  instanceTypes := #[]
  staticTypes := #[]
  resolved := Array.replicate 62 none
  statics := none }

def pool4 : Array CpInfo := pool [(10, .class_ 12), (1, u "java/util/Collection"), (10, u "iterator"), (0, u "()Ljava/util/Iterator;"), (35, .class_ 61), (0, u "java/lang/Object"), (0, .class_ 63), (0, u "java/lang/Iterable")] 51

def k4m0 : Method := { name := "iterator", desc := "()Ljava/util/Iterator;", sig := { parameters := [], returnType := some (.object "java/util/Iterator") }, accessFlags := 1025, code := none }
/-- java/util/Collection -/
def k4 : Class := { plain "java/util/Collection" (some 0) with
  accessFlags := 1537
  interfaces := #[3]
  cf := some (fileOf pool4 10 #[] #[{ accessFlags := 1025, nameIndex := 23, descriptorIndex := 24, attributes := #[] }] 1537 60 #[62] #[])
  fields := #[]
  methods := #[k4m0]
  instanceTypes := #[]
  staticTypes := #[]
  resolved := Array.replicate 115 none
  statics := none }

def pool5 : Array CpInfo := pool [(1, .methodref 2 3), (0, .class_ 4), (0, .nameAndType 5 6), (0, u "java/lang/Object"), (0, u "<init>"), (0, u "()V"), (1, .class_ 10), (1, u "java/util/AbstractCollection"), (66, .class_ 78), (0, u "java/util/Collection")] 81

def k5c0 : Code := { maxStack := 1, maxLocals := 1, code := jdk_22_method_1_code, exceptionTable := #[], attributes := #[] }
def k5m0 : Method := { name := "<init>", desc := "()V", sig := { parameters := [], returnType := none }, accessFlags := 4, code := some k5c0 }
/-- java/util/AbstractCollection -/
def k5 : Class := { plain "java/util/AbstractCollection" (some 0) with
  accessFlags := 1057
  interfaces := #[4]
  cf := some (fileOf pool5 8 #[] #[{ accessFlags := 4, nameIndex := 5, descriptorIndex := 6, attributes := #[] }] 1057 2 #[77] #[])
  fields := #[]
  methods := #[k5m0]
  instanceTypes := #[]
  staticTypes := #[]
  resolved := Array.replicate 160 none
  statics := none }

def pool6 : Array CpInfo := pool [(8, .class_ 10), (1, u "java/util/SequencedCollection"), (15, .class_ 27), (0, u "java/lang/Object"), (0, .class_ 29), (0, u "java/util/Collection")] 27

/-- java/util/SequencedCollection -/
def k6 : Class := { plain "java/util/SequencedCollection" (some 0) with
  accessFlags := 1537
  interfaces := #[4]
  cf := some (fileOf pool6 8 #[] #[] 1537 26 #[28] #[])
  fields := #[]
  methods := #[]
  instanceTypes := #[]
  staticTypes := #[]
  resolved := Array.replicate 57 none
  statics := none }

def pool7 : Array CpInfo := pool [(8, .class_ 10), (1, u "java/util/List"), (49, u "add"), (3, u "(Ljava/lang/Object;)Z"), (38, .class_ 104), (0, u "java/lang/Object"), (15, .class_ 121), (0, u "java/util/SequencedCollection"), (1, u "iterator"), (0, u "()Ljava/util/Iterator;")] 126

def k7m0 : Method := { name := "iterator", desc := "()Ljava/util/Iterator;", sig := { parameters := [], returnType := some (.object "java/util/Iterator") }, accessFlags := 1025, code := none }
def k7m1 : Method := { name := "add", desc := "(Ljava/lang/Object;)Z", sig := { parameters := [(.object "java/lang/Object")], returnType := some .boolean }, accessFlags := 1025, code := none }
/-- java/util/List -/
def k7 : Class := { plain "java/util/List" (some 0) with
  accessFlags := 1537
  interfaces := #[6]
  cf := some (fileOf pool7 8 #[] #[{ accessFlags := 1025, nameIndex := 123, descriptorIndex := 124, attributes := #[] }, { accessFlags := 1025, nameIndex := 60, descriptorIndex := 64, attributes := #[] }] 1537 103 #[120] #[])
  fields := #[]
  methods := #[k7m0, k7m1]
  instanceTypes := #[]
  staticTypes := #[]
  resolved := Array.replicate 251 none
  statics := none }

def pool8 : Array CpInfo := pool [(1, .methodref 2 3), (0, .class_ 4), (0, .nameAndType 5 6), (0, u "java/util/AbstractCollection"), (0, u "<init>"), (0, u "()V"), (0, .fieldref 8 9), (0, .class_ 10), (0, .nameAndType 11 12), (0, u "java/util/AbstractList"), (0, u "modCount"), (0, u "I"), (64, .class_ 78), (0, u "java/util/AbstractList$Itr"), (3, .class_ 83), (0, u "java/util/AbstractList$ListItr"), (9, .class_ 94), (0, u "java/util/AbstractList$RandomAccessSubList"), (3, .class_ 99), (0, u "java/util/AbstractList$SubList"), (33, .class_ 134), (0, u "java/util/List"), (73, .class_ 209), (0, u "java/util/AbstractList$SubList$1"), (0, .class_ 211), (0, u "java/util/AbstractList$RandomAccessSpliterator")] 6

def k8c0 : Code := { maxStack := 2, maxLocals := 1, code := jdk_39_method_1_code, exceptionTable := #[], attributes := #[] }
def k8m0 : Method := { name := "<init>", desc := "()V", sig := { parameters := [], returnType := none }, accessFlags := 4, code := some k8c0 }
/-- java/util/AbstractList -/
def k8 : Class := { plain "java/util/AbstractList" (some 5) with
  accessFlags := 1057
  interfaces := #[7]
  cf := some (fileOf pool8 8 #[.nestMembers #[93, 98, 208, 210, 82, 77]] #[{ accessFlags := 4, nameIndex := 5, descriptorIndex := 6, attributes := #[] }] 1057 2 #[133] #[{ accessFlags := 132, nameIndex := 11, descriptorIndex := 12, attributes := #[] }])
  fields := #[{ name := "modCount", type := .int, accessFlags := 132, slot := 0, constantValue := 0 }]
  methods := #[k8m0]
  instanceTypes := #[.int]
  staticTypes := #[]
  resolved := Array.replicate 218 none
  statics := none }

def pool9 : Array CpInfo := pool [(1, .class_ 2), (0, u "java/util/RandomAccess"), (0, .class_ 4), (0, u "java/lang/Object")] 2

/-- java/util/RandomAccess -/
def k9 : Class := { plain "java/util/RandomAccess" (some 0) with
  accessFlags := 1537
  interfaces := #[]
  cf := some (fileOf pool9 1 #[] #[] 1537 3 #[] #[])
  fields := #[]
  methods := #[]
  instanceTypes := #[]
  staticTypes := #[]
  resolved := Array.replicate 7 none
  statics := none }

def pool10 : Array CpInfo := pool [(1, .class_ 2), (0, u "java/lang/Cloneable"), (0, .class_ 4), (0, u "java/lang/Object")] 2

/-- java/lang/Cloneable -/
def k10 : Class := { plain "java/lang/Cloneable" (some 0) with
  accessFlags := 1537
  interfaces := #[]
  cf := some (fileOf pool10 1 #[] #[] 1537 3 #[] #[])
  fields := #[]
  methods := #[]
  instanceTypes := #[]
  staticTypes := #[]
  resolved := Array.replicate 7 none
  statics := none }

def pool11 : Array CpInfo := pool [(1, .class_ 2), (0, u "java/io/Serializable"), (0, .class_ 4), (0, u "java/lang/Object")] 2

/-- java/io/Serializable -/
def k11 : Class := { plain "java/io/Serializable" (some 0) with
  accessFlags := 1537
  interfaces := #[]
  cf := some (fileOf pool11 1 #[] #[] 1537 3 #[] #[])
  fields := #[]
  methods := #[]
  instanceTypes := #[]
  staticTypes := #[]
  resolved := Array.replicate 7 none
  statics := none }

def pool12 : Array CpInfo := pool [(1, .methodref 2 3), (0, .class_ 4), (0, .nameAndType 5 6), (0, u "java/util/AbstractList"), (0, u "<init>"), (0, u "()V"), (0, .class_ 8), (0, u "java/lang/Object"), (0, .fieldref 10 11), (0, .class_ 12), (0, .nameAndType 13 14), (0, u "java/util/ArrayList"), (0, u "elementData"), (0, u "[Ljava/lang/Object;"), (2, u "EMPTY_ELEMENTDATA"), (21, .fieldref 10 40), (0, .nameAndType 41 14), (0, u "DEFAULTCAPACITY_EMPTY_ELEMENTDATA"), (5, u "()[Ljava/lang/Object;"), (0, .fieldref 10 49), (0, .nameAndType 50 51), (0, u "size"), (0, u "I"), (11, .fieldref 10 64), (0, .nameAndType 65 51), (0, u "modCount"), (3, .methodref 10 70), (0, .nameAndType 71 72), (0, u "grow"), (0, u "(I)[Ljava/lang/Object;"), (6, .methodref 80 81), (0, .class_ 82), (0, .nameAndType 83 84), (0, u "java/lang/Math"), (0, u "max"), (0, u "(II)I"), (11, u "(Ljava/lang/Object;)Z"), (32, .methodref 10 130), (0, .nameAndType 71 47), (0, .methodref 10 132), (0, .nameAndType 133 134), (0, u "add"), (0, u "(Ljava/lang/Object;[Ljava/lang/Object;I)V"), (13, .class_ 149), (0, u "java/util/List"), (16, u "iterator"), (0, u "()Ljava/util/Iterator;"), (94, .class_ 263), (0, u "java/util/ArrayList$ListItr"), (3, .class_ 268), (0, u "java/util/ArrayList$Itr"), (0, .methodref 267 270), (0, .nameAndType 5 271), (0, u "(Ljava/util/ArrayList;)V"), (4, .class_ 277), (0, u "java/util/ArrayList$SubList"), (12, .class_ 291), (0, u "java/util/ArrayList$ArrayListSpliterator"), (37, .class_ 330), (0, u "java/util/RandomAccess"), (0, .class_ 332), (0, u "java/lang/Cloneable"), (0, .class_ 334), (0, u "java/io/Serializable"), (0, u "serialVersionUID"), (0, u "J"), (3, u "DEFAULT_CAPACITY"), (159, .class_ 501), (0, u "java/util/ArrayList$SubList$2"), (0, .class_ 503), (0, u "java/util/ArrayList$SubList$1")] 5

def k12c0 : Code := { maxStack := 2, maxLocals := 1, code := jdk_38_method_2_code, exceptionTable := #[], attributes := #[] }
def k12m0 : Method := { name := "<init>", desc := "()V", sig := { parameters := [], returnType := none }, accessFlags := 1, code := some k12c0 }
def k12c1 : Code := { maxStack := 4, maxLocals := 4, code := jdk_38_method_6_code, exceptionTable := #[], attributes := #[] }
def k12m1 : Method := { name := "grow", desc := "(I)[Ljava/lang/Object;", sig := { parameters := [.int], returnType := some (.array (.object "java/lang/Object")) }, accessFlags := 2, code := some k12c1 }
def k12c2 : Code := { maxStack := 3, maxLocals := 1, code := jdk_38_method_7_code, exceptionTable := #[], attributes := #[] }
def k12m2 : Method := { name := "grow", desc := "()[Ljava/lang/Object;", sig := { parameters := [], returnType := some (.array (.object "java/lang/Object")) }, accessFlags := 2, code := some k12c2 }
def k12c3 : Code := { maxStack := 3, maxLocals := 4, code := jdk_38_method_24_code, exceptionTable := #[], attributes := #[] }
def k12m3 : Method := { name := "add", desc := "(Ljava/lang/Object;[Ljava/lang/Object;I)V", sig := { parameters := [(.object "java/lang/Object"), (.array (.object "java/lang/Object")), .int], returnType := none }, accessFlags := 2, code := some k12c3 }
def k12c4 : Code := { maxStack := 4, maxLocals := 2, code := jdk_38_method_25_code, exceptionTable := #[], attributes := #[] }
def k12m4 : Method := { name := "add", desc := "(Ljava/lang/Object;)Z", sig := { parameters := [(.object "java/lang/Object")], returnType := some .boolean }, accessFlags := 1, code := some k12c4 }
def k12c5 : Code := { maxStack := 3, maxLocals := 1, code := jdk_38_method_55_code, exceptionTable := #[], attributes := #[] }
def k12m5 : Method := { name := "iterator", desc := "()Ljava/util/Iterator;", sig := { parameters := [], returnType := some (.object "java/util/Iterator") }, accessFlags := 1, code := some k12c5 }
/-- java/util/ArrayList -/
def k12 : Class := { plain "java/util/ArrayList" (some 8) with
  accessFlags := 33
  interfaces := #[7, 9, 10, 11]
  cf := some (fileOf pool12 10 #[.nestMembers #[290, 276, 500, 502, 262, 267]] #[{ accessFlags := 1, nameIndex := 5, descriptorIndex := 6, attributes := #[] }, { accessFlags := 2, nameIndex := 71, descriptorIndex := 72, attributes := #[] }, { accessFlags := 2, nameIndex := 71, descriptorIndex := 47, attributes := #[] }, { accessFlags := 2, nameIndex := 133, descriptorIndex := 134, attributes := #[] }, { accessFlags := 1, nameIndex := 133, descriptorIndex := 96, attributes := #[] }, { accessFlags := 1, nameIndex := 166, descriptorIndex := 167, attributes := #[] }] 33 2 #[148, 329, 331, 333] #[{ accessFlags := 26, nameIndex := 335, descriptorIndex := 336, attributes := #[] }, { accessFlags := 26, nameIndex := 340, descriptorIndex := 51, attributes := #[] }, { accessFlags := 26, nameIndex := 17, descriptorIndex := 14, attributes := #[] }, { accessFlags := 26, nameIndex := 41, descriptorIndex := 14, attributes := #[] }, { accessFlags := 128, nameIndex := 13, descriptorIndex := 14, attributes := #[] }, { accessFlags := 2, nameIndex := 50, descriptorIndex := 51, attributes := #[] }])
  fields := #[{ name := "serialVersionUID", type := .long, accessFlags := 26, slot := 0, constantValue := 0 }, { name := "DEFAULT_CAPACITY", type := .int, accessFlags := 26, slot := 1, constantValue := 0 }, { name := "EMPTY_ELEMENTDATA", type := (.array (.object "java/lang/Object")), accessFlags := 26, slot := 2, constantValue := 0 }, { name := "DEFAULTCAPACITY_EMPTY_ELEMENTDATA", type := (.array (.object "java/lang/Object")), accessFlags := 26, slot := 3, constantValue := 0 }, { name := "elementData", type := (.array (.object "java/lang/Object")), accessFlags := 128, slot := 1, constantValue := 0 }, { name := "size", type := .int, accessFlags := 2, slot := 2, constantValue := 0 }]
  methods := #[k12m0, k12m1, k12m2, k12m3, k12m4, k12m5]
  instanceTypes := #[.int, (.array (.object "java/lang/Object")), .int]
  staticTypes := #[.long, .int, (.array (.object "java/lang/Object")), (.array (.object "java/lang/Object"))]
  resolved := Array.replicate 509 none
  mirror := some 2
  statics := some 0 }

def pool13 : Array CpInfo := pool [(2, .class_ 4), (1, u "java/lang/Object"), (0, u "<init>"), (0, u "()V"), (1, .class_ 10), (1, u "java/lang/Number"), (2, .class_ 14), (0, u "java/io/Serializable"), (0, u "serialVersionUID"), (0, u "J")] 20

def k13m0 : Method := { name := "<init>", desc := "()V", sig := { parameters := [], returnType := none }, accessFlags := 1, code := none }
/-- java/lang/Number -/
def k13 : Class := { plain "java/lang/Number" (some 0) with
  accessFlags := 1057
  interfaces := #[11]
  cf := some (fileOf pool13 8 #[] #[{ accessFlags := 1, nameIndex := 5, descriptorIndex := 6, attributes := #[] }] 1057 2 #[13] #[{ accessFlags := 26, nameIndex := 15, descriptorIndex := 16, attributes := #[] }])
  fields := #[{ name := "serialVersionUID", type := .long, accessFlags := 26, slot := 0, constantValue := 0 }]
  methods := #[k13m0]
  instanceTypes := #[]
  staticTypes := #[.long]
  resolved := Array.replicate 37 none
  statics := none }

def pool14 : Array CpInfo := pool [(1, .class_ 2), (0, u "java/lang/Comparable"), (0, .class_ 4), (0, u "java/lang/Object")] 7

/-- java/lang/Comparable -/
def k14 : Class := { plain "java/lang/Comparable" (some 0) with
  accessFlags := 1537
  interfaces := #[]
  cf := some (fileOf pool14 1 #[] #[] 1537 3 #[] #[])
  fields := #[]
  methods := #[]
  instanceTypes := #[]
  staticTypes := #[]
  resolved := Array.replicate 12 none
  statics := none }

def pool15 : Array CpInfo := pool [(1, .class_ 2), (0, u "java/lang/constant/Constable"), (0, .class_ 4), (0, u "java/lang/Object")] 6

/-- java/lang/constant/Constable -/
def k15 : Class := { plain "java/lang/constant/Constable" (some 0) with
  accessFlags := 1537
  interfaces := #[]
  cf := some (fileOf pool15 1 #[] #[] 1537 3 #[] #[])
  fields := #[]
  methods := #[]
  instanceTypes := #[]
  staticTypes := #[]
  resolved := Array.replicate 11 none
  statics := none }

def pool16 : Array CpInfo := pool [(1, .class_ 2), (0, u "java/lang/constant/ConstantDesc"), (0, .class_ 4), (0, u "java/lang/Object")] 32

/-- java/lang/constant/ConstantDesc -/
def k16 : Class := { plain "java/lang/constant/ConstantDesc" (some 0) with
  accessFlags := 1537
  interfaces := #[]
  cf := some (fileOf pool16 1 #[] #[] 1537 3 #[] #[])
  fields := #[]
  methods := #[]
  instanceTypes := #[]
  staticTypes := #[]
  resolved := Array.replicate 37 none
  statics := none }

def pool17 : Array CpInfo := pool [(1, .class_ 2), (0, u "java/lang/Integer"), (16, u "digits"), (0, u "[C"), (64, u "DigitOnes"), (0, u "[B"), (2, u "DigitTens"), (31, u "()I"), (65, u "valueOf"), (0, u "(I)Ljava/lang/Integer;"), (0, .class_ 190), (0, u "java/lang/Integer$IntegerCache"), (0, .fieldref 189 192), (0, .nameAndType 193 194), (0, u "high"), (0, u "I"), (0, .fieldref 189 196), (0, .nameAndType 197 198), (0, u "cache"), (0, u "[Ljava/lang/Integer;"), (4, .class_ 204), (0, u "java/lang/Number"), (0, .fieldref 1 206), (0, .nameAndType 207 194), (0, u "value"), (5, u "intValue"), (88, u "TYPE"), (0, u "Ljava/lang/Class;"), (0, .class_ 305), (0, u "java/lang/Comparable"), (0, .class_ 307), (0, u "java/lang/constant/Constable"), (0, .class_ 309), (0, u "java/lang/constant/ConstantDesc"), (0, u "MIN_VALUE"), (1, u "MAX_VALUE"), (3, u "SIZE"), (1, u "BYTES"), (1, u "serialVersionUID"), (0, u "J")] 131

def k17c0 : Code := { maxStack := 3, maxLocals := 1, code := jdk_33_method_22_code, exceptionTable := #[], attributes := #[] }
def k17m0 : Method := { name := "valueOf", desc := "(I)Ljava/lang/Integer;", sig := { parameters := [.int], returnType := some (.object "java/lang/Integer") }, accessFlags := 9, code := some k17c0 }
def k17c1 : Code := { maxStack := 1, maxLocals := 1, code := jdk_33_method_27_code, exceptionTable := #[], attributes := #[] }
def k17m1 : Method := { name := "intValue", desc := "()I", sig := { parameters := [], returnType := some .int }, accessFlags := 1, code := some k17c1 }
/-- java/lang/Integer -/
def k17 : Class := { plain "java/lang/Integer" (some 13) with
  accessFlags := 49
  interfaces := #[14, 15, 16]
  cf := some (fileOf pool17 1 #[.nestMembers #[189]] #[{ accessFlags := 9, nameIndex := 187, descriptorIndex := 188, attributes := #[] }, { accessFlags := 1, nameIndex := 213, descriptorIndex := 121, attributes := #[] }] 49 203 #[304, 306, 308] #[{ accessFlags := 25, nameIndex := 310, descriptorIndex := 194, attributes := #[] }, { accessFlags := 25, nameIndex := 312, descriptorIndex := 194, attributes := #[] }, { accessFlags := 25, nameIndex := 302, descriptorIndex := 303, attributes := #[] }, { accessFlags := 24, nameIndex := 19, descriptorIndex := 20, attributes := #[] }, { accessFlags := 24, nameIndex := 89, descriptorIndex := 86, attributes := #[] }, { accessFlags := 24, nameIndex := 85, descriptorIndex := 86, attributes := #[] }, { accessFlags := 18, nameIndex := 207, descriptorIndex := 194, attributes := #[] }, { accessFlags := 25, nameIndex := 316, descriptorIndex := 194, attributes := #[] }, { accessFlags := 25, nameIndex := 318, descriptorIndex := 194, attributes := #[] }, { accessFlags := 26, nameIndex := 320, descriptorIndex := 321, attributes := #[] }])
  fields := #[{ name := "MIN_VALUE", type := .int, accessFlags := 25, slot := 0, constantValue := 0 }, { name := "MAX_VALUE", type := .int, accessFlags := 25, slot := 1, constantValue := 0 }, { name := "TYPE", type := (.object "java/lang/Class"), accessFlags := 25, slot := 2, constantValue := 0 }, { name := "digits", type := (.array .char), accessFlags := 24, slot := 3, constantValue := 0 }, { name := "DigitTens", type := (.array .byte), accessFlags := 24, slot := 4, constantValue := 0 }, { name := "DigitOnes", type := (.array .byte), accessFlags := 24, slot := 5, constantValue := 0 }, { name := "value", type := .int, accessFlags := 18, slot := 0, constantValue := 0 }, { name := "SIZE", type := .int, accessFlags := 25, slot := 6, constantValue := 0 }, { name := "BYTES", type := .int, accessFlags := 25, slot := 7, constantValue := 0 }, { name := "serialVersionUID", type := .long, accessFlags := 26, slot := 8, constantValue := 0 }]
  methods := #[k17m0, k17m1]
  instanceTypes := #[.int]
  staticTypes := #[.int, .int, (.object "java/lang/Class"), (.array .char), (.array .byte), (.array .byte), .int, .int, .long]
  resolved := Array.replicate 453 none
  statics := none }

def pool18 : Array CpInfo := pool [(2, .class_ 4), (1, u "java/lang/Object"), (0, u "<init>"), (0, u "()V"), (0, .class_ 8), (0, u "java/lang/Integer"), (7, .class_ 18), (1, u "java/lang/Integer$IntegerCache"), (0, u "$assertionsDisabled"), (0, u "Z"), (26, u "high"), (0, u "I"), (8, u "archivedCache"), (0, u "[Ljava/lang/Integer;"), (12, u "cache"), (0, u "low")] 27

def k18m0 : Method := { name := "<init>", desc := "()V", sig := { parameters := [], returnType := none }, accessFlags := 2, code := none }
/-- java/lang/Integer$IntegerCache -/
def k18 : Class := { plain "java/lang/Integer$IntegerCache" (some 0) with
  accessFlags := 48
  interfaces := #[]
  cf := some (fileOf pool18 16 #[.nestHost 7] #[{ accessFlags := 2, nameIndex := 5, descriptorIndex := 6, attributes := #[] }] 48 2 #[] #[{ accessFlags := 24, nameIndex := 72, descriptorIndex := 48, attributes := #[] }, { accessFlags := 24, nameIndex := 47, descriptorIndex := 48, attributes := #[] }, { accessFlags := 24, nameIndex := 71, descriptorIndex := 58, attributes := #[] }, { accessFlags := 8, nameIndex := 57, descriptorIndex := 58, attributes := #[] }, { accessFlags := 4120, nameIndex := 19, descriptorIndex := 20, attributes := #[] }])
  fields := #[{ name := "low", type := .int, accessFlags := 24, slot := 0, constantValue := 0 }, { name := "high", type := .int, accessFlags := 24, slot := 1, constantValue := 0 }, { name := "cache", type := (.array (.object "java/lang/Integer")), accessFlags := 24, slot := 2, constantValue := 0 }, { name := "archivedCache", type := (.array (.object "java/lang/Integer")), accessFlags := 8, slot := 3, constantValue := 0 }, { name := "$assertionsDisabled", type := .boolean, accessFlags := 4120, slot := 4, constantValue := 0 }]
  methods := #[k18m0]
  instanceTypes := #[]
  staticTypes := #[.int, .int, (.array (.object "java/lang/Integer")), (.array (.object "java/lang/Integer")), .boolean]
  resolved := Array.replicate 100 none
  statics := some 1 }

def pool19 : Array CpInfo := pool [(1, .class_ 2), (0, u "java/lang/Math"), (1, .class_ 6), (1, u "java/lang/Object"), (0, u "<init>"), (0, u "()V"), (89, .class_ 100), (1, u "java/lang/Math$RandomNumberGeneratorHolder"), (71, u "negativeZeroFloatBits"), (0, u "J"), (2, u "negativeZeroDoubleBits"), (21, u "max"), (46, u "$assertionsDisabled"), (0, u "Z"), (88, u "(II)I"), (2, u "twoToTheDoubleScaleDown"), (0, u "D"), (4, u "twoToTheDoubleScaleUp"), (9, u "E"), (3, u "PI"), (2, u "TAU"), (2, u "DEGREES_TO_RADIANS"), (0, u "RADIANS_TO_DEGREES")] 94

def k19m0 : Method := { name := "<init>", desc := "()V", sig := { parameters := [], returnType := none }, accessFlags := 2, code := none }
def k19c1 : Code := { maxStack := 2, maxLocals := 2, code := jdk_29_method_65_code, exceptionTable := #[], attributes := #[] }
def k19m1 : Method := { name := "max", desc := "(II)I", sig := { parameters := [.int, .int], returnType := some .int }, accessFlags := 9, code := some k19c1 }
/-- java/lang/Math -/
def k19 : Class := { plain "java/lang/Math" (some 0) with
  accessFlags := 49
  interfaces := #[]
  cf := some (fileOf pool19 1 #[.nestMembers #[98]] #[{ accessFlags := 2, nameIndex := 7, descriptorIndex := 8, attributes := #[] }, { accessFlags := 9, nameIndex := 198, descriptorIndex := 335, attributes := #[] }] 49 4 #[] #[{ accessFlags := 25, nameIndex := 354, descriptorIndex := 339, attributes := #[] }, { accessFlags := 25, nameIndex := 358, descriptorIndex := 339, attributes := #[] }, { accessFlags := 25, nameIndex := 361, descriptorIndex := 339, attributes := #[] }, { accessFlags := 26, nameIndex := 364, descriptorIndex := 339, attributes := #[] }, { accessFlags := 26, nameIndex := 365, descriptorIndex := 339, attributes := #[] }, { accessFlags := 26, nameIndex := 172, descriptorIndex := 173, attributes := #[] }, { accessFlags := 26, nameIndex := 176, descriptorIndex := 173, attributes := #[] }, { accessFlags := 8, nameIndex := 344, descriptorIndex := 339, attributes := #[] }, { accessFlags := 8, nameIndex := 338, descriptorIndex := 339, attributes := #[] }, { accessFlags := 4120, nameIndex := 245, descriptorIndex := 246, attributes := #[] }])
  fields := #[{ name := "E", type := .double, accessFlags := 25, slot := 0, constantValue := 0 }, { name := "PI", type := .double, accessFlags := 25, slot := 1, constantValue := 0 }, { name := "TAU", type := .double, accessFlags := 25, slot := 2, constantValue := 0 }, { name := "DEGREES_TO_RADIANS", type := .double, accessFlags := 26, slot := 3, constantValue := 0 }, { name := "RADIANS_TO_DEGREES", type := .double, accessFlags := 26, slot := 4, constantValue := 0 }, { name := "negativeZeroFloatBits", type := .long, accessFlags := 26, slot := 5, constantValue := 0 }, { name := "negativeZeroDoubleBits", type := .long, accessFlags := 26, slot := 6, constantValue := 0 }, { name := "twoToTheDoubleScaleUp", type := .double, accessFlags := 8, slot := 7, constantValue := 0 }, { name := "twoToTheDoubleScaleDown", type := .double, accessFlags := 8, slot := 8, constantValue := 0 }, { name := "$assertionsDisabled", type := .boolean, accessFlags := 4120, slot := 9, constantValue := 0 }]
  methods := #[k19m0, k19m1]
  instanceTypes := #[]
  staticTypes := #[.double, .double, .double, .double, .double, .long, .long, .double, .double, .boolean]
  resolved := Array.replicate 460 none
  statics := none }

def pool20 : Array CpInfo := pool [(1, .methodref 2 3), (0, .class_ 4), (0, .nameAndType 5 6), (0, u "com/example/even_commute/evencommute/demand/Workers"), (0, u "homeZones"), (0, u "(Lcom/example/even_commute/evencommute/demand/ZoneCounts;)[I"), (0, .methodref 2 8), (0, .nameAndType 9 10), (0, u "<init>"), (0, u "(Lcom/example/even_commute/evencommute/demand/ZoneCounts;[I[I[I)V"), (0, .methodref 12 13), (0, .class_ 14), (0, .nameAndType 9 15), (0, u "java/lang/Object"), (0, u "()V"), (0, .fieldref 2 17), (0, .nameAndType 18 19), (0, u "jobs"), (0, u "Lcom/example/even_commute/evencommute/demand/ZoneCounts;"), (0, .fieldref 2 21), (0, .nameAndType 5 22), (0, u "[I"), (0, .fieldref 2 24), (0, .nameAndType 25 22), (0, u "departures"), (0, .fieldref 2 27), (0, .nameAndType 28 22), (0, u "workplaces"), (0, .methodref 30 31), (0, .class_ 22), (0, .nameAndType 32 33), (0, u "clone"), (0, u "()Ljava/lang/Object;"), (3, u "()I"), (4, .class_ 44), (1, u "java/util/Arrays"), (7, .class_ 54), (1, u "java/util/List"), (2, .class_ 58), (0, u "java/lang/Integer"), (4, .methodref 64 65), (0, .class_ 66), (0, .nameAndType 67 37), (0, u "com/example/even_commute/evencommute/demand/ZoneCounts"), (0, u "getTotal"), (0, .methodref 64 69), (0, .nameAndType 70 71), (0, u "getZones"), (0, u "()Ljava/util/List;"), (0, .interfaceMethodref 52 73), (0, .nameAndType 74 75), (0, u "iterator"), (0, u "()Ljava/util/Iterator;"), (0, .interfaceMethodref 77 78), (0, .class_ 79), (0, .nameAndType 80 81), (0, u "java/util/Iterator"), (0, u "hasNext"), (0, u "()Z"), (0, .interfaceMethodref 77 83), (0, .nameAndType 84 33), (0, u "next"), (0, .methodref 57 86), (0, .nameAndType 87 37), (0, u "intValue"), (0, .methodref 64 89), (0, .nameAndType 90 91), (0, u "get"), (0, u "(I)I"), (0, .methodref 42 93), (0, .nameAndType 94 95), (0, u "fill"), (0, u "([IIII)V"), (0, u "NONE"), (0, u "I"), (2, u "(Lcom/example/even_commute/evencommute/demand/ZoneCounts;Lcom/example/even_commute/evencommute/demand/ZoneCounts;[I)V"), (2, u "withWorkplaces"), (0, u "([I)Lcom/example/even_commute/evencommute/demand/Workers;"), (7, u "getAssignedCount")] 11

def k20c0 : Code := { maxStack := 5, maxLocals := 4, code := prog_29_method_1_code, exceptionTable := #[], attributes := #[] }
def k20m0 : Method := { name := "<init>", desc := "(Lcom/example/even_commute/evencommute/demand/ZoneCounts;Lcom/example/even_commute/evencommute/demand/ZoneCounts;[I)V", sig := { parameters := [(.object "com/example/even_commute/evencommute/demand/ZoneCounts"), (.object "com/example/even_commute/evencommute/demand/ZoneCounts"), (.array .int)], returnType := none }, accessFlags := 0, code := some k20c0 }
def k20c1 : Code := { maxStack := 2, maxLocals := 5, code := prog_29_method_2_code, exceptionTable := #[], attributes := #[] }
def k20m1 : Method := { name := "<init>", desc := "(Lcom/example/even_commute/evencommute/demand/ZoneCounts;[I[I[I)V", sig := { parameters := [(.object "com/example/even_commute/evencommute/demand/ZoneCounts"), (.array .int), (.array .int), (.array .int)], returnType := none }, accessFlags := 2, code := some k20c1 }
def k20c2 : Code := { maxStack := 6, maxLocals := 2, code := prog_29_method_3_code, exceptionTable := #[], attributes := #[] }
def k20m2 : Method := { name := "withWorkplaces", desc := "([I)Lcom/example/even_commute/evencommute/demand/Workers;", sig := { parameters := [(.array .int)], returnType := some (.object "com/example/even_commute/evencommute/demand/Workers") }, accessFlags := 0, code := some k20c2 }
def k20c3 : Code := { maxStack := 2, maxLocals := 6, code := prog_29_method_10_code, exceptionTable := #[], attributes := #[] }
def k20m3 : Method := { name := "getAssignedCount", desc := "()I", sig := { parameters := [], returnType := some .int }, accessFlags := 0, code := some k20c3 }
def k20c4 : Code := { maxStack := 4, maxLocals := 6, code := prog_29_method_14_code, exceptionTable := #[], attributes := #[] }
def k20m4 : Method := { name := "homeZones", desc := "(Lcom/example/even_commute/evencommute/demand/ZoneCounts;)[I", sig := { parameters := [(.object "com/example/even_commute/evencommute/demand/ZoneCounts")], returnType := some (.array .int) }, accessFlags := 10, code := some k20c4 }
/-- com/example/even_commute/evencommute/demand/Workers -/
def k20 : Class := { plain "com/example/even_commute/evencommute/demand/Workers" (some 0) with
  accessFlags := 48
  interfaces := #[]
  cf := some (fileOf pool20 2 #[] #[{ accessFlags := 0, nameIndex := 9, descriptorIndex := 100, attributes := #[] }, { accessFlags := 2, nameIndex := 9, descriptorIndex := 10, attributes := #[] }, { accessFlags := 0, nameIndex := 103, descriptorIndex := 104, attributes := #[] }, { accessFlags := 0, nameIndex := 112, descriptorIndex := 37, attributes := #[] }, { accessFlags := 10, nameIndex := 5, descriptorIndex := 6, attributes := #[] }] 48 12 #[] #[{ accessFlags := 24, nameIndex := 96, descriptorIndex := 97, attributes := #[] }, { accessFlags := 18, nameIndex := 18, descriptorIndex := 19, attributes := #[] }, { accessFlags := 18, nameIndex := 5, descriptorIndex := 22, attributes := #[] }, { accessFlags := 18, nameIndex := 25, descriptorIndex := 22, attributes := #[] }, { accessFlags := 18, nameIndex := 28, descriptorIndex := 22, attributes := #[] }])
  fields := #[{ name := "NONE", type := .int, accessFlags := 24, slot := 0, constantValue := 0 }, { name := "jobs", type := (.object "com/example/even_commute/evencommute/demand/ZoneCounts"), accessFlags := 18, slot := 0, constantValue := 0 }, { name := "homeZones", type := (.array .int), accessFlags := 18, slot := 1, constantValue := 0 }, { name := "departures", type := (.array .int), accessFlags := 18, slot := 2, constantValue := 0 }, { name := "workplaces", type := (.array .int), accessFlags := 18, slot := 3, constantValue := 0 }]
  methods := #[k20m0, k20m1, k20m2, k20m3, k20m4]
  instanceTypes := #[(.object "com/example/even_commute/evencommute/demand/ZoneCounts"), (.array .int), (.array .int), (.array .int)]
  staticTypes := #[.int]
  resolved := Array.replicate 124 none
  statics := none }

def pool21 : Array CpInfo := pool [(2, .class_ 4), (1, u "java/lang/Object"), (0, u "<init>"), (0, u "()V"), (1, .class_ 10), (1, u "java/util/List"), (2, .class_ 14), (0, u "java/util/RandomAccess"), (4, .class_ 20), (0, u "java/util/Collections"), (63, u "r"), (0, u "Ljava/util/Random;"), (67, u "(Ljava/util/List;)V"), (9, .nameAndType 164 165), (0, u "getClass"), (0, u "()Ljava/lang/Class;"), (0, .class_ 167), (0, u "java/util/Collections$UnmodifiableCollection"), (6, .class_ 175), (0, u "java/util/Collections$UnmodifiableSequencedCollection"), (6, .class_ 183), (0, u "java/util/Collections$UnmodifiableSet"), (6, .class_ 191), (0, u "java/util/Collections$UnmodifiableSequencedSet"), (6, .class_ 199), (0, u "java/util/Collections$UnmodifiableSortedSet"), (6, .class_ 207), (0, u "java/util/Collections$UnmodifiableNavigableSet"), (3, .interfaceMethodref 8 163), (0, .class_ 213), (0, u "java/util/Collections$UnmodifiableList"), (0, .interfaceMethodref 8 163), (0, .class_ 216), (0, u "java/util/Collections$UnmodifiableRandomAccessList"), (0, .methodref 215 218), (0, .nameAndType 5 153), (4, .class_ 224), (0, u "java/util/Collections$UnmodifiableMap"), (6, .class_ 232), (0, u "java/util/Collections$UnmodifiableSequencedMap"), (4, .class_ 238), (0, u "java/util/Collections$UnmodifiableSortedMap"), (6, .class_ 246), (0, u "java/util/Collections$UnmodifiableNavigableMap"), (3, .class_ 251), (0, u "java/util/Collections$SynchronizedCollection"), (4, .class_ 257), (0, u "java/util/Collections$SynchronizedSet"), (4, .class_ 263), (0, u "java/util/Collections$SynchronizedSortedSet"), (1, .class_ 266), (0, u "java/util/Collections$SynchronizedNavigableSet"), (1, .class_ 269), (0, u "java/util/Collections$SynchronizedRandomAccessList"), (1, .class_ 272), (0, u "java/util/Collections$SynchronizedList"), (5, .class_ 279), (0, u "java/util/Collections$SynchronizedMap"), (1, .class_ 282), (0, u "java/util/Collections$SynchronizedSortedMap"), (1, .class_ 285), (0, u "java/util/Collections$SynchronizedNavigableMap"), (1, .class_ 288), (0, u "java/util/Collections$CheckedCollection"), (11, .class_ 301), (0, u "java/util/Collections$CheckedQueue"), (3, .class_ 306), (0, u "java/util/Collections$CheckedSet"), (3, .class_ 311), (0, u "java/util/Collections$CheckedSortedSet"), (3, .class_ 316), (0, u "java/util/Collections$CheckedNavigableSet"), (3, .class_ 321), (0, u "java/util/Collections$CheckedRandomAccessList"), (3, .class_ 326), (0, u "java/util/Collections$CheckedList"), (1, .class_ 329), (0, u "java/util/Collections$CheckedMap"), (3, .class_ 334), (0, u "java/util/Collections$CheckedSortedMap"), (3, .class_ 339), (0, u "java/util/Collections$CheckedNavigableMap"), (4, .class_ 346), (1, u "java/util/Collections$EmptyIterator"), (3, .class_ 352), (1, u "java/util/Collections$EmptyListIterator"), (2, .class_ 357), (1, u "java/util/Collections$EmptyEnumeration"), (4, u "EMPTY_SET"), (0, u "Ljava/util/Set;"), (6, u "EMPTY_LIST"), (0, u "Ljava/util/List;"), (2, u "EMPTY_MAP"), (0, u "Ljava/util/Map;"), (4, .class_ 381), (0, u "java/util/Collections$SingletonSet"), (2, .class_ 385), (0, u "java/util/Collections$1"), (1, .class_ 388), (0, u "java/util/Collections$2"), (1, .class_ 391), (0, u "java/util/Collections$SingletonList"), (1, .class_ 394), (0, u "java/util/Collections$SingletonMap"), (22, .class_ 418), (0, u "java/util/Collections$CopiesList"), (4, .class_ 425), (1, u "java/util/Collections$ReverseComparator"), (8, .class_ 435), (0, u "java/util/Collections$ReverseComparator2"), (6, .class_ 443), (0, u "java/util/Collections$3"), (25, .class_ 470), (0, u "java/util/Collections$SetFromMap"), (2, .class_ 474), (0, u "java/util/Collections$SequencedSetFromMap"), (3, .class_ 479), (0, u "java/util/Collections$AsLIFOQueue"), (11, .class_ 492), (0, u "java/util/Collections$EmptySet"), (1, .class_ 495), (0, u "java/util/Collections$EmptyList"), (1, .class_ 498), (0, u "java/util/Collections$EmptyMap"), (1, u "BINARYSEARCH_THRESHOLD"), (0, u "I"), (2, u "REVERSE_THRESHOLD"), (1, u "SHUFFLE_THRESHOLD"), (1, u "FILL_THRESHOLD"), (1, u "ROTATE_THRESHOLD"), (1, u "COPY_THRESHOLD"), (1, u "REPLACEALL_THRESHOLD"), (1, u "INDEXOFSUBLIST_THRESHOLD"), (129, u "unmodifiableList"), (0, u "(Ljava/util/List;)Ljava/util/List;"), (202, .class_ 851), (0, u "java/util/Collections$CheckedMap$CheckedEntrySet"), (0, .class_ 853), (0, u "java/util/Collections$CheckedMap$CheckedEntrySet$CheckedEntry"), (0, .class_ 855), (0, u "java/util/Collections$CheckedMap$CheckedEntrySet$1"), (0, .class_ 857), (0, u "java/util/Collections$CheckedList$1"), (0, .class_ 859), (0, u "java/util/Collections$CheckedCollection$1"), (0, .class_ 861), (0, u "java/util/Collections$UnmodifiableNavigableMap$EmptyNavigableMap"), (0, .class_ 863), (0, u "java/util/Collections$UnmodifiableMap$UnmodifiableEntrySet"), (0, .class_ 865), (0, u "java/util/Collections$UnmodifiableMap$UnmodifiableEntrySet$UnmodifiableEntry"), (0, .class_ 867), (0, u "java/util/Collections$UnmodifiableMap$UnmodifiableEntrySet$UnmodifiableEntrySetSpliterator"), (0, .class_ 869), (0, u "java/util/Collections$UnmodifiableMap$UnmodifiableEntrySet$1"), (0, .class_ 871), (0, u "java/util/Collections$UnmodifiableList$1"), (0, .class_ 873), (0, u "java/util/Collections$UnmodifiableNavigableSet$EmptyNavigableSet"), (0, .class_ 875), (0, u "java/util/Collections$UnmodifiableCollection$1")] 57

def k21m0 : Method := { name := "<init>", desc := "()V", sig := { parameters := [], returnType := none }, accessFlags := 2, code := none }
def k21c1 : Code := { maxStack := 3, maxLocals := 1, code := jdk_79_method_35_code, exceptionTable := #[], attributes := #[] }
def k21m1 : Method := { name := "unmodifiableList", desc := "(Ljava/util/List;)Ljava/util/List;", sig := { parameters := [(.object "java/util/List")], returnType := some (.object "java/util/List") }, accessFlags := 9, code := some k21c1 }
/-- java/util/Collections -/
def k21 : Class := { plain "java/util/Collections" (some 0) with
  accessFlags := 33
  interfaces := #[]
  cf := some (fileOf pool21 19 #[.nestMembers #[478, 473, 469, 434, 423, 417, 393, 390, 380, 497, 494, 491, 355, 350, 344, 338, 333, 328, 850, 852, 854, 320, 325, 856, 315, 310, 305, 300, 287, 858, 284, 281, 278, 268, 271, 265, 262, 256, 250, 245, 860, 237, 231, 223, 862, 864, 866, 868, 215, 212, 870, 206, 872, 198, 190, 182, 174, 166, 874, 442, 387, 384]] #[{ accessFlags := 2, nameIndex := 5, descriptorIndex := 6, attributes := #[] }, { accessFlags := 9, nameIndex := 646, descriptorIndex := 647, attributes := #[] }] 33 2 #[] #[{ accessFlags := 26, nameIndex := 500, descriptorIndex := 501, attributes := #[] }, { accessFlags := 26, nameIndex := 504, descriptorIndex := 501, attributes := #[] }, { accessFlags := 26, nameIndex := 506, descriptorIndex := 501, attributes := #[] }, { accessFlags := 26, nameIndex := 508, descriptorIndex := 501, attributes := #[] }, { accessFlags := 26, nameIndex := 510, descriptorIndex := 501, attributes := #[] }, { accessFlags := 26, nameIndex := 512, descriptorIndex := 501, attributes := #[] }, { accessFlags := 26, nameIndex := 514, descriptorIndex := 501, attributes := #[] }, { accessFlags := 26, nameIndex := 516, descriptorIndex := 501, attributes := #[] }, { accessFlags := 10, nameIndex := 84, descriptorIndex := 85, attributes := #[] }, { accessFlags := 25, nameIndex := 362, descriptorIndex := 363, attributes := #[] }, { accessFlags := 25, nameIndex := 370, descriptorIndex := 371, attributes := #[] }, { accessFlags := 25, nameIndex := 374, descriptorIndex := 375, attributes := #[] }])
  fields := #[{ name := "BINARYSEARCH_THRESHOLD", type := .int, accessFlags := 26, slot := 0, constantValue := 0 }, { name := "REVERSE_THRESHOLD", type := .int, accessFlags := 26, slot := 1, constantValue := 0 }, { name := "SHUFFLE_THRESHOLD", type := .int, accessFlags := 26, slot := 2, constantValue := 0 }, { name := "FILL_THRESHOLD", type := .int, accessFlags := 26, slot := 3, constantValue := 0 }, { name := "ROTATE_THRESHOLD", type := .int, accessFlags := 26, slot := 4, constantValue := 0 }, { name := "COPY_THRESHOLD", type := .int, accessFlags := 26, slot := 5, constantValue := 0 }, { name := "REPLACEALL_THRESHOLD", type := .int, accessFlags := 26, slot := 6, constantValue := 0 }, { name := "INDEXOFSUBLIST_THRESHOLD", type := .int, accessFlags := 26, slot := 7, constantValue := 0 }, { name := "r", type := (.object "java/util/Random"), accessFlags := 10, slot := 8, constantValue := 0 }, { name := "EMPTY_SET", type := (.object "java/util/Set"), accessFlags := 25, slot := 9, constantValue := 0 }, { name := "EMPTY_LIST", type := (.object "java/util/List"), accessFlags := 25, slot := 10, constantValue := 0 }, { name := "EMPTY_MAP", type := (.object "java/util/Map"), accessFlags := 25, slot := 11, constantValue := 0 }]
  methods := #[k21m0, k21m1]
  instanceTypes := #[]
  staticTypes := #[.int, .int, .int, .int, .int, .int, .int, .int, (.object "java/util/Random"), (.object "java/util/Set"), (.object "java/util/List"), (.object "java/util/Map")]
  resolved := Array.replicate 933 none
  statics := none }

def pool22 : Array CpInfo := pool [(1, .methodref 2 3), (0, .class_ 4), (0, .nameAndType 5 6), (0, u "java/lang/Object"), (0, u "<init>"), (0, u "()V"), (3, .fieldref 11 12), (0, .class_ 13), (0, .nameAndType 14 15), (0, u "java/util/Collections$UnmodifiableCollection"), (0, u "c"), (0, u "Ljava/util/Collection;"), (1, .class_ 19), (1, u "java/util/Collection"), (24, .class_ 45), (0, u "java/util/Collections$UnmodifiableCollection$1"), (0, .methodref 44 47), (0, .nameAndType 5 48), (0, u "(Ljava/util/Collections$UnmodifiableCollection;)V"), (22, .class_ 72), (0, u "java/io/Serializable"), (0, u "serialVersionUID"), (0, u "J"), (5, u "(Ljava/util/Collection;)V"), (19, u "iterator"), (0, u "()Ljava/util/Iterator;"), (30, .class_ 133), (0, u "java/util/Collections")] 2

def k22c0 : Code := { maxStack := 2, maxLocals := 2, code := jdk_119_method_1_code, exceptionTable := #[], attributes := #[] }
def k22m0 : Method := { name := "<init>", desc := "(Ljava/util/Collection;)V", sig := { parameters := [(.object "java/util/Collection")], returnType := none }, accessFlags := 0, code := some k22c0 }
def k22c1 : Code := { maxStack := 3, maxLocals := 1, code := jdk_119_method_9_code, exceptionTable := #[], attributes := #[] }
def k22m1 : Method := { name := "iterator", desc := "()Ljava/util/Iterator;", sig := { parameters := [], returnType := some (.object "java/util/Iterator") }, accessFlags := 1, code := some k22c1 }
/-- java/util/Collections$UnmodifiableCollection -/
def k22 : Class := { plain "java/util/Collections$UnmodifiableCollection" (some 0) with
  accessFlags := 32
  interfaces := #[4, 11]
  cf := some (fileOf pool22 11 #[.nestHost 132] #[{ accessFlags := 0, nameIndex := 5, descriptorIndex := 80, attributes := #[] }, { accessFlags := 1, nameIndex := 100, descriptorIndex := 101, attributes := #[] }] 32 2 #[17, 71] #[{ accessFlags := 26, nameIndex := 73, descriptorIndex := 74, attributes := #[] }, { accessFlags := 16, nameIndex := 14, descriptorIndex := 15, attributes := #[] }])
  fields := #[{ name := "serialVersionUID", type := .long, accessFlags := 26, slot := 0, constantValue := 0 }, { name := "c", type := (.object "java/util/Collection"), accessFlags := 16, slot := 0, constantValue := 0 }]
  methods := #[k22m0, k22m1]
  instanceTypes := #[(.object "java/util/Collection")]
  staticTypes := #[.long]
  resolved := Array.replicate 136 none
  statics := none }

def pool23 : Array CpInfo := pool [(1, .methodref 2 3), (0, .class_ 4), (0, .nameAndType 5 6), (0, u "java/util/Collections$UnmodifiableCollection"), (0, u "<init>"), (0, u "(Ljava/util/Collection;)V"), (0, .fieldref 8 9), (0, .class_ 10), (0, .nameAndType 11 12), (0, u "java/util/Collections$UnmodifiableList"), (0, u "list"), (0, u "Ljava/util/List;"), (1, .class_ 16), (1, u "java/util/List"), (37, u "(Ljava/util/List;)V"), (5, u "serialVersionUID"), (0, u "J"), (59, .class_ 122), (0, u "java/util/Collections")] 4

def k23c0 : Code := { maxStack := 2, maxLocals := 2, code := jdk_120_method_1_code, exceptionTable := #[], attributes := #[] }
def k23m0 : Method := { name := "<init>", desc := "(Ljava/util/List;)V", sig := { parameters := [(.object "java/util/List")], returnType := none }, accessFlags := 0, code := some k23c0 }
/-- java/util/Collections$UnmodifiableList -/
def k23 : Class := { plain "java/util/Collections$UnmodifiableList" (some 22) with
  accessFlags := 32
  interfaces := #[7]
  cf := some (fileOf pool23 8 #[.nestHost 121] #[{ accessFlags := 0, nameIndex := 5, descriptorIndex := 54, attributes := #[] }] 32 2 #[14] #[{ accessFlags := 26, nameIndex := 60, descriptorIndex := 61, attributes := #[] }, { accessFlags := 16, nameIndex := 11, descriptorIndex := 12, attributes := #[] }])
  fields := #[{ name := "serialVersionUID", type := .long, accessFlags := 26, slot := 0, constantValue := 0 }, { name := "list", type := (.object "java/util/List"), accessFlags := 16, slot := 1, constantValue := 0 }]
  methods := #[k23m0]
  instanceTypes := #[(.object "java/util/Collection"), (.object "java/util/List")]
  staticTypes := #[.long]
  resolved := Array.replicate 127 none
  mirror := some 3
  statics := none }

def pool24 : Array CpInfo := pool [(1, .methodref 2 3), (0, .class_ 4), (0, .nameAndType 5 6), (0, u "java/util/Collections$UnmodifiableList"), (0, u "<init>"), (0, u "(Ljava/util/List;)V"), (0, .class_ 8), (0, u "java/util/Collections$UnmodifiableRandomAccessList"), (11, .class_ 21), (0, u "java/util/RandomAccess"), (0, u "serialVersionUID"), (0, u "J"), (23, .class_ 48), (0, u "java/util/Collections")] 3

def k24c0 : Code := { maxStack := 2, maxLocals := 2, code := jdk_121_method_1_code, exceptionTable := #[], attributes := #[] }
def k24m0 : Method := { name := "<init>", desc := "(Ljava/util/List;)V", sig := { parameters := [(.object "java/util/List")], returnType := none }, accessFlags := 0, code := some k24c0 }
/-- java/util/Collections$UnmodifiableRandomAccessList -/
def k24 : Class := { plain "java/util/Collections$UnmodifiableRandomAccessList" (some 23) with
  accessFlags := 32
  interfaces := #[9]
  cf := some (fileOf pool24 7 #[.nestHost 47] #[{ accessFlags := 0, nameIndex := 5, descriptorIndex := 6, attributes := #[] }] 32 2 #[20] #[{ accessFlags := 26, nameIndex := 22, descriptorIndex := 23, attributes := #[] }])
  fields := #[{ name := "serialVersionUID", type := .long, accessFlags := 26, slot := 0, constantValue := 0 }]
  methods := #[k24m0]
  instanceTypes := #[(.object "java/util/Collection"), (.object "java/util/List")]
  staticTypes := #[.long]
  resolved := Array.replicate 52 none
  mirror := some 4
  statics := none }

def pool25 : Array CpInfo := pool [(16, .class_ 18), (1, u "java/util/Iterator"), (0, u "hasNext"), (0, u "()Z"), (2, u "next"), (0, u "()Ljava/lang/Object;"), (6, .class_ 32), (0, u "java/lang/Object")] 20

def k25m0 : Method := { name := "hasNext", desc := "()Z", sig := { parameters := [], returnType := some .boolean }, accessFlags := 1025, code := none }
def k25m1 : Method := { name := "next", desc := "()Ljava/lang/Object;", sig := { parameters := [], returnType := some (.object "java/lang/Object") }, accessFlags := 1025, code := none }
/-- java/util/Iterator -/
def k25 : Class := { plain "java/util/Iterator" (some 0) with
  accessFlags := 1537
  interfaces := #[]
  cf := some (fileOf pool25 16 #[] #[{ accessFlags := 1025, nameIndex := 19, descriptorIndex := 20, attributes := #[] }, { accessFlags := 1025, nameIndex := 23, descriptorIndex := 24, attributes := #[] }] 1537 31 #[] #[])
  fields := #[]
  methods := #[k25m0, k25m1]
  instanceTypes := #[]
  staticTypes := #[]
  resolved := Array.replicate 53 none
  statics := none }

def pool26 : Array CpInfo := pool [(1, .fieldref 2 3), (0, .class_ 4), (0, .nameAndType 5 6), (0, u "java/util/Collections$UnmodifiableCollection$1"), (0, u "this$0"), (0, u "Ljava/util/Collections$UnmodifiableCollection;"), (0, .methodref 8 9), (0, .class_ 10), (0, .nameAndType 11 12), (0, u "java/lang/Object"), (0, u "<init>"), (0, u "()V"), (0, .fieldref 14 15), (0, .class_ 16), (0, .nameAndType 17 18), (0, u "java/util/Collections$UnmodifiableCollection"), (0, u "c"), (0, u "Ljava/util/Collection;"), (0, .interfaceMethodref 20 21), (0, .class_ 22), (0, .nameAndType 23 24), (0, u "java/util/Collection"), (0, u "iterator"), (0, u "()Ljava/util/Iterator;"), (0, .fieldref 2 26), (0, .nameAndType 27 28), (0, u "i"), (0, u "Ljava/util/Iterator;"), (0, .interfaceMethodref 30 31), (0, .class_ 32), (0, .nameAndType 33 34), (0, u "java/util/Iterator"), (0, u "hasNext"), (0, u "()Z"), (0, .interfaceMethodref 30 36), (0, .nameAndType 37 38), (0, u "next"), (0, u "()Ljava/lang/Object;"), (9, u "(Ljava/util/Collections$UnmodifiableCollection;)V"), (18, .class_ 68), (0, u "java/util/Collections")] 2

def k26c0 : Code := { maxStack := 2, maxLocals := 2, code := jdk_135_method_1_code, exceptionTable := #[], attributes := #[] }
def k26m0 : Method := { name := "<init>", desc := "(Ljava/util/Collections$UnmodifiableCollection;)V", sig := { parameters := [(.object "java/util/Collections$UnmodifiableCollection")], returnType := none }, accessFlags := 0, code := some k26c0 }
def k26c1 : Code := { maxStack := 1, maxLocals := 1, code := jdk_135_method_2_code, exceptionTable := #[], attributes := #[] }
def k26m1 : Method := { name := "hasNext", desc := "()Z", sig := { parameters := [], returnType := some .boolean }, accessFlags := 1, code := some k26c1 }
def k26c2 : Code := { maxStack := 1, maxLocals := 1, code := jdk_135_method_3_code, exceptionTable := #[], attributes := #[] }
def k26m2 : Method := { name := "next", desc := "()Ljava/lang/Object;", sig := { parameters := [], returnType := some (.object "java/lang/Object") }, accessFlags := 1, code := some k26c2 }
/-- java/util/Collections$UnmodifiableCollection$1 -/
def k26 : Class := { plain "java/util/Collections$UnmodifiableCollection$1" (some 0) with
  accessFlags := 32
  interfaces := #[25]
  cf := some (fileOf pool26 2 #[.nestHost 67] #[{ accessFlags := 0, nameIndex := 11, descriptorIndex := 48, attributes := #[] }, { accessFlags := 1, nameIndex := 33, descriptorIndex := 34, attributes := #[] }, { accessFlags := 1, nameIndex := 37, descriptorIndex := 38, attributes := #[] }] 32 8 #[30] #[{ accessFlags := 18, nameIndex := 27, descriptorIndex := 28, attributes := #[] }, { accessFlags := 4112, nameIndex := 5, descriptorIndex := 6, attributes := #[] }])
  fields := #[{ name := "i", type := (.object "java/util/Iterator"), accessFlags := 18, slot := 0, constantValue := 0 }, { name := "this$0", type := (.object "java/util/Collections$UnmodifiableCollection"), accessFlags := 4112, slot := 1, constantValue := 0 }]
  methods := #[k26m0, k26m1, k26m2]
  instanceTypes := #[(.object "java/util/Iterator"), (.object "java/util/Collections$UnmodifiableCollection")]
  staticTypes := #[]
  resolved := Array.replicate 71 none
  statics := none }

def pool27 : Array CpInfo := pool [(1, .fieldref 2 3), (0, .class_ 4), (0, .nameAndType 5 6), (0, u "java/util/ArrayList$Itr"), (0, u "this$0"), (0, u "Ljava/util/ArrayList;"), (0, .methodref 8 9), (0, .class_ 10), (0, .nameAndType 11 12), (0, u "java/lang/Object"), (0, u "<init>"), (0, u "()V"), (0, .fieldref 2 14), (0, .nameAndType 15 16), (0, u "lastRet"), (0, u "I"), (0, .fieldref 18 19), (0, .class_ 20), (0, .nameAndType 21 16), (0, u "java/util/ArrayList"), (0, u "modCount"), (0, .fieldref 2 23), (0, .nameAndType 24 16), (0, u "expectedModCount"), (0, .fieldref 2 26), (0, .nameAndType 27 16), (0, u "cursor"), (0, .fieldref 18 29), (0, .nameAndType 30 16), (0, u "size"), (0, .methodref 2 32), (0, .nameAndType 33 12), (0, u "checkForComodification"), (3, .fieldref 18 38), (0, .nameAndType 39 40), (0, u "elementData"), (0, u "[Ljava/lang/Object;"), (28, .class_ 70), (0, u "java/util/Iterator"), (0, u "(Ljava/util/ArrayList;)V"), (8, u "hasNext"), (0, u "()Z"), (1, u "next"), (0, u "()Ljava/lang/Object;")] 19

def k27c0 : Code := { maxStack := 2, maxLocals := 2, code := jdk_49_method_1_code, exceptionTable := #[], attributes := #[] }
def k27m0 : Method := { name := "<init>", desc := "(Ljava/util/ArrayList;)V", sig := { parameters := [(.object "java/util/ArrayList")], returnType := none }, accessFlags := 0, code := some k27c0 }
def k27c1 : Code := { maxStack := 2, maxLocals := 1, code := jdk_49_method_2_code, exceptionTable := #[], attributes := #[] }
def k27m1 : Method := { name := "hasNext", desc := "()Z", sig := { parameters := [], returnType := some .boolean }, accessFlags := 1, code := some k27c1 }
def k27c2 : Code := { maxStack := 4, maxLocals := 3, code := jdk_49_method_3_code, exceptionTable := #[], attributes := #[] }
def k27m2 : Method := { name := "next", desc := "()Ljava/lang/Object;", sig := { parameters := [], returnType := some (.object "java/lang/Object") }, accessFlags := 1, code := some k27c2 }
def k27c3 : Code := { maxStack := 2, maxLocals := 1, code := jdk_49_method_6_code, exceptionTable := #[], attributes := #[] }
def k27m3 : Method := { name := "checkForComodification", desc := "()V", sig := { parameters := [], returnType := none }, accessFlags := 16, code := some k27c3 }
/-- java/util/ArrayList$Itr -/
def k27 : Class := { plain "java/util/ArrayList$Itr" (some 0) with
  accessFlags := 32
  interfaces := #[25]
  cf := some (fileOf pool27 2 #[.nestHost 18] #[{ accessFlags := 0, nameIndex := 11, descriptorIndex := 71, attributes := #[] }, { accessFlags := 1, nameIndex := 80, descriptorIndex := 81, attributes := #[] }, { accessFlags := 1, nameIndex := 83, descriptorIndex := 84, attributes := #[] }, { accessFlags := 16, nameIndex := 33, descriptorIndex := 12, attributes := #[] }] 32 8 #[69] #[{ accessFlags := 0, nameIndex := 27, descriptorIndex := 16, attributes := #[] }, { accessFlags := 0, nameIndex := 15, descriptorIndex := 16, attributes := #[] }, { accessFlags := 0, nameIndex := 24, descriptorIndex := 16, attributes := #[] }, { accessFlags := 4112, nameIndex := 5, descriptorIndex := 6, attributes := #[] }])
  fields := #[{ name := "cursor", type := .int, accessFlags := 0, slot := 0, constantValue := 0 }, { name := "lastRet", type := .int, accessFlags := 0, slot := 1, constantValue := 0 }, { name := "expectedModCount", type := .int, accessFlags := 0, slot := 2, constantValue := 0 }, { name := "this$0", type := (.object "java/util/ArrayList"), accessFlags := 4112, slot := 3, constantValue := 0 }]
  methods := #[k27m0, k27m1, k27m2, k27m3]
  instanceTypes := #[.int, .int, .int, (.object "java/util/ArrayList")]
  staticTypes := #[]
  resolved := Array.replicate 104 none
  statics := none }

def pool28 : Array CpInfo := pool [(2, .class_ 4), (1, u "java/lang/Object"), (0, u "<init>"), (0, u "()V"), (5, u "([IIII)V"), (0, .methodref 14 15), (0, .class_ 16), (0, .nameAndType 17 18), (0, u "java/util/Arrays"), (0, u "rangeCheck"), (0, u "(III)V"), (55, .class_ 76), (1, u "java/util/Arrays$NaturalOrder"), (36, .class_ 115), (1, u "java/util/Arrays$LegacyMergeSort"), (1, u "Z"), (257, .class_ 376), (0, u "java/util/Arrays$ArrayList"), (68, u "$assertionsDisabled"), (269, u "MIN_ARRAY_SORT_GRAN"), (0, u "I"), (2, u "INSERTIONSORT_THRESHOLD"), (120, u "fill"), (134, .class_ 976), (0, u "java/util/Arrays$ArrayItr")] 52

def k28m0 : Method := { name := "<init>", desc := "()V", sig := { parameters := [], returnType := none }, accessFlags := 2, code := none }
def k28c1 : Code := { maxStack := 4, maxLocals := 3, code := jdk_65_method_30_code, exceptionTable := #[], attributes := #[] }
def k28m1 : Method := { name := "rangeCheck", desc := "(III)V", sig := { parameters := [.int, .int, .int], returnType := none }, accessFlags := 8, code := some k28c1 }
def k28c2 : Code := { maxStack := 3, maxLocals := 5, code := jdk_65_method_104_code, exceptionTable := #[], attributes := #[] }
def k28m2 : Method := { name := "fill", desc := "([IIII)V", sig := { parameters := [(.array .int), .int, .int, .int], returnType := none }, accessFlags := 9, code := some k28c2 }
/-- java/util/Arrays -/
def k28 : Class := { plain "java/util/Arrays" (some 0) with
  accessFlags := 49
  interfaces := #[]
  cf := some (fileOf pool28 14 #[.nestMembers #[975, 375, 113, 74]] #[{ accessFlags := 2, nameIndex := 5, descriptorIndex := 6, attributes := #[] }, { accessFlags := 8, nameIndex := 17, descriptorIndex := 18, attributes := #[] }, { accessFlags := 9, nameIndex := 840, descriptorIndex := 12, attributes := #[] }] 49 2 #[] #[{ accessFlags := 26, nameIndex := 715, descriptorIndex := 716, attributes := #[] }, { accessFlags := 26, nameIndex := 719, descriptorIndex := 716, attributes := #[] }, { accessFlags := 4120, nameIndex := 445, descriptorIndex := 117, attributes := #[] }])
  fields := #[{ name := "MIN_ARRAY_SORT_GRAN", type := .int, accessFlags := 26, slot := 0, constantValue := 0 }, { name := "INSERTIONSORT_THRESHOLD", type := .int, accessFlags := 26, slot := 1, constantValue := 0 }, { name := "$assertionsDisabled", type := .boolean, accessFlags := 4120, slot := 2, constantValue := 0 }]
  methods := #[k28m0, k28m1, k28m2]
  instanceTypes := #[]
  staticTypes := #[.int, .int, .boolean]
  resolved := Array.replicate 1029 none
  statics := none }

def pool29 : Array CpInfo := pool [(1, u "java/lang/Class"), (0, .class_ 1), (0, u "java/lang/Object"), (0, .class_ 3)] 0

/-- java/lang/Class -/
def k29 : Class := { plain "java/lang/Class" (some 0) with
  accessFlags := 49
  interfaces := #[]
  cf := some (fileOf pool29 2 #[] #[] 49 4 #[] #[])
  fields := #[]
  methods := #[]
  instanceTypes := #[]
  staticTypes := #[]
  resolved := Array.replicate 5 none
  statics := none }

/-- the primitive boolean -/
def k30 : Class := { plain "boolean" none with kind := .primitive 'Z', accessFlags := 0x411 }
/-- [Z -/
def k31 : Class := { plain "[Z" (some 0) with kind := .array 30 .boolean, interfaces := #[10, 11], accessFlags := 1041 }

/-- the primitive byte -/
def k32 : Class := { plain "byte" none with kind := .primitive 'B', accessFlags := 0x411 }
/-- [B -/
def k33 : Class := { plain "[B" (some 0) with kind := .array 32 .byte, interfaces := #[10, 11], accessFlags := 1041 }

/-- the primitive int -/
def k34 : Class := { plain "int" none with kind := .primitive 'I', accessFlags := 0x411 }
/-- [I -/
def k35 : Class := { plain "[I" (some 0) with kind := .array 34 .int, interfaces := #[10, 11], accessFlags := 1041 }

/-- [Ljava/lang/Integer; -/
def k36 : Class := { plain "[Ljava/lang/Integer;" (some 0) with kind := .array 17 (.object "java/lang/Integer"), interfaces := #[10, 11], accessFlags := 1041 }

/-- [Ljava/lang/Object; -/
def k37 : Class := { plain "[Ljava/lang/Object;" (some 0) with kind := .array 0 (.object "java/lang/Object"), interfaces := #[10, 11], accessFlags := 1041 }

def ci (x : Int32) : Cell := { cls := 17, slots := #[.int x], vm := .none }
def heap : Heap := #[{ cls := 12, slots := #[.long 0, .int 0, .ref 262, .ref 263], vm := .statics 12 },
  { cls := 18, slots := #[.int 0, .int 127, .ref 5, .null, .int 0], vm := .statics 18 },
  { cls := 29, slots := #[], vm := .mirror 12 },
  { cls := 29, slots := #[], vm := .mirror 23 },
  { cls := 29, slots := #[], vm := .mirror 24 },
  { cls := 36, slots := #[.ref 6, .ref 7, .ref 8, .ref 9, .ref 10, .ref 11, .ref 12, .ref 13, .ref 14, .ref 15, .ref 16, .ref 17, .ref 18, .ref 19, .ref 20, .ref 21, .ref 22, .ref 23, .ref 24, .ref 25, .ref 26, .ref 27, .ref 28, .ref 29, .ref 30, .ref 31, .ref 32, .ref 33, .ref 34, .ref 35, .ref 36, .ref 37, .ref 38, .ref 39, .ref 40, .ref 41, .ref 42, .ref 43, .ref 44, .ref 45, .ref 46, .ref 47, .ref 48, .ref 49, .ref 50, .ref 51, .ref 52, .ref 53, .ref 54, .ref 55, .ref 56, .ref 57, .ref 58, .ref 59, .ref 60, .ref 61, .ref 62, .ref 63, .ref 64, .ref 65, .ref 66, .ref 67, .ref 68, .ref 69, .ref 70, .ref 71, .ref 72, .ref 73, .ref 74, .ref 75, .ref 76, .ref 77, .ref 78, .ref 79, .ref 80, .ref 81, .ref 82, .ref 83, .ref 84, .ref 85, .ref 86, .ref 87, .ref 88, .ref 89, .ref 90, .ref 91, .ref 92, .ref 93, .ref 94, .ref 95, .ref 96, .ref 97, .ref 98, .ref 99, .ref 100, .ref 101, .ref 102, .ref 103, .ref 104, .ref 105, .ref 106, .ref 107, .ref 108, .ref 109, .ref 110, .ref 111, .ref 112, .ref 113, .ref 114, .ref 115, .ref 116, .ref 117, .ref 118, .ref 119, .ref 120, .ref 121, .ref 122, .ref 123, .ref 124, .ref 125, .ref 126, .ref 127, .ref 128, .ref 129, .ref 130, .ref 131, .ref 132, .ref 133, .ref 134, .ref 135, .ref 136, .ref 137, .ref 138, .ref 139, .ref 140, .ref 141, .ref 142, .ref 143, .ref 144, .ref 145, .ref 146, .ref 147, .ref 148, .ref 149, .ref 150, .ref 151, .ref 152, .ref 153, .ref 154, .ref 155, .ref 156, .ref 157, .ref 158, .ref 159, .ref 160, .ref 161, .ref 162, .ref 163, .ref 164, .ref 165, .ref 166, .ref 167, .ref 168, .ref 169, .ref 170, .ref 171, .ref 172, .ref 173, .ref 174, .ref 175, .ref 176, .ref 177, .ref 178, .ref 179, .ref 180, .ref 181, .ref 182, .ref 183, .ref 184, .ref 185, .ref 186, .ref 187, .ref 188, .ref 189, .ref 190, .ref 191, .ref 192, .ref 193, .ref 194, .ref 195, .ref 196, .ref 197, .ref 198, .ref 199, .ref 200, .ref 201, .ref 202, .ref 203, .ref 204, .ref 205, .ref 206, .ref 207, .ref 208, .ref 209, .ref 210, .ref 211, .ref 212, .ref 213, .ref 214, .ref 215, .ref 216, .ref 217, .ref 218, .ref 219, .ref 220, .ref 221, .ref 222, .ref 223, .ref 224, .ref 225, .ref 226, .ref 227, .ref 228, .ref 229, .ref 230, .ref 231, .ref 232, .ref 233, .ref 234, .ref 235, .ref 236, .ref 237, .ref 238, .ref 239, .ref 240, .ref 241, .ref 242, .ref 243, .ref 244, .ref 245, .ref 246, .ref 247, .ref 248, .ref 249, .ref 250, .ref 251, .ref 252, .ref 253, .ref 254, .ref 255, .ref 256, .ref 257, .ref 258, .ref 259, .ref 260, .ref 261], vm := .none },
 ci (-128),
 ci (-127),
 ci (-126),
 ci (-125),
 ci (-124),
 ci (-123),
 ci (-122),
 ci (-121),
 ci (-120),
 ci (-119),
 ci (-118),
 ci (-117),
 ci (-116),
 ci (-115),
 ci (-114),
 ci (-113),
 ci (-112),
 ci (-111),
 ci (-110),
 ci (-109),
 ci (-108),
 ci (-107),
 ci (-106),
 ci (-105),
 ci (-104),
 ci (-103),
 ci (-102),
 ci (-101),
 ci (-100),
 ci (-99),
 ci (-98),
 ci (-97),
 ci (-96),
 ci (-95),
 ci (-94),
 ci (-93),
 ci (-92),
 ci (-91),
 ci (-90),
 ci (-89),
 ci (-88),
 ci (-87),
 ci (-86),
 ci (-85),
 ci (-84),
 ci (-83),
 ci (-82),
 ci (-81),
 ci (-80),
 ci (-79),
 ci (-78),
 ci (-77),
 ci (-76),
 ci (-75),
 ci (-74),
 ci (-73),
 ci (-72),
 ci (-71),
 ci (-70),
 ci (-69),
 ci (-68),
 ci (-67),
 ci (-66),
 ci (-65),
 ci (-64),
 ci (-63),
 ci (-62),
 ci (-61),
 ci (-60),
 ci (-59),
 ci (-58),
 ci (-57),
 ci (-56),
 ci (-55),
 ci (-54),
 ci (-53),
 ci (-52),
 ci (-51),
 ci (-50),
 ci (-49),
 ci (-48),
 ci (-47),
 ci (-46),
 ci (-45),
 ci (-44),
 ci (-43),
 ci (-42),
 ci (-41),
 ci (-40),
 ci (-39),
 ci (-38),
 ci (-37),
 ci (-36),
 ci (-35),
 ci (-34),
 ci (-33),
 ci (-32),
 ci (-31),
 ci (-30),
 ci (-29),
 ci (-28),
 ci (-27),
 ci (-26),
 ci (-25),
 ci (-24),
 ci (-23),
 ci (-22),
 ci (-21),
 ci (-20),
 ci (-19),
 ci (-18),
 ci (-17),
 ci (-16),
 ci (-15),
 ci (-14),
 ci (-13),
 ci (-12),
 ci (-11),
 ci (-10),
 ci (-9),
 ci (-8),
 ci (-7),
 ci (-6),
 ci (-5),
 ci (-4),
 ci (-3),
 ci (-2),
 ci (-1),
 ci 0,
 ci 1,
 ci 2,
 ci 3,
 ci 4,
 ci 5,
 ci 6,
 ci 7,
 ci 8,
 ci 9,
 ci 10,
 ci 11,
 ci 12,
 ci 13,
 ci 14,
 ci 15,
 ci 16,
 ci 17,
 ci 18,
 ci 19,
 ci 20,
 ci 21,
 ci 22,
 ci 23,
 ci 24,
 ci 25,
 ci 26,
 ci 27,
 ci 28,
 ci 29,
 ci 30,
 ci 31,
 ci 32,
 ci 33,
 ci 34,
 ci 35,
 ci 36,
 ci 37,
 ci 38,
 ci 39,
 ci 40,
 ci 41,
 ci 42,
 ci 43,
 ci 44,
 ci 45,
 ci 46,
 ci 47,
 ci 48,
 ci 49,
 ci 50,
 ci 51,
 ci 52,
 ci 53,
 ci 54,
 ci 55,
 ci 56,
 ci 57,
 ci 58,
 ci 59,
 ci 60,
 ci 61,
 ci 62,
 ci 63,
 ci 64,
 ci 65,
 ci 66,
 ci 67,
 ci 68,
 ci 69,
 ci 70,
 ci 71,
 ci 72,
 ci 73,
 ci 74,
 ci 75,
 ci 76,
 ci 77,
 ci 78,
 ci 79,
 ci 80,
 ci 81,
 ci 82,
 ci 83,
 ci 84,
 ci 85,
 ci 86,
 ci 87,
 ci 88,
 ci 89,
 ci 90,
 ci 91,
 ci 92,
 ci 93,
 ci 94,
 ci 95,
 ci 96,
 ci 97,
 ci 98,
 ci 99,
 ci 100,
 ci 101,
 ci 102,
 ci 103,
 ci 104,
 ci 105,
 ci 106,
 ci 107,
 ci 108,
 ci 109,
 ci 110,
 ci 111,
 ci 112,
 ci 113,
 ci 114,
 ci 115,
 ci 116,
 ci 117,
 ci 118,
 ci 119,
 ci 120,
 ci 121,
 ci 122,
 ci 123,
 ci 124,
 ci 125,
 ci 126,
 ci 127,
  { cls := 37, slots := #[], vm := .none },
  { cls := 37, slots := #[], vm := .none }]
def classes : Array Class := #[k0, k1, k2, k3, k4, k5, k6, k7, k8, k9, k10, k11, k12, k13, k14, k15, k16, k17, k18, k19, k20, k21, k22, k23, k24, k25, k26, k27, k28, k29, k30, k31, k32, k33, k34, k35, k36, k37]
def interned : List (Array UInt16 × Addr) := []
def slotsUsed : Nat := 521
def theMethod : MethodId := ⟨1, 1⟩
def args0 : Array Value := #[.int 1, .int 2, .int 3, .int 4, .int 5]
def aboutOver (below : List Frame) : State where
  vm := { classes := classes, interned := interned.toArray }
  heap := heap
  slotsUsed := slotsUsed
  threads := #[{ frames := .invoking theMethod args0 :: below }]
def below0 : List Frame := [.native { method := ⟨0, 0⟩, args := #[] }]
def about1 : State := aboutOver below0
def p0 : Program := .bare "" "" ""
def e0 : Env := launch0.env 0 0 0
theorem w_frames : about1.frames = Frame.invoking theMethod args0 :: below0 := rfl
set_option maxRecDepth 65536 in
theorem w_args : argsFit about1.vm theMethod args0 = true := by decide +kernel
set_option maxRecDepth 65536 in
theorem w_heap : heapFits about1 = true := by decide +kernel
set_option maxRecDepth 65536 in
theorem w_runnable : about1.curStatus? = some .runnable := by decide +kernel
set_option maxRecDepth 65536 in
theorem w_alone : about1.alone = true := by decide +kernel
set_option maxRecDepth 65536 in
theorem w_named : about1.methodNamed? x = some theMethod := by decide +kernel
set_option maxRecDepth 65536 in
theorem w_hears : about1.hears theMethod below0 = true := by decide +kernel
set_option maxRecDepth 65536 in
theorem w_ripe : about1.ripe theMethod args0 below0 = true := by decide +kernel
theorem w_running : about1.status = .running := rfl
set_option maxRecDepth 65536 in
theorem w_room : about1.hasRoom e0.platform room_1 = true :=
  launch0.hasRoom_least _ room_1 (by decide +kernel) (by decide +kernel) (by decide +kernel) (by decide +kernel) (by decide +kernel) (by decide +kernel)
theorem allAtoms_all (ts : List Jvm.Cond) (a : Array Jvm.Value) (st : Jvm.State) : (allAtoms ts).before a st = ts.all (fun c => c.before a st) := by
  induction ts with
  | nil => rfl
  | cons c t ih =>
    show (Jvm.Cond.and c (allAtoms t)).before a st = _
    rw [Jvm.Cond.before_and, ih, List.all_cons]
def words1 : List Jvm.Cond := Jvm.Cond.code x code maxLocals ret :: tables_1
/-- a 'code' word, met by the world's own term for the bytes: nothing is compared byte by byte -/
theorem code_word {y : MethodName} {bytes : ByteArray} {mx : Nat} {rt : Option FieldType} {a : Array Value} {s : State} {m : MethodId} {meth : Method} {c : Code} (h1 : s.methodNamed? y = some m) (h2 : s.vm.method? m = some meth) (h3 : meth.code = some c) (h4 : c.code = bytes)
    (h5 : (c.maxLocals == mx && c.exceptionTable.isEmpty && decide (c.maxStack ≤ mostOperands) && decide (meth.sig.returnType = rt) && !meth.locks && decide (parseMethodDescriptor y.desc = some meth.sig)) = true) : (Jvm.Cond.code y bytes mx rt).before a s = true := by
  simp only [Bool.and_eq_true, beq_iff_eq, Bool.not_eq_true', decide_eq_true_eq] at h5
  obtain ⟨⟨⟨⟨⟨g1, g2⟩, g3⟩, g4⟩, g5⟩, g6⟩ := h5
  simp [Cond.before, Cond.holds, Cond.value, h1, h2, h3, h4, g1, g2, g3, g4, g5, g6]
def isCode : Jvm.Cond → Bool
  | .code _ _ _ _ => true
  | _ => false
theorem all_split {L : List Jvm.Cond} {P : Jvm.Cond → Bool} (h1 : L.all (fun c => isCode c || P c) = true) (h2 : ∀ c ∈ L.filter isCode, P c = true) : L.all P = true := by
  refine List.all_eq_true.mpr fun c hc => ?_
  have h := List.all_eq_true.mp h1 c hc
  rcases Bool.eq_false_or_eq_true (isCode c) with hi | hi
  · exact h2 c (List.mem_filter.mpr ⟨hc, hi⟩)
  · simpa [hi] using h
set_option maxRecDepth 65536 in
theorem w_c0 : (Jvm.Cond.code x code maxLocals ret).before args0 about1 = true := code_word (m := ⟨1, 1⟩) (meth := k1m1) (c := k1c1) (by decide +kernel) rfl rfl rfl (by decide +kernel)
set_option maxRecDepth 65536 in
theorem w_c1 : (Jvm.Cond.code ({ cls := "com/example/even_commute/evencommute/demand/ZoneCounts", name := "<init>", desc := "(I)V" } : Jvm.MethodName) prog_34_method_1_code (2 : Nat) (Option.none : Option Jvm.ClassFile.FieldType)).before args0 about1 = true := code_word (m := ⟨2, 0⟩) (meth := k2m0) (c := k2c0) (by decide +kernel) rfl rfl rfl (by decide +kernel)
set_option maxRecDepth 65536 in
theorem w_c2 : (Jvm.Cond.code ({ cls := "java/lang/Object", name := "<init>", desc := "()V" } : Jvm.MethodName) object_method_1_code (1 : Nat) (Option.none : Option Jvm.ClassFile.FieldType)).before args0 about1 = true := code_word (m := ⟨0, 0⟩) (meth := k0m0) (c := k0c0) (by decide +kernel) rfl rfl rfl (by decide +kernel)
set_option maxRecDepth 65536 in
theorem w_c3 : (Jvm.Cond.code ({ cls := "java/util/ArrayList", name := "<init>", desc := "()V" } : Jvm.MethodName) jdk_38_method_2_code (1 : Nat) (Option.none : Option Jvm.ClassFile.FieldType)).before args0 about1 = true := code_word (m := ⟨12, 0⟩) (meth := k12m0) (c := k12c0) (by decide +kernel) rfl rfl rfl (by decide +kernel)
set_option maxRecDepth 65536 in
theorem w_c4 : (Jvm.Cond.code ({ cls := "java/util/AbstractList", name := "<init>", desc := "()V" } : Jvm.MethodName) jdk_39_method_1_code (1 : Nat) (Option.none : Option Jvm.ClassFile.FieldType)).before args0 about1 = true := code_word (m := ⟨8, 0⟩) (meth := k8m0) (c := k8c0) (by decide +kernel) rfl rfl rfl (by decide +kernel)
set_option maxRecDepth 65536 in
theorem w_c5 : (Jvm.Cond.code ({ cls := "java/util/AbstractCollection", name := "<init>", desc := "()V" } : Jvm.MethodName) jdk_22_method_1_code (1 : Nat) (Option.none : Option Jvm.ClassFile.FieldType)).before args0 about1 = true := code_word (m := ⟨5, 0⟩) (meth := k5m0) (c := k5c0) (by decide +kernel) rfl rfl rfl (by decide +kernel)
set_option maxRecDepth 65536 in
theorem w_c6 : (Jvm.Cond.code ({ cls := "com/example/even_commute/evencommute/demand/ZoneCounts", name := "add", desc := "(II)V" } : Jvm.MethodName) prog_34_method_2_code (3 : Nat) (Option.none : Option Jvm.ClassFile.FieldType)).before args0 about1 = true := code_word (m := ⟨2, 1⟩) (meth := k2m1) (c := k2c1) (by decide +kernel) rfl rfl rfl (by decide +kernel)
set_option maxRecDepth 65536 in
theorem w_c7 : (Jvm.Cond.code ({ cls := "com/example/even_commute/evencommute/demand/ZoneCounts", name := "checkZone", desc := "(I)V" } : Jvm.MethodName) prog_34_method_7_code (2 : Nat) (Option.none : Option Jvm.ClassFile.FieldType)).before args0 about1 = true := code_word (m := ⟨2, 6⟩) (meth := k2m6) (c := k2c6) (by decide +kernel) rfl rfl rfl (by decide +kernel)
set_option maxRecDepth 65536 in
theorem w_c8 : (Jvm.Cond.code ({ cls := "com/example/even_commute/evencommute/demand/ZoneCounts", name := "getZoneCount", desc := "()I" } : Jvm.MethodName) prog_34_method_3_code (1 : Nat) (Option.some Jvm.ClassFile.FieldType.int)).before args0 about1 = true := code_word (m := ⟨2, 2⟩) (meth := k2m2) (c := k2c2) (by decide +kernel) rfl rfl rfl (by decide +kernel)
set_option maxRecDepth 65536 in
theorem w_c9 : (Jvm.Cond.code ({ cls := "java/lang/Integer", name := "valueOf", desc := "(I)Ljava/lang/Integer;" } : Jvm.MethodName) jdk_33_method_22_code (1 : Nat) (Option.some (Jvm.ClassFile.FieldType.object "java/lang/Integer"))).before args0 about1 = true := code_word (m := ⟨17, 0⟩) (meth := k17m0) (c := k17c0) (by decide +kernel) rfl rfl rfl (by decide +kernel)
set_option maxRecDepth 65536 in
theorem w_c10 : (Jvm.Cond.code ({ cls := "java/util/ArrayList", name := "add", desc := "(Ljava/lang/Object;)Z" } : Jvm.MethodName) jdk_38_method_25_code (2 : Nat) (Option.some Jvm.ClassFile.FieldType.boolean)).before args0 about1 = true := code_word (m := ⟨12, 4⟩) (meth := k12m4) (c := k12c4) (by decide +kernel) rfl rfl rfl (by decide +kernel)
set_option maxRecDepth 65536 in
theorem w_c11 : (Jvm.Cond.code ({ cls := "java/util/ArrayList", name := "add", desc := "(Ljava/lang/Object;[Ljava/lang/Object;I)V" } : Jvm.MethodName) jdk_38_method_24_code (4 : Nat) (Option.none : Option Jvm.ClassFile.FieldType)).before args0 about1 = true := code_word (m := ⟨12, 3⟩) (meth := k12m3) (c := k12c3) (by decide +kernel) rfl rfl rfl (by decide +kernel)
set_option maxRecDepth 65536 in
theorem w_c12 : (Jvm.Cond.code ({ cls := "java/util/ArrayList", name := "grow", desc := "()[Ljava/lang/Object;" } : Jvm.MethodName) jdk_38_method_7_code (1 : Nat) (Option.some (Jvm.ClassFile.FieldType.array (Jvm.ClassFile.FieldType.object "java/lang/Object")))).before args0 about1 = true := code_word (m := ⟨12, 2⟩) (meth := k12m2) (c := k12c2) (by decide +kernel) rfl rfl rfl (by decide +kernel)
set_option maxRecDepth 65536 in
theorem w_c13 : (Jvm.Cond.code ({ cls := "java/util/ArrayList", name := "grow", desc := "(I)[Ljava/lang/Object;" } : Jvm.MethodName) jdk_38_method_6_code (4 : Nat) (Option.some (Jvm.ClassFile.FieldType.array (Jvm.ClassFile.FieldType.object "java/lang/Object")))).before args0 about1 = true := code_word (m := ⟨12, 1⟩) (meth := k12m1) (c := k12c1) (by decide +kernel) rfl rfl rfl (by decide +kernel)
set_option maxRecDepth 65536 in
theorem w_c14 : (Jvm.Cond.code ({ cls := "java/lang/Math", name := "max", desc := "(II)I" } : Jvm.MethodName) jdk_29_method_65_code (2 : Nat) (Option.some Jvm.ClassFile.FieldType.int)).before args0 about1 = true := code_word (m := ⟨19, 1⟩) (meth := k19m1) (c := k19c1) (by decide +kernel) rfl rfl rfl (by decide +kernel)
set_option maxRecDepth 65536 in
theorem w_c15 : (Jvm.Cond.code ({ cls := "com/example/even_commute/evencommute/demand/Workers", name := "<init>", desc := "(Lcom/example/even_commute/evencommute/demand/ZoneCounts;Lcom/example/even_commute/evencommute/demand/ZoneCounts;[I)V" } : Jvm.MethodName) prog_29_method_1_code (4 : Nat) (Option.none : Option Jvm.ClassFile.FieldType)).before args0 about1 = true := code_word (m := ⟨20, 0⟩) (meth := k20m0) (c := k20c0) (by decide +kernel) rfl rfl rfl (by decide +kernel)
set_option maxRecDepth 65536 in
theorem w_c16 : (Jvm.Cond.code ({ cls := "com/example/even_commute/evencommute/demand/Workers", name := "homeZones", desc := "(Lcom/example/even_commute/evencommute/demand/ZoneCounts;)[I" } : Jvm.MethodName) prog_29_method_14_code (6 : Nat) (Option.some (Jvm.ClassFile.FieldType.array Jvm.ClassFile.FieldType.int))).before args0 about1 = true := code_word (m := ⟨20, 4⟩) (meth := k20m4) (c := k20c4) (by decide +kernel) rfl rfl rfl (by decide +kernel)
set_option maxRecDepth 65536 in
theorem w_c17 : (Jvm.Cond.code ({ cls := "com/example/even_commute/evencommute/demand/ZoneCounts", name := "getTotal", desc := "()I" } : Jvm.MethodName) prog_34_method_6_code (1 : Nat) (Option.some Jvm.ClassFile.FieldType.int)).before args0 about1 = true := code_word (m := ⟨2, 5⟩) (meth := k2m5) (c := k2c5) (by decide +kernel) rfl rfl rfl (by decide +kernel)
set_option maxRecDepth 65536 in
theorem w_c18 : (Jvm.Cond.code ({ cls := "com/example/even_commute/evencommute/demand/ZoneCounts", name := "getZones", desc := "()Ljava/util/List;" } : Jvm.MethodName) prog_34_method_4_code (1 : Nat) (Option.some (Jvm.ClassFile.FieldType.object "java/util/List"))).before args0 about1 = true := code_word (m := ⟨2, 3⟩) (meth := k2m3) (c := k2c3) (by decide +kernel) rfl rfl rfl (by decide +kernel)
set_option maxRecDepth 65536 in
theorem w_c19 : (Jvm.Cond.code ({ cls := "java/util/Collections", name := "unmodifiableList", desc := "(Ljava/util/List;)Ljava/util/List;" } : Jvm.MethodName) jdk_79_method_35_code (1 : Nat) (Option.some (Jvm.ClassFile.FieldType.object "java/util/List"))).before args0 about1 = true := code_word (m := ⟨21, 1⟩) (meth := k21m1) (c := k21c1) (by decide +kernel) rfl rfl rfl (by decide +kernel)
set_option maxRecDepth 65536 in
theorem w_c20 : (Jvm.Cond.code ({ cls := "java/util/Collections$UnmodifiableRandomAccessList", name := "<init>", desc := "(Ljava/util/List;)V" } : Jvm.MethodName) jdk_121_method_1_code (2 : Nat) (Option.none : Option Jvm.ClassFile.FieldType)).before args0 about1 = true := code_word (m := ⟨24, 0⟩) (meth := k24m0) (c := k24c0) (by decide +kernel) rfl rfl rfl (by decide +kernel)
set_option maxRecDepth 65536 in
theorem w_c21 : (Jvm.Cond.code ({ cls := "java/util/Collections$UnmodifiableList", name := "<init>", desc := "(Ljava/util/List;)V" } : Jvm.MethodName) jdk_120_method_1_code (2 : Nat) (Option.none : Option Jvm.ClassFile.FieldType)).before args0 about1 = true := code_word (m := ⟨23, 0⟩) (meth := k23m0) (c := k23c0) (by decide +kernel) rfl rfl rfl (by decide +kernel)
set_option maxRecDepth 65536 in
theorem w_c22 : (Jvm.Cond.code ({ cls := "java/util/Collections$UnmodifiableCollection", name := "<init>", desc := "(Ljava/util/Collection;)V" } : Jvm.MethodName) jdk_119_method_1_code (2 : Nat) (Option.none : Option Jvm.ClassFile.FieldType)).before args0 about1 = true := code_word (m := ⟨22, 0⟩) (meth := k22m0) (c := k22c0) (by decide +kernel) rfl rfl rfl (by decide +kernel)
set_option maxRecDepth 65536 in
theorem w_c23 : (Jvm.Cond.code ({ cls := "java/util/Collections$UnmodifiableCollection", name := "iterator", desc := "()Ljava/util/Iterator;" } : Jvm.MethodName) jdk_119_method_9_code (1 : Nat) (Option.some (Jvm.ClassFile.FieldType.object "java/util/Iterator"))).before args0 about1 = true := code_word (m := ⟨22, 1⟩) (meth := k22m1) (c := k22c1) (by decide +kernel) rfl rfl rfl (by decide +kernel)
set_option maxRecDepth 65536 in
theorem w_c24 : (Jvm.Cond.code ({ cls := "java/util/Collections$UnmodifiableCollection$1", name := "<init>", desc := "(Ljava/util/Collections$UnmodifiableCollection;)V" } : Jvm.MethodName) jdk_135_method_1_code (2 : Nat) (Option.none : Option Jvm.ClassFile.FieldType)).before args0 about1 = true := code_word (m := ⟨26, 0⟩) (meth := k26m0) (c := k26c0) (by decide +kernel) rfl rfl rfl (by decide +kernel)
set_option maxRecDepth 65536 in
theorem w_c25 : (Jvm.Cond.code ({ cls := "java/util/ArrayList", name := "iterator", desc := "()Ljava/util/Iterator;" } : Jvm.MethodName) jdk_38_method_55_code (1 : Nat) (Option.some (Jvm.ClassFile.FieldType.object "java/util/Iterator"))).before args0 about1 = true := code_word (m := ⟨12, 5⟩) (meth := k12m5) (c := k12c5) (by decide +kernel) rfl rfl rfl (by decide +kernel)
set_option maxRecDepth 65536 in
theorem w_c26 : (Jvm.Cond.code ({ cls := "java/util/ArrayList$Itr", name := "<init>", desc := "(Ljava/util/ArrayList;)V" } : Jvm.MethodName) jdk_49_method_1_code (2 : Nat) (Option.none : Option Jvm.ClassFile.FieldType)).before args0 about1 = true := code_word (m := ⟨27, 0⟩) (meth := k27m0) (c := k27c0) (by decide +kernel) rfl rfl rfl (by decide +kernel)
set_option maxRecDepth 65536 in
theorem w_c27 : (Jvm.Cond.code ({ cls := "java/util/Collections$UnmodifiableCollection$1", name := "hasNext", desc := "()Z" } : Jvm.MethodName) jdk_135_method_2_code (1 : Nat) (Option.some Jvm.ClassFile.FieldType.boolean)).before args0 about1 = true := code_word (m := ⟨26, 1⟩) (meth := k26m1) (c := k26c1) (by decide +kernel) rfl rfl rfl (by decide +kernel)
set_option maxRecDepth 65536 in
theorem w_c28 : (Jvm.Cond.code ({ cls := "java/util/ArrayList$Itr", name := "hasNext", desc := "()Z" } : Jvm.MethodName) jdk_49_method_2_code (1 : Nat) (Option.some Jvm.ClassFile.FieldType.boolean)).before args0 about1 = true := code_word (m := ⟨27, 1⟩) (meth := k27m1) (c := k27c1) (by decide +kernel) rfl rfl rfl (by decide +kernel)
set_option maxRecDepth 65536 in
theorem w_c29 : (Jvm.Cond.code ({ cls := "java/util/Collections$UnmodifiableCollection$1", name := "next", desc := "()Ljava/lang/Object;" } : Jvm.MethodName) jdk_135_method_3_code (1 : Nat) (Option.some (Jvm.ClassFile.FieldType.object "java/lang/Object"))).before args0 about1 = true := code_word (m := ⟨26, 2⟩) (meth := k26m2) (c := k26c2) (by decide +kernel) rfl rfl rfl (by decide +kernel)
set_option maxRecDepth 65536 in
theorem w_c30 : (Jvm.Cond.code ({ cls := "java/util/ArrayList$Itr", name := "next", desc := "()Ljava/lang/Object;" } : Jvm.MethodName) jdk_49_method_3_code (3 : Nat) (Option.some (Jvm.ClassFile.FieldType.object "java/lang/Object"))).before args0 about1 = true := code_word (m := ⟨27, 2⟩) (meth := k27m2) (c := k27c2) (by decide +kernel) rfl rfl rfl (by decide +kernel)
set_option maxRecDepth 65536 in
theorem w_c31 : (Jvm.Cond.code ({ cls := "java/util/ArrayList$Itr", name := "checkForComodification", desc := "()V" } : Jvm.MethodName) jdk_49_method_6_code (1 : Nat) (Option.none : Option Jvm.ClassFile.FieldType)).before args0 about1 = true := code_word (m := ⟨27, 3⟩) (meth := k27m3) (c := k27c3) (by decide +kernel) rfl rfl rfl (by decide +kernel)
set_option maxRecDepth 65536 in
theorem w_c32 : (Jvm.Cond.code ({ cls := "java/lang/Integer", name := "intValue", desc := "()I" } : Jvm.MethodName) jdk_33_method_27_code (1 : Nat) (Option.some Jvm.ClassFile.FieldType.int)).before args0 about1 = true := code_word (m := ⟨17, 1⟩) (meth := k17m1) (c := k17c1) (by decide +kernel) rfl rfl rfl (by decide +kernel)
set_option maxRecDepth 65536 in
theorem w_c33 : (Jvm.Cond.code ({ cls := "com/example/even_commute/evencommute/demand/ZoneCounts", name := "get", desc := "(I)I" } : Jvm.MethodName) prog_34_method_5_code (2 : Nat) (Option.some Jvm.ClassFile.FieldType.int)).before args0 about1 = true := code_word (m := ⟨2, 4⟩) (meth := k2m4) (c := k2c4) (by decide +kernel) rfl rfl rfl (by decide +kernel)
set_option maxRecDepth 65536 in
theorem w_c34 : (Jvm.Cond.code ({ cls := "java/util/Arrays", name := "fill", desc := "([IIII)V" } : Jvm.MethodName) jdk_65_method_104_code (5 : Nat) (Option.none : Option Jvm.ClassFile.FieldType)).before args0 about1 = true := code_word (m := ⟨28, 2⟩) (meth := k28m2) (c := k28c2) (by decide +kernel) rfl rfl rfl (by decide +kernel)
set_option maxRecDepth 65536 in
theorem w_c35 : (Jvm.Cond.code ({ cls := "java/util/Arrays", name := "rangeCheck", desc := "(III)V" } : Jvm.MethodName) jdk_65_method_30_code (3 : Nat) (Option.none : Option Jvm.ClassFile.FieldType)).before args0 about1 = true := code_word (m := ⟨28, 1⟩) (meth := k28m1) (c := k28c1) (by decide +kernel) rfl rfl rfl (by decide +kernel)
set_option maxRecDepth 65536 in
theorem w_c36 : (Jvm.Cond.code ({ cls := "com/example/even_commute/evencommute/demand/Workers", name := "<init>", desc := "(Lcom/example/even_commute/evencommute/demand/ZoneCounts;[I[I[I)V" } : Jvm.MethodName) prog_29_method_2_code (5 : Nat) (Option.none : Option Jvm.ClassFile.FieldType)).before args0 about1 = true := code_word (m := ⟨20, 1⟩) (meth := k20m1) (c := k20c1) (by decide +kernel) rfl rfl rfl (by decide +kernel)
set_option maxRecDepth 65536 in
theorem w_c37 : (Jvm.Cond.code ({ cls := "com/example/even_commute/evencommute/demand/Workers", name := "withWorkplaces", desc := "([I)Lcom/example/even_commute/evencommute/demand/Workers;" } : Jvm.MethodName) prog_29_method_3_code (2 : Nat) (Option.some (Jvm.ClassFile.FieldType.object "com/example/even_commute/evencommute/demand/Workers"))).before args0 about1 = true := code_word (m := ⟨20, 2⟩) (meth := k20m2) (c := k20c2) (by decide +kernel) rfl rfl rfl (by decide +kernel)
set_option maxRecDepth 65536 in
theorem w_c38 : (Jvm.Cond.code ({ cls := "com/example/even_commute/evencommute/demand/Workers", name := "getAssignedCount", desc := "()I" } : Jvm.MethodName) prog_29_method_10_code (6 : Nat) (Option.some Jvm.ClassFile.FieldType.int)).before args0 about1 = true := code_word (m := ⟨20, 3⟩) (meth := k20m3) (c := k20c3) (by decide +kernel) rfl rfl rfl (by decide +kernel)
def codes1 : List Jvm.Cond := [Jvm.Cond.code x code maxLocals ret, Jvm.Cond.code ({ cls := "com/example/even_commute/evencommute/demand/ZoneCounts", name := "<init>", desc := "(I)V" } : Jvm.MethodName) prog_34_method_1_code (2 : Nat) (Option.none : Option Jvm.ClassFile.FieldType), Jvm.Cond.code ({ cls := "java/lang/Object", name := "<init>", desc := "()V" } : Jvm.MethodName) object_method_1_code (1 : Nat) (Option.none : Option Jvm.ClassFile.FieldType), Jvm.Cond.code ({ cls := "java/util/ArrayList", name := "<init>", desc := "()V" } : Jvm.MethodName) jdk_38_method_2_code (1 : Nat) (Option.none : Option Jvm.ClassFile.FieldType), Jvm.Cond.code ({ cls := "java/util/AbstractList", name := "<init>", desc := "()V" } : Jvm.MethodName) jdk_39_method_1_code (1 : Nat) (Option.none : Option Jvm.ClassFile.FieldType), Jvm.Cond.code ({ cls := "java/util/AbstractCollection", name := "<init>", desc := "()V" } : Jvm.MethodName) jdk_22_method_1_code (1 : Nat) (Option.none : Option Jvm.ClassFile.FieldType), Jvm.Cond.code ({ cls := "com/example/even_commute/evencommute/demand/ZoneCounts", name := "add", desc := "(II)V" } : Jvm.MethodName) prog_34_method_2_code (3 : Nat) (Option.none : Option Jvm.ClassFile.FieldType), Jvm.Cond.code ({ cls := "com/example/even_commute/evencommute/demand/ZoneCounts", name := "checkZone", desc := "(I)V" } : Jvm.MethodName) prog_34_method_7_code (2 : Nat) (Option.none : Option Jvm.ClassFile.FieldType), Jvm.Cond.code ({ cls := "com/example/even_commute/evencommute/demand/ZoneCounts", name := "getZoneCount", desc := "()I" } : Jvm.MethodName) prog_34_method_3_code (1 : Nat) (Option.some Jvm.ClassFile.FieldType.int), Jvm.Cond.code ({ cls := "java/lang/Integer", name := "valueOf", desc := "(I)Ljava/lang/Integer;" } : Jvm.MethodName) jdk_33_method_22_code (1 : Nat) (Option.some (Jvm.ClassFile.FieldType.object "java/lang/Integer")), Jvm.Cond.code ({ cls := "java/util/ArrayList", name := "add", desc := "(Ljava/lang/Object;)Z" } : Jvm.MethodName) jdk_38_method_25_code (2 : Nat) (Option.some Jvm.ClassFile.FieldType.boolean), Jvm.Cond.code ({ cls := "java/util/ArrayList", name := "add", desc := "(Ljava/lang/Object;[Ljava/lang/Object;I)V" } : Jvm.MethodName) jdk_38_method_24_code (4 : Nat) (Option.none : Option Jvm.ClassFile.FieldType), Jvm.Cond.code ({ cls := "java/util/ArrayList", name := "grow", desc := "()[Ljava/lang/Object;" } : Jvm.MethodName) jdk_38_method_7_code (1 : Nat) (Option.some (Jvm.ClassFile.FieldType.array (Jvm.ClassFile.FieldType.object "java/lang/Object"))), Jvm.Cond.code ({ cls := "java/util/ArrayList", name := "grow", desc := "(I)[Ljava/lang/Object;" } : Jvm.MethodName) jdk_38_method_6_code (4 : Nat) (Option.some (Jvm.ClassFile.FieldType.array (Jvm.ClassFile.FieldType.object "java/lang/Object"))), Jvm.Cond.code ({ cls := "java/lang/Math", name := "max", desc := "(II)I" } : Jvm.MethodName) jdk_29_method_65_code (2 : Nat) (Option.some Jvm.ClassFile.FieldType.int), Jvm.Cond.code ({ cls := "com/example/even_commute/evencommute/demand/Workers", name := "<init>", desc := "(Lcom/example/even_commute/evencommute/demand/ZoneCounts;Lcom/example/even_commute/evencommute/demand/ZoneCounts;[I)V" } : Jvm.MethodName) prog_29_method_1_code (4 : Nat) (Option.none : Option Jvm.ClassFile.FieldType), Jvm.Cond.code ({ cls := "com/example/even_commute/evencommute/demand/Workers", name := "homeZones", desc := "(Lcom/example/even_commute/evencommute/demand/ZoneCounts;)[I" } : Jvm.MethodName) prog_29_method_14_code (6 : Nat) (Option.some (Jvm.ClassFile.FieldType.array Jvm.ClassFile.FieldType.int)), Jvm.Cond.code ({ cls := "com/example/even_commute/evencommute/demand/ZoneCounts", name := "getTotal", desc := "()I" } : Jvm.MethodName) prog_34_method_6_code (1 : Nat) (Option.some Jvm.ClassFile.FieldType.int), Jvm.Cond.code ({ cls := "com/example/even_commute/evencommute/demand/ZoneCounts", name := "getZones", desc := "()Ljava/util/List;" } : Jvm.MethodName) prog_34_method_4_code (1 : Nat) (Option.some (Jvm.ClassFile.FieldType.object "java/util/List")), Jvm.Cond.code ({ cls := "java/util/Collections", name := "unmodifiableList", desc := "(Ljava/util/List;)Ljava/util/List;" } : Jvm.MethodName) jdk_79_method_35_code (1 : Nat) (Option.some (Jvm.ClassFile.FieldType.object "java/util/List")), Jvm.Cond.code ({ cls := "java/util/Collections$UnmodifiableRandomAccessList", name := "<init>", desc := "(Ljava/util/List;)V" } : Jvm.MethodName) jdk_121_method_1_code (2 : Nat) (Option.none : Option Jvm.ClassFile.FieldType), Jvm.Cond.code ({ cls := "java/util/Collections$UnmodifiableList", name := "<init>", desc := "(Ljava/util/List;)V" } : Jvm.MethodName) jdk_120_method_1_code (2 : Nat) (Option.none : Option Jvm.ClassFile.FieldType), Jvm.Cond.code ({ cls := "java/util/Collections$UnmodifiableCollection", name := "<init>", desc := "(Ljava/util/Collection;)V" } : Jvm.MethodName) jdk_119_method_1_code (2 : Nat) (Option.none : Option Jvm.ClassFile.FieldType), Jvm.Cond.code ({ cls := "java/util/Collections$UnmodifiableCollection", name := "iterator", desc := "()Ljava/util/Iterator;" } : Jvm.MethodName) jdk_119_method_9_code (1 : Nat) (Option.some (Jvm.ClassFile.FieldType.object "java/util/Iterator")), Jvm.Cond.code ({ cls := "java/util/Collections$UnmodifiableCollection$1", name := "<init>", desc := "(Ljava/util/Collections$UnmodifiableCollection;)V" } : Jvm.MethodName) jdk_135_method_1_code (2 : Nat) (Option.none : Option Jvm.ClassFile.FieldType), Jvm.Cond.code ({ cls := "java/util/ArrayList", name := "iterator", desc := "()Ljava/util/Iterator;" } : Jvm.MethodName) jdk_38_method_55_code (1 : Nat) (Option.some (Jvm.ClassFile.FieldType.object "java/util/Iterator")), Jvm.Cond.code ({ cls := "java/util/ArrayList$Itr", name := "<init>", desc := "(Ljava/util/ArrayList;)V" } : Jvm.MethodName) jdk_49_method_1_code (2 : Nat) (Option.none : Option Jvm.ClassFile.FieldType), Jvm.Cond.code ({ cls := "java/util/Collections$UnmodifiableCollection$1", name := "hasNext", desc := "()Z" } : Jvm.MethodName) jdk_135_method_2_code (1 : Nat) (Option.some Jvm.ClassFile.FieldType.boolean), Jvm.Cond.code ({ cls := "java/util/ArrayList$Itr", name := "hasNext", desc := "()Z" } : Jvm.MethodName) jdk_49_method_2_code (1 : Nat) (Option.some Jvm.ClassFile.FieldType.boolean), Jvm.Cond.code ({ cls := "java/util/Collections$UnmodifiableCollection$1", name := "next", desc := "()Ljava/lang/Object;" } : Jvm.MethodName) jdk_135_method_3_code (1 : Nat) (Option.some (Jvm.ClassFile.FieldType.object "java/lang/Object")), Jvm.Cond.code ({ cls := "java/util/ArrayList$Itr", name := "next", desc := "()Ljava/lang/Object;" } : Jvm.MethodName) jdk_49_method_3_code (3 : Nat) (Option.some (Jvm.ClassFile.FieldType.object "java/lang/Object")), Jvm.Cond.code ({ cls := "java/util/ArrayList$Itr", name := "checkForComodification", desc := "()V" } : Jvm.MethodName) jdk_49_method_6_code (1 : Nat) (Option.none : Option Jvm.ClassFile.FieldType), Jvm.Cond.code ({ cls := "java/lang/Integer", name := "intValue", desc := "()I" } : Jvm.MethodName) jdk_33_method_27_code (1 : Nat) (Option.some Jvm.ClassFile.FieldType.int), Jvm.Cond.code ({ cls := "com/example/even_commute/evencommute/demand/ZoneCounts", name := "get", desc := "(I)I" } : Jvm.MethodName) prog_34_method_5_code (2 : Nat) (Option.some Jvm.ClassFile.FieldType.int), Jvm.Cond.code ({ cls := "java/util/Arrays", name := "fill", desc := "([IIII)V" } : Jvm.MethodName) jdk_65_method_104_code (5 : Nat) (Option.none : Option Jvm.ClassFile.FieldType), Jvm.Cond.code ({ cls := "java/util/Arrays", name := "rangeCheck", desc := "(III)V" } : Jvm.MethodName) jdk_65_method_30_code (3 : Nat) (Option.none : Option Jvm.ClassFile.FieldType), Jvm.Cond.code ({ cls := "com/example/even_commute/evencommute/demand/Workers", name := "<init>", desc := "(Lcom/example/even_commute/evencommute/demand/ZoneCounts;[I[I[I)V" } : Jvm.MethodName) prog_29_method_2_code (5 : Nat) (Option.none : Option Jvm.ClassFile.FieldType), Jvm.Cond.code ({ cls := "com/example/even_commute/evencommute/demand/Workers", name := "withWorkplaces", desc := "([I)Lcom/example/even_commute/evencommute/demand/Workers;" } : Jvm.MethodName) prog_29_method_3_code (2 : Nat) (Option.some (Jvm.ClassFile.FieldType.object "com/example/even_commute/evencommute/demand/Workers")), Jvm.Cond.code ({ cls := "com/example/even_commute/evencommute/demand/Workers", name := "getAssignedCount", desc := "()I" } : Jvm.MethodName) prog_29_method_10_code (6 : Nat) (Option.some Jvm.ClassFile.FieldType.int)]
set_option maxRecDepth 65536 in
theorem codes_eq : words1.filter isCode = codes1 := rfl
theorem w_codes : ∀ c ∈ words1.filter isCode, c.before args0 about1 = true := by
  rw [codes_eq]
  intro c hc
  simp only [codes1, List.mem_cons, List.not_mem_nil, or_false] at hc
  rcases hc with rfl | rfl | rfl | rfl | rfl | rfl | rfl | rfl | rfl | rfl | rfl | rfl | rfl | rfl | rfl | rfl | rfl | rfl | rfl | rfl | rfl | rfl | rfl | rfl | rfl | rfl | rfl | rfl | rfl | rfl | rfl | rfl | rfl | rfl | rfl | rfl | rfl | rfl | rfl
  · exact w_c0
  · exact w_c1
  · exact w_c2
  · exact w_c3
  · exact w_c4
  · exact w_c5
  · exact w_c6
  · exact w_c7
  · exact w_c8
  · exact w_c9
  · exact w_c10
  · exact w_c11
  · exact w_c12
  · exact w_c13
  · exact w_c14
  · exact w_c15
  · exact w_c16
  · exact w_c17
  · exact w_c18
  · exact w_c19
  · exact w_c20
  · exact w_c21
  · exact w_c22
  · exact w_c23
  · exact w_c24
  · exact w_c25
  · exact w_c26
  · exact w_c27
  · exact w_c28
  · exact w_c29
  · exact w_c30
  · exact w_c31
  · exact w_c32
  · exact w_c33
  · exact w_c34
  · exact w_c35
  · exact w_c36
  · exact w_c37
  · exact w_c38
set_option maxRecDepth 65536 in
theorem w_t1 : (words1.take 24).all (fun c => isCode c || c.before args0 about1) = true := by decide +kernel
set_option maxRecDepth 65536 in
theorem w_t2 : ((words1.drop 24).take 24).all (fun c => isCode c || c.before args0 about1) = true := by decide +kernel
set_option maxRecDepth 65536 in
theorem w_t3 : (((words1.drop 24).drop 24).take 24).all (fun c => isCode c || c.before args0 about1) = true := by decide +kernel
set_option maxRecDepth 65536 in
theorem w_t4 : ((((words1.drop 24).drop 24).drop 24).take 24).all (fun c => isCode c || c.before args0 about1) = true := by decide +kernel
set_option maxRecDepth 65536 in
theorem w_t5 : (((((words1.drop 24).drop 24).drop 24).drop 24).take 24).all (fun c => isCode c || c.before args0 about1) = true := by decide +kernel
set_option maxRecDepth 65536 in
theorem w_t6 : ((((((words1.drop 24).drop 24).drop 24).drop 24).drop 24).take 24).all (fun c => isCode c || c.before args0 about1) = true := by decide +kernel
set_option maxRecDepth 65536 in
theorem w_t7 : (((((((words1.drop 24).drop 24).drop 24).drop 24).drop 24).drop 24).take 24).all (fun c => isCode c || c.before args0 about1) = true := by decide +kernel
set_option maxRecDepth 65536 in
theorem w_t8 : ((((((((words1.drop 24).drop 24).drop 24).drop 24).drop 24).drop 24).drop 24).take 24).all (fun c => isCode c || c.before args0 about1) = true := by decide +kernel
set_option maxRecDepth 65536 in
theorem w_t9 : (((((((((words1.drop 24).drop 24).drop 24).drop 24).drop 24).drop 24).drop 24).drop 24).take 24).all (fun c => isCode c || c.before args0 about1) = true := by decide +kernel
set_option maxRecDepth 65536 in
theorem w_t10 : ((((((((((words1.drop 24).drop 24).drop 24).drop 24).drop 24).drop 24).drop 24).drop 24).drop 24).take 24).all (fun c => isCode c || c.before args0 about1) = true := by decide +kernel
set_option maxRecDepth 65536 in
theorem w_t11 : (((((((((((words1.drop 24).drop 24).drop 24).drop 24).drop 24).drop 24).drop 24).drop 24).drop 24).drop 24).take 24).all (fun c => isCode c || c.before args0 about1) = true := by decide +kernel
set_option maxRecDepth 65536 in
theorem w_t12 : ((((((((((((words1.drop 24).drop 24).drop 24).drop 24).drop 24).drop 24).drop 24).drop 24).drop 24).drop 24).drop 24).take 24).all (fun c => isCode c || c.before args0 about1) = true := by decide +kernel
set_option maxRecDepth 65536 in
theorem w_t13 : ((((((((((((words1.drop 24).drop 24).drop 24).drop 24).drop 24).drop 24).drop 24).drop 24).drop 24).drop 24).drop 24).drop 24).all (fun c => isCode c || c.before args0 about1) = true := by decide +kernel
theorem w_tables : (allAtoms (Jvm.Cond.code x code maxLocals ret :: tables_1)).before args0 about1 = true := by
  rw [allAtoms_all]
  show words1.all (fun c => c.before args0 about1) = true
  refine all_split ?_ w_codes
  rw [← List.take_append_drop 24 words1, List.all_append, w_t1, ← List.take_append_drop 24 (words1.drop 24), List.all_append, w_t2, ← List.take_append_drop 24 ((words1.drop 24).drop 24), List.all_append, w_t3, ← List.take_append_drop 24 (((words1.drop 24).drop 24).drop 24), List.all_append, w_t4, ← List.take_append_drop 24 ((((words1.drop 24).drop 24).drop 24).drop 24), List.all_append, w_t5, ← List.take_append_drop 24 (((((words1.drop 24).drop 24).drop 24).drop 24).drop 24), List.all_append, w_t6, ← List.take_append_drop 24 ((((((words1.drop 24).drop 24).drop 24).drop 24).drop 24).drop 24), List.all_append, w_t7, ← List.take_append_drop 24 (((((((words1.drop 24).drop 24).drop 24).drop 24).drop 24).drop 24).drop 24), List.all_append, w_t8, ← List.take_append_drop 24 ((((((((words1.drop 24).drop 24).drop 24).drop 24).drop 24).drop 24).drop 24).drop 24), List.all_append, w_t9, ← List.take_append_drop 24 (((((((((words1.drop 24).drop 24).drop 24).drop 24).drop 24).drop 24).drop 24).drop 24).drop 24), List.all_append, w_t10, ← List.take_append_drop 24 ((((((((((words1.drop 24).drop 24).drop 24).drop 24).drop 24).drop 24).drop 24).drop 24).drop 24).drop 24), List.all_append, w_t11, ← List.take_append_drop 24 (((((((((((words1.drop 24).drop 24).drop 24).drop 24).drop 24).drop 24).drop 24).drop 24).drop 24).drop 24).drop 24), List.all_append, w_t12, w_t13]
  rfl
set_option maxRecDepth 65536 in
theorem w_rest : rest_1_c.before args0 about1 = true := by decide +kernel
set_option maxRecDepth 65536 in
theorem w_case : (Jvm.Cond.and given_1 narrow_1).before args0 about1 = true := by decide +kernel
theorem w_applies : (headSpec (Jvm.Cond.code x code maxLocals ret :: tables_1) room_1).applies x e0.platform about1 = true :=
  (Spec.applies_iff w_frames).mpr ⟨w_running, w_runnable, w_alone, w_named, w_hears, w_ripe, w_room, w_tables⟩
set_option maxRecDepth 100000 in
theorem atStart : AtStart classFile x code maxLocals ret World_1 tables_1 room_1 Calls_1 rest_1 Pre_1 launch0 p0 e0 about1 theMethod args0 below0 :=
  ⟨lists_1, trivial, launch0.admits_env _ _ _, launch0.least_env, fairChoices_fair.cas, fairChoices_fair.clock, w_frames, w_args, w_heap, w_applies, ⟨⟨12, k12, 2, by decide +kernel, rfl, rfl, _, rfl, rfl⟩, ⟨⟨23, k23, 3, by decide +kernel, rfl, rfl, _, rfl, rfl⟩, ⟨⟨24, k24, 4, by decide +kernel, rfl, rfl, _, rfl, rfl⟩, trivial⟩⟩⟩, w_rest, w_case⟩
end start1
theorem witness_1 : WitnessClaimed_1 := ⟨start1.p0, start1.e0, start1.about1, start1.theMethod, start1.args0, start1.below0, start1.atStart⟩
end Jvm.Pilot.@@N@@
