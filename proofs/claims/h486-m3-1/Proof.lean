import JvmDerived
import JvmDerived.Pilot.@@N@@Statement
import JvmDerived.Pilot.@@N@@Code
set_option linter.unusedVariables false
set_option linter.unusedSimpArgs false

namespace Jvm.Pilot.@@N@@
open Jvm Jvm.ClassFile Sem Op Lib Jvm.Free Jvm.Stand Jvm.LawKit Jvm.RoadKit Bundle Jvm.Pilot.@@N@@.Jvm.D
def OwnFin (p : Program) (e : Env) (below : List Frame) (Q : Outcome → State → Prop) (T : State) : Prop := ∃ s₂ o, Steps p.tables e below T s₂ ∧ s₂.status = .running ∧ Ended s₂ below o ∧ Q o s₂
theorem OwnFin.step {p : Program} {e : Env} {below : List Frame} {Q : Outcome → State → Prop} {A B : State} (h : ∀ t, Steps p.tables e below A t → Steps p.tables e below B t) (k : OwnFin p e below Q A) : OwnFin p e below Q B := by
  obtain ⟨s₂, o, h1, h2⟩ := k
  exact ⟨s₂, o, h _ h1, h2⟩
theorem own_safe_nil {Z : State} {vm : Vm} {h : Heap} {x : Addr} : Safe Z [] vm h x := fun ⟨_, hp, _⟩ => nomatch hp
theorem own_safe_str {Z : State} {EL : List (String × Nat)} {vm : Vm} {h : Heap} {x : Addr} (hal : Z.vm.Alike vm) (E : Exa Z h x "java/lang/String") (F : Fld Z h x "java/lang/String" "value" "[B" .null) : Safe Z EL vm h x := fun B => by
  obtain ⟨p, -, u, a, -, q, -, G, rfl | rfl⟩ := B
  · obtain ⟨cell, cf, k, i, f, h1, h2, h3, h4, h5, h6, h7⟩ := F
    cases (show h[q.sa]? = some q.sC from G.ha).symm.trans h1
    obtain ⟨cS, ⟨⟨-, -, -, ⟨c1, k1, i1, f1, -⟩, -, -, -, v1, -⟩, -⟩, -⟩ := G
    obtain ⟨k3, e3, -⟩ := State.fieldFound?_setVm (s := Z) hal h2
    have e4 := (show (Wst Z vm h).fieldFound? _ _ _ = _ from e3).symm.trans f1
    simp only [Option.some.injEq, Prod.mk.injEq] at e4
    rw [← e4.2.2.2, h7] at v1
    simp at v1
  · obtain ⟨cell, k, e1, e2, e3, -, -⟩ := E
    cases (show h[q.sd]? = some q.SA from G.hd).symm.trans e1
    obtain ⟨cS, -, -, f, -⟩ := G
    have f : vm.findClass "[B" = some q.SA.cls := f
    rw [hal.findClass] at f
    obtain ⟨k1, q1, q2⟩ := Vm.findClass_spec f
    obtain ⟨k2, q3, q4⟩ := Vm.findClass_spec e2
    cases q1.symm.trans q3
    exact absurd (q2.symm.trans q4) (by decide)
theorem own_fits {C : String} {v : Value} (h : v.isRef = true) : fits (.object C) v = true := by cases v <;> simp_all [Value.isRef, fits]
theorem own_cat {v : Value} (h : v.isRef = true) : v.category = 1 := by cases v <;> simp_all [Value.isRef, Value.category]
theorem own_nonsta {Z : State} {h : Heap} {a : Addr} {C : String} (E : Exa Z h a C) : ∃ cell : Cell, h[a]? = some cell ∧ cell.vm.isStatics = false := by
  obtain ⟨cell, k, h1, -, -, h2, -⟩ := E
  exact ⟨cell, h1, h2⟩
theorem own_sta_keep {Z : State} {h h' : Heap} {ws : List Addr} {C n d : String} {v : Value} (F : Sta Z h C n d v) (K : Keep h h' ws) (q : ∀ x ∈ ws, ∃ cell : Cell, h[x]? = some cell ∧ cell.vm.isStatics = false) : Sta Z h' C n d v := by
  obtain ⟨cf, i, k, f, st, cell, h1, h2, h3, h4, h5, h6, h7⟩ := F
  refine ⟨cf, i, k, f, st, cell, h1, h2, h3, h4, K.2.1 _ _ h5 fun z => ?_, h6, h7⟩
  obtain ⟨c2, e1, e2⟩ := q st z
  rw [h5] at e1
  cases e1
  rw [h6] at e2
  cases e2
theorem own_arr_keep {Z : State} {h h' : Heap} {ws : List Addr} {a : Addr} {c : Cell} {ty : FieldType} (A : Arr Z h a c ty) (K : Keep h h' ws) (q : a ∉ ws) : Arr Z h' a c ty := ⟨K.2.1 a c A.1 q, A.2⟩
section OwnLen
variable {p : Program} {l : Launch} {e : Env} {R : Room} {s : State} {m : MethodId} {args : Array Value} {below : List Frame} {meth : Method} {c : Code} {T : State} {locs : List Loc} {cells slots : Nat} {Z : State} {h : Heap}
theorem own_len (X : Stand p l e R s m args below meth c T locs cells slots) (hx : p.tables.exec = Jvm.exec) (hZ : Z.Warmed39 s.vm) (eT : T.heap = h) {a : Addr} {cl : Cell} {ty : FieldType} (A : Arr Z h a cl ty) {z : Int32} (Sz : cl.slots.size = z.toNatClampNeg) (Ng : ¬ z < 0) {g : JFrame} (hg : g.method = m) {rest : List Value} (hs : g.stack = .ref a :: rest) (hd : decode c.code g.pc = .ok (.arraylength, 1)) {t : State}
    (k : Steps p.tables e below (T.setTop { g with pc := g.pc + 1, stack := .int z :: rest }) t) : Steps p.tables e below (T.setTop g) t := by
  refine X.arraylength hx (by rw [eT]; exact A.1) (State.isArrayOf_alike hZ.alike A.2.1) hg hs hd _ ?_
  rw [len_of Sz Ng]
  exact k
end OwnLen

section OwnStart
variable {args : Array Value} {s : State} {t : Term} {x : Addr}
theorem own_eqI {a : Term} {k : Int32} (h : (Jvm.Cond.eq a (Term.int k)).value args s none s [] = some true) : a.eval args s none [] s = some (.int k) := by
  obtain ⟨v, y, e1, e2, k1, k2⟩ := cmp_v (Or.inl h)
  have e3 : (Term.int k).eval args s none [] s = some (.int k) := Term.int_eval k
  rw [e3] at e2
  cases e2
  obtain ⟨z, rfl⟩ := k2
  simp [Cond.value, e1, e3] at h
  subst h
  exact e1
theorem own_fldI {C n d : String} {k : Int32} (ht : t.eval args s none [] s = some (.ref x)) (h : (Jvm.Cond.eq (Term.field t C n d) (Term.int k)).value args s none s [] = some true) : Fld s s.heap x C n d (.int k) := Fld.start (by rw [← fld_at ht (args := args) (first := s) (o := none) (idx := [])]; exact own_eqI h)
theorem own_neI {a : Term} {z k : Int32} (e1 : a.eval args s none [] s = some (.int z)) (h : (Jvm.Cond.not (Jvm.Cond.eq a (Term.int k))).value args s none s [] = some true) : ¬ z = k := by
  have h2 := not_v h
  have e3 : (Term.int k).eval args s none [] s = some (.int k) := Term.int_eval k
  intro e
  subst e
  simp [Cond.value, e1, e3] at h2
theorem own_eqR {a b : Term} {y : Addr} (hb : b.eval args s none [] s = some (.ref y)) (h : (Jvm.Cond.eq a b).value args s none s [] = some true) : a.eval args s none [] s = some (.ref y) := by
  obtain ⟨v, z, e1, e2, k1, k2⟩ := cmp_v (Or.inl h)
  rw [hb] at e2
  cases e2
  have hv : v.isRef = true := k2.2
  rw [eq_R e1 hb hv rfl] at h
  have := of_decide_eq_true (Option.some.inj h)
  subst this
  exact e1
theorem own_arv {t : Term} {a : Addr} {cl : Cell} {ty : FieldType} {z : Int32} {vs : List Value} {dv : Value} (hf : Fit s) (A : Arr s s.heap a cl ty) (ev : t.eval args s none [] s = some (.ref a)) (hl : (Term.length t).eval args s none [] s = some (.int z)) (hz : ¬ z < 0) (hn : z.toNatClampNeg = vs.length) (H : HasL cl 0 vs) : Arv s s.heap a cl.cls ty z vs dv := by
  obtain ⟨b, cell, h1, h2, h3⟩ := Term.length_spec hl
  cases ev.symm.trans h1
  obtain ⟨hcell, -⟩ := State.arrayAt?_spec h2
  cases A.1.symm.trans hcell
  have hsz : cl.slots.size < 2 ^ 31 := by
    simp only [Term.eval, ev, h2, Option.bind_eq_bind, Option.bind_some] at hl
    by_cases hlt : cl.slots.size < 2147483648
    · exact hlt
    · simp [hlt] at hl
  exact Arv.start hf A hsz (Value.int.inj h3).symm hz hn H
theorem own_elem {t : Term} {a : Addr} {cl : Cell} {ty : FieldType} {j : Int32} {v : Value} (A : Arr s s.heap a cl ty) (ev : t.eval args s none [] s = some (.ref a)) (h : (Term.elem t (Term.int j)).eval args s none [] s = some v) : cl.slots[j.toNatClampNeg]? = some v := (elem_in h ev (Term.int_eval j) A.1).2
end OwnStart

theorem own_rem {x y : Int64} (hx : 0 ≤ x.toInt) (hy : 0 < y.toInt) : ¬ (lcmpW (x - (x / y) * y) (0 : Int64)) < (0 : Int32) ∧ (0 : Int32) < (lcmpW y (x - (x / y) * y)) := by
  have h := (c_lrem x y y.toInt rfl).1 hx
  have h1 := Int.emod_nonneg x.toInt (show y.toInt ≠ 0 by omega)
  have h2 := Int.emod_lt_of_pos x.toInt hy
  rw [lw_lt, lw_gt, Int64.lt_iff_toInt_lt, Int64.lt_iff_toInt_lt]
  have h0 : ((0 : Int64)).toInt = 0 := rfl
  omega
theorem own_mask (x : Int64) : 0 ≤ (x &&& (9223372036854775807 : Int64)).toInt := by
  rw [c_maskL x (9223372036854775807 : Int64) 63 (by decide) (by decide)]
  exact Int.emod_nonneg _ (by decide)
theorem own_pos {y : Int64} (h0 : 0 ≤ y.toInt) (h : ¬ (lcmpW y (0 : Int64)) = (0 : Int32)) : 0 < y.toInt := by
  rw [lw_eq, ← Int64.toInt_inj] at h
  have h1 : ((0 : Int64)).toInt = 0 := rfl
  omega
theorem own_ne0 {y : Int64} (h : 0 < y.toInt) : y ≠ 0 := fun e => by
  subst e
  exact absurd h (by decide)
theorem own_lt {y z : Int64} (h : (lcmpW y z) < (0 : Int32)) : ¬ (lcmpW y z) = (0 : Int32) := fun q => by
  rw [q] at h
  exact absurd h (by decide)
theorem own_ge {y : Int64} (h : ¬ (lcmpW y (9223372036854775807 : Int64)) < (0 : Int32)) : (lcmpW y (9223372036854775807 : Int64)) = (0 : Int32) := by
  rw [lw_lt, Int64.lt_iff_toInt_lt] at h
  rw [lw_eq, ← Int64.toInt_inj]
  have h1 : ((9223372036854775807 : Int64)).toInt = 9223372036854775807 := rfl
  have h2 := rng64 y
  omega
theorem own_b53 (x : Int32) : B53 x.toInt64 := by
  have := rng32 x
  have h := c_i2l x
  constructor <;> omega
theorem own_dge {x : Int32} (h : 0 ≤ x.toInt) : ¬ (cmpValue (FP.dcmp (FP.i2d x) (0 : UInt64)) .l) < (0 : Int32) := by
  rw [i2d_w, ← l2d_zero, dcmpV_w (own_b53 x) (by constructor <;> decide) .l, lw_lt, Int64.lt_iff_toInt_lt, c_i2l]
  have h1 : ((0 : Int64)).toInt = 0 := rfl
  omega
theorem pn_0 : plainName "java/lang/Record" = true := by first | (simp [plainName, overriddenIn]; done) | decide +kernel
theorem d_jdk_30_method_1_0 : decode jdk_30_method_1_code 0 = .ok (.aload_n 0, 1) := by decide +kernel
theorem d_jdk_30_method_1_1 : decode jdk_30_method_1_code 1 = .ok (.invokespecial 1, 3) := by decide +kernel
theorem d_jdk_30_method_1_4 : decode jdk_30_method_1_code 4 = .ok (.return_, 1) := by decide +kernel
theorem ef_1 (m : MethodId) (a : Addr) : entryFrame m #[(.ref a)] 1 = mkF m 0 #[.val (.ref a)] [] := by first | (simp [entryFrame, mkF, argsToLocals, Value.category]; done) | rfl
def Q1 (Z : State) (a : Addr) (h0 : Heap) (n0 : Nat) (vV : Option Value) (hH : Heap) (LL : List Loc) : Prop := vV = none ∧ Fr n0 LL ∧ hH = h0
def R1 (Z : State) (a : Addr) (h0 : Heap) (n0 : Nat) (U : State) (o : Outcome) (U' : State) : Prop := ∃ vV LL, o = .returned vV ∧ Q1 Z a h0 n0 vV U'.heap LL ∧ FrameEnd U o U' LL ({ frames := 1, cells := 0, slots := 0, locals := 12 } : Room).cells ({ frames := 1, cells := 0, slots := 0, locals := 12 } : Room).slots
set_option maxRecDepth 65536 in
set_option maxHeartbeats 40000000 in
theorem rm1 (l : Launch) (Z : State) (a0 : Array Value) (hw : ∀ d ∈ tables_1, d.before a0 Z = true) (ws : List Jvm.Cond) (a : Addr) (h0 : Heap) (n0 : Nat) (Z0 : n0 ≤ h0.size) :
    MetFree l (⟨"java/lang/Record", "<init>", "()V"⟩ : MethodName) (head1 (Jvm.Cond.code (⟨"java/lang/Record", "<init>", "()V"⟩ : MethodName) jdk_30_method_1_code 1 none :: ws) ({ frames := 1, cells := 0, slots := 0, locals := 12 } : Room)) (fun aA U => aA = #[(.ref a)] ∧ Z.Warmed39 U.vm ∧ U.heap = h0) (fun _ _ _ _ _ => True) (fun _ U o U' => ∃ vV LL, o = .returned vV ∧ Q1 Z a h0 n0 vV U'.heap LL ∧ FrameEnd U o U' LL ({ frames := 1, cells := 0, slots := 0, locals := 12 } : Room).cells ({ frames := 1, cells := 0, slots := 0, locals := 12 } : Room).slots) := by
  refine MetFree.of_bodySF (plainFor_of_name pn_0) hisR ?_
  intro p e s m args below meth cC s₁ Bd hml0 hP hK
  obtain ⟨rfl, hZ, hh⟩ := hP
  have hx := Bd.exec
  have hby := Bd.bytes
  have hml : cC.maxLocals = 1 := hml0
  have hown : s.vm.findClass "java/lang/Record" = some m.cls := findClass_of_methodNamed Bd.named
  have hnm := (name_of_methodNamed Bd.named Bd.method).1
  have X0 : Stand p l e ({ frames := 1, cells := 0, slots := 0, locals := 12 } : Room) s m #[(.ref a)] below meth cC s₁ [] 0 0 := Stand.of_body Bd
  have e0 : s₁.heap = h0 := by rw [← hh, Bd.state]; rfl
  have N0 := Fr.nil n0
  show OwnFin p e below (R1 Z a h0 n0 s) (s₁.setTop (entryFrame m #[(.ref a)] 1))
  rw [ef_1 m a]
  refine OwnFin.step (fun tT kK => XS.aloadN X0.here hx rfl (hb hby d_jdk_30_method_1_0) rfl rfl kK) ?_
  show OwnFin p e below _ (s₁.setTop (mkF m 1 #[.val (.ref a)] [(.ref a)]))
  obtain ⟨T1, X1, e1, st1⟩ := initO X0 hx hZ hown (hw _ (List.mem_of_getElem? (i := 13) rfl)) (hw _ (List.mem_of_getElem? (i := 14) rfl)) (hw _ (List.mem_of_getElem? (i := 15) rfl)) e0 (g := (mkF m 1 #[.val (.ref a)] [(.ref a)])) rfl (by rw [hml]; rfl) rfl (hb hby d_jdk_30_method_1_1) (by decide) (W := 0) (by show 2 * 0 + _ ≤ _; exact Nat.le_of_eq rfl) (by decide)
  refine OwnFin.step st1 ?_
  show OwnFin p e below _ (T1.setTop (mkF m 4 #[.val (.ref a)] []))
  obtain ⟨fs2, hr2, hrun2, hended2, hW2, hsame2⟩ := X1.leave (v := none) (fun _ => rfl)
  refine ⟨_, _, X1.returnOut hx Bd.returns (hb hby d_jdk_30_method_1_4) hr2, hrun2, hended2, _, _, rfl, ?_, ⟨_, rfl⟩, hW2, hsame2.mono (by decide) (by decide)⟩
  show Q1 Z a h0 n0 _ T1.heap _
  rw [e1]
  exact ⟨rfl, N0, rfl⟩
theorem pn_4 : plainName "com/example/bogong/bogong/events/RoadEvent" = true := by first | (simp [plainName, overriddenIn]; done) | decide +kernel
theorem d_prog_12_method_1_0 : decode prog_12_method_1_code 0 = .ok (.aload_n 0, 1) := by decide +kernel
theorem d_prog_12_method_1_1 : decode prog_12_method_1_code 1 = .ok (.invokespecial 3, 3) := by decide +kernel
theorem pd_7 : parseMethodDescriptor "()V" = some ⟨[], none⟩ := by decide +kernel
theorem d_prog_12_method_1_4 : decode prog_12_method_1_code 4 = .ok (.lload_n 2, 1) := by decide +kernel
theorem d_prog_12_method_1_5 : decode prog_12_method_1_code 5 = .ok (.lconst 0, 1) := by decide +kernel
theorem d_prog_12_method_1_6 : decode prog_12_method_1_code 6 = .ok (.lcmp, 1) := by decide +kernel
theorem d_prog_12_method_1_7 : decode prog_12_method_1_code 7 = .ok (.ifCond .lt 10, 3) := by decide +kernel
theorem d_prog_12_method_1_10 : decode prog_12_method_1_code 10 = .ok (.lload 4, 2) := by decide +kernel
theorem d_prog_12_method_1_12 : decode prog_12_method_1_code 12 = .ok (.lload_n 2, 1) := by decide +kernel
theorem d_prog_12_method_1_13 : decode prog_12_method_1_code 13 = .ok (.lcmp, 1) := by decide +kernel
theorem d_prog_12_method_1_14 : decode prog_12_method_1_code 14 = .ok (.ifCond .gt 19, 3) := by decide +kernel
theorem d_prog_12_method_1_33 : decode prog_12_method_1_code 33 = .ok (.dload 7, 2) := by decide +kernel
theorem d_prog_12_method_1_35 : decode prog_12_method_1_code 35 = .ok (.dconst 0, 1) := by decide +kernel
theorem d_prog_12_method_1_36 : decode prog_12_method_1_code 36 = .ok (.dcmp .l, 1) := by decide +kernel
theorem d_prog_12_method_1_37 : decode prog_12_method_1_code 37 = .ok (.ifCond .ge 18, 3) := by decide +kernel
theorem d_prog_12_method_1_55 : decode prog_12_method_1_code 55 = .ok (.aload_n 0, 1) := by decide +kernel
theorem d_prog_12_method_1_56 : decode prog_12_method_1_code 56 = .ok (.iload_n 1, 1) := by decide +kernel
theorem d_prog_12_method_1_57 : decode prog_12_method_1_code 57 = .ok (.putfield 21, 3) := by decide +kernel
theorem d_prog_12_method_1_60 : decode prog_12_method_1_code 60 = .ok (.aload_n 0, 1) := by decide +kernel
theorem d_prog_12_method_1_61 : decode prog_12_method_1_code 61 = .ok (.lload_n 2, 1) := by decide +kernel
theorem d_prog_12_method_1_62 : decode prog_12_method_1_code 62 = .ok (.putfield 27, 3) := by decide +kernel
theorem d_prog_12_method_1_65 : decode prog_12_method_1_code 65 = .ok (.aload_n 0, 1) := by decide +kernel
theorem d_prog_12_method_1_66 : decode prog_12_method_1_code 66 = .ok (.lload 4, 2) := by decide +kernel
theorem d_prog_12_method_1_68 : decode prog_12_method_1_code 68 = .ok (.putfield 31, 3) := by decide +kernel
theorem d_prog_12_method_1_71 : decode prog_12_method_1_code 71 = .ok (.aload_n 0, 1) := by decide +kernel
theorem d_prog_12_method_1_72 : decode prog_12_method_1_code 72 = .ok (.iload 6, 2) := by decide +kernel
theorem d_prog_12_method_1_74 : decode prog_12_method_1_code 74 = .ok (.putfield 34, 3) := by decide +kernel
theorem d_prog_12_method_1_77 : decode prog_12_method_1_code 77 = .ok (.aload_n 0, 1) := by decide +kernel
theorem d_prog_12_method_1_78 : decode prog_12_method_1_code 78 = .ok (.dload 7, 2) := by decide +kernel
theorem d_prog_12_method_1_80 : decode prog_12_method_1_code 80 = .ok (.putfield 37, 3) := by decide +kernel
theorem d_prog_12_method_1_83 : decode prog_12_method_1_code 83 = .ok (.return_, 1) := by decide +kernel
theorem ef_2 (m : MethodId) (a : Addr) (li : Int32) (st : Int64) (en : Int64) (lk : Int32) (mi : UInt64) : entryFrame m #[(.ref a), (.int li), (.long st), (.long en), (.int lk), (.double mi)] 9 = mkF m 0 #[.val (.ref a), .val (.int li), .val (.long st), .second, .val (.long en), .second, .val (.int lk), .val (.double mi), .second] [] := by first | (simp [entryFrame, mkF, argsToLocals, Value.category]; done) | rfl
def Q2 (Z : State) (a : Addr) (li : Int32) (st : Int64) (en : Int64) (lk : Int32) (mi : UInt64) (h0 : Heap) (n0 : Nat) (vV : Option Value) (hH : Heap) (LL : List Loc) : Prop := vV = none ∧ Fr n0 LL ∧ Keep h0 hH [a] ∧ (Exa Z hH a "com/example/bogong/bogong/events/RoadEvent") ∧ (Fld Z hH a "com/example/bogong/bogong/events/RoadEvent" "line" "I" (.int li)) ∧ (Fld Z hH a "com/example/bogong/bogong/events/RoadEvent" "startTick" "J" (.long st)) ∧ (Fld Z hH a "com/example/bogong/bogong/events/RoadEvent" "endTick" "J" (.long en)) ∧ (Fld Z hH a "com/example/bogong/bogong/events/RoadEvent" "link" "I" (.int lk)) ∧ (Fld Z hH a "com/example/bogong/bogong/events/RoadEvent" "minutes" "D" (.double mi))
def R2 (Z : State) (a : Addr) (li : Int32) (st : Int64) (en : Int64) (lk : Int32) (mi : UInt64) (h0 : Heap) (n0 : Nat) (U : State) (o : Outcome) (U' : State) : Prop := ∃ vV LL, o = .returned vV ∧ Q2 Z a li st en lk mi h0 n0 vV U'.heap LL ∧ FrameEnd U o U' LL ({ frames := 2, cells := 0, slots := 0, locals := 24 } : Room).cells ({ frames := 2, cells := 0, slots := 0, locals := 24 } : Room).slots
set_option maxRecDepth 65536 in
set_option maxHeartbeats 40000000 in
theorem rm2 (l : Launch) (Z : State) (a0 : Array Value) (hw : ∀ d ∈ tables_1, d.before a0 Z = true) (ws : List Jvm.Cond) (a : Addr) (li : Int32) (st : Int64) (en : Int64) (lk : Int32) (mi : UInt64) (h0 : Heap) (n0 : Nat) (Z0 : n0 ≤ h0.size) (hp0 : Exa Z h0 a "com/example/bogong/bogong/events/RoadEvent") (hp1 : Fld Z h0 a "com/example/bogong/bogong/events/RoadEvent" "line" "I" (.int (0 : Int32))) (hp2 : Fld Z h0 a "com/example/bogong/bogong/events/RoadEvent" "startTick" "J" (.long (0 : Int64))) (hp3 : Fld Z h0 a "com/example/bogong/bogong/events/RoadEvent" "endTick" "J" (.long (0 : Int64))) (hp4 : Fld Z h0 a "com/example/bogong/bogong/events/RoadEvent" "link" "I" (.int (0 : Int32))) (hp5 : Fld Z h0 a "com/example/bogong/bogong/events/RoadEvent" "minutes" "D" (.double (0 : UInt64))) (hp6 : n0 ≤ a) (hp7 : ¬ ((lcmpW st (0 : Int64)) < (0 : Int32))) (hp8 : (0 : Int32) < (lcmpW en st)) (hp9 : ¬ ((cmpValue (FP.dcmp mi (0 : UInt64)) .l) < (0 : Int32))) :
    MetFree l (⟨"com/example/bogong/bogong/events/RoadEvent", "<init>", "(IJJID)V"⟩ : MethodName) (head1 (Jvm.Cond.code (⟨"com/example/bogong/bogong/events/RoadEvent", "<init>", "(IJJID)V"⟩ : MethodName) prog_12_method_1_code 9 none :: ws) ({ frames := 2, cells := 0, slots := 0, locals := 24 } : Room)) (fun aA U => aA = #[(.ref a), (.int li), (.long st), (.long en), (.int lk), (.double mi)] ∧ Z.Warmed39 U.vm ∧ U.heap = h0) (fun _ _ _ _ _ => True) (fun _ U o U' => ∃ vV LL, o = .returned vV ∧ Q2 Z a li st en lk mi h0 n0 vV U'.heap LL ∧ FrameEnd U o U' LL ({ frames := 2, cells := 0, slots := 0, locals := 24 } : Room).cells ({ frames := 2, cells := 0, slots := 0, locals := 24 } : Room).slots) := by
  refine MetFree.of_bodySF (plainFor_of_name pn_4) hisR ?_
  intro p e s m args below meth cC s₁ Bd hml0 hP hK
  obtain ⟨rfl, hZ, hh⟩ := hP
  have hx := Bd.exec
  have hby := Bd.bytes
  have hml : cC.maxLocals = 9 := hml0
  have hown : s.vm.findClass "com/example/bogong/bogong/events/RoadEvent" = some m.cls := findClass_of_methodNamed Bd.named
  have hnm := (name_of_methodNamed Bd.named Bd.method).1
  have X0 : Stand p l e ({ frames := 2, cells := 0, slots := 0, locals := 24 } : Room) s m #[(.ref a), (.int li), (.long st), (.long en), (.int lk), (.double mi)] below meth cC s₁ [] 0 0 := Stand.of_body Bd
  have e0 : s₁.heap = h0 := by rw [← hh, Bd.state]; rfl
  have N0 := Fr.nil n0
  show OwnFin p e below (R2 Z a li st en lk mi h0 n0 s) (s₁.setTop (entryFrame m #[(.ref a), (.int li), (.long st), (.long en), (.int lk), (.double mi)] 9))
  rw [ef_2 m a li st en lk mi]
  refine OwnFin.step (fun tT kK => XS.aloadN X0.here hx rfl (hb hby d_prog_12_method_1_0) rfl rfl kK) ?_
  show OwnFin p e below _ (s₁.setTop (mkF m 1 #[.val (.ref a), .val (.int li), .val (.long st), .second, .val (.long en), .second, .val (.int lk), .val (.double mi), .second] [(.ref a)]))
  obtain ⟨_, _, ⟨T1, L1, k1, n1⟩, -, X1, ⟨Lc1, hQ1, l1, y1, z1⟩, st1⟩ := X0.specialBack hx (y := (⟨"java/lang/Record", "<init>", "()V"⟩ : MethodName)) rfl hown (mvT hZ (hw _ (List.mem_of_getElem? (i := 8) rfl))) (mvT hZ (hw _ (List.mem_of_getElem? (i := 9) rfl))) (mvT hZ (hw _ (List.mem_of_getElem? (i := 12) rfl))) (by decide) (backOf (W := 0) (rm1 l Z a0 hw [] a h0 n0 Z0 ) hZ (hw _ (List.mem_of_getElem? (i := 12) rfl)) (hw _ (List.mem_of_getElem? (i := 11) rfl)) (by decide) (by decide)) (g := (mkF m 1 #[.val (.ref a), .val (.int li), .val (.long st), .second, .val (.long en), .second, .val (.int lk), .val (.double mi), .second] [(.ref a)])) rfl (by rw [hml]; rfl) (Steps.refl _) (a := a) (argsL := []) (rest := []) (lenOf pd_7 rfl) rfl (by show 2 * 0 + _ ≤ _; exact Nat.le_of_eq rfl) (hb hby d_prog_12_method_1_1) (fun _ _ => ⟨rfl, e0, (by decide : 0 + 0 ≤ _), (by decide : 0 + 0 ≤ _)⟩)
  dsimp only [Pt.U, Pt.locs, Pt.cells, Pt.slots] at X1 l1 y1 z1 st1 hQ1
  subst l1 y1 z1
  obtain ⟨rfl, N1q, e1⟩ := hQ1
  have N1 := Fr.app N0 N1q
  refine OwnFin.step (fun tT kK => st1.trans kK) ?_
  show OwnFin p e below _ (T1.setTop (mkF m 4 #[.val (.ref a), .val (.int li), .val (.long st), .second, .val (.long en), .second, .val (.int lk), .val (.double mi), .second] []))
  refine OwnFin.step (fun tT kK => XS.lloadN X1.here hx rfl (hb hby d_prog_12_method_1_4) rfl kK) ?_
  show OwnFin p e below _ (T1.setTop (mkF m 5 #[.val (.ref a), .val (.int li), .val (.long st), .second, .val (.long en), .second, .val (.int lk), .val (.double mi), .second] [(.long st)]))
  refine OwnFin.step (fun tT kK => XS.lconst X1.here hx rfl (hb hby d_prog_12_method_1_5) kK) ?_
  show OwnFin p e below _ (T1.setTop (mkF m 6 #[.val (.ref a), .val (.int li), .val (.long st), .second, .val (.long en), .second, .val (.int lk), .val (.double mi), .second] [(.long (0 : Int64)), (.long st)]))
  refine OwnFin.step (fun tT kK => XS.lcmp X1.here hx rfl (hb hby d_prog_12_method_1_6) rfl kK) ?_
  show OwnFin p e below _ (T1.setTop (mkF m 7 #[.val (.ref a), .val (.int li), .val (.long st), .second, .val (.long en), .second, .val (.int lk), .val (.double mi), .second] [(.int (lcmpW st (0 : Int64)))]))
  refine OwnFin.step (fun tT kK => XS.ifNo X1.here hx rfl (hb hby d_prog_12_method_1_7) rfl ((if0 _ _).trans (flt (hp7 : ¬ ((lcmpW st (0 : Int64)) < (0 : Int32)))).1) kK) ?_
  show OwnFin p e below _ (T1.setTop (mkF m 10 #[.val (.ref a), .val (.int li), .val (.long st), .second, .val (.long en), .second, .val (.int lk), .val (.double mi), .second] []))
  refine OwnFin.step (fun tT kK => XS.lload X1.here hx rfl (hb hby d_prog_12_method_1_10) rfl kK) ?_
  show OwnFin p e below _ (T1.setTop (mkF m 12 #[.val (.ref a), .val (.int li), .val (.long st), .second, .val (.long en), .second, .val (.int lk), .val (.double mi), .second] [(.long en)]))
  refine OwnFin.step (fun tT kK => XS.lloadN X1.here hx rfl (hb hby d_prog_12_method_1_12) rfl kK) ?_
  show OwnFin p e below _ (T1.setTop (mkF m 13 #[.val (.ref a), .val (.int li), .val (.long st), .second, .val (.long en), .second, .val (.int lk), .val (.double mi), .second] [(.long st), (.long en)]))
  refine OwnFin.step (fun tT kK => XS.lcmp X1.here hx rfl (hb hby d_prog_12_method_1_13) rfl kK) ?_
  show OwnFin p e below _ (T1.setTop (mkF m 14 #[.val (.ref a), .val (.int li), .val (.long st), .second, .val (.long en), .second, .val (.int lk), .val (.double mi), .second] [(.int (lcmpW en st))]))
  refine OwnFin.step (fun tT kK => XS.ifYes X1.here hx rfl (pc0 := 14) (pc' := 33) rfl (hb hby d_prog_12_method_1_14) rfl ((if0 _ _).trans (tlt (hp8 : (0 : Int32) < (lcmpW en st))).2.2.1) (by decide) (by decide) kK) ?_
  show OwnFin p e below _ (T1.setTop (mkF m 33 #[.val (.ref a), .val (.int li), .val (.long st), .second, .val (.long en), .second, .val (.int lk), .val (.double mi), .second] []))
  refine OwnFin.step (fun tT kK => XS.dload X1.here hx rfl (hb hby d_prog_12_method_1_33) rfl kK) ?_
  show OwnFin p e below _ (T1.setTop (mkF m 35 #[.val (.ref a), .val (.int li), .val (.long st), .second, .val (.long en), .second, .val (.int lk), .val (.double mi), .second] [(.double mi)]))
  refine OwnFin.step (fun tT kK => XS.dconst0 X1.here hx rfl (hb hby d_prog_12_method_1_35) (v := (0 : UInt64)) (by decide +kernel) kK) ?_
  show OwnFin p e below _ (T1.setTop (mkF m 36 #[.val (.ref a), .val (.int li), .val (.long st), .second, .val (.long en), .second, .val (.int lk), .val (.double mi), .second] [(.double (0 : UInt64)), (.double mi)]))
  refine OwnFin.step (fun tT kK => XS.dcmpS X1.here hx rfl (hb hby d_prog_12_method_1_36) rfl rfl kK) ?_
  show OwnFin p e below _ (T1.setTop (mkF m 37 #[.val (.ref a), .val (.int li), .val (.long st), .second, .val (.long en), .second, .val (.int lk), .val (.double mi), .second] [(.int (cmpValue (FP.dcmp mi (0 : UInt64)) .l))]))
  refine OwnFin.step (fun tT kK => XS.ifYes X1.here hx rfl (pc0 := 37) (pc' := 55) rfl (hb hby d_prog_12_method_1_37) rfl ((if0 _ _).trans (flt (hp9 : ¬ ((cmpValue (FP.dcmp mi (0 : UInt64)) .l) < (0 : Int32)))).2.1) (by decide) (by decide) kK) ?_
  show OwnFin p e below _ (T1.setTop (mkF m 55 #[.val (.ref a), .val (.int li), .val (.long st), .second, .val (.long en), .second, .val (.int lk), .val (.double mi), .second] []))
  refine OwnFin.step (fun tT kK => XS.aloadN X1.here hx rfl (hb hby d_prog_12_method_1_55) rfl rfl kK) ?_
  show OwnFin p e below _ (T1.setTop (mkF m 56 #[.val (.ref a), .val (.int li), .val (.long st), .second, .val (.long en), .second, .val (.int lk), .val (.double mi), .second] [(.ref a)]))
  refine OwnFin.step (fun tT kK => XS.iloadN X1.here hx rfl (hb hby d_prog_12_method_1_56) rfl kK) ?_
  show OwnFin p e below _ (T1.setTop (mkF m 57 #[.val (.ref a), .val (.int li), .val (.long st), .second, .val (.long en), .second, .val (.int lk), .val (.double mi), .second] [(.int li), (.ref a)]))
  obtain ⟨T2, h2, X2, e2, W2, st2⟩ := putF X1 hx hZ hown (host := "") (Or.inl (hw _ (List.mem_of_getElem? (i := 16) rfl))) Via.refl e1 hp1 hp0 (Or.inr ⟨(hw _ (List.mem_of_getElem? (i := 17) rfl)), rfl, hnm⟩) (hw _ (List.mem_of_getElem? (i := 3) rfl)) (ty := .int) (by decide) rfl rfl (g := (mkF m 57 #[.val (.ref a), .val (.int li), .val (.long st), .second, .val (.long en), .second, .val (.int lk), .val (.double mi), .second] [(.int li), (.ref a)])) rfl rfl (hb hby d_prog_12_method_1_57)
  refine OwnFin.step st2 ?_
  have N2 := Fr.snoc X2 N1 hp6
  have Fw2 : Fld Z h2 a "com/example/bogong/bogong/events/RoadEvent" "line" "I" (.int li) := hp1.same W2
  show OwnFin p e below _ (T2.setTop (mkF m 60 #[.val (.ref a), .val (.int li), .val (.long st), .second, .val (.long en), .second, .val (.int lk), .val (.double mi), .second] []))
  refine OwnFin.step (fun tT kK => XS.aloadN X2.here hx rfl (hb hby d_prog_12_method_1_60) rfl rfl kK) ?_
  show OwnFin p e below _ (T2.setTop (mkF m 61 #[.val (.ref a), .val (.int li), .val (.long st), .second, .val (.long en), .second, .val (.int lk), .val (.double mi), .second] [(.ref a)]))
  refine OwnFin.step (fun tT kK => XS.lloadN X2.here hx rfl (hb hby d_prog_12_method_1_61) rfl kK) ?_
  show OwnFin p e below _ (T2.setTop (mkF m 62 #[.val (.ref a), .val (.int li), .val (.long st), .second, .val (.long en), .second, .val (.int lk), .val (.double mi), .second] [(.long st), (.ref a)]))
  have f3 : Exa Z h2 a "com/example/bogong/bogong/events/RoadEvent" := (hp0.wr W2)
  have f4 : Fld Z h2 a "com/example/bogong/bogong/events/RoadEvent" "startTick" "J" (.long (0 : Int64)) := (hp2.other W2 (Or.inr (slot_ne (Or.inr (hw _ (List.mem_of_getElem? (i := 19) rfl))) (Or.inr (hw _ (List.mem_of_getElem? (i := 17) rfl))) (by decide) (t := .long) (t' := .int) (by decide) (by decide))))
  obtain ⟨T5, h5, X5, e5, W5, st5⟩ := putF X2 hx hZ hown (host := "") (Or.inl (hw _ (List.mem_of_getElem? (i := 18) rfl))) Via.refl e2 f4 f3 (Or.inr ⟨(hw _ (List.mem_of_getElem? (i := 19) rfl)), rfl, hnm⟩) (hw _ (List.mem_of_getElem? (i := 3) rfl)) (ty := .long) (by decide) rfl rfl (g := (mkF m 62 #[.val (.ref a), .val (.int li), .val (.long st), .second, .val (.long en), .second, .val (.int lk), .val (.double mi), .second] [(.long st), (.ref a)])) rfl rfl (hb hby d_prog_12_method_1_62)
  refine OwnFin.step st5 ?_
  have N5 := Fr.snoc X5 N2 hp6
  have Fw5 : Fld Z h5 a "com/example/bogong/bogong/events/RoadEvent" "startTick" "J" (.long st) := f4.same W5
  show OwnFin p e below _ (T5.setTop (mkF m 65 #[.val (.ref a), .val (.int li), .val (.long st), .second, .val (.long en), .second, .val (.int lk), .val (.double mi), .second] []))
  refine OwnFin.step (fun tT kK => XS.aloadN X5.here hx rfl (hb hby d_prog_12_method_1_65) rfl rfl kK) ?_
  show OwnFin p e below _ (T5.setTop (mkF m 66 #[.val (.ref a), .val (.int li), .val (.long st), .second, .val (.long en), .second, .val (.int lk), .val (.double mi), .second] [(.ref a)]))
  refine OwnFin.step (fun tT kK => XS.lload X5.here hx rfl (hb hby d_prog_12_method_1_66) rfl kK) ?_
  show OwnFin p e below _ (T5.setTop (mkF m 68 #[.val (.ref a), .val (.int li), .val (.long st), .second, .val (.long en), .second, .val (.int lk), .val (.double mi), .second] [(.long en), (.ref a)]))
  have f6 : Exa Z h5 a "com/example/bogong/bogong/events/RoadEvent" := (f3.wr W5)
  have f7 : Fld Z h5 a "com/example/bogong/bogong/events/RoadEvent" "endTick" "J" (.long (0 : Int64)) := ((hp3.other W2 (Or.inr (slot_ne (Or.inr (hw _ (List.mem_of_getElem? (i := 21) rfl))) (Or.inr (hw _ (List.mem_of_getElem? (i := 17) rfl))) (by decide) (t := .long) (t' := .int) (by decide) (by decide)))).other W5 (Or.inr (slot_ne (Or.inr (hw _ (List.mem_of_getElem? (i := 21) rfl))) (Or.inr (hw _ (List.mem_of_getElem? (i := 19) rfl))) (by decide) (t := .long) (t' := .long) (by decide) (by decide))))
  obtain ⟨T8, h8, X8, e8, W8, st8⟩ := putF X5 hx hZ hown (host := "") (Or.inl (hw _ (List.mem_of_getElem? (i := 20) rfl))) Via.refl e5 f7 f6 (Or.inr ⟨(hw _ (List.mem_of_getElem? (i := 21) rfl)), rfl, hnm⟩) (hw _ (List.mem_of_getElem? (i := 3) rfl)) (ty := .long) (by decide) rfl rfl (g := (mkF m 68 #[.val (.ref a), .val (.int li), .val (.long st), .second, .val (.long en), .second, .val (.int lk), .val (.double mi), .second] [(.long en), (.ref a)])) rfl rfl (hb hby d_prog_12_method_1_68)
  refine OwnFin.step st8 ?_
  have N8 := Fr.snoc X8 N5 hp6
  have Fw8 : Fld Z h8 a "com/example/bogong/bogong/events/RoadEvent" "endTick" "J" (.long en) := f7.same W8
  show OwnFin p e below _ (T8.setTop (mkF m 71 #[.val (.ref a), .val (.int li), .val (.long st), .second, .val (.long en), .second, .val (.int lk), .val (.double mi), .second] []))
  refine OwnFin.step (fun tT kK => XS.aloadN X8.here hx rfl (hb hby d_prog_12_method_1_71) rfl rfl kK) ?_
  show OwnFin p e below _ (T8.setTop (mkF m 72 #[.val (.ref a), .val (.int li), .val (.long st), .second, .val (.long en), .second, .val (.int lk), .val (.double mi), .second] [(.ref a)]))
  refine OwnFin.step (fun tT kK => XS.iload X8.here hx rfl (hb hby d_prog_12_method_1_72) rfl kK) ?_
  show OwnFin p e below _ (T8.setTop (mkF m 74 #[.val (.ref a), .val (.int li), .val (.long st), .second, .val (.long en), .second, .val (.int lk), .val (.double mi), .second] [(.int lk), (.ref a)]))
  have f9 : Exa Z h8 a "com/example/bogong/bogong/events/RoadEvent" := (f6.wr W8)
  have f10 : Fld Z h8 a "com/example/bogong/bogong/events/RoadEvent" "link" "I" (.int (0 : Int32)) := (((hp4.other W2 (Or.inr (slot_ne (Or.inr (hw _ (List.mem_of_getElem? (i := 23) rfl))) (Or.inr (hw _ (List.mem_of_getElem? (i := 17) rfl))) (by decide) (t := .int) (t' := .int) (by decide) (by decide)))).other W5 (Or.inr (slot_ne (Or.inr (hw _ (List.mem_of_getElem? (i := 23) rfl))) (Or.inr (hw _ (List.mem_of_getElem? (i := 19) rfl))) (by decide) (t := .int) (t' := .long) (by decide) (by decide)))).other W8 (Or.inr (slot_ne (Or.inr (hw _ (List.mem_of_getElem? (i := 23) rfl))) (Or.inr (hw _ (List.mem_of_getElem? (i := 21) rfl))) (by decide) (t := .int) (t' := .long) (by decide) (by decide))))
  obtain ⟨T11, h11, X11, e11, W11, st11⟩ := putF X8 hx hZ hown (host := "") (Or.inl (hw _ (List.mem_of_getElem? (i := 22) rfl))) Via.refl e8 f10 f9 (Or.inr ⟨(hw _ (List.mem_of_getElem? (i := 23) rfl)), rfl, hnm⟩) (hw _ (List.mem_of_getElem? (i := 3) rfl)) (ty := .int) (by decide) rfl rfl (g := (mkF m 74 #[.val (.ref a), .val (.int li), .val (.long st), .second, .val (.long en), .second, .val (.int lk), .val (.double mi), .second] [(.int lk), (.ref a)])) rfl rfl (hb hby d_prog_12_method_1_74)
  refine OwnFin.step st11 ?_
  have N11 := Fr.snoc X11 N8 hp6
  have Fw11 : Fld Z h11 a "com/example/bogong/bogong/events/RoadEvent" "link" "I" (.int lk) := f10.same W11
  show OwnFin p e below _ (T11.setTop (mkF m 77 #[.val (.ref a), .val (.int li), .val (.long st), .second, .val (.long en), .second, .val (.int lk), .val (.double mi), .second] []))
  refine OwnFin.step (fun tT kK => XS.aloadN X11.here hx rfl (hb hby d_prog_12_method_1_77) rfl rfl kK) ?_
  show OwnFin p e below _ (T11.setTop (mkF m 78 #[.val (.ref a), .val (.int li), .val (.long st), .second, .val (.long en), .second, .val (.int lk), .val (.double mi), .second] [(.ref a)]))
  refine OwnFin.step (fun tT kK => XS.dload X11.here hx rfl (hb hby d_prog_12_method_1_78) rfl kK) ?_
  show OwnFin p e below _ (T11.setTop (mkF m 80 #[.val (.ref a), .val (.int li), .val (.long st), .second, .val (.long en), .second, .val (.int lk), .val (.double mi), .second] [(.double mi), (.ref a)]))
  have f12 : Exa Z h11 a "com/example/bogong/bogong/events/RoadEvent" := (f9.wr W11)
  have f13 : Fld Z h11 a "com/example/bogong/bogong/events/RoadEvent" "minutes" "D" (.double (0 : UInt64)) := ((((hp5.other W2 (Or.inr (slot_ne (Or.inr (hw _ (List.mem_of_getElem? (i := 25) rfl))) (Or.inr (hw _ (List.mem_of_getElem? (i := 17) rfl))) (by decide) (t := .double) (t' := .int) (by decide) (by decide)))).other W5 (Or.inr (slot_ne (Or.inr (hw _ (List.mem_of_getElem? (i := 25) rfl))) (Or.inr (hw _ (List.mem_of_getElem? (i := 19) rfl))) (by decide) (t := .double) (t' := .long) (by decide) (by decide)))).other W8 (Or.inr (slot_ne (Or.inr (hw _ (List.mem_of_getElem? (i := 25) rfl))) (Or.inr (hw _ (List.mem_of_getElem? (i := 21) rfl))) (by decide) (t := .double) (t' := .long) (by decide) (by decide)))).other W11 (Or.inr (slot_ne (Or.inr (hw _ (List.mem_of_getElem? (i := 25) rfl))) (Or.inr (hw _ (List.mem_of_getElem? (i := 23) rfl))) (by decide) (t := .double) (t' := .int) (by decide) (by decide))))
  obtain ⟨T14, h14, X14, e14, W14, st14⟩ := putF X11 hx hZ hown (host := "") (Or.inl (hw _ (List.mem_of_getElem? (i := 24) rfl))) Via.refl e11 f13 f12 (Or.inr ⟨(hw _ (List.mem_of_getElem? (i := 25) rfl)), rfl, hnm⟩) (hw _ (List.mem_of_getElem? (i := 3) rfl)) (ty := .double) (by decide) rfl rfl (g := (mkF m 80 #[.val (.ref a), .val (.int li), .val (.long st), .second, .val (.long en), .second, .val (.int lk), .val (.double mi), .second] [(.double mi), (.ref a)])) rfl rfl (hb hby d_prog_12_method_1_80)
  refine OwnFin.step st14 ?_
  have N14 := Fr.snoc X14 N11 hp6
  have Fw14 : Fld Z h14 a "com/example/bogong/bogong/events/RoadEvent" "minutes" "D" (.double mi) := f13.same W14
  show OwnFin p e below _ (T14.setTop (mkF m 83 #[.val (.ref a), .val (.int li), .val (.long st), .second, .val (.long en), .second, .val (.int lk), .val (.double mi), .second] []))
  have f16 : Exa Z h14 a "com/example/bogong/bogong/events/RoadEvent" := (f12.wr W14)
  have f17 : Fld Z h14 a "com/example/bogong/bogong/events/RoadEvent" "line" "I" (.int li) := ((((Fw2.other W5 (Or.inr (slot_ne (Or.inr (hw _ (List.mem_of_getElem? (i := 17) rfl))) (Or.inr (hw _ (List.mem_of_getElem? (i := 19) rfl))) (by decide) (t := .int) (t' := .long) (by decide) (by decide)))).other W8 (Or.inr (slot_ne (Or.inr (hw _ (List.mem_of_getElem? (i := 17) rfl))) (Or.inr (hw _ (List.mem_of_getElem? (i := 21) rfl))) (by decide) (t := .int) (t' := .long) (by decide) (by decide)))).other W11 (Or.inr (slot_ne (Or.inr (hw _ (List.mem_of_getElem? (i := 17) rfl))) (Or.inr (hw _ (List.mem_of_getElem? (i := 23) rfl))) (by decide) (t := .int) (t' := .int) (by decide) (by decide)))).other W14 (Or.inr (slot_ne (Or.inr (hw _ (List.mem_of_getElem? (i := 17) rfl))) (Or.inr (hw _ (List.mem_of_getElem? (i := 25) rfl))) (by decide) (t := .int) (t' := .double) (by decide) (by decide))))
  have f18 : Fld Z h14 a "com/example/bogong/bogong/events/RoadEvent" "startTick" "J" (.long st) := (((Fw5.other W8 (Or.inr (slot_ne (Or.inr (hw _ (List.mem_of_getElem? (i := 19) rfl))) (Or.inr (hw _ (List.mem_of_getElem? (i := 21) rfl))) (by decide) (t := .long) (t' := .long) (by decide) (by decide)))).other W11 (Or.inr (slot_ne (Or.inr (hw _ (List.mem_of_getElem? (i := 19) rfl))) (Or.inr (hw _ (List.mem_of_getElem? (i := 23) rfl))) (by decide) (t := .long) (t' := .int) (by decide) (by decide)))).other W14 (Or.inr (slot_ne (Or.inr (hw _ (List.mem_of_getElem? (i := 19) rfl))) (Or.inr (hw _ (List.mem_of_getElem? (i := 25) rfl))) (by decide) (t := .long) (t' := .double) (by decide) (by decide))))
  have f19 : Fld Z h14 a "com/example/bogong/bogong/events/RoadEvent" "endTick" "J" (.long en) := ((Fw8.other W11 (Or.inr (slot_ne (Or.inr (hw _ (List.mem_of_getElem? (i := 21) rfl))) (Or.inr (hw _ (List.mem_of_getElem? (i := 23) rfl))) (by decide) (t := .long) (t' := .int) (by decide) (by decide)))).other W14 (Or.inr (slot_ne (Or.inr (hw _ (List.mem_of_getElem? (i := 21) rfl))) (Or.inr (hw _ (List.mem_of_getElem? (i := 25) rfl))) (by decide) (t := .long) (t' := .double) (by decide) (by decide))))
  have f20 : Fld Z h14 a "com/example/bogong/bogong/events/RoadEvent" "link" "I" (.int lk) := (Fw11.other W14 (Or.inr (slot_ne (Or.inr (hw _ (List.mem_of_getElem? (i := 23) rfl))) (Or.inr (hw _ (List.mem_of_getElem? (i := 25) rfl))) (by decide) (t := .int) (t' := .double) (by decide) (by decide))))
  obtain ⟨fs15, hr15, hrun15, hended15, hW15, hsame15⟩ := X14.leave (v := none) (fun _ => rfl)
  refine ⟨_, _, X14.returnOut hx Bd.returns (hb hby d_prog_12_method_1_83) hr15, hrun15, hended15, _, _, rfl, ?_, ⟨_, rfl⟩, hW15, hsame15.mono (by decide) (by decide)⟩
  show Q2 Z a li st en lk mi h0 n0 _ T14.heap _
  rw [e14]
  exact ⟨rfl, N14, ((((((Keep.refl h0 [a]).wr W2 (Or.inl (List.mem_of_getElem? (i := 0) rfl))).wr W5 (Or.inl (List.mem_of_getElem? (i := 0) rfl))).wr W8 (Or.inl (List.mem_of_getElem? (i := 0) rfl))).wr W11 (Or.inl (List.mem_of_getElem? (i := 0) rfl))).wr W14 (Or.inl (List.mem_of_getElem? (i := 0) rfl))), f16, f17, f18, f19, f20, Fw14⟩
theorem d_prog_12_method_4_0 : decode prog_12_method_4_code 0 = .ok (.aload_n 0, 1) := by decide +kernel
theorem d_prog_12_method_4_1 : decode prog_12_method_4_code 1 = .ok (.getfield 31, 3) := by decide +kernel
theorem d_prog_12_method_4_4 : decode prog_12_method_4_code 4 = .ok (.ldc2_w 49, 3) := by decide +kernel
theorem d_prog_12_method_4_7 : decode prog_12_method_4_code 7 = .ok (.lcmp, 1) := by decide +kernel
theorem d_prog_12_method_4_8 : decode prog_12_method_4_code 8 = .ok (.ifCond .eq 7, 3) := by decide +kernel
theorem d_prog_12_method_4_15 : decode prog_12_method_4_code 15 = .ok (.iconst 0, 1) := by decide +kernel
theorem d_prog_12_method_4_16 : decode prog_12_method_4_code 16 = .ok (.ireturn, 1) := by decide +kernel
theorem d_prog_12_method_4_11 : decode prog_12_method_4_code 11 = .ok (.iconst 1, 1) := by decide +kernel
theorem d_prog_12_method_4_12 : decode prog_12_method_4_code 12 = .ok (.goto 4, 3) := by decide +kernel
theorem ef_3 (m : MethodId) (a : Addr) : entryFrame m #[(.ref a)] 1 = mkF m 0 #[.val (.ref a)] [] := by first | (simp [entryFrame, mkF, argsToLocals, Value.category]; done) | rfl
def Q3 (Z : State) (a : Addr) (en : Int64) (h0 : Heap) (n0 : Nat) (vV : Option Value) (hH : Heap) (LL : List Loc) : Prop := vV = some (.int (if lcmpW en (9223372036854775807 : Int64) = (0 : Int32) then 0 else 1)) ∧ Fr n0 LL ∧ hH = h0
def R3 (Z : State) (a : Addr) (en : Int64) (h0 : Heap) (n0 : Nat) (U : State) (o : Outcome) (U' : State) : Prop := ∃ vV LL, o = .returned vV ∧ Q3 Z a en h0 n0 vV U'.heap LL ∧ FrameEnd U o U' LL ({ frames := 0, cells := 0, slots := 0, locals := 0 } : Room).cells ({ frames := 0, cells := 0, slots := 0, locals := 0 } : Room).slots
set_option maxRecDepth 65536 in
set_option maxHeartbeats 40000000 in
theorem rm3 (l : Launch) (Z : State) (a0 : Array Value) (hw : ∀ d ∈ tables_1, d.before a0 Z = true) (ws : List Jvm.Cond) (a : Addr) (en : Int64) (h0 : Heap) (n0 : Nat) (Z0 : n0 ≤ h0.size) (hp0 : Fld Z h0 a "com/example/bogong/bogong/events/RoadEvent" "endTick" "J" (.long en)) :
    MetFree l (⟨"com/example/bogong/bogong/events/RoadEvent", "ends", "()Z"⟩ : MethodName) (head1 (Jvm.Cond.code (⟨"com/example/bogong/bogong/events/RoadEvent", "ends", "()Z"⟩ : MethodName) prog_12_method_4_code 1 (some .boolean) :: ws) ({ frames := 0, cells := 0, slots := 0, locals := 0 } : Room)) (fun aA U => aA = #[(.ref a)] ∧ Z.Warmed39 U.vm ∧ U.heap = h0) (fun _ _ _ _ _ => True) (fun _ U o U' => ∃ vV LL, o = .returned vV ∧ Q3 Z a en h0 n0 vV U'.heap LL ∧ FrameEnd U o U' LL ({ frames := 0, cells := 0, slots := 0, locals := 0 } : Room).cells ({ frames := 0, cells := 0, slots := 0, locals := 0 } : Room).slots) := by
  refine MetFree.of_bodySF (plainFor_of_name pn_4) hisR ?_
  intro p e s m args below meth cC s₁ Bd hml0 hP hK
  obtain ⟨rfl, hZ, hh⟩ := hP
  have hx := Bd.exec
  have hby := Bd.bytes
  have hml : cC.maxLocals = 1 := hml0
  have hown : s.vm.findClass "com/example/bogong/bogong/events/RoadEvent" = some m.cls := findClass_of_methodNamed Bd.named
  have hnm := (name_of_methodNamed Bd.named Bd.method).1
  have X0 : Stand p l e ({ frames := 0, cells := 0, slots := 0, locals := 0 } : Room) s m #[(.ref a)] below meth cC s₁ [] 0 0 := Stand.of_body Bd
  have e0 : s₁.heap = h0 := by rw [← hh, Bd.state]; rfl
  have N0 := Fr.nil n0
  show OwnFin p e below (R3 Z a en h0 n0 s) (s₁.setTop (entryFrame m #[(.ref a)] 1))
  rw [ef_3 m a]
  refine OwnFin.step (fun tT kK => XS.aloadN X0.here hx rfl (hb hby d_prog_12_method_4_0) rfl rfl kK) ?_
  show OwnFin p e below _ (s₁.setTop (mkF m 1 #[.val (.ref a)] [(.ref a)]))
  obtain ⟨T1, X1, e1, st1⟩ := getF X0 hx hZ hown (host := "") (Or.inl (hw _ (List.mem_of_getElem? (i := 20) rfl))) Via.refl e0 hp0 (g := (mkF m 1 #[.val (.ref a)] [(.ref a)])) rfl rfl (hb hby d_prog_12_method_4_1)
  refine OwnFin.step st1 ?_
  show OwnFin p e below _ (T1.setTop (mkF m 4 #[.val (.ref a)] [(.long en)]))
  refine OwnFin.step (fun tT kK => X1.ldc2J hx hown (mvT hZ (hw _ (List.mem_of_getElem? (i := 31) rfl))) (g := (mkF m 4 #[.val (.ref a)] [(.long en)])) rfl (hb hby d_prog_12_method_4_4) kK) ?_
  show OwnFin p e below _ (T1.setTop (mkF m 7 #[.val (.ref a)] [(.long (9223372036854775807 : Int64)), (.long en)]))
  refine OwnFin.step (fun tT kK => XS.lcmp X1.here hx rfl (hb hby d_prog_12_method_4_7) rfl kK) ?_
  show OwnFin p e below _ (T1.setTop (mkF m 8 #[.val (.ref a)] [(.int (lcmpW en (9223372036854775807 : Int64)))]))
  by_cases hc2 : (lcmpW en (9223372036854775807 : Int64)) = (0 : Int32)
  · skip
    refine OwnFin.step (fun tT kK => XS.ifYes X1.here hx rfl (pc0 := 8) (pc' := 15) rfl (hb hby d_prog_12_method_4_8) rfl ((if0 _ _).trans (teq (hc2 : (lcmpW en (9223372036854775807 : Int64)) = (0 : Int32))).1) (by decide) (by decide) kK) ?_
    show OwnFin p e below _ (T1.setTop (mkF m 15 #[.val (.ref a)] []))
    refine OwnFin.step (fun tT kK => XS.iconst X1.here hx rfl (hb hby d_prog_12_method_4_15) kK) ?_
    show OwnFin p e below _ (T1.setTop (mkF m 16 #[.val (.ref a)] [(.int (0 : Int32))]))
    obtain ⟨fs3, hr3, hrun3, hended3, hW3, hsame3⟩ := X1.leave (v := (some (.int (0 : Int32)))) (fun h => by rw [Bd.returns] at h; cases h)
    refine ⟨_, _, retN X1 hx (t := .boolean) Bd.returns (by simp) (hb hby d_prog_12_method_4_16) hr3, hrun3, hended3, _, _, rfl, ?_, ⟨_, rfl⟩, hW3, hsame3.mono (by decide) (by decide)⟩
    show Q3 Z a en h0 n0 _ T1.heap _
    rw [e1]
    exact ⟨(by rw [if_pos hc2]), N0, rfl⟩
  · skip
    refine OwnFin.step (fun tT kK => XS.ifNo X1.here hx rfl (hb hby d_prog_12_method_4_8) rfl ((if0 _ _).trans (feq (hc2 : ¬ ((lcmpW en (9223372036854775807 : Int64)) = (0 : Int32)))).1) kK) ?_
    show OwnFin p e below _ (T1.setTop (mkF m 11 #[.val (.ref a)] []))
    refine OwnFin.step (fun tT kK => XS.iconst X1.here hx rfl (hb hby d_prog_12_method_4_11) kK) ?_
    show OwnFin p e below _ (T1.setTop (mkF m 12 #[.val (.ref a)] [(.int (1 : Int32))]))
    refine OwnFin.step (fun tT kK => XS.goto X1.here hx rfl (pc0 := 12) (pc' := 16) rfl (hb hby d_prog_12_method_4_12) (by decide) (by decide) kK) ?_
    show OwnFin p e below _ (T1.setTop (mkF m 16 #[.val (.ref a)] [(.int (1 : Int32))]))
    obtain ⟨fs4, hr4, hrun4, hended4, hW4, hsame4⟩ := X1.leave (v := (some (.int (1 : Int32)))) (fun h => by rw [Bd.returns] at h; cases h)
    refine ⟨_, _, retN X1 hx (t := .boolean) Bd.returns (by simp) (hb hby d_prog_12_method_4_16) hr4, hrun4, hended4, _, _, rfl, ?_, ⟨_, rfl⟩, hW4, hsame4.mono (by decide) (by decide)⟩
    show Q3 Z a en h0 n0 _ T1.heap _
    rw [e1]
    exact ⟨(by rw [if_neg hc2]), N0, rfl⟩
theorem own_m16 (x : Int32) : 0 ≤ (x &&& (65535 : Int32)).toInt := (c_and x (65535 : Int32) (by decide)).1
theorem pn_45 : plainName "com/example/bogong/bogong/events/RoadEventEndsPinLaw" = true := by first | (simp [plainName, overriddenIn]; done) | decide +kernel
theorem pd_46 : parseMethodDescriptor "(IJJID)V" = some ⟨[.int, .long, .long, .int, .double], none⟩ := by decide +kernel
theorem pd_47 : parseMethodDescriptor "()Z" = some ⟨[], some .boolean⟩ := by decide +kernel
theorem ef_0 (m : MethodId) (li : Int32) (s_ : Int64) (e_ : Int64) (lk : Int32) (m_ : Int32) (mo : Int32) : entryFrame m #[(.int li), (.long s_), (.long e_), (.int lk), (.int m_), (.int mo)] maxLocals = mkF m 0 #[.val (.int li), .val (.long s_), .second, .val (.long e_), .second, .val (.int lk), .val (.int m_), .val (.int mo), .unset, .unset, .unset, .unset, .unset, .unset, .unset, .unset, .unset] [] := by first | (simp [entryFrame, mkF, argsToLocals, Value.category, maxLocals]; done) | rfl
def Q0 (Z : State) (li : Int32) (s_ : Int64) (e_ : Int64) (lk : Int32) (m_ : Int32) (mo : Int32) (h0 : Heap) (n0 : Nat) (vV : Option Value) (hH : Heap) (LL : List Loc) : Prop := vV = some (.int (1 : Int32)) ∧ Fr n0 LL ∧ Keep h0 hH []
def R0 (Z : State) (li : Int32) (s_ : Int64) (e_ : Int64) (lk : Int32) (m_ : Int32) (mo : Int32) (h0 : Heap) (n0 : Nat) (U : State) (o : Outcome) (U' : State) : Prop := ∃ vV LL, o = .returned vV ∧ Q0 Z li s_ e_ lk m_ mo h0 n0 vV U'.heap LL ∧ FrameEnd U o U' LL room_1.cells room_1.slots
set_option maxRecDepth 65536 in
set_option maxHeartbeats 40000000 in
theorem rm0 (l : Launch) (Z : State) (a0 : Array Value) (hw : ∀ d ∈ tables_1, d.before a0 Z = true) (ws : List Jvm.Cond) (li : Int32) (s_ : Int64) (e_ : Int64) (lk : Int32) (m_ : Int32) (mo : Int32) (h0 : Heap) (n0 : Nat) (Z0 : n0 ≤ h0.size) :
    MetFree l x (head1 (Jvm.Cond.code x code maxLocals ret :: ws) room_1) (fun aA U => aA = #[(.int li), (.long s_), (.long e_), (.int lk), (.int m_), (.int mo)] ∧ Z.Warmed39 U.vm ∧ U.heap = h0) (fun _ _ _ _ _ => True) (fun _ U o U' => ∃ vV LL, o = .returned vV ∧ Q0 Z li s_ e_ lk m_ mo h0 n0 vV U'.heap LL ∧ FrameEnd U o U' LL room_1.cells room_1.slots) := by
  refine MetFree.of_bodySF (plainFor_of_name pn_45) hisR ?_
  intro p e s m args below meth cC s₁ Bd hml0 hP hK
  obtain ⟨rfl, hZ, hh⟩ := hP
  have hx := Bd.exec
  have hby := Bd.bytes
  have hml : cC.maxLocals = 17 := hml0
  have hown : s.vm.findClass "com/example/bogong/bogong/events/RoadEventEndsPinLaw" = some m.cls := findClass_of_methodNamed Bd.named
  have hnm := (name_of_methodNamed Bd.named Bd.method).1
  have X0 : Stand p l e room_1 s m #[(.int li), (.long s_), (.long e_), (.int lk), (.int m_), (.int mo)] below meth cC s₁ [] 0 0 := Stand.of_body Bd
  have e0 : s₁.heap = h0 := by rw [← hh, Bd.state]; rfl
  have N0 := Fr.nil n0
  show OwnFin p e below (R0 Z li s_ e_ lk m_ mo h0 n0 s) (s₁.setTop (entryFrame m #[(.int li), (.long s_), (.long e_), (.int lk), (.int m_), (.int mo)] maxLocals))
  rw [ef_0 m li s_ e_ lk m_ mo]
  refine OwnFin.step (fun tT kK => XS.iload X0.here hx rfl (hb hby at_0) rfl kK) ?_
  show OwnFin p e below _ (s₁.setTop (mkF m 2 #[.val (.int li), .val (.long s_), .second, .val (.long e_), .second, .val (.int lk), .val (.int m_), .val (.int mo), .unset, .unset, .unset, .unset, .unset, .unset, .unset, .unset, .unset] [(.int mo)]))
  refine OwnFin.step (fun tT kK => XS.iconst X0.here hx rfl (hb hby at_2) kK) ?_
  show OwnFin p e below _ (s₁.setTop (mkF m 3 #[.val (.int li), .val (.long s_), .second, .val (.long e_), .second, .val (.int lk), .val (.int m_), .val (.int mo), .unset, .unset, .unset, .unset, .unset, .unset, .unset, .unset, .unset] [(.int (3 : Int32)), (.int mo)]))
  refine OwnFin.step (fun tT kK => XS.iand X0.here hx rfl (hb hby at_3) rfl kK) ?_
  show OwnFin p e below _ (s₁.setTop (mkF m 4 #[.val (.int li), .val (.long s_), .second, .val (.long e_), .second, .val (.int lk), .val (.int m_), .val (.int mo), .unset, .unset, .unset, .unset, .unset, .unset, .unset, .unset, .unset] [(.int (mo &&& (3 : Int32)))]))
  refine OwnFin.step (fun tT kK => XS.istore X0.here hx rfl (hb hby at_4) rfl (l' := #[.val (.int li), .val (.long s_), .second, .val (.long e_), .second, .val (.int lk), .val (.int m_), .val (.int mo), .val (.int (mo &&& (3 : Int32))), .unset, .unset, .unset, .unset, .unset, .unset, .unset, .unset]) rfl kK) ?_
  show OwnFin p e below _ (s₁.setTop (mkF m 6 #[.val (.int li), .val (.long s_), .second, .val (.long e_), .second, .val (.int lk), .val (.int m_), .val (.int mo), .val (.int (mo &&& (3 : Int32))), .unset, .unset, .unset, .unset, .unset, .unset, .unset, .unset] []))
  refine OwnFin.step (fun tT kK => XS.iload X0.here hx rfl (hb hby at_6) rfl kK) ?_
  show OwnFin p e below _ (s₁.setTop (mkF m 8 #[.val (.int li), .val (.long s_), .second, .val (.long e_), .second, .val (.int lk), .val (.int m_), .val (.int mo), .val (.int (mo &&& (3 : Int32))), .unset, .unset, .unset, .unset, .unset, .unset, .unset, .unset] [(.int (mo &&& (3 : Int32)))]))
  by_cases hc1 : (mo &&& (3 : Int32)) = (0 : Int32)
  · skip
    refine OwnFin.step (fun tT kK => XS.ifNo X0.here hx rfl (hb hby at_8) rfl ((if0 _ _).trans (teq (hc1 : (mo &&& (3 : Int32)) = (0 : Int32))).2) kK) ?_
    show OwnFin p e below _ (s₁.setTop (mkF m 11 #[.val (.int li), .val (.long s_), .second, .val (.long e_), .second, .val (.int lk), .val (.int m_), .val (.int mo), .val (.int (mo &&& (3 : Int32))), .unset, .unset, .unset, .unset, .unset, .unset, .unset, .unset] []))
    refine OwnFin.step (fun tT kK => X0.ldc2J hx hown (mvT hZ (hw _ (List.mem_of_getElem? (i := 0) rfl))) (g := (mkF m 11 #[.val (.int li), .val (.long s_), .second, .val (.long e_), .second, .val (.int lk), .val (.int m_), .val (.int mo), .val (.int (mo &&& (3 : Int32))), .unset, .unset, .unset, .unset, .unset, .unset, .unset, .unset] [])) rfl (hb hby at_11) kK) ?_
    show OwnFin p e below _ (s₁.setTop (mkF m 14 #[.val (.int li), .val (.long s_), .second, .val (.long e_), .second, .val (.int lk), .val (.int m_), .val (.int mo), .val (.int (mo &&& (3 : Int32))), .unset, .unset, .unset, .unset, .unset, .unset, .unset, .unset] [(.long (9223372036854775807 : Int64))]))
    refine OwnFin.step (fun tT kK => XS.lstore X0.here hx rfl (hb hby at_14) rfl (l' := #[.val (.int li), .val (.long s_), .second, .val (.long e_), .second, .val (.int lk), .val (.int m_), .val (.int mo), .val (.int (mo &&& (3 : Int32))), .val (.long (9223372036854775807 : Int64)), .second, .unset, .unset, .unset, .unset, .unset, .unset]) rfl kK) ?_
    show OwnFin p e below _ (s₁.setTop (mkF m 16 #[.val (.int li), .val (.long s_), .second, .val (.long e_), .second, .val (.int lk), .val (.int m_), .val (.int mo), .val (.int (mo &&& (3 : Int32))), .val (.long (9223372036854775807 : Int64)), .second, .unset, .unset, .unset, .unset, .unset, .unset] []))
    refine OwnFin.step (fun tT kK => XS.goto X0.here hx rfl (pc0 := 16) (pc' := 50) rfl (hb hby at_16) (by decide) (by decide) kK) ?_
    show OwnFin p e below _ (s₁.setTop (mkF m 50 #[.val (.int li), .val (.long s_), .second, .val (.long e_), .second, .val (.int lk), .val (.int m_), .val (.int mo), .val (.int (mo &&& (3 : Int32))), .val (.long (9223372036854775807 : Int64)), .second, .unset, .unset, .unset, .unset, .unset, .unset] []))
    have hpos2 : 0 < ((9223372036854775807 : Int64)).toInt := by decide
    refine OwnFin.step (fun tT kK => XS.lloadN X0.here hx rfl (hb hby at_50) rfl kK) ?_
    show OwnFin p e below _ (s₁.setTop (mkF m 51 #[.val (.int li), .val (.long s_), .second, .val (.long e_), .second, .val (.int lk), .val (.int m_), .val (.int mo), .val (.int (mo &&& (3 : Int32))), .val (.long (9223372036854775807 : Int64)), .second, .unset, .unset, .unset, .unset, .unset, .unset] [(.long s_)]))
    refine OwnFin.step (fun tT kK => X0.ldc2J hx hown (mvT hZ (hw _ (List.mem_of_getElem? (i := 0) rfl))) (g := (mkF m 51 #[.val (.int li), .val (.long s_), .second, .val (.long e_), .second, .val (.int lk), .val (.int m_), .val (.int mo), .val (.int (mo &&& (3 : Int32))), .val (.long (9223372036854775807 : Int64)), .second, .unset, .unset, .unset, .unset, .unset, .unset] [(.long s_)])) rfl (hb hby at_51) kK) ?_
    show OwnFin p e below _ (s₁.setTop (mkF m 54 #[.val (.int li), .val (.long s_), .second, .val (.long e_), .second, .val (.int lk), .val (.int m_), .val (.int mo), .val (.int (mo &&& (3 : Int32))), .val (.long (9223372036854775807 : Int64)), .second, .unset, .unset, .unset, .unset, .unset, .unset] [(.long (9223372036854775807 : Int64)), (.long s_)]))
    refine OwnFin.step (fun tT kK => XS.land X0.here hx rfl (hb hby at_54) rfl kK) ?_
    show OwnFin p e below _ (s₁.setTop (mkF m 55 #[.val (.int li), .val (.long s_), .second, .val (.long e_), .second, .val (.int lk), .val (.int m_), .val (.int mo), .val (.int (mo &&& (3 : Int32))), .val (.long (9223372036854775807 : Int64)), .second, .unset, .unset, .unset, .unset, .unset, .unset] [(.long (s_ &&& (9223372036854775807 : Int64)))]))
    refine OwnFin.step (fun tT kK => XS.lload X0.here hx rfl (hb hby at_55) rfl kK) ?_
    show OwnFin p e below _ (s₁.setTop (mkF m 57 #[.val (.int li), .val (.long s_), .second, .val (.long e_), .second, .val (.int lk), .val (.int m_), .val (.int mo), .val (.int (mo &&& (3 : Int32))), .val (.long (9223372036854775807 : Int64)), .second, .unset, .unset, .unset, .unset, .unset, .unset] [(.long (9223372036854775807 : Int64)), (.long (s_ &&& (9223372036854775807 : Int64)))]))
    refine OwnFin.step (fun tT kK => XS.lrem X0.here hx rfl (hb hby at_57) rfl (own_ne0 hpos2) kK) ?_
    show OwnFin p e below _ (s₁.setTop (mkF m 58 #[.val (.int li), .val (.long s_), .second, .val (.long e_), .second, .val (.int lk), .val (.int m_), .val (.int mo), .val (.int (mo &&& (3 : Int32))), .val (.long (9223372036854775807 : Int64)), .second, .unset, .unset, .unset, .unset, .unset, .unset] [(.long ((s_ &&& (9223372036854775807 : Int64)) - ((s_ &&& (9223372036854775807 : Int64)) / (9223372036854775807 : Int64)) * (9223372036854775807 : Int64)))]))
    refine OwnFin.step (fun tT kK => XS.lstore X0.here hx rfl (hb hby at_58) rfl (l' := #[.val (.int li), .val (.long s_), .second, .val (.long e_), .second, .val (.int lk), .val (.int m_), .val (.int mo), .val (.int (mo &&& (3 : Int32))), .val (.long (9223372036854775807 : Int64)), .second, .val (.long ((s_ &&& (9223372036854775807 : Int64)) - ((s_ &&& (9223372036854775807 : Int64)) / (9223372036854775807 : Int64)) * (9223372036854775807 : Int64))), .second, .unset, .unset, .unset, .unset]) rfl kK) ?_
    show OwnFin p e below _ (s₁.setTop (mkF m 60 #[.val (.int li), .val (.long s_), .second, .val (.long e_), .second, .val (.int lk), .val (.int m_), .val (.int mo), .val (.int (mo &&& (3 : Int32))), .val (.long (9223372036854775807 : Int64)), .second, .val (.long ((s_ &&& (9223372036854775807 : Int64)) - ((s_ &&& (9223372036854775807 : Int64)) / (9223372036854775807 : Int64)) * (9223372036854775807 : Int64))), .second, .unset, .unset, .unset, .unset] []))
    refine OwnFin.step (fun tT kK => XS.iload X0.here hx rfl (hb hby at_60) rfl kK) ?_
    show OwnFin p e below _ (s₁.setTop (mkF m 62 #[.val (.int li), .val (.long s_), .second, .val (.long e_), .second, .val (.int lk), .val (.int m_), .val (.int mo), .val (.int (mo &&& (3 : Int32))), .val (.long (9223372036854775807 : Int64)), .second, .val (.long ((s_ &&& (9223372036854775807 : Int64)) - ((s_ &&& (9223372036854775807 : Int64)) / (9223372036854775807 : Int64)) * (9223372036854775807 : Int64))), .second, .unset, .unset, .unset, .unset] [(.int m_)]))
    refine OwnFin.step (fun tT kK => X0.ldcI hx hown (mvT hZ (hw _ (List.mem_of_getElem? (i := 1) rfl))) (g := (mkF m 62 #[.val (.int li), .val (.long s_), .second, .val (.long e_), .second, .val (.int lk), .val (.int m_), .val (.int mo), .val (.int (mo &&& (3 : Int32))), .val (.long (9223372036854775807 : Int64)), .second, .val (.long ((s_ &&& (9223372036854775807 : Int64)) - ((s_ &&& (9223372036854775807 : Int64)) / (9223372036854775807 : Int64)) * (9223372036854775807 : Int64))), .second, .unset, .unset, .unset, .unset] [(.int m_)])) rfl (hb hby at_62) kK) ?_
    show OwnFin p e below _ (s₁.setTop (mkF m 64 #[.val (.int li), .val (.long s_), .second, .val (.long e_), .second, .val (.int lk), .val (.int m_), .val (.int mo), .val (.int (mo &&& (3 : Int32))), .val (.long (9223372036854775807 : Int64)), .second, .val (.long ((s_ &&& (9223372036854775807 : Int64)) - ((s_ &&& (9223372036854775807 : Int64)) / (9223372036854775807 : Int64)) * (9223372036854775807 : Int64))), .second, .unset, .unset, .unset, .unset] [(.int (65535 : Int32)), (.int m_)]))
    refine OwnFin.step (fun tT kK => XS.iand X0.here hx rfl (hb hby at_64) rfl kK) ?_
    show OwnFin p e below _ (s₁.setTop (mkF m 65 #[.val (.int li), .val (.long s_), .second, .val (.long e_), .second, .val (.int lk), .val (.int m_), .val (.int mo), .val (.int (mo &&& (3 : Int32))), .val (.long (9223372036854775807 : Int64)), .second, .val (.long ((s_ &&& (9223372036854775807 : Int64)) - ((s_ &&& (9223372036854775807 : Int64)) / (9223372036854775807 : Int64)) * (9223372036854775807 : Int64))), .second, .unset, .unset, .unset, .unset] [(.int (m_ &&& (65535 : Int32)))]))
    refine OwnFin.step (fun tT kK => XS.i2dS X0.here hx rfl (hb hby at_65) rfl rfl kK) ?_
    show OwnFin p e below _ (s₁.setTop (mkF m 66 #[.val (.int li), .val (.long s_), .second, .val (.long e_), .second, .val (.int lk), .val (.int m_), .val (.int mo), .val (.int (mo &&& (3 : Int32))), .val (.long (9223372036854775807 : Int64)), .second, .val (.long ((s_ &&& (9223372036854775807 : Int64)) - ((s_ &&& (9223372036854775807 : Int64)) / (9223372036854775807 : Int64)) * (9223372036854775807 : Int64))), .second, .unset, .unset, .unset, .unset] [(.double (FP.i2d (m_ &&& (65535 : Int32))))]))
    refine OwnFin.step (fun tT kK => XS.dstore X0.here hx rfl (hb hby at_66) rfl (l' := #[.val (.int li), .val (.long s_), .second, .val (.long e_), .second, .val (.int lk), .val (.int m_), .val (.int mo), .val (.int (mo &&& (3 : Int32))), .val (.long (9223372036854775807 : Int64)), .second, .val (.long ((s_ &&& (9223372036854775807 : Int64)) - ((s_ &&& (9223372036854775807 : Int64)) / (9223372036854775807 : Int64)) * (9223372036854775807 : Int64))), .second, .val (.double (FP.i2d (m_ &&& (65535 : Int32)))), .second, .unset, .unset]) rfl kK) ?_
    show OwnFin p e below _ (s₁.setTop (mkF m 68 #[.val (.int li), .val (.long s_), .second, .val (.long e_), .second, .val (.int lk), .val (.int m_), .val (.int mo), .val (.int (mo &&& (3 : Int32))), .val (.long (9223372036854775807 : Int64)), .second, .val (.long ((s_ &&& (9223372036854775807 : Int64)) - ((s_ &&& (9223372036854775807 : Int64)) / (9223372036854775807 : Int64)) * (9223372036854775807 : Int64))), .second, .val (.double (FP.i2d (m_ &&& (65535 : Int32)))), .second, .unset, .unset] []))
    obtain ⟨T3, h3, X3, e3, E3, A3, D3, -, st3⟩ := newO X0 hx hZ hown (hw _ (List.mem_of_getElem? (i := 2) rfl)) (hw _ (List.mem_of_getElem? (i := 3) rfl)) (hw _ (List.mem_of_getElem? (i := 4) rfl)) e0 (g := (mkF m 68 #[.val (.int li), .val (.long s_), .second, .val (.long e_), .second, .val (.int lk), .val (.int m_), .val (.int mo), .val (.int (mo &&& (3 : Int32))), .val (.long (9223372036854775807 : Int64)), .second, .val (.long ((s_ &&& (9223372036854775807 : Int64)) - ((s_ &&& (9223372036854775807 : Int64)) / (9223372036854775807 : Int64)) * (9223372036854775807 : Int64))), .second, .val (.double (FP.i2d (m_ &&& (65535 : Int32)))), .second, .unset, .unset] [])) rfl (hb hby at_68) (by decide) (by decide)
    obtain ⟨b3, g3⟩ : ∃ z, z = h0.size := ⟨_, rfl⟩
    rw [← g3] at A3 D3 st3
    refine OwnFin.step st3 ?_
    have Fz4 : Fld Z h3 b3 "com/example/bogong/bogong/events/RoadEvent" "line" "I" (.int (0 : Int32)) := D3 (Or.inr (hw _ (List.mem_of_getElem? (i := 17) rfl))) (ty := .int) (by decide)
    have Fz5 : Fld Z h3 b3 "com/example/bogong/bogong/events/RoadEvent" "startTick" "J" (.long (0 : Int64)) := D3 (Or.inr (hw _ (List.mem_of_getElem? (i := 19) rfl))) (ty := .long) (by decide)
    have Fz6 : Fld Z h3 b3 "com/example/bogong/bogong/events/RoadEvent" "endTick" "J" (.long (0 : Int64)) := D3 (Or.inr (hw _ (List.mem_of_getElem? (i := 21) rfl))) (ty := .long) (by decide)
    have Fz7 : Fld Z h3 b3 "com/example/bogong/bogong/events/RoadEvent" "link" "I" (.int (0 : Int32)) := D3 (Or.inr (hw _ (List.mem_of_getElem? (i := 23) rfl))) (ty := .int) (by decide)
    have Fz8 : Fld Z h3 b3 "com/example/bogong/bogong/events/RoadEvent" "minutes" "D" (.double (0 : UInt64)) := D3 (Or.inr (hw _ (List.mem_of_getElem? (i := 25) rfl))) (ty := .double) (by decide)
    show OwnFin p e below _ (T3.setTop (mkF m 71 #[.val (.int li), .val (.long s_), .second, .val (.long e_), .second, .val (.int lk), .val (.int m_), .val (.int mo), .val (.int (mo &&& (3 : Int32))), .val (.long (9223372036854775807 : Int64)), .second, .val (.long ((s_ &&& (9223372036854775807 : Int64)) - ((s_ &&& (9223372036854775807 : Int64)) / (9223372036854775807 : Int64)) * (9223372036854775807 : Int64))), .second, .val (.double (FP.i2d (m_ &&& (65535 : Int32)))), .second, .unset, .unset] [(.ref b3)]))
    refine OwnFin.step (fun tT kK => XS.dup X3.here hx rfl (hb hby at_71) rfl rfl kK) ?_
    show OwnFin p e below _ (T3.setTop (mkF m 72 #[.val (.int li), .val (.long s_), .second, .val (.long e_), .second, .val (.int lk), .val (.int m_), .val (.int mo), .val (.int (mo &&& (3 : Int32))), .val (.long (9223372036854775807 : Int64)), .second, .val (.long ((s_ &&& (9223372036854775807 : Int64)) - ((s_ &&& (9223372036854775807 : Int64)) / (9223372036854775807 : Int64)) * (9223372036854775807 : Int64))), .second, .val (.double (FP.i2d (m_ &&& (65535 : Int32)))), .second, .unset, .unset] [(.ref b3), (.ref b3)]))
    refine OwnFin.step (fun tT kK => XS.iloadN X3.here hx rfl (hb hby at_72) rfl kK) ?_
    show OwnFin p e below _ (T3.setTop (mkF m 73 #[.val (.int li), .val (.long s_), .second, .val (.long e_), .second, .val (.int lk), .val (.int m_), .val (.int mo), .val (.int (mo &&& (3 : Int32))), .val (.long (9223372036854775807 : Int64)), .second, .val (.long ((s_ &&& (9223372036854775807 : Int64)) - ((s_ &&& (9223372036854775807 : Int64)) / (9223372036854775807 : Int64)) * (9223372036854775807 : Int64))), .second, .val (.double (FP.i2d (m_ &&& (65535 : Int32)))), .second, .unset, .unset] [(.int li), (.ref b3), (.ref b3)]))
    refine OwnFin.step (fun tT kK => XS.lload X3.here hx rfl (hb hby at_73) rfl kK) ?_
    show OwnFin p e below _ (T3.setTop (mkF m 75 #[.val (.int li), .val (.long s_), .second, .val (.long e_), .second, .val (.int lk), .val (.int m_), .val (.int mo), .val (.int (mo &&& (3 : Int32))), .val (.long (9223372036854775807 : Int64)), .second, .val (.long ((s_ &&& (9223372036854775807 : Int64)) - ((s_ &&& (9223372036854775807 : Int64)) / (9223372036854775807 : Int64)) * (9223372036854775807 : Int64))), .second, .val (.double (FP.i2d (m_ &&& (65535 : Int32)))), .second, .unset, .unset] [(.long ((s_ &&& (9223372036854775807 : Int64)) - ((s_ &&& (9223372036854775807 : Int64)) / (9223372036854775807 : Int64)) * (9223372036854775807 : Int64))), (.int li), (.ref b3), (.ref b3)]))
    refine OwnFin.step (fun tT kK => XS.lload X3.here hx rfl (hb hby at_75) rfl kK) ?_
    show OwnFin p e below _ (T3.setTop (mkF m 77 #[.val (.int li), .val (.long s_), .second, .val (.long e_), .second, .val (.int lk), .val (.int m_), .val (.int mo), .val (.int (mo &&& (3 : Int32))), .val (.long (9223372036854775807 : Int64)), .second, .val (.long ((s_ &&& (9223372036854775807 : Int64)) - ((s_ &&& (9223372036854775807 : Int64)) / (9223372036854775807 : Int64)) * (9223372036854775807 : Int64))), .second, .val (.double (FP.i2d (m_ &&& (65535 : Int32)))), .second, .unset, .unset] [(.long (9223372036854775807 : Int64)), (.long ((s_ &&& (9223372036854775807 : Int64)) - ((s_ &&& (9223372036854775807 : Int64)) / (9223372036854775807 : Int64)) * (9223372036854775807 : Int64))), (.int li), (.ref b3), (.ref b3)]))
    refine OwnFin.step (fun tT kK => XS.iload X3.here hx rfl (hb hby at_77) rfl kK) ?_
    show OwnFin p e below _ (T3.setTop (mkF m 79 #[.val (.int li), .val (.long s_), .second, .val (.long e_), .second, .val (.int lk), .val (.int m_), .val (.int mo), .val (.int (mo &&& (3 : Int32))), .val (.long (9223372036854775807 : Int64)), .second, .val (.long ((s_ &&& (9223372036854775807 : Int64)) - ((s_ &&& (9223372036854775807 : Int64)) / (9223372036854775807 : Int64)) * (9223372036854775807 : Int64))), .second, .val (.double (FP.i2d (m_ &&& (65535 : Int32)))), .second, .unset, .unset] [(.int lk), (.long (9223372036854775807 : Int64)), (.long ((s_ &&& (9223372036854775807 : Int64)) - ((s_ &&& (9223372036854775807 : Int64)) / (9223372036854775807 : Int64)) * (9223372036854775807 : Int64))), (.int li), (.ref b3), (.ref b3)]))
    refine OwnFin.step (fun tT kK => XS.dload X3.here hx rfl (hb hby at_79) rfl kK) ?_
    show OwnFin p e below _ (T3.setTop (mkF m 81 #[.val (.int li), .val (.long s_), .second, .val (.long e_), .second, .val (.int lk), .val (.int m_), .val (.int mo), .val (.int (mo &&& (3 : Int32))), .val (.long (9223372036854775807 : Int64)), .second, .val (.long ((s_ &&& (9223372036854775807 : Int64)) - ((s_ &&& (9223372036854775807 : Int64)) / (9223372036854775807 : Int64)) * (9223372036854775807 : Int64))), .second, .val (.double (FP.i2d (m_ &&& (65535 : Int32)))), .second, .unset, .unset] [(.double (FP.i2d (m_ &&& (65535 : Int32)))), (.int lk), (.long (9223372036854775807 : Int64)), (.long ((s_ &&& (9223372036854775807 : Int64)) - ((s_ &&& (9223372036854775807 : Int64)) / (9223372036854775807 : Int64)) * (9223372036854775807 : Int64))), (.int li), (.ref b3), (.ref b3)]))
    obtain ⟨_, _, ⟨T9, L9, k9, n9⟩, -, X9, ⟨Lc9, hQ9, l9, y9, z9⟩, st9⟩ := X3.specialBack hx (y := (⟨"com/example/bogong/bogong/events/RoadEvent", "<init>", "(IJJID)V"⟩ : MethodName)) rfl hown (mvT hZ (hw _ (List.mem_of_getElem? (i := 5) rfl))) (mvT hZ (hw _ (List.mem_of_getElem? (i := 6) rfl))) (mvT hZ (hw _ (List.mem_of_getElem? (i := 7) rfl))) (by decide) (backOf (W := 1) (rm2 l Z a0 hw [] b3 li ((s_ &&& (9223372036854775807 : Int64)) - ((s_ &&& (9223372036854775807 : Int64)) / (9223372036854775807 : Int64)) * (9223372036854775807 : Int64)) (9223372036854775807 : Int64) lk (FP.i2d (m_ &&& (65535 : Int32))) h3 n0 (Nat.le_trans Z0 E3.1) A3 Fz4 Fz5 Fz6 Fz7 Fz8 (Nat.le_trans Z0 (Nat.le_of_eq g3.symm)) ((own_rem (own_mask _) hpos2).1) ((own_rem (own_mask _) hpos2).2) (own_dge (own_m16 _))) hZ (hw _ (List.mem_of_getElem? (i := 7) rfl)) (hw _ (List.mem_of_getElem? (i := 4) rfl)) (by decide) (by decide)) (g := (mkF m 81 #[.val (.int li), .val (.long s_), .second, .val (.long e_), .second, .val (.int lk), .val (.int m_), .val (.int mo), .val (.int (mo &&& (3 : Int32))), .val (.long (9223372036854775807 : Int64)), .second, .val (.long ((s_ &&& (9223372036854775807 : Int64)) - ((s_ &&& (9223372036854775807 : Int64)) / (9223372036854775807 : Int64)) * (9223372036854775807 : Int64))), .second, .val (.double (FP.i2d (m_ &&& (65535 : Int32)))), .second, .unset, .unset] [(.double (FP.i2d (m_ &&& (65535 : Int32)))), (.int lk), (.long (9223372036854775807 : Int64)), (.long ((s_ &&& (9223372036854775807 : Int64)) - ((s_ &&& (9223372036854775807 : Int64)) / (9223372036854775807 : Int64)) * (9223372036854775807 : Int64))), (.int li), (.ref b3), (.ref b3)])) rfl (by rw [hml]; rfl) (Steps.refl _) (a := b3) (argsL := [(.int li), (.long ((s_ &&& (9223372036854775807 : Int64)) - ((s_ &&& (9223372036854775807 : Int64)) / (9223372036854775807 : Int64)) * (9223372036854775807 : Int64))), (.long (9223372036854775807 : Int64)), (.int lk), (.double (FP.i2d (m_ &&& (65535 : Int32))))]) (rest := [(.ref b3)]) (lenOf pd_46 rfl) rfl (by show 2 * 0 + _ ≤ _; exact Nat.le_of_eq rfl) (hb hby at_81) (fun _ _ => ⟨rfl, e3, (by decide : 1 + 0 ≤ _), (by decide : 5 + 0 ≤ _)⟩)
    dsimp only [Pt.U, Pt.locs, Pt.cells, Pt.slots] at X9 l9 y9 z9 st9 hQ9
    subst l9 y9 z9
    obtain ⟨rfl, N9q, K9, P9_0, P9_1, P9_2, P9_3, P9_4, P9_5⟩ := hQ9
    have N9 := Fr.app N0 N9q
    refine OwnFin.step (fun tT kK => st9.trans kK) ?_
    show OwnFin p e below _ (T9.setTop (mkF m 84 #[.val (.int li), .val (.long s_), .second, .val (.long e_), .second, .val (.int lk), .val (.int m_), .val (.int mo), .val (.int (mo &&& (3 : Int32))), .val (.long (9223372036854775807 : Int64)), .second, .val (.long ((s_ &&& (9223372036854775807 : Int64)) - ((s_ &&& (9223372036854775807 : Int64)) / (9223372036854775807 : Int64)) * (9223372036854775807 : Int64))), .second, .val (.double (FP.i2d (m_ &&& (65535 : Int32)))), .second, .unset, .unset] [(.ref b3)]))
    refine OwnFin.step (fun tT kK => XS.astore X9.here hx rfl (hb hby at_84) rfl rfl (l' := #[.val (.int li), .val (.long s_), .second, .val (.long e_), .second, .val (.int lk), .val (.int m_), .val (.int mo), .val (.int (mo &&& (3 : Int32))), .val (.long (9223372036854775807 : Int64)), .second, .val (.long ((s_ &&& (9223372036854775807 : Int64)) - ((s_ &&& (9223372036854775807 : Int64)) / (9223372036854775807 : Int64)) * (9223372036854775807 : Int64))), .second, .val (.double (FP.i2d (m_ &&& (65535 : Int32)))), .second, .val (.ref b3), .unset]) rfl kK) ?_
    show OwnFin p e below _ (T9.setTop (mkF m 86 #[.val (.int li), .val (.long s_), .second, .val (.long e_), .second, .val (.int lk), .val (.int m_), .val (.int mo), .val (.int (mo &&& (3 : Int32))), .val (.long (9223372036854775807 : Int64)), .second, .val (.long ((s_ &&& (9223372036854775807 : Int64)) - ((s_ &&& (9223372036854775807 : Int64)) / (9223372036854775807 : Int64)) * (9223372036854775807 : Int64))), .second, .val (.double (FP.i2d (m_ &&& (65535 : Int32)))), .second, .val (.ref b3), .unset] []))
    refine OwnFin.step (fun tT kK => XS.lload X9.here hx rfl (hb hby at_86) rfl kK) ?_
    show OwnFin p e below _ (T9.setTop (mkF m 88 #[.val (.int li), .val (.long s_), .second, .val (.long e_), .second, .val (.int lk), .val (.int m_), .val (.int mo), .val (.int (mo &&& (3 : Int32))), .val (.long (9223372036854775807 : Int64)), .second, .val (.long ((s_ &&& (9223372036854775807 : Int64)) - ((s_ &&& (9223372036854775807 : Int64)) / (9223372036854775807 : Int64)) * (9223372036854775807 : Int64))), .second, .val (.double (FP.i2d (m_ &&& (65535 : Int32)))), .second, .val (.ref b3), .unset] [(.long (9223372036854775807 : Int64))]))
    refine OwnFin.step (fun tT kK => X9.ldc2J hx hown (mvT hZ (hw _ (List.mem_of_getElem? (i := 0) rfl))) (g := (mkF m 88 #[.val (.int li), .val (.long s_), .second, .val (.long e_), .second, .val (.int lk), .val (.int m_), .val (.int mo), .val (.int (mo &&& (3 : Int32))), .val (.long (9223372036854775807 : Int64)), .second, .val (.long ((s_ &&& (9223372036854775807 : Int64)) - ((s_ &&& (9223372036854775807 : Int64)) / (9223372036854775807 : Int64)) * (9223372036854775807 : Int64))), .second, .val (.double (FP.i2d (m_ &&& (65535 : Int32)))), .second, .val (.ref b3), .unset] [(.long (9223372036854775807 : Int64))])) rfl (hb hby at_88) kK) ?_
    show OwnFin p e below _ (T9.setTop (mkF m 91 #[.val (.int li), .val (.long s_), .second, .val (.long e_), .second, .val (.int lk), .val (.int m_), .val (.int mo), .val (.int (mo &&& (3 : Int32))), .val (.long (9223372036854775807 : Int64)), .second, .val (.long ((s_ &&& (9223372036854775807 : Int64)) - ((s_ &&& (9223372036854775807 : Int64)) / (9223372036854775807 : Int64)) * (9223372036854775807 : Int64))), .second, .val (.double (FP.i2d (m_ &&& (65535 : Int32)))), .second, .val (.ref b3), .unset] [(.long (9223372036854775807 : Int64)), (.long (9223372036854775807 : Int64))]))
    refine OwnFin.step (fun tT kK => XS.lcmp X9.here hx rfl (hb hby at_91) rfl kK) ?_
    show OwnFin p e below _ (T9.setTop (mkF m 92 #[.val (.int li), .val (.long s_), .second, .val (.long e_), .second, .val (.int lk), .val (.int m_), .val (.int mo), .val (.int (mo &&& (3 : Int32))), .val (.long (9223372036854775807 : Int64)), .second, .val (.long ((s_ &&& (9223372036854775807 : Int64)) - ((s_ &&& (9223372036854775807 : Int64)) / (9223372036854775807 : Int64)) * (9223372036854775807 : Int64))), .second, .val (.double (FP.i2d (m_ &&& (65535 : Int32)))), .second, .val (.ref b3), .unset] [(.int (lcmpW (9223372036854775807 : Int64) (9223372036854775807 : Int64)))]))
    refine OwnFin.step (fun tT kK => XS.ifYes X9.here hx rfl (pc0 := 92) (pc' := 99) rfl (hb hby at_92) rfl ((if0 _ _).trans (flt (by decide : ¬ ((lcmpW (9223372036854775807 : Int64) (9223372036854775807 : Int64)) < (0 : Int32)))).2.1) (by decide) (by decide) kK) ?_
    show OwnFin p e below _ (T9.setTop (mkF m 99 #[.val (.int li), .val (.long s_), .second, .val (.long e_), .second, .val (.int lk), .val (.int m_), .val (.int mo), .val (.int (mo &&& (3 : Int32))), .val (.long (9223372036854775807 : Int64)), .second, .val (.long ((s_ &&& (9223372036854775807 : Int64)) - ((s_ &&& (9223372036854775807 : Int64)) / (9223372036854775807 : Int64)) * (9223372036854775807 : Int64))), .second, .val (.double (FP.i2d (m_ &&& (65535 : Int32)))), .second, .val (.ref b3), .unset] []))
    refine OwnFin.step (fun tT kK => XS.iconst X9.here hx rfl (hb hby at_99) kK) ?_
    show OwnFin p e below _ (T9.setTop (mkF m 100 #[.val (.int li), .val (.long s_), .second, .val (.long e_), .second, .val (.int lk), .val (.int m_), .val (.int mo), .val (.int (mo &&& (3 : Int32))), .val (.long (9223372036854775807 : Int64)), .second, .val (.long ((s_ &&& (9223372036854775807 : Int64)) - ((s_ &&& (9223372036854775807 : Int64)) / (9223372036854775807 : Int64)) * (9223372036854775807 : Int64))), .second, .val (.double (FP.i2d (m_ &&& (65535 : Int32)))), .second, .val (.ref b3), .unset] [(.int (0 : Int32))]))
    refine OwnFin.step (fun tT kK => XS.istore X9.here hx rfl (hb hby at_100) rfl (l' := #[.val (.int li), .val (.long s_), .second, .val (.long e_), .second, .val (.int lk), .val (.int m_), .val (.int mo), .val (.int (mo &&& (3 : Int32))), .val (.long (9223372036854775807 : Int64)), .second, .val (.long ((s_ &&& (9223372036854775807 : Int64)) - ((s_ &&& (9223372036854775807 : Int64)) / (9223372036854775807 : Int64)) * (9223372036854775807 : Int64))), .second, .val (.double (FP.i2d (m_ &&& (65535 : Int32)))), .second, .val (.ref b3), .val (.int (0 : Int32))]) rfl kK) ?_
    show OwnFin p e below _ (T9.setTop (mkF m 102 #[.val (.int li), .val (.long s_), .second, .val (.long e_), .second, .val (.int lk), .val (.int m_), .val (.int mo), .val (.int (mo &&& (3 : Int32))), .val (.long (9223372036854775807 : Int64)), .second, .val (.long ((s_ &&& (9223372036854775807 : Int64)) - ((s_ &&& (9223372036854775807 : Int64)) / (9223372036854775807 : Int64)) * (9223372036854775807 : Int64))), .second, .val (.double (FP.i2d (m_ &&& (65535 : Int32)))), .second, .val (.ref b3), .val (.int (0 : Int32))] []))
    refine OwnFin.step (fun tT kK => XS.aload X9.here hx rfl (hb hby at_102) rfl rfl kK) ?_
    show OwnFin p e below _ (T9.setTop (mkF m 104 #[.val (.int li), .val (.long s_), .second, .val (.long e_), .second, .val (.int lk), .val (.int m_), .val (.int mo), .val (.int (mo &&& (3 : Int32))), .val (.long (9223372036854775807 : Int64)), .second, .val (.long ((s_ &&& (9223372036854775807 : Int64)) - ((s_ &&& (9223372036854775807 : Int64)) / (9223372036854775807 : Int64)) * (9223372036854775807 : Int64))), .second, .val (.double (FP.i2d (m_ &&& (65535 : Int32)))), .second, .val (.ref b3), .val (.int (0 : Int32))] [(.ref b3)]))
    obtain ⟨cq10, kq10, q10a, q10b, q10c⟩ := isOf hZ rfl P9_0
    obtain ⟨_, _, ⟨T10, L10, k10, n10⟩, -, X10, ⟨Lc10, hQ10, l10, y10, z10⟩, st10⟩ := X9.virtualBack hx (y := (⟨"com/example/bogong/bogong/events/RoadEvent", "ends", "()Z"⟩ : MethodName)) (z := (⟨"com/example/bogong/bogong/events/RoadEvent", "ends", "()Z"⟩ : MethodName)) hown (mvT hZ (hw _ (List.mem_of_getElem? (i := 26) rfl))) (mvT hZ (hw _ (List.mem_of_getElem? (i := 27) rfl))) (notFace_of_selects (args := #[]) (mvT hZ (hw _ (List.mem_of_getElem? (i := 29) rfl)))) (mvT hZ (hw _ (List.mem_of_getElem? (i := 29) rfl))) (mvT hZ (hw _ (List.mem_of_getElem? (i := 28) rfl))) (by decide) (backOf (W := 0) (rm3 l Z a0 hw [] b3 (9223372036854775807 : Int64) T9.heap n0 (Nat.le_trans (Nat.le_trans Z0 E3.1) K9.1) P9_3) hZ (hw _ (List.mem_of_getElem? (i := 30) rfl)) (hw _ (List.mem_of_getElem? (i := 4) rfl)) (by decide) (by decide)) q10a q10c (g := (mkF m 104 #[.val (.int li), .val (.long s_), .second, .val (.long e_), .second, .val (.int lk), .val (.int m_), .val (.int mo), .val (.int (mo &&& (3 : Int32))), .val (.long (9223372036854775807 : Int64)), .second, .val (.long ((s_ &&& (9223372036854775807 : Int64)) - ((s_ &&& (9223372036854775807 : Int64)) / (9223372036854775807 : Int64)) * (9223372036854775807 : Int64))), .second, .val (.double (FP.i2d (m_ &&& (65535 : Int32)))), .second, .val (.ref b3), .val (.int (0 : Int32))] [(.ref b3)])) rfl (by rw [hml]; rfl) (Steps.refl _) (argsL := []) (rest := []) (lenOf pd_47 rfl) rfl (by show 2 * 0 + _ ≤ _; exact Nat.le_of_eq rfl) (hb hby at_104) (fun _ _ => ⟨rfl, rfl, (by decide : 1 + 0 ≤ _), (by decide : 5 + 0 ≤ _)⟩)
    dsimp only [Pt.U, Pt.locs, Pt.cells, Pt.slots] at X10 l10 y10 z10 st10 hQ10
    subst l10 y10 z10
    obtain ⟨rfl, N10q, e10⟩ := hQ10
    have N10 := Fr.app N9 N10q
    refine OwnFin.step (fun tT kK => st10.trans kK) ?_
    show OwnFin p e below _ (T10.setTop (mkF m 107 #[.val (.int li), .val (.long s_), .second, .val (.long e_), .second, .val (.int lk), .val (.int m_), .val (.int mo), .val (.int (mo &&& (3 : Int32))), .val (.long (9223372036854775807 : Int64)), .second, .val (.long ((s_ &&& (9223372036854775807 : Int64)) - ((s_ &&& (9223372036854775807 : Int64)) / (9223372036854775807 : Int64)) * (9223372036854775807 : Int64))), .second, .val (.double (FP.i2d (m_ &&& (65535 : Int32)))), .second, .val (.ref b3), .val (.int (0 : Int32))] [(.int (if lcmpW (9223372036854775807 : Int64) (9223372036854775807 : Int64) = (0 : Int32) then 0 else 1))]))
    rw [show (if lcmpW (9223372036854775807 : Int64) (9223372036854775807 : Int64) = (0 : Int32) then (0 : Int32) else 1) = 0 from if_pos (by decide)]
    show OwnFin p e below _ (T10.setTop (mkF m 107 #[.val (.int li), .val (.long s_), .second, .val (.long e_), .second, .val (.int lk), .val (.int m_), .val (.int mo), .val (.int (mo &&& (3 : Int32))), .val (.long (9223372036854775807 : Int64)), .second, .val (.long ((s_ &&& (9223372036854775807 : Int64)) - ((s_ &&& (9223372036854775807 : Int64)) / (9223372036854775807 : Int64)) * (9223372036854775807 : Int64))), .second, .val (.double (FP.i2d (m_ &&& (65535 : Int32)))), .second, .val (.ref b3), .val (.int (0 : Int32))] [(.int (0 : Int32))]))
    refine OwnFin.step (fun tT kK => XS.iload X10.here hx rfl (hb hby at_107) rfl kK) ?_
    show OwnFin p e below _ (T10.setTop (mkF m 109 #[.val (.int li), .val (.long s_), .second, .val (.long e_), .second, .val (.int lk), .val (.int m_), .val (.int mo), .val (.int (mo &&& (3 : Int32))), .val (.long (9223372036854775807 : Int64)), .second, .val (.long ((s_ &&& (9223372036854775807 : Int64)) - ((s_ &&& (9223372036854775807 : Int64)) / (9223372036854775807 : Int64)) * (9223372036854775807 : Int64))), .second, .val (.double (FP.i2d (m_ &&& (65535 : Int32)))), .second, .val (.ref b3), .val (.int (0 : Int32))] [(.int (0 : Int32)), (.int (0 : Int32))]))
    refine OwnFin.step (fun tT kK => XS.icmpNo X10.here hx rfl (hb hby at_109) rfl (teq (rfl : (0 : Int32) = (0 : Int32))).2 kK) ?_
    show OwnFin p e below _ (T10.setTop (mkF m 112 #[.val (.int li), .val (.long s_), .second, .val (.long e_), .second, .val (.int lk), .val (.int m_), .val (.int mo), .val (.int (mo &&& (3 : Int32))), .val (.long (9223372036854775807 : Int64)), .second, .val (.long ((s_ &&& (9223372036854775807 : Int64)) - ((s_ &&& (9223372036854775807 : Int64)) / (9223372036854775807 : Int64)) * (9223372036854775807 : Int64))), .second, .val (.double (FP.i2d (m_ &&& (65535 : Int32)))), .second, .val (.ref b3), .val (.int (0 : Int32))] []))
    refine OwnFin.step (fun tT kK => XS.iconst X10.here hx rfl (hb hby at_112) kK) ?_
    show OwnFin p e below _ (T10.setTop (mkF m 113 #[.val (.int li), .val (.long s_), .second, .val (.long e_), .second, .val (.int lk), .val (.int m_), .val (.int mo), .val (.int (mo &&& (3 : Int32))), .val (.long (9223372036854775807 : Int64)), .second, .val (.long ((s_ &&& (9223372036854775807 : Int64)) - ((s_ &&& (9223372036854775807 : Int64)) / (9223372036854775807 : Int64)) * (9223372036854775807 : Int64))), .second, .val (.double (FP.i2d (m_ &&& (65535 : Int32)))), .second, .val (.ref b3), .val (.int (0 : Int32))] [(.int (1 : Int32))]))
    refine OwnFin.step (fun tT kK => XS.goto X10.here hx rfl (pc0 := 113) (pc' := 117) rfl (hb hby at_113) (by decide) (by decide) kK) ?_
    show OwnFin p e below _ (T10.setTop (mkF m 117 #[.val (.int li), .val (.long s_), .second, .val (.long e_), .second, .val (.int lk), .val (.int m_), .val (.int mo), .val (.int (mo &&& (3 : Int32))), .val (.long (9223372036854775807 : Int64)), .second, .val (.long ((s_ &&& (9223372036854775807 : Int64)) - ((s_ &&& (9223372036854775807 : Int64)) / (9223372036854775807 : Int64)) * (9223372036854775807 : Int64))), .second, .val (.double (FP.i2d (m_ &&& (65535 : Int32)))), .second, .val (.ref b3), .val (.int (0 : Int32))] [(.int (1 : Int32))]))
    obtain ⟨fs11, hr11, hrun11, hended11, hW11, hsame11⟩ := X10.leave (v := (some (.int (1 : Int32)))) (fun h => by rw [Bd.returns] at h; cases h)
    refine ⟨_, _, retN X10 hx (t := .boolean) Bd.returns (by simp) (hb hby at_117) hr11, hrun11, hended11, _, _, rfl, ?_, ⟨_, rfl⟩, hW11, hsame11.mono (by decide) (by decide)⟩
    show Q0 Z li s_ e_ lk m_ mo h0 n0 _ T10.heap _
    rw [e10]
    exact ⟨rfl, N10, (((Keep.refl h0 []).ext E3).trans K9 (allS (P := fun x => x ∈ [] ∨ h0.size ≤ x) (Or.inr (Nat.le_trans (Nat.le_refl _) (Nat.le_of_eq g3.symm))) all0))⟩
  · skip
    refine OwnFin.step (fun tT kK => XS.ifYes X0.here hx rfl (pc0 := 8) (pc' := 19) rfl (hb hby at_8) rfl ((if0 _ _).trans (feq (hc1 : ¬ ((mo &&& (3 : Int32)) = (0 : Int32)))).2) (by decide) (by decide) kK) ?_
    show OwnFin p e below _ (s₁.setTop (mkF m 19 #[.val (.int li), .val (.long s_), .second, .val (.long e_), .second, .val (.int lk), .val (.int m_), .val (.int mo), .val (.int (mo &&& (3 : Int32))), .unset, .unset, .unset, .unset, .unset, .unset, .unset, .unset] []))
    refine OwnFin.step (fun tT kK => XS.iload X0.here hx rfl (hb hby at_19) rfl kK) ?_
    show OwnFin p e below _ (s₁.setTop (mkF m 21 #[.val (.int li), .val (.long s_), .second, .val (.long e_), .second, .val (.int lk), .val (.int m_), .val (.int mo), .val (.int (mo &&& (3 : Int32))), .unset, .unset, .unset, .unset, .unset, .unset, .unset, .unset] [(.int (mo &&& (3 : Int32)))]))
    refine OwnFin.step (fun tT kK => XS.iconst X0.here hx rfl (hb hby at_21) kK) ?_
    show OwnFin p e below _ (s₁.setTop (mkF m 22 #[.val (.int li), .val (.long s_), .second, .val (.long e_), .second, .val (.int lk), .val (.int m_), .val (.int mo), .val (.int (mo &&& (3 : Int32))), .unset, .unset, .unset, .unset, .unset, .unset, .unset, .unset] [(.int (1 : Int32)), (.int (mo &&& (3 : Int32)))]))
    by_cases hc12 : (mo &&& (3 : Int32)) = (1 : Int32)
    · skip
      refine OwnFin.step (fun tT kK => XS.icmpNo X0.here hx rfl (hb hby at_22) rfl (teq (hc12 : (mo &&& (3 : Int32)) = (1 : Int32))).2 kK) ?_
      show OwnFin p e below _ (s₁.setTop (mkF m 25 #[.val (.int li), .val (.long s_), .second, .val (.long e_), .second, .val (.int lk), .val (.int m_), .val (.int mo), .val (.int (mo &&& (3 : Int32))), .unset, .unset, .unset, .unset, .unset, .unset, .unset, .unset] []))
      refine OwnFin.step (fun tT kK => X0.ldc2J hx hown (mvT hZ (hw _ (List.mem_of_getElem? (i := 32) rfl))) (g := (mkF m 25 #[.val (.int li), .val (.long s_), .second, .val (.long e_), .second, .val (.int lk), .val (.int m_), .val (.int mo), .val (.int (mo &&& (3 : Int32))), .unset, .unset, .unset, .unset, .unset, .unset, .unset, .unset] [])) rfl (hb hby at_25) kK) ?_
      show OwnFin p e below _ (s₁.setTop (mkF m 28 #[.val (.int li), .val (.long s_), .second, .val (.long e_), .second, .val (.int lk), .val (.int m_), .val (.int mo), .val (.int (mo &&& (3 : Int32))), .unset, .unset, .unset, .unset, .unset, .unset, .unset, .unset] [(.long (9223372036854775806 : Int64))]))
      refine OwnFin.step (fun tT kK => XS.lstore X0.here hx rfl (hb hby at_28) rfl (l' := #[.val (.int li), .val (.long s_), .second, .val (.long e_), .second, .val (.int lk), .val (.int m_), .val (.int mo), .val (.int (mo &&& (3 : Int32))), .val (.long (9223372036854775806 : Int64)), .second, .unset, .unset, .unset, .unset, .unset, .unset]) rfl kK) ?_
      show OwnFin p e below _ (s₁.setTop (mkF m 30 #[.val (.int li), .val (.long s_), .second, .val (.long e_), .second, .val (.int lk), .val (.int m_), .val (.int mo), .val (.int (mo &&& (3 : Int32))), .val (.long (9223372036854775806 : Int64)), .second, .unset, .unset, .unset, .unset, .unset, .unset] []))
      refine OwnFin.step (fun tT kK => XS.goto X0.here hx rfl (pc0 := 30) (pc' := 50) rfl (hb hby at_30) (by decide) (by decide) kK) ?_
      show OwnFin p e below _ (s₁.setTop (mkF m 50 #[.val (.int li), .val (.long s_), .second, .val (.long e_), .second, .val (.int lk), .val (.int m_), .val (.int mo), .val (.int (mo &&& (3 : Int32))), .val (.long (9223372036854775806 : Int64)), .second, .unset, .unset, .unset, .unset, .unset, .unset] []))
      have hpos13 : 0 < ((9223372036854775806 : Int64)).toInt := by decide
      refine OwnFin.step (fun tT kK => XS.lloadN X0.here hx rfl (hb hby at_50) rfl kK) ?_
      show OwnFin p e below _ (s₁.setTop (mkF m 51 #[.val (.int li), .val (.long s_), .second, .val (.long e_), .second, .val (.int lk), .val (.int m_), .val (.int mo), .val (.int (mo &&& (3 : Int32))), .val (.long (9223372036854775806 : Int64)), .second, .unset, .unset, .unset, .unset, .unset, .unset] [(.long s_)]))
      refine OwnFin.step (fun tT kK => X0.ldc2J hx hown (mvT hZ (hw _ (List.mem_of_getElem? (i := 0) rfl))) (g := (mkF m 51 #[.val (.int li), .val (.long s_), .second, .val (.long e_), .second, .val (.int lk), .val (.int m_), .val (.int mo), .val (.int (mo &&& (3 : Int32))), .val (.long (9223372036854775806 : Int64)), .second, .unset, .unset, .unset, .unset, .unset, .unset] [(.long s_)])) rfl (hb hby at_51) kK) ?_
      show OwnFin p e below _ (s₁.setTop (mkF m 54 #[.val (.int li), .val (.long s_), .second, .val (.long e_), .second, .val (.int lk), .val (.int m_), .val (.int mo), .val (.int (mo &&& (3 : Int32))), .val (.long (9223372036854775806 : Int64)), .second, .unset, .unset, .unset, .unset, .unset, .unset] [(.long (9223372036854775807 : Int64)), (.long s_)]))
      refine OwnFin.step (fun tT kK => XS.land X0.here hx rfl (hb hby at_54) rfl kK) ?_
      show OwnFin p e below _ (s₁.setTop (mkF m 55 #[.val (.int li), .val (.long s_), .second, .val (.long e_), .second, .val (.int lk), .val (.int m_), .val (.int mo), .val (.int (mo &&& (3 : Int32))), .val (.long (9223372036854775806 : Int64)), .second, .unset, .unset, .unset, .unset, .unset, .unset] [(.long (s_ &&& (9223372036854775807 : Int64)))]))
      refine OwnFin.step (fun tT kK => XS.lload X0.here hx rfl (hb hby at_55) rfl kK) ?_
      show OwnFin p e below _ (s₁.setTop (mkF m 57 #[.val (.int li), .val (.long s_), .second, .val (.long e_), .second, .val (.int lk), .val (.int m_), .val (.int mo), .val (.int (mo &&& (3 : Int32))), .val (.long (9223372036854775806 : Int64)), .second, .unset, .unset, .unset, .unset, .unset, .unset] [(.long (9223372036854775806 : Int64)), (.long (s_ &&& (9223372036854775807 : Int64)))]))
      refine OwnFin.step (fun tT kK => XS.lrem X0.here hx rfl (hb hby at_57) rfl (own_ne0 hpos13) kK) ?_
      show OwnFin p e below _ (s₁.setTop (mkF m 58 #[.val (.int li), .val (.long s_), .second, .val (.long e_), .second, .val (.int lk), .val (.int m_), .val (.int mo), .val (.int (mo &&& (3 : Int32))), .val (.long (9223372036854775806 : Int64)), .second, .unset, .unset, .unset, .unset, .unset, .unset] [(.long ((s_ &&& (9223372036854775807 : Int64)) - ((s_ &&& (9223372036854775807 : Int64)) / (9223372036854775806 : Int64)) * (9223372036854775806 : Int64)))]))
      refine OwnFin.step (fun tT kK => XS.lstore X0.here hx rfl (hb hby at_58) rfl (l' := #[.val (.int li), .val (.long s_), .second, .val (.long e_), .second, .val (.int lk), .val (.int m_), .val (.int mo), .val (.int (mo &&& (3 : Int32))), .val (.long (9223372036854775806 : Int64)), .second, .val (.long ((s_ &&& (9223372036854775807 : Int64)) - ((s_ &&& (9223372036854775807 : Int64)) / (9223372036854775806 : Int64)) * (9223372036854775806 : Int64))), .second, .unset, .unset, .unset, .unset]) rfl kK) ?_
      show OwnFin p e below _ (s₁.setTop (mkF m 60 #[.val (.int li), .val (.long s_), .second, .val (.long e_), .second, .val (.int lk), .val (.int m_), .val (.int mo), .val (.int (mo &&& (3 : Int32))), .val (.long (9223372036854775806 : Int64)), .second, .val (.long ((s_ &&& (9223372036854775807 : Int64)) - ((s_ &&& (9223372036854775807 : Int64)) / (9223372036854775806 : Int64)) * (9223372036854775806 : Int64))), .second, .unset, .unset, .unset, .unset] []))
      refine OwnFin.step (fun tT kK => XS.iload X0.here hx rfl (hb hby at_60) rfl kK) ?_
      show OwnFin p e below _ (s₁.setTop (mkF m 62 #[.val (.int li), .val (.long s_), .second, .val (.long e_), .second, .val (.int lk), .val (.int m_), .val (.int mo), .val (.int (mo &&& (3 : Int32))), .val (.long (9223372036854775806 : Int64)), .second, .val (.long ((s_ &&& (9223372036854775807 : Int64)) - ((s_ &&& (9223372036854775807 : Int64)) / (9223372036854775806 : Int64)) * (9223372036854775806 : Int64))), .second, .unset, .unset, .unset, .unset] [(.int m_)]))
      refine OwnFin.step (fun tT kK => X0.ldcI hx hown (mvT hZ (hw _ (List.mem_of_getElem? (i := 1) rfl))) (g := (mkF m 62 #[.val (.int li), .val (.long s_), .second, .val (.long e_), .second, .val (.int lk), .val (.int m_), .val (.int mo), .val (.int (mo &&& (3 : Int32))), .val (.long (9223372036854775806 : Int64)), .second, .val (.long ((s_ &&& (9223372036854775807 : Int64)) - ((s_ &&& (9223372036854775807 : Int64)) / (9223372036854775806 : Int64)) * (9223372036854775806 : Int64))), .second, .unset, .unset, .unset, .unset] [(.int m_)])) rfl (hb hby at_62) kK) ?_
      show OwnFin p e below _ (s₁.setTop (mkF m 64 #[.val (.int li), .val (.long s_), .second, .val (.long e_), .second, .val (.int lk), .val (.int m_), .val (.int mo), .val (.int (mo &&& (3 : Int32))), .val (.long (9223372036854775806 : Int64)), .second, .val (.long ((s_ &&& (9223372036854775807 : Int64)) - ((s_ &&& (9223372036854775807 : Int64)) / (9223372036854775806 : Int64)) * (9223372036854775806 : Int64))), .second, .unset, .unset, .unset, .unset] [(.int (65535 : Int32)), (.int m_)]))
      refine OwnFin.step (fun tT kK => XS.iand X0.here hx rfl (hb hby at_64) rfl kK) ?_
      show OwnFin p e below _ (s₁.setTop (mkF m 65 #[.val (.int li), .val (.long s_), .second, .val (.long e_), .second, .val (.int lk), .val (.int m_), .val (.int mo), .val (.int (mo &&& (3 : Int32))), .val (.long (9223372036854775806 : Int64)), .second, .val (.long ((s_ &&& (9223372036854775807 : Int64)) - ((s_ &&& (9223372036854775807 : Int64)) / (9223372036854775806 : Int64)) * (9223372036854775806 : Int64))), .second, .unset, .unset, .unset, .unset] [(.int (m_ &&& (65535 : Int32)))]))
      refine OwnFin.step (fun tT kK => XS.i2dS X0.here hx rfl (hb hby at_65) rfl rfl kK) ?_
      show OwnFin p e below _ (s₁.setTop (mkF m 66 #[.val (.int li), .val (.long s_), .second, .val (.long e_), .second, .val (.int lk), .val (.int m_), .val (.int mo), .val (.int (mo &&& (3 : Int32))), .val (.long (9223372036854775806 : Int64)), .second, .val (.long ((s_ &&& (9223372036854775807 : Int64)) - ((s_ &&& (9223372036854775807 : Int64)) / (9223372036854775806 : Int64)) * (9223372036854775806 : Int64))), .second, .unset, .unset, .unset, .unset] [(.double (FP.i2d (m_ &&& (65535 : Int32))))]))
      refine OwnFin.step (fun tT kK => XS.dstore X0.here hx rfl (hb hby at_66) rfl (l' := #[.val (.int li), .val (.long s_), .second, .val (.long e_), .second, .val (.int lk), .val (.int m_), .val (.int mo), .val (.int (mo &&& (3 : Int32))), .val (.long (9223372036854775806 : Int64)), .second, .val (.long ((s_ &&& (9223372036854775807 : Int64)) - ((s_ &&& (9223372036854775807 : Int64)) / (9223372036854775806 : Int64)) * (9223372036854775806 : Int64))), .second, .val (.double (FP.i2d (m_ &&& (65535 : Int32)))), .second, .unset, .unset]) rfl kK) ?_
      show OwnFin p e below _ (s₁.setTop (mkF m 68 #[.val (.int li), .val (.long s_), .second, .val (.long e_), .second, .val (.int lk), .val (.int m_), .val (.int mo), .val (.int (mo &&& (3 : Int32))), .val (.long (9223372036854775806 : Int64)), .second, .val (.long ((s_ &&& (9223372036854775807 : Int64)) - ((s_ &&& (9223372036854775807 : Int64)) / (9223372036854775806 : Int64)) * (9223372036854775806 : Int64))), .second, .val (.double (FP.i2d (m_ &&& (65535 : Int32)))), .second, .unset, .unset] []))
      obtain ⟨T14, h14, X14, e14, E14, A14, D14, -, st14⟩ := newO X0 hx hZ hown (hw _ (List.mem_of_getElem? (i := 2) rfl)) (hw _ (List.mem_of_getElem? (i := 3) rfl)) (hw _ (List.mem_of_getElem? (i := 4) rfl)) e0 (g := (mkF m 68 #[.val (.int li), .val (.long s_), .second, .val (.long e_), .second, .val (.int lk), .val (.int m_), .val (.int mo), .val (.int (mo &&& (3 : Int32))), .val (.long (9223372036854775806 : Int64)), .second, .val (.long ((s_ &&& (9223372036854775807 : Int64)) - ((s_ &&& (9223372036854775807 : Int64)) / (9223372036854775806 : Int64)) * (9223372036854775806 : Int64))), .second, .val (.double (FP.i2d (m_ &&& (65535 : Int32)))), .second, .unset, .unset] [])) rfl (hb hby at_68) (by decide) (by decide)
      obtain ⟨b14, g14⟩ : ∃ z, z = h0.size := ⟨_, rfl⟩
      rw [← g14] at A14 D14 st14
      refine OwnFin.step st14 ?_
      have Fz15 : Fld Z h14 b14 "com/example/bogong/bogong/events/RoadEvent" "line" "I" (.int (0 : Int32)) := D14 (Or.inr (hw _ (List.mem_of_getElem? (i := 17) rfl))) (ty := .int) (by decide)
      have Fz16 : Fld Z h14 b14 "com/example/bogong/bogong/events/RoadEvent" "startTick" "J" (.long (0 : Int64)) := D14 (Or.inr (hw _ (List.mem_of_getElem? (i := 19) rfl))) (ty := .long) (by decide)
      have Fz17 : Fld Z h14 b14 "com/example/bogong/bogong/events/RoadEvent" "endTick" "J" (.long (0 : Int64)) := D14 (Or.inr (hw _ (List.mem_of_getElem? (i := 21) rfl))) (ty := .long) (by decide)
      have Fz18 : Fld Z h14 b14 "com/example/bogong/bogong/events/RoadEvent" "link" "I" (.int (0 : Int32)) := D14 (Or.inr (hw _ (List.mem_of_getElem? (i := 23) rfl))) (ty := .int) (by decide)
      have Fz19 : Fld Z h14 b14 "com/example/bogong/bogong/events/RoadEvent" "minutes" "D" (.double (0 : UInt64)) := D14 (Or.inr (hw _ (List.mem_of_getElem? (i := 25) rfl))) (ty := .double) (by decide)
      show OwnFin p e below _ (T14.setTop (mkF m 71 #[.val (.int li), .val (.long s_), .second, .val (.long e_), .second, .val (.int lk), .val (.int m_), .val (.int mo), .val (.int (mo &&& (3 : Int32))), .val (.long (9223372036854775806 : Int64)), .second, .val (.long ((s_ &&& (9223372036854775807 : Int64)) - ((s_ &&& (9223372036854775807 : Int64)) / (9223372036854775806 : Int64)) * (9223372036854775806 : Int64))), .second, .val (.double (FP.i2d (m_ &&& (65535 : Int32)))), .second, .unset, .unset] [(.ref b14)]))
      refine OwnFin.step (fun tT kK => XS.dup X14.here hx rfl (hb hby at_71) rfl rfl kK) ?_
      show OwnFin p e below _ (T14.setTop (mkF m 72 #[.val (.int li), .val (.long s_), .second, .val (.long e_), .second, .val (.int lk), .val (.int m_), .val (.int mo), .val (.int (mo &&& (3 : Int32))), .val (.long (9223372036854775806 : Int64)), .second, .val (.long ((s_ &&& (9223372036854775807 : Int64)) - ((s_ &&& (9223372036854775807 : Int64)) / (9223372036854775806 : Int64)) * (9223372036854775806 : Int64))), .second, .val (.double (FP.i2d (m_ &&& (65535 : Int32)))), .second, .unset, .unset] [(.ref b14), (.ref b14)]))
      refine OwnFin.step (fun tT kK => XS.iloadN X14.here hx rfl (hb hby at_72) rfl kK) ?_
      show OwnFin p e below _ (T14.setTop (mkF m 73 #[.val (.int li), .val (.long s_), .second, .val (.long e_), .second, .val (.int lk), .val (.int m_), .val (.int mo), .val (.int (mo &&& (3 : Int32))), .val (.long (9223372036854775806 : Int64)), .second, .val (.long ((s_ &&& (9223372036854775807 : Int64)) - ((s_ &&& (9223372036854775807 : Int64)) / (9223372036854775806 : Int64)) * (9223372036854775806 : Int64))), .second, .val (.double (FP.i2d (m_ &&& (65535 : Int32)))), .second, .unset, .unset] [(.int li), (.ref b14), (.ref b14)]))
      refine OwnFin.step (fun tT kK => XS.lload X14.here hx rfl (hb hby at_73) rfl kK) ?_
      show OwnFin p e below _ (T14.setTop (mkF m 75 #[.val (.int li), .val (.long s_), .second, .val (.long e_), .second, .val (.int lk), .val (.int m_), .val (.int mo), .val (.int (mo &&& (3 : Int32))), .val (.long (9223372036854775806 : Int64)), .second, .val (.long ((s_ &&& (9223372036854775807 : Int64)) - ((s_ &&& (9223372036854775807 : Int64)) / (9223372036854775806 : Int64)) * (9223372036854775806 : Int64))), .second, .val (.double (FP.i2d (m_ &&& (65535 : Int32)))), .second, .unset, .unset] [(.long ((s_ &&& (9223372036854775807 : Int64)) - ((s_ &&& (9223372036854775807 : Int64)) / (9223372036854775806 : Int64)) * (9223372036854775806 : Int64))), (.int li), (.ref b14), (.ref b14)]))
      refine OwnFin.step (fun tT kK => XS.lload X14.here hx rfl (hb hby at_75) rfl kK) ?_
      show OwnFin p e below _ (T14.setTop (mkF m 77 #[.val (.int li), .val (.long s_), .second, .val (.long e_), .second, .val (.int lk), .val (.int m_), .val (.int mo), .val (.int (mo &&& (3 : Int32))), .val (.long (9223372036854775806 : Int64)), .second, .val (.long ((s_ &&& (9223372036854775807 : Int64)) - ((s_ &&& (9223372036854775807 : Int64)) / (9223372036854775806 : Int64)) * (9223372036854775806 : Int64))), .second, .val (.double (FP.i2d (m_ &&& (65535 : Int32)))), .second, .unset, .unset] [(.long (9223372036854775806 : Int64)), (.long ((s_ &&& (9223372036854775807 : Int64)) - ((s_ &&& (9223372036854775807 : Int64)) / (9223372036854775806 : Int64)) * (9223372036854775806 : Int64))), (.int li), (.ref b14), (.ref b14)]))
      refine OwnFin.step (fun tT kK => XS.iload X14.here hx rfl (hb hby at_77) rfl kK) ?_
      show OwnFin p e below _ (T14.setTop (mkF m 79 #[.val (.int li), .val (.long s_), .second, .val (.long e_), .second, .val (.int lk), .val (.int m_), .val (.int mo), .val (.int (mo &&& (3 : Int32))), .val (.long (9223372036854775806 : Int64)), .second, .val (.long ((s_ &&& (9223372036854775807 : Int64)) - ((s_ &&& (9223372036854775807 : Int64)) / (9223372036854775806 : Int64)) * (9223372036854775806 : Int64))), .second, .val (.double (FP.i2d (m_ &&& (65535 : Int32)))), .second, .unset, .unset] [(.int lk), (.long (9223372036854775806 : Int64)), (.long ((s_ &&& (9223372036854775807 : Int64)) - ((s_ &&& (9223372036854775807 : Int64)) / (9223372036854775806 : Int64)) * (9223372036854775806 : Int64))), (.int li), (.ref b14), (.ref b14)]))
      refine OwnFin.step (fun tT kK => XS.dload X14.here hx rfl (hb hby at_79) rfl kK) ?_
      show OwnFin p e below _ (T14.setTop (mkF m 81 #[.val (.int li), .val (.long s_), .second, .val (.long e_), .second, .val (.int lk), .val (.int m_), .val (.int mo), .val (.int (mo &&& (3 : Int32))), .val (.long (9223372036854775806 : Int64)), .second, .val (.long ((s_ &&& (9223372036854775807 : Int64)) - ((s_ &&& (9223372036854775807 : Int64)) / (9223372036854775806 : Int64)) * (9223372036854775806 : Int64))), .second, .val (.double (FP.i2d (m_ &&& (65535 : Int32)))), .second, .unset, .unset] [(.double (FP.i2d (m_ &&& (65535 : Int32)))), (.int lk), (.long (9223372036854775806 : Int64)), (.long ((s_ &&& (9223372036854775807 : Int64)) - ((s_ &&& (9223372036854775807 : Int64)) / (9223372036854775806 : Int64)) * (9223372036854775806 : Int64))), (.int li), (.ref b14), (.ref b14)]))
      obtain ⟨_, _, ⟨T20, L20, k20, n20⟩, -, X20, ⟨Lc20, hQ20, l20, y20, z20⟩, st20⟩ := X14.specialBack hx (y := (⟨"com/example/bogong/bogong/events/RoadEvent", "<init>", "(IJJID)V"⟩ : MethodName)) rfl hown (mvT hZ (hw _ (List.mem_of_getElem? (i := 5) rfl))) (mvT hZ (hw _ (List.mem_of_getElem? (i := 6) rfl))) (mvT hZ (hw _ (List.mem_of_getElem? (i := 7) rfl))) (by decide) (backOf (W := 1) (rm2 l Z a0 hw [] b14 li ((s_ &&& (9223372036854775807 : Int64)) - ((s_ &&& (9223372036854775807 : Int64)) / (9223372036854775806 : Int64)) * (9223372036854775806 : Int64)) (9223372036854775806 : Int64) lk (FP.i2d (m_ &&& (65535 : Int32))) h14 n0 (Nat.le_trans Z0 E14.1) A14 Fz15 Fz16 Fz17 Fz18 Fz19 (Nat.le_trans Z0 (Nat.le_of_eq g14.symm)) ((own_rem (own_mask _) hpos13).1) ((own_rem (own_mask _) hpos13).2) (own_dge (own_m16 _))) hZ (hw _ (List.mem_of_getElem? (i := 7) rfl)) (hw _ (List.mem_of_getElem? (i := 4) rfl)) (by decide) (by decide)) (g := (mkF m 81 #[.val (.int li), .val (.long s_), .second, .val (.long e_), .second, .val (.int lk), .val (.int m_), .val (.int mo), .val (.int (mo &&& (3 : Int32))), .val (.long (9223372036854775806 : Int64)), .second, .val (.long ((s_ &&& (9223372036854775807 : Int64)) - ((s_ &&& (9223372036854775807 : Int64)) / (9223372036854775806 : Int64)) * (9223372036854775806 : Int64))), .second, .val (.double (FP.i2d (m_ &&& (65535 : Int32)))), .second, .unset, .unset] [(.double (FP.i2d (m_ &&& (65535 : Int32)))), (.int lk), (.long (9223372036854775806 : Int64)), (.long ((s_ &&& (9223372036854775807 : Int64)) - ((s_ &&& (9223372036854775807 : Int64)) / (9223372036854775806 : Int64)) * (9223372036854775806 : Int64))), (.int li), (.ref b14), (.ref b14)])) rfl (by rw [hml]; rfl) (Steps.refl _) (a := b14) (argsL := [(.int li), (.long ((s_ &&& (9223372036854775807 : Int64)) - ((s_ &&& (9223372036854775807 : Int64)) / (9223372036854775806 : Int64)) * (9223372036854775806 : Int64))), (.long (9223372036854775806 : Int64)), (.int lk), (.double (FP.i2d (m_ &&& (65535 : Int32))))]) (rest := [(.ref b14)]) (lenOf pd_46 rfl) rfl (by show 2 * 0 + _ ≤ _; exact Nat.le_of_eq rfl) (hb hby at_81) (fun _ _ => ⟨rfl, e14, (by decide : 1 + 0 ≤ _), (by decide : 5 + 0 ≤ _)⟩)
      dsimp only [Pt.U, Pt.locs, Pt.cells, Pt.slots] at X20 l20 y20 z20 st20 hQ20
      subst l20 y20 z20
      obtain ⟨rfl, N20q, K20, P20_0, P20_1, P20_2, P20_3, P20_4, P20_5⟩ := hQ20
      have N20 := Fr.app N0 N20q
      refine OwnFin.step (fun tT kK => st20.trans kK) ?_
      show OwnFin p e below _ (T20.setTop (mkF m 84 #[.val (.int li), .val (.long s_), .second, .val (.long e_), .second, .val (.int lk), .val (.int m_), .val (.int mo), .val (.int (mo &&& (3 : Int32))), .val (.long (9223372036854775806 : Int64)), .second, .val (.long ((s_ &&& (9223372036854775807 : Int64)) - ((s_ &&& (9223372036854775807 : Int64)) / (9223372036854775806 : Int64)) * (9223372036854775806 : Int64))), .second, .val (.double (FP.i2d (m_ &&& (65535 : Int32)))), .second, .unset, .unset] [(.ref b14)]))
      refine OwnFin.step (fun tT kK => XS.astore X20.here hx rfl (hb hby at_84) rfl rfl (l' := #[.val (.int li), .val (.long s_), .second, .val (.long e_), .second, .val (.int lk), .val (.int m_), .val (.int mo), .val (.int (mo &&& (3 : Int32))), .val (.long (9223372036854775806 : Int64)), .second, .val (.long ((s_ &&& (9223372036854775807 : Int64)) - ((s_ &&& (9223372036854775807 : Int64)) / (9223372036854775806 : Int64)) * (9223372036854775806 : Int64))), .second, .val (.double (FP.i2d (m_ &&& (65535 : Int32)))), .second, .val (.ref b14), .unset]) rfl kK) ?_
      show OwnFin p e below _ (T20.setTop (mkF m 86 #[.val (.int li), .val (.long s_), .second, .val (.long e_), .second, .val (.int lk), .val (.int m_), .val (.int mo), .val (.int (mo &&& (3 : Int32))), .val (.long (9223372036854775806 : Int64)), .second, .val (.long ((s_ &&& (9223372036854775807 : Int64)) - ((s_ &&& (9223372036854775807 : Int64)) / (9223372036854775806 : Int64)) * (9223372036854775806 : Int64))), .second, .val (.double (FP.i2d (m_ &&& (65535 : Int32)))), .second, .val (.ref b14), .unset] []))
      refine OwnFin.step (fun tT kK => XS.lload X20.here hx rfl (hb hby at_86) rfl kK) ?_
      show OwnFin p e below _ (T20.setTop (mkF m 88 #[.val (.int li), .val (.long s_), .second, .val (.long e_), .second, .val (.int lk), .val (.int m_), .val (.int mo), .val (.int (mo &&& (3 : Int32))), .val (.long (9223372036854775806 : Int64)), .second, .val (.long ((s_ &&& (9223372036854775807 : Int64)) - ((s_ &&& (9223372036854775807 : Int64)) / (9223372036854775806 : Int64)) * (9223372036854775806 : Int64))), .second, .val (.double (FP.i2d (m_ &&& (65535 : Int32)))), .second, .val (.ref b14), .unset] [(.long (9223372036854775806 : Int64))]))
      refine OwnFin.step (fun tT kK => X20.ldc2J hx hown (mvT hZ (hw _ (List.mem_of_getElem? (i := 0) rfl))) (g := (mkF m 88 #[.val (.int li), .val (.long s_), .second, .val (.long e_), .second, .val (.int lk), .val (.int m_), .val (.int mo), .val (.int (mo &&& (3 : Int32))), .val (.long (9223372036854775806 : Int64)), .second, .val (.long ((s_ &&& (9223372036854775807 : Int64)) - ((s_ &&& (9223372036854775807 : Int64)) / (9223372036854775806 : Int64)) * (9223372036854775806 : Int64))), .second, .val (.double (FP.i2d (m_ &&& (65535 : Int32)))), .second, .val (.ref b14), .unset] [(.long (9223372036854775806 : Int64))])) rfl (hb hby at_88) kK) ?_
      show OwnFin p e below _ (T20.setTop (mkF m 91 #[.val (.int li), .val (.long s_), .second, .val (.long e_), .second, .val (.int lk), .val (.int m_), .val (.int mo), .val (.int (mo &&& (3 : Int32))), .val (.long (9223372036854775806 : Int64)), .second, .val (.long ((s_ &&& (9223372036854775807 : Int64)) - ((s_ &&& (9223372036854775807 : Int64)) / (9223372036854775806 : Int64)) * (9223372036854775806 : Int64))), .second, .val (.double (FP.i2d (m_ &&& (65535 : Int32)))), .second, .val (.ref b14), .unset] [(.long (9223372036854775807 : Int64)), (.long (9223372036854775806 : Int64))]))
      refine OwnFin.step (fun tT kK => XS.lcmp X20.here hx rfl (hb hby at_91) rfl kK) ?_
      show OwnFin p e below _ (T20.setTop (mkF m 92 #[.val (.int li), .val (.long s_), .second, .val (.long e_), .second, .val (.int lk), .val (.int m_), .val (.int mo), .val (.int (mo &&& (3 : Int32))), .val (.long (9223372036854775806 : Int64)), .second, .val (.long ((s_ &&& (9223372036854775807 : Int64)) - ((s_ &&& (9223372036854775807 : Int64)) / (9223372036854775806 : Int64)) * (9223372036854775806 : Int64))), .second, .val (.double (FP.i2d (m_ &&& (65535 : Int32)))), .second, .val (.ref b14), .unset] [(.int (lcmpW (9223372036854775806 : Int64) (9223372036854775807 : Int64)))]))
      refine OwnFin.step (fun tT kK => XS.ifNo X20.here hx rfl (hb hby at_92) rfl ((if0 _ _).trans (tlt (by decide : (lcmpW (9223372036854775806 : Int64) (9223372036854775807 : Int64)) < (0 : Int32))).2.1) kK) ?_
      show OwnFin p e below _ (T20.setTop (mkF m 95 #[.val (.int li), .val (.long s_), .second, .val (.long e_), .second, .val (.int lk), .val (.int m_), .val (.int mo), .val (.int (mo &&& (3 : Int32))), .val (.long (9223372036854775806 : Int64)), .second, .val (.long ((s_ &&& (9223372036854775807 : Int64)) - ((s_ &&& (9223372036854775807 : Int64)) / (9223372036854775806 : Int64)) * (9223372036854775806 : Int64))), .second, .val (.double (FP.i2d (m_ &&& (65535 : Int32)))), .second, .val (.ref b14), .unset] []))
      refine OwnFin.step (fun tT kK => XS.iconst X20.here hx rfl (hb hby at_95) kK) ?_
      show OwnFin p e below _ (T20.setTop (mkF m 96 #[.val (.int li), .val (.long s_), .second, .val (.long e_), .second, .val (.int lk), .val (.int m_), .val (.int mo), .val (.int (mo &&& (3 : Int32))), .val (.long (9223372036854775806 : Int64)), .second, .val (.long ((s_ &&& (9223372036854775807 : Int64)) - ((s_ &&& (9223372036854775807 : Int64)) / (9223372036854775806 : Int64)) * (9223372036854775806 : Int64))), .second, .val (.double (FP.i2d (m_ &&& (65535 : Int32)))), .second, .val (.ref b14), .unset] [(.int (1 : Int32))]))
      refine OwnFin.step (fun tT kK => XS.goto X20.here hx rfl (pc0 := 96) (pc' := 100) rfl (hb hby at_96) (by decide) (by decide) kK) ?_
      show OwnFin p e below _ (T20.setTop (mkF m 100 #[.val (.int li), .val (.long s_), .second, .val (.long e_), .second, .val (.int lk), .val (.int m_), .val (.int mo), .val (.int (mo &&& (3 : Int32))), .val (.long (9223372036854775806 : Int64)), .second, .val (.long ((s_ &&& (9223372036854775807 : Int64)) - ((s_ &&& (9223372036854775807 : Int64)) / (9223372036854775806 : Int64)) * (9223372036854775806 : Int64))), .second, .val (.double (FP.i2d (m_ &&& (65535 : Int32)))), .second, .val (.ref b14), .unset] [(.int (1 : Int32))]))
      refine OwnFin.step (fun tT kK => XS.istore X20.here hx rfl (hb hby at_100) rfl (l' := #[.val (.int li), .val (.long s_), .second, .val (.long e_), .second, .val (.int lk), .val (.int m_), .val (.int mo), .val (.int (mo &&& (3 : Int32))), .val (.long (9223372036854775806 : Int64)), .second, .val (.long ((s_ &&& (9223372036854775807 : Int64)) - ((s_ &&& (9223372036854775807 : Int64)) / (9223372036854775806 : Int64)) * (9223372036854775806 : Int64))), .second, .val (.double (FP.i2d (m_ &&& (65535 : Int32)))), .second, .val (.ref b14), .val (.int (1 : Int32))]) rfl kK) ?_
      show OwnFin p e below _ (T20.setTop (mkF m 102 #[.val (.int li), .val (.long s_), .second, .val (.long e_), .second, .val (.int lk), .val (.int m_), .val (.int mo), .val (.int (mo &&& (3 : Int32))), .val (.long (9223372036854775806 : Int64)), .second, .val (.long ((s_ &&& (9223372036854775807 : Int64)) - ((s_ &&& (9223372036854775807 : Int64)) / (9223372036854775806 : Int64)) * (9223372036854775806 : Int64))), .second, .val (.double (FP.i2d (m_ &&& (65535 : Int32)))), .second, .val (.ref b14), .val (.int (1 : Int32))] []))
      refine OwnFin.step (fun tT kK => XS.aload X20.here hx rfl (hb hby at_102) rfl rfl kK) ?_
      show OwnFin p e below _ (T20.setTop (mkF m 104 #[.val (.int li), .val (.long s_), .second, .val (.long e_), .second, .val (.int lk), .val (.int m_), .val (.int mo), .val (.int (mo &&& (3 : Int32))), .val (.long (9223372036854775806 : Int64)), .second, .val (.long ((s_ &&& (9223372036854775807 : Int64)) - ((s_ &&& (9223372036854775807 : Int64)) / (9223372036854775806 : Int64)) * (9223372036854775806 : Int64))), .second, .val (.double (FP.i2d (m_ &&& (65535 : Int32)))), .second, .val (.ref b14), .val (.int (1 : Int32))] [(.ref b14)]))
      obtain ⟨cq21, kq21, q21a, q21b, q21c⟩ := isOf hZ rfl P20_0
      obtain ⟨_, _, ⟨T21, L21, k21, n21⟩, -, X21, ⟨Lc21, hQ21, l21, y21, z21⟩, st21⟩ := X20.virtualBack hx (y := (⟨"com/example/bogong/bogong/events/RoadEvent", "ends", "()Z"⟩ : MethodName)) (z := (⟨"com/example/bogong/bogong/events/RoadEvent", "ends", "()Z"⟩ : MethodName)) hown (mvT hZ (hw _ (List.mem_of_getElem? (i := 26) rfl))) (mvT hZ (hw _ (List.mem_of_getElem? (i := 27) rfl))) (notFace_of_selects (args := #[]) (mvT hZ (hw _ (List.mem_of_getElem? (i := 29) rfl)))) (mvT hZ (hw _ (List.mem_of_getElem? (i := 29) rfl))) (mvT hZ (hw _ (List.mem_of_getElem? (i := 28) rfl))) (by decide) (backOf (W := 0) (rm3 l Z a0 hw [] b14 (9223372036854775806 : Int64) T20.heap n0 (Nat.le_trans (Nat.le_trans Z0 E14.1) K20.1) P20_3) hZ (hw _ (List.mem_of_getElem? (i := 30) rfl)) (hw _ (List.mem_of_getElem? (i := 4) rfl)) (by decide) (by decide)) q21a q21c (g := (mkF m 104 #[.val (.int li), .val (.long s_), .second, .val (.long e_), .second, .val (.int lk), .val (.int m_), .val (.int mo), .val (.int (mo &&& (3 : Int32))), .val (.long (9223372036854775806 : Int64)), .second, .val (.long ((s_ &&& (9223372036854775807 : Int64)) - ((s_ &&& (9223372036854775807 : Int64)) / (9223372036854775806 : Int64)) * (9223372036854775806 : Int64))), .second, .val (.double (FP.i2d (m_ &&& (65535 : Int32)))), .second, .val (.ref b14), .val (.int (1 : Int32))] [(.ref b14)])) rfl (by rw [hml]; rfl) (Steps.refl _) (argsL := []) (rest := []) (lenOf pd_47 rfl) rfl (by show 2 * 0 + _ ≤ _; exact Nat.le_of_eq rfl) (hb hby at_104) (fun _ _ => ⟨rfl, rfl, (by decide : 1 + 0 ≤ _), (by decide : 5 + 0 ≤ _)⟩)
      dsimp only [Pt.U, Pt.locs, Pt.cells, Pt.slots] at X21 l21 y21 z21 st21 hQ21
      subst l21 y21 z21
      obtain ⟨rfl, N21q, e21⟩ := hQ21
      have N21 := Fr.app N20 N21q
      refine OwnFin.step (fun tT kK => st21.trans kK) ?_
      show OwnFin p e below _ (T21.setTop (mkF m 107 #[.val (.int li), .val (.long s_), .second, .val (.long e_), .second, .val (.int lk), .val (.int m_), .val (.int mo), .val (.int (mo &&& (3 : Int32))), .val (.long (9223372036854775806 : Int64)), .second, .val (.long ((s_ &&& (9223372036854775807 : Int64)) - ((s_ &&& (9223372036854775807 : Int64)) / (9223372036854775806 : Int64)) * (9223372036854775806 : Int64))), .second, .val (.double (FP.i2d (m_ &&& (65535 : Int32)))), .second, .val (.ref b14), .val (.int (1 : Int32))] [(.int (if lcmpW (9223372036854775806 : Int64) (9223372036854775807 : Int64) = (0 : Int32) then 0 else 1))]))
      rw [show (if lcmpW (9223372036854775806 : Int64) (9223372036854775807 : Int64) = (0 : Int32) then (0 : Int32) else 1) = 1 from if_neg (by decide)]
      show OwnFin p e below _ (T21.setTop (mkF m 107 #[.val (.int li), .val (.long s_), .second, .val (.long e_), .second, .val (.int lk), .val (.int m_), .val (.int mo), .val (.int (mo &&& (3 : Int32))), .val (.long (9223372036854775806 : Int64)), .second, .val (.long ((s_ &&& (9223372036854775807 : Int64)) - ((s_ &&& (9223372036854775807 : Int64)) / (9223372036854775806 : Int64)) * (9223372036854775806 : Int64))), .second, .val (.double (FP.i2d (m_ &&& (65535 : Int32)))), .second, .val (.ref b14), .val (.int (1 : Int32))] [(.int (1 : Int32))]))
      refine OwnFin.step (fun tT kK => XS.iload X21.here hx rfl (hb hby at_107) rfl kK) ?_
      show OwnFin p e below _ (T21.setTop (mkF m 109 #[.val (.int li), .val (.long s_), .second, .val (.long e_), .second, .val (.int lk), .val (.int m_), .val (.int mo), .val (.int (mo &&& (3 : Int32))), .val (.long (9223372036854775806 : Int64)), .second, .val (.long ((s_ &&& (9223372036854775807 : Int64)) - ((s_ &&& (9223372036854775807 : Int64)) / (9223372036854775806 : Int64)) * (9223372036854775806 : Int64))), .second, .val (.double (FP.i2d (m_ &&& (65535 : Int32)))), .second, .val (.ref b14), .val (.int (1 : Int32))] [(.int (1 : Int32)), (.int (1 : Int32))]))
      refine OwnFin.step (fun tT kK => XS.icmpNo X21.here hx rfl (hb hby at_109) rfl (teq (rfl : (1 : Int32) = (1 : Int32))).2 kK) ?_
      show OwnFin p e below _ (T21.setTop (mkF m 112 #[.val (.int li), .val (.long s_), .second, .val (.long e_), .second, .val (.int lk), .val (.int m_), .val (.int mo), .val (.int (mo &&& (3 : Int32))), .val (.long (9223372036854775806 : Int64)), .second, .val (.long ((s_ &&& (9223372036854775807 : Int64)) - ((s_ &&& (9223372036854775807 : Int64)) / (9223372036854775806 : Int64)) * (9223372036854775806 : Int64))), .second, .val (.double (FP.i2d (m_ &&& (65535 : Int32)))), .second, .val (.ref b14), .val (.int (1 : Int32))] []))
      refine OwnFin.step (fun tT kK => XS.iconst X21.here hx rfl (hb hby at_112) kK) ?_
      show OwnFin p e below _ (T21.setTop (mkF m 113 #[.val (.int li), .val (.long s_), .second, .val (.long e_), .second, .val (.int lk), .val (.int m_), .val (.int mo), .val (.int (mo &&& (3 : Int32))), .val (.long (9223372036854775806 : Int64)), .second, .val (.long ((s_ &&& (9223372036854775807 : Int64)) - ((s_ &&& (9223372036854775807 : Int64)) / (9223372036854775806 : Int64)) * (9223372036854775806 : Int64))), .second, .val (.double (FP.i2d (m_ &&& (65535 : Int32)))), .second, .val (.ref b14), .val (.int (1 : Int32))] [(.int (1 : Int32))]))
      refine OwnFin.step (fun tT kK => XS.goto X21.here hx rfl (pc0 := 113) (pc' := 117) rfl (hb hby at_113) (by decide) (by decide) kK) ?_
      show OwnFin p e below _ (T21.setTop (mkF m 117 #[.val (.int li), .val (.long s_), .second, .val (.long e_), .second, .val (.int lk), .val (.int m_), .val (.int mo), .val (.int (mo &&& (3 : Int32))), .val (.long (9223372036854775806 : Int64)), .second, .val (.long ((s_ &&& (9223372036854775807 : Int64)) - ((s_ &&& (9223372036854775807 : Int64)) / (9223372036854775806 : Int64)) * (9223372036854775806 : Int64))), .second, .val (.double (FP.i2d (m_ &&& (65535 : Int32)))), .second, .val (.ref b14), .val (.int (1 : Int32))] [(.int (1 : Int32))]))
      obtain ⟨fs22, hr22, hrun22, hended22, hW22, hsame22⟩ := X21.leave (v := (some (.int (1 : Int32)))) (fun h => by rw [Bd.returns] at h; cases h)
      refine ⟨_, _, retN X21 hx (t := .boolean) Bd.returns (by simp) (hb hby at_117) hr22, hrun22, hended22, _, _, rfl, ?_, ⟨_, rfl⟩, hW22, hsame22.mono (by decide) (by decide)⟩
      show Q0 Z li s_ e_ lk m_ mo h0 n0 _ T21.heap _
      rw [e21]
      exact ⟨rfl, N21, (((Keep.refl h0 []).ext E14).trans K20 (allS (P := fun x => x ∈ [] ∨ h0.size ≤ x) (Or.inr (Nat.le_trans (Nat.le_refl _) (Nat.le_of_eq g14.symm))) all0))⟩
    · skip
      refine OwnFin.step (fun tT kK => XS.icmpYes X0.here hx rfl (pc0 := 22) (pc' := 33) rfl (hb hby at_22) rfl (feq (hc12 : ¬ ((mo &&& (3 : Int32)) = (1 : Int32)))).2 (by decide) (by decide) kK) ?_
      show OwnFin p e below _ (s₁.setTop (mkF m 33 #[.val (.int li), .val (.long s_), .second, .val (.long e_), .second, .val (.int lk), .val (.int m_), .val (.int mo), .val (.int (mo &&& (3 : Int32))), .unset, .unset, .unset, .unset, .unset, .unset, .unset, .unset] []))
      refine OwnFin.step (fun tT kK => XS.lloadN X0.here hx rfl (hb hby at_33) rfl kK) ?_
      show OwnFin p e below _ (s₁.setTop (mkF m 34 #[.val (.int li), .val (.long s_), .second, .val (.long e_), .second, .val (.int lk), .val (.int m_), .val (.int mo), .val (.int (mo &&& (3 : Int32))), .unset, .unset, .unset, .unset, .unset, .unset, .unset, .unset] [(.long e_)]))
      refine OwnFin.step (fun tT kK => X0.ldc2J hx hown (mvT hZ (hw _ (List.mem_of_getElem? (i := 0) rfl))) (g := (mkF m 34 #[.val (.int li), .val (.long s_), .second, .val (.long e_), .second, .val (.int lk), .val (.int m_), .val (.int mo), .val (.int (mo &&& (3 : Int32))), .unset, .unset, .unset, .unset, .unset, .unset, .unset, .unset] [(.long e_)])) rfl (hb hby at_34) kK) ?_
      show OwnFin p e below _ (s₁.setTop (mkF m 37 #[.val (.int li), .val (.long s_), .second, .val (.long e_), .second, .val (.int lk), .val (.int m_), .val (.int mo), .val (.int (mo &&& (3 : Int32))), .unset, .unset, .unset, .unset, .unset, .unset, .unset, .unset] [(.long (9223372036854775807 : Int64)), (.long e_)]))
      refine OwnFin.step (fun tT kK => XS.land X0.here hx rfl (hb hby at_37) rfl kK) ?_
      show OwnFin p e below _ (s₁.setTop (mkF m 38 #[.val (.int li), .val (.long s_), .second, .val (.long e_), .second, .val (.int lk), .val (.int m_), .val (.int mo), .val (.int (mo &&& (3 : Int32))), .unset, .unset, .unset, .unset, .unset, .unset, .unset, .unset] [(.long (e_ &&& (9223372036854775807 : Int64)))]))
      refine OwnFin.step (fun tT kK => XS.lstore X0.here hx rfl (hb hby at_38) rfl (l' := #[.val (.int li), .val (.long s_), .second, .val (.long e_), .second, .val (.int lk), .val (.int m_), .val (.int mo), .val (.int (mo &&& (3 : Int32))), .val (.long (e_ &&& (9223372036854775807 : Int64))), .second, .unset, .unset, .unset, .unset, .unset, .unset]) rfl kK) ?_
      show OwnFin p e below _ (s₁.setTop (mkF m 40 #[.val (.int li), .val (.long s_), .second, .val (.long e_), .second, .val (.int lk), .val (.int m_), .val (.int mo), .val (.int (mo &&& (3 : Int32))), .val (.long (e_ &&& (9223372036854775807 : Int64))), .second, .unset, .unset, .unset, .unset, .unset, .unset] []))
      refine OwnFin.step (fun tT kK => XS.lload X0.here hx rfl (hb hby at_40) rfl kK) ?_
      show OwnFin p e below _ (s₁.setTop (mkF m 42 #[.val (.int li), .val (.long s_), .second, .val (.long e_), .second, .val (.int lk), .val (.int m_), .val (.int mo), .val (.int (mo &&& (3 : Int32))), .val (.long (e_ &&& (9223372036854775807 : Int64))), .second, .unset, .unset, .unset, .unset, .unset, .unset] [(.long (e_ &&& (9223372036854775807 : Int64)))]))
      refine OwnFin.step (fun tT kK => XS.lconst X0.here hx rfl (hb hby at_42) kK) ?_
      show OwnFin p e below _ (s₁.setTop (mkF m 43 #[.val (.int li), .val (.long s_), .second, .val (.long e_), .second, .val (.int lk), .val (.int m_), .val (.int mo), .val (.int (mo &&& (3 : Int32))), .val (.long (e_ &&& (9223372036854775807 : Int64))), .second, .unset, .unset, .unset, .unset, .unset, .unset] [(.long (0 : Int64)), (.long (e_ &&& (9223372036854775807 : Int64)))]))
      refine OwnFin.step (fun tT kK => XS.lcmp X0.here hx rfl (hb hby at_43) rfl kK) ?_
      show OwnFin p e below _ (s₁.setTop (mkF m 44 #[.val (.int li), .val (.long s_), .second, .val (.long e_), .second, .val (.int lk), .val (.int m_), .val (.int mo), .val (.int (mo &&& (3 : Int32))), .val (.long (e_ &&& (9223372036854775807 : Int64))), .second, .unset, .unset, .unset, .unset, .unset, .unset] [(.int (lcmpW (e_ &&& (9223372036854775807 : Int64)) (0 : Int64)))]))
      by_cases hc23 : (lcmpW (e_ &&& (9223372036854775807 : Int64)) (0 : Int64)) = (0 : Int32)
      · skip
        refine OwnFin.step (fun tT kK => XS.ifNo X0.here hx rfl (hb hby at_44) rfl ((if0 _ _).trans (teq (hc23 : (lcmpW (e_ &&& (9223372036854775807 : Int64)) (0 : Int64)) = (0 : Int32))).2) kK) ?_
        show OwnFin p e below _ (s₁.setTop (mkF m 47 #[.val (.int li), .val (.long s_), .second, .val (.long e_), .second, .val (.int lk), .val (.int m_), .val (.int mo), .val (.int (mo &&& (3 : Int32))), .val (.long (e_ &&& (9223372036854775807 : Int64))), .second, .unset, .unset, .unset, .unset, .unset, .unset] []))
        refine OwnFin.step (fun tT kK => XS.lconst X0.here hx rfl (hb hby at_47) kK) ?_
        show OwnFin p e below _ (s₁.setTop (mkF m 48 #[.val (.int li), .val (.long s_), .second, .val (.long e_), .second, .val (.int lk), .val (.int m_), .val (.int mo), .val (.int (mo &&& (3 : Int32))), .val (.long (e_ &&& (9223372036854775807 : Int64))), .second, .unset, .unset, .unset, .unset, .unset, .unset] [(.long (1 : Int64))]))
        refine OwnFin.step (fun tT kK => XS.lstore X0.here hx rfl (hb hby at_48) rfl (l' := #[.val (.int li), .val (.long s_), .second, .val (.long e_), .second, .val (.int lk), .val (.int m_), .val (.int mo), .val (.int (mo &&& (3 : Int32))), .val (.long (1 : Int64)), .second, .unset, .unset, .unset, .unset, .unset, .unset]) rfl kK) ?_
        show OwnFin p e below _ (s₁.setTop (mkF m 50 #[.val (.int li), .val (.long s_), .second, .val (.long e_), .second, .val (.int lk), .val (.int m_), .val (.int mo), .val (.int (mo &&& (3 : Int32))), .val (.long (1 : Int64)), .second, .unset, .unset, .unset, .unset, .unset, .unset] []))
        have hpos24 : 0 < ((1 : Int64)).toInt := by decide
        refine OwnFin.step (fun tT kK => XS.lloadN X0.here hx rfl (hb hby at_50) rfl kK) ?_
        show OwnFin p e below _ (s₁.setTop (mkF m 51 #[.val (.int li), .val (.long s_), .second, .val (.long e_), .second, .val (.int lk), .val (.int m_), .val (.int mo), .val (.int (mo &&& (3 : Int32))), .val (.long (1 : Int64)), .second, .unset, .unset, .unset, .unset, .unset, .unset] [(.long s_)]))
        refine OwnFin.step (fun tT kK => X0.ldc2J hx hown (mvT hZ (hw _ (List.mem_of_getElem? (i := 0) rfl))) (g := (mkF m 51 #[.val (.int li), .val (.long s_), .second, .val (.long e_), .second, .val (.int lk), .val (.int m_), .val (.int mo), .val (.int (mo &&& (3 : Int32))), .val (.long (1 : Int64)), .second, .unset, .unset, .unset, .unset, .unset, .unset] [(.long s_)])) rfl (hb hby at_51) kK) ?_
        show OwnFin p e below _ (s₁.setTop (mkF m 54 #[.val (.int li), .val (.long s_), .second, .val (.long e_), .second, .val (.int lk), .val (.int m_), .val (.int mo), .val (.int (mo &&& (3 : Int32))), .val (.long (1 : Int64)), .second, .unset, .unset, .unset, .unset, .unset, .unset] [(.long (9223372036854775807 : Int64)), (.long s_)]))
        refine OwnFin.step (fun tT kK => XS.land X0.here hx rfl (hb hby at_54) rfl kK) ?_
        show OwnFin p e below _ (s₁.setTop (mkF m 55 #[.val (.int li), .val (.long s_), .second, .val (.long e_), .second, .val (.int lk), .val (.int m_), .val (.int mo), .val (.int (mo &&& (3 : Int32))), .val (.long (1 : Int64)), .second, .unset, .unset, .unset, .unset, .unset, .unset] [(.long (s_ &&& (9223372036854775807 : Int64)))]))
        refine OwnFin.step (fun tT kK => XS.lload X0.here hx rfl (hb hby at_55) rfl kK) ?_
        show OwnFin p e below _ (s₁.setTop (mkF m 57 #[.val (.int li), .val (.long s_), .second, .val (.long e_), .second, .val (.int lk), .val (.int m_), .val (.int mo), .val (.int (mo &&& (3 : Int32))), .val (.long (1 : Int64)), .second, .unset, .unset, .unset, .unset, .unset, .unset] [(.long (1 : Int64)), (.long (s_ &&& (9223372036854775807 : Int64)))]))
        refine OwnFin.step (fun tT kK => XS.lrem X0.here hx rfl (hb hby at_57) rfl (own_ne0 hpos24) kK) ?_
        show OwnFin p e below _ (s₁.setTop (mkF m 58 #[.val (.int li), .val (.long s_), .second, .val (.long e_), .second, .val (.int lk), .val (.int m_), .val (.int mo), .val (.int (mo &&& (3 : Int32))), .val (.long (1 : Int64)), .second, .unset, .unset, .unset, .unset, .unset, .unset] [(.long ((s_ &&& (9223372036854775807 : Int64)) - ((s_ &&& (9223372036854775807 : Int64)) / (1 : Int64)) * (1 : Int64)))]))
        refine OwnFin.step (fun tT kK => XS.lstore X0.here hx rfl (hb hby at_58) rfl (l' := #[.val (.int li), .val (.long s_), .second, .val (.long e_), .second, .val (.int lk), .val (.int m_), .val (.int mo), .val (.int (mo &&& (3 : Int32))), .val (.long (1 : Int64)), .second, .val (.long ((s_ &&& (9223372036854775807 : Int64)) - ((s_ &&& (9223372036854775807 : Int64)) / (1 : Int64)) * (1 : Int64))), .second, .unset, .unset, .unset, .unset]) rfl kK) ?_
        show OwnFin p e below _ (s₁.setTop (mkF m 60 #[.val (.int li), .val (.long s_), .second, .val (.long e_), .second, .val (.int lk), .val (.int m_), .val (.int mo), .val (.int (mo &&& (3 : Int32))), .val (.long (1 : Int64)), .second, .val (.long ((s_ &&& (9223372036854775807 : Int64)) - ((s_ &&& (9223372036854775807 : Int64)) / (1 : Int64)) * (1 : Int64))), .second, .unset, .unset, .unset, .unset] []))
        refine OwnFin.step (fun tT kK => XS.iload X0.here hx rfl (hb hby at_60) rfl kK) ?_
        show OwnFin p e below _ (s₁.setTop (mkF m 62 #[.val (.int li), .val (.long s_), .second, .val (.long e_), .second, .val (.int lk), .val (.int m_), .val (.int mo), .val (.int (mo &&& (3 : Int32))), .val (.long (1 : Int64)), .second, .val (.long ((s_ &&& (9223372036854775807 : Int64)) - ((s_ &&& (9223372036854775807 : Int64)) / (1 : Int64)) * (1 : Int64))), .second, .unset, .unset, .unset, .unset] [(.int m_)]))
        refine OwnFin.step (fun tT kK => X0.ldcI hx hown (mvT hZ (hw _ (List.mem_of_getElem? (i := 1) rfl))) (g := (mkF m 62 #[.val (.int li), .val (.long s_), .second, .val (.long e_), .second, .val (.int lk), .val (.int m_), .val (.int mo), .val (.int (mo &&& (3 : Int32))), .val (.long (1 : Int64)), .second, .val (.long ((s_ &&& (9223372036854775807 : Int64)) - ((s_ &&& (9223372036854775807 : Int64)) / (1 : Int64)) * (1 : Int64))), .second, .unset, .unset, .unset, .unset] [(.int m_)])) rfl (hb hby at_62) kK) ?_
        show OwnFin p e below _ (s₁.setTop (mkF m 64 #[.val (.int li), .val (.long s_), .second, .val (.long e_), .second, .val (.int lk), .val (.int m_), .val (.int mo), .val (.int (mo &&& (3 : Int32))), .val (.long (1 : Int64)), .second, .val (.long ((s_ &&& (9223372036854775807 : Int64)) - ((s_ &&& (9223372036854775807 : Int64)) / (1 : Int64)) * (1 : Int64))), .second, .unset, .unset, .unset, .unset] [(.int (65535 : Int32)), (.int m_)]))
        refine OwnFin.step (fun tT kK => XS.iand X0.here hx rfl (hb hby at_64) rfl kK) ?_
        show OwnFin p e below _ (s₁.setTop (mkF m 65 #[.val (.int li), .val (.long s_), .second, .val (.long e_), .second, .val (.int lk), .val (.int m_), .val (.int mo), .val (.int (mo &&& (3 : Int32))), .val (.long (1 : Int64)), .second, .val (.long ((s_ &&& (9223372036854775807 : Int64)) - ((s_ &&& (9223372036854775807 : Int64)) / (1 : Int64)) * (1 : Int64))), .second, .unset, .unset, .unset, .unset] [(.int (m_ &&& (65535 : Int32)))]))
        refine OwnFin.step (fun tT kK => XS.i2dS X0.here hx rfl (hb hby at_65) rfl rfl kK) ?_
        show OwnFin p e below _ (s₁.setTop (mkF m 66 #[.val (.int li), .val (.long s_), .second, .val (.long e_), .second, .val (.int lk), .val (.int m_), .val (.int mo), .val (.int (mo &&& (3 : Int32))), .val (.long (1 : Int64)), .second, .val (.long ((s_ &&& (9223372036854775807 : Int64)) - ((s_ &&& (9223372036854775807 : Int64)) / (1 : Int64)) * (1 : Int64))), .second, .unset, .unset, .unset, .unset] [(.double (FP.i2d (m_ &&& (65535 : Int32))))]))
        refine OwnFin.step (fun tT kK => XS.dstore X0.here hx rfl (hb hby at_66) rfl (l' := #[.val (.int li), .val (.long s_), .second, .val (.long e_), .second, .val (.int lk), .val (.int m_), .val (.int mo), .val (.int (mo &&& (3 : Int32))), .val (.long (1 : Int64)), .second, .val (.long ((s_ &&& (9223372036854775807 : Int64)) - ((s_ &&& (9223372036854775807 : Int64)) / (1 : Int64)) * (1 : Int64))), .second, .val (.double (FP.i2d (m_ &&& (65535 : Int32)))), .second, .unset, .unset]) rfl kK) ?_
        show OwnFin p e below _ (s₁.setTop (mkF m 68 #[.val (.int li), .val (.long s_), .second, .val (.long e_), .second, .val (.int lk), .val (.int m_), .val (.int mo), .val (.int (mo &&& (3 : Int32))), .val (.long (1 : Int64)), .second, .val (.long ((s_ &&& (9223372036854775807 : Int64)) - ((s_ &&& (9223372036854775807 : Int64)) / (1 : Int64)) * (1 : Int64))), .second, .val (.double (FP.i2d (m_ &&& (65535 : Int32)))), .second, .unset, .unset] []))
        obtain ⟨T25, h25, X25, e25, E25, A25, D25, -, st25⟩ := newO X0 hx hZ hown (hw _ (List.mem_of_getElem? (i := 2) rfl)) (hw _ (List.mem_of_getElem? (i := 3) rfl)) (hw _ (List.mem_of_getElem? (i := 4) rfl)) e0 (g := (mkF m 68 #[.val (.int li), .val (.long s_), .second, .val (.long e_), .second, .val (.int lk), .val (.int m_), .val (.int mo), .val (.int (mo &&& (3 : Int32))), .val (.long (1 : Int64)), .second, .val (.long ((s_ &&& (9223372036854775807 : Int64)) - ((s_ &&& (9223372036854775807 : Int64)) / (1 : Int64)) * (1 : Int64))), .second, .val (.double (FP.i2d (m_ &&& (65535 : Int32)))), .second, .unset, .unset] [])) rfl (hb hby at_68) (by decide) (by decide)
        obtain ⟨b25, g25⟩ : ∃ z, z = h0.size := ⟨_, rfl⟩
        rw [← g25] at A25 D25 st25
        refine OwnFin.step st25 ?_
        have Fz26 : Fld Z h25 b25 "com/example/bogong/bogong/events/RoadEvent" "line" "I" (.int (0 : Int32)) := D25 (Or.inr (hw _ (List.mem_of_getElem? (i := 17) rfl))) (ty := .int) (by decide)
        have Fz27 : Fld Z h25 b25 "com/example/bogong/bogong/events/RoadEvent" "startTick" "J" (.long (0 : Int64)) := D25 (Or.inr (hw _ (List.mem_of_getElem? (i := 19) rfl))) (ty := .long) (by decide)
        have Fz28 : Fld Z h25 b25 "com/example/bogong/bogong/events/RoadEvent" "endTick" "J" (.long (0 : Int64)) := D25 (Or.inr (hw _ (List.mem_of_getElem? (i := 21) rfl))) (ty := .long) (by decide)
        have Fz29 : Fld Z h25 b25 "com/example/bogong/bogong/events/RoadEvent" "link" "I" (.int (0 : Int32)) := D25 (Or.inr (hw _ (List.mem_of_getElem? (i := 23) rfl))) (ty := .int) (by decide)
        have Fz30 : Fld Z h25 b25 "com/example/bogong/bogong/events/RoadEvent" "minutes" "D" (.double (0 : UInt64)) := D25 (Or.inr (hw _ (List.mem_of_getElem? (i := 25) rfl))) (ty := .double) (by decide)
        show OwnFin p e below _ (T25.setTop (mkF m 71 #[.val (.int li), .val (.long s_), .second, .val (.long e_), .second, .val (.int lk), .val (.int m_), .val (.int mo), .val (.int (mo &&& (3 : Int32))), .val (.long (1 : Int64)), .second, .val (.long ((s_ &&& (9223372036854775807 : Int64)) - ((s_ &&& (9223372036854775807 : Int64)) / (1 : Int64)) * (1 : Int64))), .second, .val (.double (FP.i2d (m_ &&& (65535 : Int32)))), .second, .unset, .unset] [(.ref b25)]))
        refine OwnFin.step (fun tT kK => XS.dup X25.here hx rfl (hb hby at_71) rfl rfl kK) ?_
        show OwnFin p e below _ (T25.setTop (mkF m 72 #[.val (.int li), .val (.long s_), .second, .val (.long e_), .second, .val (.int lk), .val (.int m_), .val (.int mo), .val (.int (mo &&& (3 : Int32))), .val (.long (1 : Int64)), .second, .val (.long ((s_ &&& (9223372036854775807 : Int64)) - ((s_ &&& (9223372036854775807 : Int64)) / (1 : Int64)) * (1 : Int64))), .second, .val (.double (FP.i2d (m_ &&& (65535 : Int32)))), .second, .unset, .unset] [(.ref b25), (.ref b25)]))
        refine OwnFin.step (fun tT kK => XS.iloadN X25.here hx rfl (hb hby at_72) rfl kK) ?_
        show OwnFin p e below _ (T25.setTop (mkF m 73 #[.val (.int li), .val (.long s_), .second, .val (.long e_), .second, .val (.int lk), .val (.int m_), .val (.int mo), .val (.int (mo &&& (3 : Int32))), .val (.long (1 : Int64)), .second, .val (.long ((s_ &&& (9223372036854775807 : Int64)) - ((s_ &&& (9223372036854775807 : Int64)) / (1 : Int64)) * (1 : Int64))), .second, .val (.double (FP.i2d (m_ &&& (65535 : Int32)))), .second, .unset, .unset] [(.int li), (.ref b25), (.ref b25)]))
        refine OwnFin.step (fun tT kK => XS.lload X25.here hx rfl (hb hby at_73) rfl kK) ?_
        show OwnFin p e below _ (T25.setTop (mkF m 75 #[.val (.int li), .val (.long s_), .second, .val (.long e_), .second, .val (.int lk), .val (.int m_), .val (.int mo), .val (.int (mo &&& (3 : Int32))), .val (.long (1 : Int64)), .second, .val (.long ((s_ &&& (9223372036854775807 : Int64)) - ((s_ &&& (9223372036854775807 : Int64)) / (1 : Int64)) * (1 : Int64))), .second, .val (.double (FP.i2d (m_ &&& (65535 : Int32)))), .second, .unset, .unset] [(.long ((s_ &&& (9223372036854775807 : Int64)) - ((s_ &&& (9223372036854775807 : Int64)) / (1 : Int64)) * (1 : Int64))), (.int li), (.ref b25), (.ref b25)]))
        refine OwnFin.step (fun tT kK => XS.lload X25.here hx rfl (hb hby at_75) rfl kK) ?_
        show OwnFin p e below _ (T25.setTop (mkF m 77 #[.val (.int li), .val (.long s_), .second, .val (.long e_), .second, .val (.int lk), .val (.int m_), .val (.int mo), .val (.int (mo &&& (3 : Int32))), .val (.long (1 : Int64)), .second, .val (.long ((s_ &&& (9223372036854775807 : Int64)) - ((s_ &&& (9223372036854775807 : Int64)) / (1 : Int64)) * (1 : Int64))), .second, .val (.double (FP.i2d (m_ &&& (65535 : Int32)))), .second, .unset, .unset] [(.long (1 : Int64)), (.long ((s_ &&& (9223372036854775807 : Int64)) - ((s_ &&& (9223372036854775807 : Int64)) / (1 : Int64)) * (1 : Int64))), (.int li), (.ref b25), (.ref b25)]))
        refine OwnFin.step (fun tT kK => XS.iload X25.here hx rfl (hb hby at_77) rfl kK) ?_
        show OwnFin p e below _ (T25.setTop (mkF m 79 #[.val (.int li), .val (.long s_), .second, .val (.long e_), .second, .val (.int lk), .val (.int m_), .val (.int mo), .val (.int (mo &&& (3 : Int32))), .val (.long (1 : Int64)), .second, .val (.long ((s_ &&& (9223372036854775807 : Int64)) - ((s_ &&& (9223372036854775807 : Int64)) / (1 : Int64)) * (1 : Int64))), .second, .val (.double (FP.i2d (m_ &&& (65535 : Int32)))), .second, .unset, .unset] [(.int lk), (.long (1 : Int64)), (.long ((s_ &&& (9223372036854775807 : Int64)) - ((s_ &&& (9223372036854775807 : Int64)) / (1 : Int64)) * (1 : Int64))), (.int li), (.ref b25), (.ref b25)]))
        refine OwnFin.step (fun tT kK => XS.dload X25.here hx rfl (hb hby at_79) rfl kK) ?_
        show OwnFin p e below _ (T25.setTop (mkF m 81 #[.val (.int li), .val (.long s_), .second, .val (.long e_), .second, .val (.int lk), .val (.int m_), .val (.int mo), .val (.int (mo &&& (3 : Int32))), .val (.long (1 : Int64)), .second, .val (.long ((s_ &&& (9223372036854775807 : Int64)) - ((s_ &&& (9223372036854775807 : Int64)) / (1 : Int64)) * (1 : Int64))), .second, .val (.double (FP.i2d (m_ &&& (65535 : Int32)))), .second, .unset, .unset] [(.double (FP.i2d (m_ &&& (65535 : Int32)))), (.int lk), (.long (1 : Int64)), (.long ((s_ &&& (9223372036854775807 : Int64)) - ((s_ &&& (9223372036854775807 : Int64)) / (1 : Int64)) * (1 : Int64))), (.int li), (.ref b25), (.ref b25)]))
        obtain ⟨_, _, ⟨T31, L31, k31, n31⟩, -, X31, ⟨Lc31, hQ31, l31, y31, z31⟩, st31⟩ := X25.specialBack hx (y := (⟨"com/example/bogong/bogong/events/RoadEvent", "<init>", "(IJJID)V"⟩ : MethodName)) rfl hown (mvT hZ (hw _ (List.mem_of_getElem? (i := 5) rfl))) (mvT hZ (hw _ (List.mem_of_getElem? (i := 6) rfl))) (mvT hZ (hw _ (List.mem_of_getElem? (i := 7) rfl))) (by decide) (backOf (W := 1) (rm2 l Z a0 hw [] b25 li ((s_ &&& (9223372036854775807 : Int64)) - ((s_ &&& (9223372036854775807 : Int64)) / (1 : Int64)) * (1 : Int64)) (1 : Int64) lk (FP.i2d (m_ &&& (65535 : Int32))) h25 n0 (Nat.le_trans Z0 E25.1) A25 Fz26 Fz27 Fz28 Fz29 Fz30 (Nat.le_trans Z0 (Nat.le_of_eq g25.symm)) ((own_rem (own_mask _) hpos24).1) ((own_rem (own_mask _) hpos24).2) (own_dge (own_m16 _))) hZ (hw _ (List.mem_of_getElem? (i := 7) rfl)) (hw _ (List.mem_of_getElem? (i := 4) rfl)) (by decide) (by decide)) (g := (mkF m 81 #[.val (.int li), .val (.long s_), .second, .val (.long e_), .second, .val (.int lk), .val (.int m_), .val (.int mo), .val (.int (mo &&& (3 : Int32))), .val (.long (1 : Int64)), .second, .val (.long ((s_ &&& (9223372036854775807 : Int64)) - ((s_ &&& (9223372036854775807 : Int64)) / (1 : Int64)) * (1 : Int64))), .second, .val (.double (FP.i2d (m_ &&& (65535 : Int32)))), .second, .unset, .unset] [(.double (FP.i2d (m_ &&& (65535 : Int32)))), (.int lk), (.long (1 : Int64)), (.long ((s_ &&& (9223372036854775807 : Int64)) - ((s_ &&& (9223372036854775807 : Int64)) / (1 : Int64)) * (1 : Int64))), (.int li), (.ref b25), (.ref b25)])) rfl (by rw [hml]; rfl) (Steps.refl _) (a := b25) (argsL := [(.int li), (.long ((s_ &&& (9223372036854775807 : Int64)) - ((s_ &&& (9223372036854775807 : Int64)) / (1 : Int64)) * (1 : Int64))), (.long (1 : Int64)), (.int lk), (.double (FP.i2d (m_ &&& (65535 : Int32))))]) (rest := [(.ref b25)]) (lenOf pd_46 rfl) rfl (by show 2 * 0 + _ ≤ _; exact Nat.le_of_eq rfl) (hb hby at_81) (fun _ _ => ⟨rfl, e25, (by decide : 1 + 0 ≤ _), (by decide : 5 + 0 ≤ _)⟩)
        dsimp only [Pt.U, Pt.locs, Pt.cells, Pt.slots] at X31 l31 y31 z31 st31 hQ31
        subst l31 y31 z31
        obtain ⟨rfl, N31q, K31, P31_0, P31_1, P31_2, P31_3, P31_4, P31_5⟩ := hQ31
        have N31 := Fr.app N0 N31q
        refine OwnFin.step (fun tT kK => st31.trans kK) ?_
        show OwnFin p e below _ (T31.setTop (mkF m 84 #[.val (.int li), .val (.long s_), .second, .val (.long e_), .second, .val (.int lk), .val (.int m_), .val (.int mo), .val (.int (mo &&& (3 : Int32))), .val (.long (1 : Int64)), .second, .val (.long ((s_ &&& (9223372036854775807 : Int64)) - ((s_ &&& (9223372036854775807 : Int64)) / (1 : Int64)) * (1 : Int64))), .second, .val (.double (FP.i2d (m_ &&& (65535 : Int32)))), .second, .unset, .unset] [(.ref b25)]))
        refine OwnFin.step (fun tT kK => XS.astore X31.here hx rfl (hb hby at_84) rfl rfl (l' := #[.val (.int li), .val (.long s_), .second, .val (.long e_), .second, .val (.int lk), .val (.int m_), .val (.int mo), .val (.int (mo &&& (3 : Int32))), .val (.long (1 : Int64)), .second, .val (.long ((s_ &&& (9223372036854775807 : Int64)) - ((s_ &&& (9223372036854775807 : Int64)) / (1 : Int64)) * (1 : Int64))), .second, .val (.double (FP.i2d (m_ &&& (65535 : Int32)))), .second, .val (.ref b25), .unset]) rfl kK) ?_
        show OwnFin p e below _ (T31.setTop (mkF m 86 #[.val (.int li), .val (.long s_), .second, .val (.long e_), .second, .val (.int lk), .val (.int m_), .val (.int mo), .val (.int (mo &&& (3 : Int32))), .val (.long (1 : Int64)), .second, .val (.long ((s_ &&& (9223372036854775807 : Int64)) - ((s_ &&& (9223372036854775807 : Int64)) / (1 : Int64)) * (1 : Int64))), .second, .val (.double (FP.i2d (m_ &&& (65535 : Int32)))), .second, .val (.ref b25), .unset] []))
        refine OwnFin.step (fun tT kK => XS.lload X31.here hx rfl (hb hby at_86) rfl kK) ?_
        show OwnFin p e below _ (T31.setTop (mkF m 88 #[.val (.int li), .val (.long s_), .second, .val (.long e_), .second, .val (.int lk), .val (.int m_), .val (.int mo), .val (.int (mo &&& (3 : Int32))), .val (.long (1 : Int64)), .second, .val (.long ((s_ &&& (9223372036854775807 : Int64)) - ((s_ &&& (9223372036854775807 : Int64)) / (1 : Int64)) * (1 : Int64))), .second, .val (.double (FP.i2d (m_ &&& (65535 : Int32)))), .second, .val (.ref b25), .unset] [(.long (1 : Int64))]))
        refine OwnFin.step (fun tT kK => X31.ldc2J hx hown (mvT hZ (hw _ (List.mem_of_getElem? (i := 0) rfl))) (g := (mkF m 88 #[.val (.int li), .val (.long s_), .second, .val (.long e_), .second, .val (.int lk), .val (.int m_), .val (.int mo), .val (.int (mo &&& (3 : Int32))), .val (.long (1 : Int64)), .second, .val (.long ((s_ &&& (9223372036854775807 : Int64)) - ((s_ &&& (9223372036854775807 : Int64)) / (1 : Int64)) * (1 : Int64))), .second, .val (.double (FP.i2d (m_ &&& (65535 : Int32)))), .second, .val (.ref b25), .unset] [(.long (1 : Int64))])) rfl (hb hby at_88) kK) ?_
        show OwnFin p e below _ (T31.setTop (mkF m 91 #[.val (.int li), .val (.long s_), .second, .val (.long e_), .second, .val (.int lk), .val (.int m_), .val (.int mo), .val (.int (mo &&& (3 : Int32))), .val (.long (1 : Int64)), .second, .val (.long ((s_ &&& (9223372036854775807 : Int64)) - ((s_ &&& (9223372036854775807 : Int64)) / (1 : Int64)) * (1 : Int64))), .second, .val (.double (FP.i2d (m_ &&& (65535 : Int32)))), .second, .val (.ref b25), .unset] [(.long (9223372036854775807 : Int64)), (.long (1 : Int64))]))
        refine OwnFin.step (fun tT kK => XS.lcmp X31.here hx rfl (hb hby at_91) rfl kK) ?_
        show OwnFin p e below _ (T31.setTop (mkF m 92 #[.val (.int li), .val (.long s_), .second, .val (.long e_), .second, .val (.int lk), .val (.int m_), .val (.int mo), .val (.int (mo &&& (3 : Int32))), .val (.long (1 : Int64)), .second, .val (.long ((s_ &&& (9223372036854775807 : Int64)) - ((s_ &&& (9223372036854775807 : Int64)) / (1 : Int64)) * (1 : Int64))), .second, .val (.double (FP.i2d (m_ &&& (65535 : Int32)))), .second, .val (.ref b25), .unset] [(.int (lcmpW (1 : Int64) (9223372036854775807 : Int64)))]))
        refine OwnFin.step (fun tT kK => XS.ifNo X31.here hx rfl (hb hby at_92) rfl ((if0 _ _).trans (tlt (by decide : (lcmpW (1 : Int64) (9223372036854775807 : Int64)) < (0 : Int32))).2.1) kK) ?_
        show OwnFin p e below _ (T31.setTop (mkF m 95 #[.val (.int li), .val (.long s_), .second, .val (.long e_), .second, .val (.int lk), .val (.int m_), .val (.int mo), .val (.int (mo &&& (3 : Int32))), .val (.long (1 : Int64)), .second, .val (.long ((s_ &&& (9223372036854775807 : Int64)) - ((s_ &&& (9223372036854775807 : Int64)) / (1 : Int64)) * (1 : Int64))), .second, .val (.double (FP.i2d (m_ &&& (65535 : Int32)))), .second, .val (.ref b25), .unset] []))
        refine OwnFin.step (fun tT kK => XS.iconst X31.here hx rfl (hb hby at_95) kK) ?_
        show OwnFin p e below _ (T31.setTop (mkF m 96 #[.val (.int li), .val (.long s_), .second, .val (.long e_), .second, .val (.int lk), .val (.int m_), .val (.int mo), .val (.int (mo &&& (3 : Int32))), .val (.long (1 : Int64)), .second, .val (.long ((s_ &&& (9223372036854775807 : Int64)) - ((s_ &&& (9223372036854775807 : Int64)) / (1 : Int64)) * (1 : Int64))), .second, .val (.double (FP.i2d (m_ &&& (65535 : Int32)))), .second, .val (.ref b25), .unset] [(.int (1 : Int32))]))
        refine OwnFin.step (fun tT kK => XS.goto X31.here hx rfl (pc0 := 96) (pc' := 100) rfl (hb hby at_96) (by decide) (by decide) kK) ?_
        show OwnFin p e below _ (T31.setTop (mkF m 100 #[.val (.int li), .val (.long s_), .second, .val (.long e_), .second, .val (.int lk), .val (.int m_), .val (.int mo), .val (.int (mo &&& (3 : Int32))), .val (.long (1 : Int64)), .second, .val (.long ((s_ &&& (9223372036854775807 : Int64)) - ((s_ &&& (9223372036854775807 : Int64)) / (1 : Int64)) * (1 : Int64))), .second, .val (.double (FP.i2d (m_ &&& (65535 : Int32)))), .second, .val (.ref b25), .unset] [(.int (1 : Int32))]))
        refine OwnFin.step (fun tT kK => XS.istore X31.here hx rfl (hb hby at_100) rfl (l' := #[.val (.int li), .val (.long s_), .second, .val (.long e_), .second, .val (.int lk), .val (.int m_), .val (.int mo), .val (.int (mo &&& (3 : Int32))), .val (.long (1 : Int64)), .second, .val (.long ((s_ &&& (9223372036854775807 : Int64)) - ((s_ &&& (9223372036854775807 : Int64)) / (1 : Int64)) * (1 : Int64))), .second, .val (.double (FP.i2d (m_ &&& (65535 : Int32)))), .second, .val (.ref b25), .val (.int (1 : Int32))]) rfl kK) ?_
        show OwnFin p e below _ (T31.setTop (mkF m 102 #[.val (.int li), .val (.long s_), .second, .val (.long e_), .second, .val (.int lk), .val (.int m_), .val (.int mo), .val (.int (mo &&& (3 : Int32))), .val (.long (1 : Int64)), .second, .val (.long ((s_ &&& (9223372036854775807 : Int64)) - ((s_ &&& (9223372036854775807 : Int64)) / (1 : Int64)) * (1 : Int64))), .second, .val (.double (FP.i2d (m_ &&& (65535 : Int32)))), .second, .val (.ref b25), .val (.int (1 : Int32))] []))
        refine OwnFin.step (fun tT kK => XS.aload X31.here hx rfl (hb hby at_102) rfl rfl kK) ?_
        show OwnFin p e below _ (T31.setTop (mkF m 104 #[.val (.int li), .val (.long s_), .second, .val (.long e_), .second, .val (.int lk), .val (.int m_), .val (.int mo), .val (.int (mo &&& (3 : Int32))), .val (.long (1 : Int64)), .second, .val (.long ((s_ &&& (9223372036854775807 : Int64)) - ((s_ &&& (9223372036854775807 : Int64)) / (1 : Int64)) * (1 : Int64))), .second, .val (.double (FP.i2d (m_ &&& (65535 : Int32)))), .second, .val (.ref b25), .val (.int (1 : Int32))] [(.ref b25)]))
        obtain ⟨cq32, kq32, q32a, q32b, q32c⟩ := isOf hZ rfl P31_0
        obtain ⟨_, _, ⟨T32, L32, k32, n32⟩, -, X32, ⟨Lc32, hQ32, l32, y32, z32⟩, st32⟩ := X31.virtualBack hx (y := (⟨"com/example/bogong/bogong/events/RoadEvent", "ends", "()Z"⟩ : MethodName)) (z := (⟨"com/example/bogong/bogong/events/RoadEvent", "ends", "()Z"⟩ : MethodName)) hown (mvT hZ (hw _ (List.mem_of_getElem? (i := 26) rfl))) (mvT hZ (hw _ (List.mem_of_getElem? (i := 27) rfl))) (notFace_of_selects (args := #[]) (mvT hZ (hw _ (List.mem_of_getElem? (i := 29) rfl)))) (mvT hZ (hw _ (List.mem_of_getElem? (i := 29) rfl))) (mvT hZ (hw _ (List.mem_of_getElem? (i := 28) rfl))) (by decide) (backOf (W := 0) (rm3 l Z a0 hw [] b25 (1 : Int64) T31.heap n0 (Nat.le_trans (Nat.le_trans Z0 E25.1) K31.1) P31_3) hZ (hw _ (List.mem_of_getElem? (i := 30) rfl)) (hw _ (List.mem_of_getElem? (i := 4) rfl)) (by decide) (by decide)) q32a q32c (g := (mkF m 104 #[.val (.int li), .val (.long s_), .second, .val (.long e_), .second, .val (.int lk), .val (.int m_), .val (.int mo), .val (.int (mo &&& (3 : Int32))), .val (.long (1 : Int64)), .second, .val (.long ((s_ &&& (9223372036854775807 : Int64)) - ((s_ &&& (9223372036854775807 : Int64)) / (1 : Int64)) * (1 : Int64))), .second, .val (.double (FP.i2d (m_ &&& (65535 : Int32)))), .second, .val (.ref b25), .val (.int (1 : Int32))] [(.ref b25)])) rfl (by rw [hml]; rfl) (Steps.refl _) (argsL := []) (rest := []) (lenOf pd_47 rfl) rfl (by show 2 * 0 + _ ≤ _; exact Nat.le_of_eq rfl) (hb hby at_104) (fun _ _ => ⟨rfl, rfl, (by decide : 1 + 0 ≤ _), (by decide : 5 + 0 ≤ _)⟩)
        dsimp only [Pt.U, Pt.locs, Pt.cells, Pt.slots] at X32 l32 y32 z32 st32 hQ32
        subst l32 y32 z32
        obtain ⟨rfl, N32q, e32⟩ := hQ32
        have N32 := Fr.app N31 N32q
        refine OwnFin.step (fun tT kK => st32.trans kK) ?_
        show OwnFin p e below _ (T32.setTop (mkF m 107 #[.val (.int li), .val (.long s_), .second, .val (.long e_), .second, .val (.int lk), .val (.int m_), .val (.int mo), .val (.int (mo &&& (3 : Int32))), .val (.long (1 : Int64)), .second, .val (.long ((s_ &&& (9223372036854775807 : Int64)) - ((s_ &&& (9223372036854775807 : Int64)) / (1 : Int64)) * (1 : Int64))), .second, .val (.double (FP.i2d (m_ &&& (65535 : Int32)))), .second, .val (.ref b25), .val (.int (1 : Int32))] [(.int (if lcmpW (1 : Int64) (9223372036854775807 : Int64) = (0 : Int32) then 0 else 1))]))
        rw [show (if lcmpW (1 : Int64) (9223372036854775807 : Int64) = (0 : Int32) then (0 : Int32) else 1) = 1 from if_neg (by decide)]
        show OwnFin p e below _ (T32.setTop (mkF m 107 #[.val (.int li), .val (.long s_), .second, .val (.long e_), .second, .val (.int lk), .val (.int m_), .val (.int mo), .val (.int (mo &&& (3 : Int32))), .val (.long (1 : Int64)), .second, .val (.long ((s_ &&& (9223372036854775807 : Int64)) - ((s_ &&& (9223372036854775807 : Int64)) / (1 : Int64)) * (1 : Int64))), .second, .val (.double (FP.i2d (m_ &&& (65535 : Int32)))), .second, .val (.ref b25), .val (.int (1 : Int32))] [(.int (1 : Int32))]))
        refine OwnFin.step (fun tT kK => XS.iload X32.here hx rfl (hb hby at_107) rfl kK) ?_
        show OwnFin p e below _ (T32.setTop (mkF m 109 #[.val (.int li), .val (.long s_), .second, .val (.long e_), .second, .val (.int lk), .val (.int m_), .val (.int mo), .val (.int (mo &&& (3 : Int32))), .val (.long (1 : Int64)), .second, .val (.long ((s_ &&& (9223372036854775807 : Int64)) - ((s_ &&& (9223372036854775807 : Int64)) / (1 : Int64)) * (1 : Int64))), .second, .val (.double (FP.i2d (m_ &&& (65535 : Int32)))), .second, .val (.ref b25), .val (.int (1 : Int32))] [(.int (1 : Int32)), (.int (1 : Int32))]))
        refine OwnFin.step (fun tT kK => XS.icmpNo X32.here hx rfl (hb hby at_109) rfl (teq (rfl : (1 : Int32) = (1 : Int32))).2 kK) ?_
        show OwnFin p e below _ (T32.setTop (mkF m 112 #[.val (.int li), .val (.long s_), .second, .val (.long e_), .second, .val (.int lk), .val (.int m_), .val (.int mo), .val (.int (mo &&& (3 : Int32))), .val (.long (1 : Int64)), .second, .val (.long ((s_ &&& (9223372036854775807 : Int64)) - ((s_ &&& (9223372036854775807 : Int64)) / (1 : Int64)) * (1 : Int64))), .second, .val (.double (FP.i2d (m_ &&& (65535 : Int32)))), .second, .val (.ref b25), .val (.int (1 : Int32))] []))
        refine OwnFin.step (fun tT kK => XS.iconst X32.here hx rfl (hb hby at_112) kK) ?_
        show OwnFin p e below _ (T32.setTop (mkF m 113 #[.val (.int li), .val (.long s_), .second, .val (.long e_), .second, .val (.int lk), .val (.int m_), .val (.int mo), .val (.int (mo &&& (3 : Int32))), .val (.long (1 : Int64)), .second, .val (.long ((s_ &&& (9223372036854775807 : Int64)) - ((s_ &&& (9223372036854775807 : Int64)) / (1 : Int64)) * (1 : Int64))), .second, .val (.double (FP.i2d (m_ &&& (65535 : Int32)))), .second, .val (.ref b25), .val (.int (1 : Int32))] [(.int (1 : Int32))]))
        refine OwnFin.step (fun tT kK => XS.goto X32.here hx rfl (pc0 := 113) (pc' := 117) rfl (hb hby at_113) (by decide) (by decide) kK) ?_
        show OwnFin p e below _ (T32.setTop (mkF m 117 #[.val (.int li), .val (.long s_), .second, .val (.long e_), .second, .val (.int lk), .val (.int m_), .val (.int mo), .val (.int (mo &&& (3 : Int32))), .val (.long (1 : Int64)), .second, .val (.long ((s_ &&& (9223372036854775807 : Int64)) - ((s_ &&& (9223372036854775807 : Int64)) / (1 : Int64)) * (1 : Int64))), .second, .val (.double (FP.i2d (m_ &&& (65535 : Int32)))), .second, .val (.ref b25), .val (.int (1 : Int32))] [(.int (1 : Int32))]))
        obtain ⟨fs33, hr33, hrun33, hended33, hW33, hsame33⟩ := X32.leave (v := (some (.int (1 : Int32)))) (fun h => by rw [Bd.returns] at h; cases h)
        refine ⟨_, _, retN X32 hx (t := .boolean) Bd.returns (by simp) (hb hby at_117) hr33, hrun33, hended33, _, _, rfl, ?_, ⟨_, rfl⟩, hW33, hsame33.mono (by decide) (by decide)⟩
        show Q0 Z li s_ e_ lk m_ mo h0 n0 _ T32.heap _
        rw [e32]
        exact ⟨rfl, N32, (((Keep.refl h0 []).ext E25).trans K31 (allS (P := fun x => x ∈ [] ∨ h0.size ≤ x) (Or.inr (Nat.le_trans (Nat.le_refl _) (Nat.le_of_eq g25.symm))) all0))⟩
      · skip
        refine OwnFin.step (fun tT kK => XS.ifYes X0.here hx rfl (pc0 := 44) (pc' := 50) rfl (hb hby at_44) rfl ((if0 _ _).trans (feq (hc23 : ¬ ((lcmpW (e_ &&& (9223372036854775807 : Int64)) (0 : Int64)) = (0 : Int32)))).2) (by decide) (by decide) kK) ?_
        show OwnFin p e below _ (s₁.setTop (mkF m 50 #[.val (.int li), .val (.long s_), .second, .val (.long e_), .second, .val (.int lk), .val (.int m_), .val (.int mo), .val (.int (mo &&& (3 : Int32))), .val (.long (e_ &&& (9223372036854775807 : Int64))), .second, .unset, .unset, .unset, .unset, .unset, .unset] []))
        have hpos34 : 0 < ((e_ &&& (9223372036854775807 : Int64))).toInt := own_pos (own_mask _) hc23
        refine OwnFin.step (fun tT kK => XS.lloadN X0.here hx rfl (hb hby at_50) rfl kK) ?_
        show OwnFin p e below _ (s₁.setTop (mkF m 51 #[.val (.int li), .val (.long s_), .second, .val (.long e_), .second, .val (.int lk), .val (.int m_), .val (.int mo), .val (.int (mo &&& (3 : Int32))), .val (.long (e_ &&& (9223372036854775807 : Int64))), .second, .unset, .unset, .unset, .unset, .unset, .unset] [(.long s_)]))
        refine OwnFin.step (fun tT kK => X0.ldc2J hx hown (mvT hZ (hw _ (List.mem_of_getElem? (i := 0) rfl))) (g := (mkF m 51 #[.val (.int li), .val (.long s_), .second, .val (.long e_), .second, .val (.int lk), .val (.int m_), .val (.int mo), .val (.int (mo &&& (3 : Int32))), .val (.long (e_ &&& (9223372036854775807 : Int64))), .second, .unset, .unset, .unset, .unset, .unset, .unset] [(.long s_)])) rfl (hb hby at_51) kK) ?_
        show OwnFin p e below _ (s₁.setTop (mkF m 54 #[.val (.int li), .val (.long s_), .second, .val (.long e_), .second, .val (.int lk), .val (.int m_), .val (.int mo), .val (.int (mo &&& (3 : Int32))), .val (.long (e_ &&& (9223372036854775807 : Int64))), .second, .unset, .unset, .unset, .unset, .unset, .unset] [(.long (9223372036854775807 : Int64)), (.long s_)]))
        refine OwnFin.step (fun tT kK => XS.land X0.here hx rfl (hb hby at_54) rfl kK) ?_
        show OwnFin p e below _ (s₁.setTop (mkF m 55 #[.val (.int li), .val (.long s_), .second, .val (.long e_), .second, .val (.int lk), .val (.int m_), .val (.int mo), .val (.int (mo &&& (3 : Int32))), .val (.long (e_ &&& (9223372036854775807 : Int64))), .second, .unset, .unset, .unset, .unset, .unset, .unset] [(.long (s_ &&& (9223372036854775807 : Int64)))]))
        refine OwnFin.step (fun tT kK => XS.lload X0.here hx rfl (hb hby at_55) rfl kK) ?_
        show OwnFin p e below _ (s₁.setTop (mkF m 57 #[.val (.int li), .val (.long s_), .second, .val (.long e_), .second, .val (.int lk), .val (.int m_), .val (.int mo), .val (.int (mo &&& (3 : Int32))), .val (.long (e_ &&& (9223372036854775807 : Int64))), .second, .unset, .unset, .unset, .unset, .unset, .unset] [(.long (e_ &&& (9223372036854775807 : Int64))), (.long (s_ &&& (9223372036854775807 : Int64)))]))
        refine OwnFin.step (fun tT kK => XS.lrem X0.here hx rfl (hb hby at_57) rfl (own_ne0 hpos34) kK) ?_
        show OwnFin p e below _ (s₁.setTop (mkF m 58 #[.val (.int li), .val (.long s_), .second, .val (.long e_), .second, .val (.int lk), .val (.int m_), .val (.int mo), .val (.int (mo &&& (3 : Int32))), .val (.long (e_ &&& (9223372036854775807 : Int64))), .second, .unset, .unset, .unset, .unset, .unset, .unset] [(.long ((s_ &&& (9223372036854775807 : Int64)) - ((s_ &&& (9223372036854775807 : Int64)) / (e_ &&& (9223372036854775807 : Int64))) * (e_ &&& (9223372036854775807 : Int64))))]))
        refine OwnFin.step (fun tT kK => XS.lstore X0.here hx rfl (hb hby at_58) rfl (l' := #[.val (.int li), .val (.long s_), .second, .val (.long e_), .second, .val (.int lk), .val (.int m_), .val (.int mo), .val (.int (mo &&& (3 : Int32))), .val (.long (e_ &&& (9223372036854775807 : Int64))), .second, .val (.long ((s_ &&& (9223372036854775807 : Int64)) - ((s_ &&& (9223372036854775807 : Int64)) / (e_ &&& (9223372036854775807 : Int64))) * (e_ &&& (9223372036854775807 : Int64)))), .second, .unset, .unset, .unset, .unset]) rfl kK) ?_
        show OwnFin p e below _ (s₁.setTop (mkF m 60 #[.val (.int li), .val (.long s_), .second, .val (.long e_), .second, .val (.int lk), .val (.int m_), .val (.int mo), .val (.int (mo &&& (3 : Int32))), .val (.long (e_ &&& (9223372036854775807 : Int64))), .second, .val (.long ((s_ &&& (9223372036854775807 : Int64)) - ((s_ &&& (9223372036854775807 : Int64)) / (e_ &&& (9223372036854775807 : Int64))) * (e_ &&& (9223372036854775807 : Int64)))), .second, .unset, .unset, .unset, .unset] []))
        refine OwnFin.step (fun tT kK => XS.iload X0.here hx rfl (hb hby at_60) rfl kK) ?_
        show OwnFin p e below _ (s₁.setTop (mkF m 62 #[.val (.int li), .val (.long s_), .second, .val (.long e_), .second, .val (.int lk), .val (.int m_), .val (.int mo), .val (.int (mo &&& (3 : Int32))), .val (.long (e_ &&& (9223372036854775807 : Int64))), .second, .val (.long ((s_ &&& (9223372036854775807 : Int64)) - ((s_ &&& (9223372036854775807 : Int64)) / (e_ &&& (9223372036854775807 : Int64))) * (e_ &&& (9223372036854775807 : Int64)))), .second, .unset, .unset, .unset, .unset] [(.int m_)]))
        refine OwnFin.step (fun tT kK => X0.ldcI hx hown (mvT hZ (hw _ (List.mem_of_getElem? (i := 1) rfl))) (g := (mkF m 62 #[.val (.int li), .val (.long s_), .second, .val (.long e_), .second, .val (.int lk), .val (.int m_), .val (.int mo), .val (.int (mo &&& (3 : Int32))), .val (.long (e_ &&& (9223372036854775807 : Int64))), .second, .val (.long ((s_ &&& (9223372036854775807 : Int64)) - ((s_ &&& (9223372036854775807 : Int64)) / (e_ &&& (9223372036854775807 : Int64))) * (e_ &&& (9223372036854775807 : Int64)))), .second, .unset, .unset, .unset, .unset] [(.int m_)])) rfl (hb hby at_62) kK) ?_
        show OwnFin p e below _ (s₁.setTop (mkF m 64 #[.val (.int li), .val (.long s_), .second, .val (.long e_), .second, .val (.int lk), .val (.int m_), .val (.int mo), .val (.int (mo &&& (3 : Int32))), .val (.long (e_ &&& (9223372036854775807 : Int64))), .second, .val (.long ((s_ &&& (9223372036854775807 : Int64)) - ((s_ &&& (9223372036854775807 : Int64)) / (e_ &&& (9223372036854775807 : Int64))) * (e_ &&& (9223372036854775807 : Int64)))), .second, .unset, .unset, .unset, .unset] [(.int (65535 : Int32)), (.int m_)]))
        refine OwnFin.step (fun tT kK => XS.iand X0.here hx rfl (hb hby at_64) rfl kK) ?_
        show OwnFin p e below _ (s₁.setTop (mkF m 65 #[.val (.int li), .val (.long s_), .second, .val (.long e_), .second, .val (.int lk), .val (.int m_), .val (.int mo), .val (.int (mo &&& (3 : Int32))), .val (.long (e_ &&& (9223372036854775807 : Int64))), .second, .val (.long ((s_ &&& (9223372036854775807 : Int64)) - ((s_ &&& (9223372036854775807 : Int64)) / (e_ &&& (9223372036854775807 : Int64))) * (e_ &&& (9223372036854775807 : Int64)))), .second, .unset, .unset, .unset, .unset] [(.int (m_ &&& (65535 : Int32)))]))
        refine OwnFin.step (fun tT kK => XS.i2dS X0.here hx rfl (hb hby at_65) rfl rfl kK) ?_
        show OwnFin p e below _ (s₁.setTop (mkF m 66 #[.val (.int li), .val (.long s_), .second, .val (.long e_), .second, .val (.int lk), .val (.int m_), .val (.int mo), .val (.int (mo &&& (3 : Int32))), .val (.long (e_ &&& (9223372036854775807 : Int64))), .second, .val (.long ((s_ &&& (9223372036854775807 : Int64)) - ((s_ &&& (9223372036854775807 : Int64)) / (e_ &&& (9223372036854775807 : Int64))) * (e_ &&& (9223372036854775807 : Int64)))), .second, .unset, .unset, .unset, .unset] [(.double (FP.i2d (m_ &&& (65535 : Int32))))]))
        refine OwnFin.step (fun tT kK => XS.dstore X0.here hx rfl (hb hby at_66) rfl (l' := #[.val (.int li), .val (.long s_), .second, .val (.long e_), .second, .val (.int lk), .val (.int m_), .val (.int mo), .val (.int (mo &&& (3 : Int32))), .val (.long (e_ &&& (9223372036854775807 : Int64))), .second, .val (.long ((s_ &&& (9223372036854775807 : Int64)) - ((s_ &&& (9223372036854775807 : Int64)) / (e_ &&& (9223372036854775807 : Int64))) * (e_ &&& (9223372036854775807 : Int64)))), .second, .val (.double (FP.i2d (m_ &&& (65535 : Int32)))), .second, .unset, .unset]) rfl kK) ?_
        show OwnFin p e below _ (s₁.setTop (mkF m 68 #[.val (.int li), .val (.long s_), .second, .val (.long e_), .second, .val (.int lk), .val (.int m_), .val (.int mo), .val (.int (mo &&& (3 : Int32))), .val (.long (e_ &&& (9223372036854775807 : Int64))), .second, .val (.long ((s_ &&& (9223372036854775807 : Int64)) - ((s_ &&& (9223372036854775807 : Int64)) / (e_ &&& (9223372036854775807 : Int64))) * (e_ &&& (9223372036854775807 : Int64)))), .second, .val (.double (FP.i2d (m_ &&& (65535 : Int32)))), .second, .unset, .unset] []))
        obtain ⟨T35, h35, X35, e35, E35, A35, D35, -, st35⟩ := newO X0 hx hZ hown (hw _ (List.mem_of_getElem? (i := 2) rfl)) (hw _ (List.mem_of_getElem? (i := 3) rfl)) (hw _ (List.mem_of_getElem? (i := 4) rfl)) e0 (g := (mkF m 68 #[.val (.int li), .val (.long s_), .second, .val (.long e_), .second, .val (.int lk), .val (.int m_), .val (.int mo), .val (.int (mo &&& (3 : Int32))), .val (.long (e_ &&& (9223372036854775807 : Int64))), .second, .val (.long ((s_ &&& (9223372036854775807 : Int64)) - ((s_ &&& (9223372036854775807 : Int64)) / (e_ &&& (9223372036854775807 : Int64))) * (e_ &&& (9223372036854775807 : Int64)))), .second, .val (.double (FP.i2d (m_ &&& (65535 : Int32)))), .second, .unset, .unset] [])) rfl (hb hby at_68) (by decide) (by decide)
        obtain ⟨b35, g35⟩ : ∃ z, z = h0.size := ⟨_, rfl⟩
        rw [← g35] at A35 D35 st35
        refine OwnFin.step st35 ?_
        have Fz36 : Fld Z h35 b35 "com/example/bogong/bogong/events/RoadEvent" "line" "I" (.int (0 : Int32)) := D35 (Or.inr (hw _ (List.mem_of_getElem? (i := 17) rfl))) (ty := .int) (by decide)
        have Fz37 : Fld Z h35 b35 "com/example/bogong/bogong/events/RoadEvent" "startTick" "J" (.long (0 : Int64)) := D35 (Or.inr (hw _ (List.mem_of_getElem? (i := 19) rfl))) (ty := .long) (by decide)
        have Fz38 : Fld Z h35 b35 "com/example/bogong/bogong/events/RoadEvent" "endTick" "J" (.long (0 : Int64)) := D35 (Or.inr (hw _ (List.mem_of_getElem? (i := 21) rfl))) (ty := .long) (by decide)
        have Fz39 : Fld Z h35 b35 "com/example/bogong/bogong/events/RoadEvent" "link" "I" (.int (0 : Int32)) := D35 (Or.inr (hw _ (List.mem_of_getElem? (i := 23) rfl))) (ty := .int) (by decide)
        have Fz40 : Fld Z h35 b35 "com/example/bogong/bogong/events/RoadEvent" "minutes" "D" (.double (0 : UInt64)) := D35 (Or.inr (hw _ (List.mem_of_getElem? (i := 25) rfl))) (ty := .double) (by decide)
        show OwnFin p e below _ (T35.setTop (mkF m 71 #[.val (.int li), .val (.long s_), .second, .val (.long e_), .second, .val (.int lk), .val (.int m_), .val (.int mo), .val (.int (mo &&& (3 : Int32))), .val (.long (e_ &&& (9223372036854775807 : Int64))), .second, .val (.long ((s_ &&& (9223372036854775807 : Int64)) - ((s_ &&& (9223372036854775807 : Int64)) / (e_ &&& (9223372036854775807 : Int64))) * (e_ &&& (9223372036854775807 : Int64)))), .second, .val (.double (FP.i2d (m_ &&& (65535 : Int32)))), .second, .unset, .unset] [(.ref b35)]))
        refine OwnFin.step (fun tT kK => XS.dup X35.here hx rfl (hb hby at_71) rfl rfl kK) ?_
        show OwnFin p e below _ (T35.setTop (mkF m 72 #[.val (.int li), .val (.long s_), .second, .val (.long e_), .second, .val (.int lk), .val (.int m_), .val (.int mo), .val (.int (mo &&& (3 : Int32))), .val (.long (e_ &&& (9223372036854775807 : Int64))), .second, .val (.long ((s_ &&& (9223372036854775807 : Int64)) - ((s_ &&& (9223372036854775807 : Int64)) / (e_ &&& (9223372036854775807 : Int64))) * (e_ &&& (9223372036854775807 : Int64)))), .second, .val (.double (FP.i2d (m_ &&& (65535 : Int32)))), .second, .unset, .unset] [(.ref b35), (.ref b35)]))
        refine OwnFin.step (fun tT kK => XS.iloadN X35.here hx rfl (hb hby at_72) rfl kK) ?_
        show OwnFin p e below _ (T35.setTop (mkF m 73 #[.val (.int li), .val (.long s_), .second, .val (.long e_), .second, .val (.int lk), .val (.int m_), .val (.int mo), .val (.int (mo &&& (3 : Int32))), .val (.long (e_ &&& (9223372036854775807 : Int64))), .second, .val (.long ((s_ &&& (9223372036854775807 : Int64)) - ((s_ &&& (9223372036854775807 : Int64)) / (e_ &&& (9223372036854775807 : Int64))) * (e_ &&& (9223372036854775807 : Int64)))), .second, .val (.double (FP.i2d (m_ &&& (65535 : Int32)))), .second, .unset, .unset] [(.int li), (.ref b35), (.ref b35)]))
        refine OwnFin.step (fun tT kK => XS.lload X35.here hx rfl (hb hby at_73) rfl kK) ?_
        show OwnFin p e below _ (T35.setTop (mkF m 75 #[.val (.int li), .val (.long s_), .second, .val (.long e_), .second, .val (.int lk), .val (.int m_), .val (.int mo), .val (.int (mo &&& (3 : Int32))), .val (.long (e_ &&& (9223372036854775807 : Int64))), .second, .val (.long ((s_ &&& (9223372036854775807 : Int64)) - ((s_ &&& (9223372036854775807 : Int64)) / (e_ &&& (9223372036854775807 : Int64))) * (e_ &&& (9223372036854775807 : Int64)))), .second, .val (.double (FP.i2d (m_ &&& (65535 : Int32)))), .second, .unset, .unset] [(.long ((s_ &&& (9223372036854775807 : Int64)) - ((s_ &&& (9223372036854775807 : Int64)) / (e_ &&& (9223372036854775807 : Int64))) * (e_ &&& (9223372036854775807 : Int64)))), (.int li), (.ref b35), (.ref b35)]))
        refine OwnFin.step (fun tT kK => XS.lload X35.here hx rfl (hb hby at_75) rfl kK) ?_
        show OwnFin p e below _ (T35.setTop (mkF m 77 #[.val (.int li), .val (.long s_), .second, .val (.long e_), .second, .val (.int lk), .val (.int m_), .val (.int mo), .val (.int (mo &&& (3 : Int32))), .val (.long (e_ &&& (9223372036854775807 : Int64))), .second, .val (.long ((s_ &&& (9223372036854775807 : Int64)) - ((s_ &&& (9223372036854775807 : Int64)) / (e_ &&& (9223372036854775807 : Int64))) * (e_ &&& (9223372036854775807 : Int64)))), .second, .val (.double (FP.i2d (m_ &&& (65535 : Int32)))), .second, .unset, .unset] [(.long (e_ &&& (9223372036854775807 : Int64))), (.long ((s_ &&& (9223372036854775807 : Int64)) - ((s_ &&& (9223372036854775807 : Int64)) / (e_ &&& (9223372036854775807 : Int64))) * (e_ &&& (9223372036854775807 : Int64)))), (.int li), (.ref b35), (.ref b35)]))
        refine OwnFin.step (fun tT kK => XS.iload X35.here hx rfl (hb hby at_77) rfl kK) ?_
        show OwnFin p e below _ (T35.setTop (mkF m 79 #[.val (.int li), .val (.long s_), .second, .val (.long e_), .second, .val (.int lk), .val (.int m_), .val (.int mo), .val (.int (mo &&& (3 : Int32))), .val (.long (e_ &&& (9223372036854775807 : Int64))), .second, .val (.long ((s_ &&& (9223372036854775807 : Int64)) - ((s_ &&& (9223372036854775807 : Int64)) / (e_ &&& (9223372036854775807 : Int64))) * (e_ &&& (9223372036854775807 : Int64)))), .second, .val (.double (FP.i2d (m_ &&& (65535 : Int32)))), .second, .unset, .unset] [(.int lk), (.long (e_ &&& (9223372036854775807 : Int64))), (.long ((s_ &&& (9223372036854775807 : Int64)) - ((s_ &&& (9223372036854775807 : Int64)) / (e_ &&& (9223372036854775807 : Int64))) * (e_ &&& (9223372036854775807 : Int64)))), (.int li), (.ref b35), (.ref b35)]))
        refine OwnFin.step (fun tT kK => XS.dload X35.here hx rfl (hb hby at_79) rfl kK) ?_
        show OwnFin p e below _ (T35.setTop (mkF m 81 #[.val (.int li), .val (.long s_), .second, .val (.long e_), .second, .val (.int lk), .val (.int m_), .val (.int mo), .val (.int (mo &&& (3 : Int32))), .val (.long (e_ &&& (9223372036854775807 : Int64))), .second, .val (.long ((s_ &&& (9223372036854775807 : Int64)) - ((s_ &&& (9223372036854775807 : Int64)) / (e_ &&& (9223372036854775807 : Int64))) * (e_ &&& (9223372036854775807 : Int64)))), .second, .val (.double (FP.i2d (m_ &&& (65535 : Int32)))), .second, .unset, .unset] [(.double (FP.i2d (m_ &&& (65535 : Int32)))), (.int lk), (.long (e_ &&& (9223372036854775807 : Int64))), (.long ((s_ &&& (9223372036854775807 : Int64)) - ((s_ &&& (9223372036854775807 : Int64)) / (e_ &&& (9223372036854775807 : Int64))) * (e_ &&& (9223372036854775807 : Int64)))), (.int li), (.ref b35), (.ref b35)]))
        obtain ⟨_, _, ⟨T41, L41, k41, n41⟩, -, X41, ⟨Lc41, hQ41, l41, y41, z41⟩, st41⟩ := X35.specialBack hx (y := (⟨"com/example/bogong/bogong/events/RoadEvent", "<init>", "(IJJID)V"⟩ : MethodName)) rfl hown (mvT hZ (hw _ (List.mem_of_getElem? (i := 5) rfl))) (mvT hZ (hw _ (List.mem_of_getElem? (i := 6) rfl))) (mvT hZ (hw _ (List.mem_of_getElem? (i := 7) rfl))) (by decide) (backOf (W := 1) (rm2 l Z a0 hw [] b35 li ((s_ &&& (9223372036854775807 : Int64)) - ((s_ &&& (9223372036854775807 : Int64)) / (e_ &&& (9223372036854775807 : Int64))) * (e_ &&& (9223372036854775807 : Int64))) (e_ &&& (9223372036854775807 : Int64)) lk (FP.i2d (m_ &&& (65535 : Int32))) h35 n0 (Nat.le_trans Z0 E35.1) A35 Fz36 Fz37 Fz38 Fz39 Fz40 (Nat.le_trans Z0 (Nat.le_of_eq g35.symm)) ((own_rem (own_mask _) hpos34).1) ((own_rem (own_mask _) hpos34).2) (own_dge (own_m16 _))) hZ (hw _ (List.mem_of_getElem? (i := 7) rfl)) (hw _ (List.mem_of_getElem? (i := 4) rfl)) (by decide) (by decide)) (g := (mkF m 81 #[.val (.int li), .val (.long s_), .second, .val (.long e_), .second, .val (.int lk), .val (.int m_), .val (.int mo), .val (.int (mo &&& (3 : Int32))), .val (.long (e_ &&& (9223372036854775807 : Int64))), .second, .val (.long ((s_ &&& (9223372036854775807 : Int64)) - ((s_ &&& (9223372036854775807 : Int64)) / (e_ &&& (9223372036854775807 : Int64))) * (e_ &&& (9223372036854775807 : Int64)))), .second, .val (.double (FP.i2d (m_ &&& (65535 : Int32)))), .second, .unset, .unset] [(.double (FP.i2d (m_ &&& (65535 : Int32)))), (.int lk), (.long (e_ &&& (9223372036854775807 : Int64))), (.long ((s_ &&& (9223372036854775807 : Int64)) - ((s_ &&& (9223372036854775807 : Int64)) / (e_ &&& (9223372036854775807 : Int64))) * (e_ &&& (9223372036854775807 : Int64)))), (.int li), (.ref b35), (.ref b35)])) rfl (by rw [hml]; rfl) (Steps.refl _) (a := b35) (argsL := [(.int li), (.long ((s_ &&& (9223372036854775807 : Int64)) - ((s_ &&& (9223372036854775807 : Int64)) / (e_ &&& (9223372036854775807 : Int64))) * (e_ &&& (9223372036854775807 : Int64)))), (.long (e_ &&& (9223372036854775807 : Int64))), (.int lk), (.double (FP.i2d (m_ &&& (65535 : Int32))))]) (rest := [(.ref b35)]) (lenOf pd_46 rfl) rfl (by show 2 * 0 + _ ≤ _; exact Nat.le_of_eq rfl) (hb hby at_81) (fun _ _ => ⟨rfl, e35, (by decide : 1 + 0 ≤ _), (by decide : 5 + 0 ≤ _)⟩)
        dsimp only [Pt.U, Pt.locs, Pt.cells, Pt.slots] at X41 l41 y41 z41 st41 hQ41
        subst l41 y41 z41
        obtain ⟨rfl, N41q, K41, P41_0, P41_1, P41_2, P41_3, P41_4, P41_5⟩ := hQ41
        have N41 := Fr.app N0 N41q
        refine OwnFin.step (fun tT kK => st41.trans kK) ?_
        show OwnFin p e below _ (T41.setTop (mkF m 84 #[.val (.int li), .val (.long s_), .second, .val (.long e_), .second, .val (.int lk), .val (.int m_), .val (.int mo), .val (.int (mo &&& (3 : Int32))), .val (.long (e_ &&& (9223372036854775807 : Int64))), .second, .val (.long ((s_ &&& (9223372036854775807 : Int64)) - ((s_ &&& (9223372036854775807 : Int64)) / (e_ &&& (9223372036854775807 : Int64))) * (e_ &&& (9223372036854775807 : Int64)))), .second, .val (.double (FP.i2d (m_ &&& (65535 : Int32)))), .second, .unset, .unset] [(.ref b35)]))
        refine OwnFin.step (fun tT kK => XS.astore X41.here hx rfl (hb hby at_84) rfl rfl (l' := #[.val (.int li), .val (.long s_), .second, .val (.long e_), .second, .val (.int lk), .val (.int m_), .val (.int mo), .val (.int (mo &&& (3 : Int32))), .val (.long (e_ &&& (9223372036854775807 : Int64))), .second, .val (.long ((s_ &&& (9223372036854775807 : Int64)) - ((s_ &&& (9223372036854775807 : Int64)) / (e_ &&& (9223372036854775807 : Int64))) * (e_ &&& (9223372036854775807 : Int64)))), .second, .val (.double (FP.i2d (m_ &&& (65535 : Int32)))), .second, .val (.ref b35), .unset]) rfl kK) ?_
        show OwnFin p e below _ (T41.setTop (mkF m 86 #[.val (.int li), .val (.long s_), .second, .val (.long e_), .second, .val (.int lk), .val (.int m_), .val (.int mo), .val (.int (mo &&& (3 : Int32))), .val (.long (e_ &&& (9223372036854775807 : Int64))), .second, .val (.long ((s_ &&& (9223372036854775807 : Int64)) - ((s_ &&& (9223372036854775807 : Int64)) / (e_ &&& (9223372036854775807 : Int64))) * (e_ &&& (9223372036854775807 : Int64)))), .second, .val (.double (FP.i2d (m_ &&& (65535 : Int32)))), .second, .val (.ref b35), .unset] []))
        refine OwnFin.step (fun tT kK => XS.lload X41.here hx rfl (hb hby at_86) rfl kK) ?_
        show OwnFin p e below _ (T41.setTop (mkF m 88 #[.val (.int li), .val (.long s_), .second, .val (.long e_), .second, .val (.int lk), .val (.int m_), .val (.int mo), .val (.int (mo &&& (3 : Int32))), .val (.long (e_ &&& (9223372036854775807 : Int64))), .second, .val (.long ((s_ &&& (9223372036854775807 : Int64)) - ((s_ &&& (9223372036854775807 : Int64)) / (e_ &&& (9223372036854775807 : Int64))) * (e_ &&& (9223372036854775807 : Int64)))), .second, .val (.double (FP.i2d (m_ &&& (65535 : Int32)))), .second, .val (.ref b35), .unset] [(.long (e_ &&& (9223372036854775807 : Int64)))]))
        refine OwnFin.step (fun tT kK => X41.ldc2J hx hown (mvT hZ (hw _ (List.mem_of_getElem? (i := 0) rfl))) (g := (mkF m 88 #[.val (.int li), .val (.long s_), .second, .val (.long e_), .second, .val (.int lk), .val (.int m_), .val (.int mo), .val (.int (mo &&& (3 : Int32))), .val (.long (e_ &&& (9223372036854775807 : Int64))), .second, .val (.long ((s_ &&& (9223372036854775807 : Int64)) - ((s_ &&& (9223372036854775807 : Int64)) / (e_ &&& (9223372036854775807 : Int64))) * (e_ &&& (9223372036854775807 : Int64)))), .second, .val (.double (FP.i2d (m_ &&& (65535 : Int32)))), .second, .val (.ref b35), .unset] [(.long (e_ &&& (9223372036854775807 : Int64)))])) rfl (hb hby at_88) kK) ?_
        show OwnFin p e below _ (T41.setTop (mkF m 91 #[.val (.int li), .val (.long s_), .second, .val (.long e_), .second, .val (.int lk), .val (.int m_), .val (.int mo), .val (.int (mo &&& (3 : Int32))), .val (.long (e_ &&& (9223372036854775807 : Int64))), .second, .val (.long ((s_ &&& (9223372036854775807 : Int64)) - ((s_ &&& (9223372036854775807 : Int64)) / (e_ &&& (9223372036854775807 : Int64))) * (e_ &&& (9223372036854775807 : Int64)))), .second, .val (.double (FP.i2d (m_ &&& (65535 : Int32)))), .second, .val (.ref b35), .unset] [(.long (9223372036854775807 : Int64)), (.long (e_ &&& (9223372036854775807 : Int64)))]))
        refine OwnFin.step (fun tT kK => XS.lcmp X41.here hx rfl (hb hby at_91) rfl kK) ?_
        show OwnFin p e below _ (T41.setTop (mkF m 92 #[.val (.int li), .val (.long s_), .second, .val (.long e_), .second, .val (.int lk), .val (.int m_), .val (.int mo), .val (.int (mo &&& (3 : Int32))), .val (.long (e_ &&& (9223372036854775807 : Int64))), .second, .val (.long ((s_ &&& (9223372036854775807 : Int64)) - ((s_ &&& (9223372036854775807 : Int64)) / (e_ &&& (9223372036854775807 : Int64))) * (e_ &&& (9223372036854775807 : Int64)))), .second, .val (.double (FP.i2d (m_ &&& (65535 : Int32)))), .second, .val (.ref b35), .unset] [(.int (lcmpW (e_ &&& (9223372036854775807 : Int64)) (9223372036854775807 : Int64)))]))
        by_cases hc42 : (lcmpW (e_ &&& (9223372036854775807 : Int64)) (9223372036854775807 : Int64)) < (0 : Int32)
        · skip
          refine OwnFin.step (fun tT kK => XS.ifNo X41.here hx rfl (hb hby at_92) rfl ((if0 _ _).trans (tlt (hc42 : (lcmpW (e_ &&& (9223372036854775807 : Int64)) (9223372036854775807 : Int64)) < (0 : Int32))).2.1) kK) ?_
          show OwnFin p e below _ (T41.setTop (mkF m 95 #[.val (.int li), .val (.long s_), .second, .val (.long e_), .second, .val (.int lk), .val (.int m_), .val (.int mo), .val (.int (mo &&& (3 : Int32))), .val (.long (e_ &&& (9223372036854775807 : Int64))), .second, .val (.long ((s_ &&& (9223372036854775807 : Int64)) - ((s_ &&& (9223372036854775807 : Int64)) / (e_ &&& (9223372036854775807 : Int64))) * (e_ &&& (9223372036854775807 : Int64)))), .second, .val (.double (FP.i2d (m_ &&& (65535 : Int32)))), .second, .val (.ref b35), .unset] []))
          refine OwnFin.step (fun tT kK => XS.iconst X41.here hx rfl (hb hby at_95) kK) ?_
          show OwnFin p e below _ (T41.setTop (mkF m 96 #[.val (.int li), .val (.long s_), .second, .val (.long e_), .second, .val (.int lk), .val (.int m_), .val (.int mo), .val (.int (mo &&& (3 : Int32))), .val (.long (e_ &&& (9223372036854775807 : Int64))), .second, .val (.long ((s_ &&& (9223372036854775807 : Int64)) - ((s_ &&& (9223372036854775807 : Int64)) / (e_ &&& (9223372036854775807 : Int64))) * (e_ &&& (9223372036854775807 : Int64)))), .second, .val (.double (FP.i2d (m_ &&& (65535 : Int32)))), .second, .val (.ref b35), .unset] [(.int (1 : Int32))]))
          refine OwnFin.step (fun tT kK => XS.goto X41.here hx rfl (pc0 := 96) (pc' := 100) rfl (hb hby at_96) (by decide) (by decide) kK) ?_
          show OwnFin p e below _ (T41.setTop (mkF m 100 #[.val (.int li), .val (.long s_), .second, .val (.long e_), .second, .val (.int lk), .val (.int m_), .val (.int mo), .val (.int (mo &&& (3 : Int32))), .val (.long (e_ &&& (9223372036854775807 : Int64))), .second, .val (.long ((s_ &&& (9223372036854775807 : Int64)) - ((s_ &&& (9223372036854775807 : Int64)) / (e_ &&& (9223372036854775807 : Int64))) * (e_ &&& (9223372036854775807 : Int64)))), .second, .val (.double (FP.i2d (m_ &&& (65535 : Int32)))), .second, .val (.ref b35), .unset] [(.int (1 : Int32))]))
          refine OwnFin.step (fun tT kK => XS.istore X41.here hx rfl (hb hby at_100) rfl (l' := #[.val (.int li), .val (.long s_), .second, .val (.long e_), .second, .val (.int lk), .val (.int m_), .val (.int mo), .val (.int (mo &&& (3 : Int32))), .val (.long (e_ &&& (9223372036854775807 : Int64))), .second, .val (.long ((s_ &&& (9223372036854775807 : Int64)) - ((s_ &&& (9223372036854775807 : Int64)) / (e_ &&& (9223372036854775807 : Int64))) * (e_ &&& (9223372036854775807 : Int64)))), .second, .val (.double (FP.i2d (m_ &&& (65535 : Int32)))), .second, .val (.ref b35), .val (.int (1 : Int32))]) rfl kK) ?_
          show OwnFin p e below _ (T41.setTop (mkF m 102 #[.val (.int li), .val (.long s_), .second, .val (.long e_), .second, .val (.int lk), .val (.int m_), .val (.int mo), .val (.int (mo &&& (3 : Int32))), .val (.long (e_ &&& (9223372036854775807 : Int64))), .second, .val (.long ((s_ &&& (9223372036854775807 : Int64)) - ((s_ &&& (9223372036854775807 : Int64)) / (e_ &&& (9223372036854775807 : Int64))) * (e_ &&& (9223372036854775807 : Int64)))), .second, .val (.double (FP.i2d (m_ &&& (65535 : Int32)))), .second, .val (.ref b35), .val (.int (1 : Int32))] []))
          refine OwnFin.step (fun tT kK => XS.aload X41.here hx rfl (hb hby at_102) rfl rfl kK) ?_
          show OwnFin p e below _ (T41.setTop (mkF m 104 #[.val (.int li), .val (.long s_), .second, .val (.long e_), .second, .val (.int lk), .val (.int m_), .val (.int mo), .val (.int (mo &&& (3 : Int32))), .val (.long (e_ &&& (9223372036854775807 : Int64))), .second, .val (.long ((s_ &&& (9223372036854775807 : Int64)) - ((s_ &&& (9223372036854775807 : Int64)) / (e_ &&& (9223372036854775807 : Int64))) * (e_ &&& (9223372036854775807 : Int64)))), .second, .val (.double (FP.i2d (m_ &&& (65535 : Int32)))), .second, .val (.ref b35), .val (.int (1 : Int32))] [(.ref b35)]))
          obtain ⟨cq43, kq43, q43a, q43b, q43c⟩ := isOf hZ rfl P41_0
          obtain ⟨_, _, ⟨T43, L43, k43, n43⟩, -, X43, ⟨Lc43, hQ43, l43, y43, z43⟩, st43⟩ := X41.virtualBack hx (y := (⟨"com/example/bogong/bogong/events/RoadEvent", "ends", "()Z"⟩ : MethodName)) (z := (⟨"com/example/bogong/bogong/events/RoadEvent", "ends", "()Z"⟩ : MethodName)) hown (mvT hZ (hw _ (List.mem_of_getElem? (i := 26) rfl))) (mvT hZ (hw _ (List.mem_of_getElem? (i := 27) rfl))) (notFace_of_selects (args := #[]) (mvT hZ (hw _ (List.mem_of_getElem? (i := 29) rfl)))) (mvT hZ (hw _ (List.mem_of_getElem? (i := 29) rfl))) (mvT hZ (hw _ (List.mem_of_getElem? (i := 28) rfl))) (by decide) (backOf (W := 0) (rm3 l Z a0 hw [] b35 (e_ &&& (9223372036854775807 : Int64)) T41.heap n0 (Nat.le_trans (Nat.le_trans Z0 E35.1) K41.1) P41_3) hZ (hw _ (List.mem_of_getElem? (i := 30) rfl)) (hw _ (List.mem_of_getElem? (i := 4) rfl)) (by decide) (by decide)) q43a q43c (g := (mkF m 104 #[.val (.int li), .val (.long s_), .second, .val (.long e_), .second, .val (.int lk), .val (.int m_), .val (.int mo), .val (.int (mo &&& (3 : Int32))), .val (.long (e_ &&& (9223372036854775807 : Int64))), .second, .val (.long ((s_ &&& (9223372036854775807 : Int64)) - ((s_ &&& (9223372036854775807 : Int64)) / (e_ &&& (9223372036854775807 : Int64))) * (e_ &&& (9223372036854775807 : Int64)))), .second, .val (.double (FP.i2d (m_ &&& (65535 : Int32)))), .second, .val (.ref b35), .val (.int (1 : Int32))] [(.ref b35)])) rfl (by rw [hml]; rfl) (Steps.refl _) (argsL := []) (rest := []) (lenOf pd_47 rfl) rfl (by show 2 * 0 + _ ≤ _; exact Nat.le_of_eq rfl) (hb hby at_104) (fun _ _ => ⟨rfl, rfl, (by decide : 1 + 0 ≤ _), (by decide : 5 + 0 ≤ _)⟩)
          dsimp only [Pt.U, Pt.locs, Pt.cells, Pt.slots] at X43 l43 y43 z43 st43 hQ43
          subst l43 y43 z43
          obtain ⟨rfl, N43q, e43⟩ := hQ43
          have N43 := Fr.app N41 N43q
          refine OwnFin.step (fun tT kK => st43.trans kK) ?_
          show OwnFin p e below _ (T43.setTop (mkF m 107 #[.val (.int li), .val (.long s_), .second, .val (.long e_), .second, .val (.int lk), .val (.int m_), .val (.int mo), .val (.int (mo &&& (3 : Int32))), .val (.long (e_ &&& (9223372036854775807 : Int64))), .second, .val (.long ((s_ &&& (9223372036854775807 : Int64)) - ((s_ &&& (9223372036854775807 : Int64)) / (e_ &&& (9223372036854775807 : Int64))) * (e_ &&& (9223372036854775807 : Int64)))), .second, .val (.double (FP.i2d (m_ &&& (65535 : Int32)))), .second, .val (.ref b35), .val (.int (1 : Int32))] [(.int (if lcmpW (e_ &&& (9223372036854775807 : Int64)) (9223372036854775807 : Int64) = (0 : Int32) then 0 else 1))]))
          rw [show (if lcmpW (e_ &&& (9223372036854775807 : Int64)) (9223372036854775807 : Int64) = (0 : Int32) then (0 : Int32) else 1) = 1 from if_neg (own_lt hc42)]
          show OwnFin p e below _ (T43.setTop (mkF m 107 #[.val (.int li), .val (.long s_), .second, .val (.long e_), .second, .val (.int lk), .val (.int m_), .val (.int mo), .val (.int (mo &&& (3 : Int32))), .val (.long (e_ &&& (9223372036854775807 : Int64))), .second, .val (.long ((s_ &&& (9223372036854775807 : Int64)) - ((s_ &&& (9223372036854775807 : Int64)) / (e_ &&& (9223372036854775807 : Int64))) * (e_ &&& (9223372036854775807 : Int64)))), .second, .val (.double (FP.i2d (m_ &&& (65535 : Int32)))), .second, .val (.ref b35), .val (.int (1 : Int32))] [(.int (1 : Int32))]))
          refine OwnFin.step (fun tT kK => XS.iload X43.here hx rfl (hb hby at_107) rfl kK) ?_
          show OwnFin p e below _ (T43.setTop (mkF m 109 #[.val (.int li), .val (.long s_), .second, .val (.long e_), .second, .val (.int lk), .val (.int m_), .val (.int mo), .val (.int (mo &&& (3 : Int32))), .val (.long (e_ &&& (9223372036854775807 : Int64))), .second, .val (.long ((s_ &&& (9223372036854775807 : Int64)) - ((s_ &&& (9223372036854775807 : Int64)) / (e_ &&& (9223372036854775807 : Int64))) * (e_ &&& (9223372036854775807 : Int64)))), .second, .val (.double (FP.i2d (m_ &&& (65535 : Int32)))), .second, .val (.ref b35), .val (.int (1 : Int32))] [(.int (1 : Int32)), (.int (1 : Int32))]))
          refine OwnFin.step (fun tT kK => XS.icmpNo X43.here hx rfl (hb hby at_109) rfl (teq (rfl : (1 : Int32) = (1 : Int32))).2 kK) ?_
          show OwnFin p e below _ (T43.setTop (mkF m 112 #[.val (.int li), .val (.long s_), .second, .val (.long e_), .second, .val (.int lk), .val (.int m_), .val (.int mo), .val (.int (mo &&& (3 : Int32))), .val (.long (e_ &&& (9223372036854775807 : Int64))), .second, .val (.long ((s_ &&& (9223372036854775807 : Int64)) - ((s_ &&& (9223372036854775807 : Int64)) / (e_ &&& (9223372036854775807 : Int64))) * (e_ &&& (9223372036854775807 : Int64)))), .second, .val (.double (FP.i2d (m_ &&& (65535 : Int32)))), .second, .val (.ref b35), .val (.int (1 : Int32))] []))
          refine OwnFin.step (fun tT kK => XS.iconst X43.here hx rfl (hb hby at_112) kK) ?_
          show OwnFin p e below _ (T43.setTop (mkF m 113 #[.val (.int li), .val (.long s_), .second, .val (.long e_), .second, .val (.int lk), .val (.int m_), .val (.int mo), .val (.int (mo &&& (3 : Int32))), .val (.long (e_ &&& (9223372036854775807 : Int64))), .second, .val (.long ((s_ &&& (9223372036854775807 : Int64)) - ((s_ &&& (9223372036854775807 : Int64)) / (e_ &&& (9223372036854775807 : Int64))) * (e_ &&& (9223372036854775807 : Int64)))), .second, .val (.double (FP.i2d (m_ &&& (65535 : Int32)))), .second, .val (.ref b35), .val (.int (1 : Int32))] [(.int (1 : Int32))]))
          refine OwnFin.step (fun tT kK => XS.goto X43.here hx rfl (pc0 := 113) (pc' := 117) rfl (hb hby at_113) (by decide) (by decide) kK) ?_
          show OwnFin p e below _ (T43.setTop (mkF m 117 #[.val (.int li), .val (.long s_), .second, .val (.long e_), .second, .val (.int lk), .val (.int m_), .val (.int mo), .val (.int (mo &&& (3 : Int32))), .val (.long (e_ &&& (9223372036854775807 : Int64))), .second, .val (.long ((s_ &&& (9223372036854775807 : Int64)) - ((s_ &&& (9223372036854775807 : Int64)) / (e_ &&& (9223372036854775807 : Int64))) * (e_ &&& (9223372036854775807 : Int64)))), .second, .val (.double (FP.i2d (m_ &&& (65535 : Int32)))), .second, .val (.ref b35), .val (.int (1 : Int32))] [(.int (1 : Int32))]))
          obtain ⟨fs44, hr44, hrun44, hended44, hW44, hsame44⟩ := X43.leave (v := (some (.int (1 : Int32)))) (fun h => by rw [Bd.returns] at h; cases h)
          refine ⟨_, _, retN X43 hx (t := .boolean) Bd.returns (by simp) (hb hby at_117) hr44, hrun44, hended44, _, _, rfl, ?_, ⟨_, rfl⟩, hW44, hsame44.mono (by decide) (by decide)⟩
          show Q0 Z li s_ e_ lk m_ mo h0 n0 _ T43.heap _
          rw [e43]
          exact ⟨rfl, N43, (((Keep.refl h0 []).ext E35).trans K41 (allS (P := fun x => x ∈ [] ∨ h0.size ≤ x) (Or.inr (Nat.le_trans (Nat.le_refl _) (Nat.le_of_eq g35.symm))) all0))⟩
        · skip
          refine OwnFin.step (fun tT kK => XS.ifYes X41.here hx rfl (pc0 := 92) (pc' := 99) rfl (hb hby at_92) rfl ((if0 _ _).trans (flt (hc42 : ¬ ((lcmpW (e_ &&& (9223372036854775807 : Int64)) (9223372036854775807 : Int64)) < (0 : Int32)))).2.1) (by decide) (by decide) kK) ?_
          show OwnFin p e below _ (T41.setTop (mkF m 99 #[.val (.int li), .val (.long s_), .second, .val (.long e_), .second, .val (.int lk), .val (.int m_), .val (.int mo), .val (.int (mo &&& (3 : Int32))), .val (.long (e_ &&& (9223372036854775807 : Int64))), .second, .val (.long ((s_ &&& (9223372036854775807 : Int64)) - ((s_ &&& (9223372036854775807 : Int64)) / (e_ &&& (9223372036854775807 : Int64))) * (e_ &&& (9223372036854775807 : Int64)))), .second, .val (.double (FP.i2d (m_ &&& (65535 : Int32)))), .second, .val (.ref b35), .unset] []))
          refine OwnFin.step (fun tT kK => XS.iconst X41.here hx rfl (hb hby at_99) kK) ?_
          show OwnFin p e below _ (T41.setTop (mkF m 100 #[.val (.int li), .val (.long s_), .second, .val (.long e_), .second, .val (.int lk), .val (.int m_), .val (.int mo), .val (.int (mo &&& (3 : Int32))), .val (.long (e_ &&& (9223372036854775807 : Int64))), .second, .val (.long ((s_ &&& (9223372036854775807 : Int64)) - ((s_ &&& (9223372036854775807 : Int64)) / (e_ &&& (9223372036854775807 : Int64))) * (e_ &&& (9223372036854775807 : Int64)))), .second, .val (.double (FP.i2d (m_ &&& (65535 : Int32)))), .second, .val (.ref b35), .unset] [(.int (0 : Int32))]))
          refine OwnFin.step (fun tT kK => XS.istore X41.here hx rfl (hb hby at_100) rfl (l' := #[.val (.int li), .val (.long s_), .second, .val (.long e_), .second, .val (.int lk), .val (.int m_), .val (.int mo), .val (.int (mo &&& (3 : Int32))), .val (.long (e_ &&& (9223372036854775807 : Int64))), .second, .val (.long ((s_ &&& (9223372036854775807 : Int64)) - ((s_ &&& (9223372036854775807 : Int64)) / (e_ &&& (9223372036854775807 : Int64))) * (e_ &&& (9223372036854775807 : Int64)))), .second, .val (.double (FP.i2d (m_ &&& (65535 : Int32)))), .second, .val (.ref b35), .val (.int (0 : Int32))]) rfl kK) ?_
          show OwnFin p e below _ (T41.setTop (mkF m 102 #[.val (.int li), .val (.long s_), .second, .val (.long e_), .second, .val (.int lk), .val (.int m_), .val (.int mo), .val (.int (mo &&& (3 : Int32))), .val (.long (e_ &&& (9223372036854775807 : Int64))), .second, .val (.long ((s_ &&& (9223372036854775807 : Int64)) - ((s_ &&& (9223372036854775807 : Int64)) / (e_ &&& (9223372036854775807 : Int64))) * (e_ &&& (9223372036854775807 : Int64)))), .second, .val (.double (FP.i2d (m_ &&& (65535 : Int32)))), .second, .val (.ref b35), .val (.int (0 : Int32))] []))
          refine OwnFin.step (fun tT kK => XS.aload X41.here hx rfl (hb hby at_102) rfl rfl kK) ?_
          show OwnFin p e below _ (T41.setTop (mkF m 104 #[.val (.int li), .val (.long s_), .second, .val (.long e_), .second, .val (.int lk), .val (.int m_), .val (.int mo), .val (.int (mo &&& (3 : Int32))), .val (.long (e_ &&& (9223372036854775807 : Int64))), .second, .val (.long ((s_ &&& (9223372036854775807 : Int64)) - ((s_ &&& (9223372036854775807 : Int64)) / (e_ &&& (9223372036854775807 : Int64))) * (e_ &&& (9223372036854775807 : Int64)))), .second, .val (.double (FP.i2d (m_ &&& (65535 : Int32)))), .second, .val (.ref b35), .val (.int (0 : Int32))] [(.ref b35)]))
          obtain ⟨cq45, kq45, q45a, q45b, q45c⟩ := isOf hZ rfl P41_0
          obtain ⟨_, _, ⟨T45, L45, k45, n45⟩, -, X45, ⟨Lc45, hQ45, l45, y45, z45⟩, st45⟩ := X41.virtualBack hx (y := (⟨"com/example/bogong/bogong/events/RoadEvent", "ends", "()Z"⟩ : MethodName)) (z := (⟨"com/example/bogong/bogong/events/RoadEvent", "ends", "()Z"⟩ : MethodName)) hown (mvT hZ (hw _ (List.mem_of_getElem? (i := 26) rfl))) (mvT hZ (hw _ (List.mem_of_getElem? (i := 27) rfl))) (notFace_of_selects (args := #[]) (mvT hZ (hw _ (List.mem_of_getElem? (i := 29) rfl)))) (mvT hZ (hw _ (List.mem_of_getElem? (i := 29) rfl))) (mvT hZ (hw _ (List.mem_of_getElem? (i := 28) rfl))) (by decide) (backOf (W := 0) (rm3 l Z a0 hw [] b35 (e_ &&& (9223372036854775807 : Int64)) T41.heap n0 (Nat.le_trans (Nat.le_trans Z0 E35.1) K41.1) P41_3) hZ (hw _ (List.mem_of_getElem? (i := 30) rfl)) (hw _ (List.mem_of_getElem? (i := 4) rfl)) (by decide) (by decide)) q45a q45c (g := (mkF m 104 #[.val (.int li), .val (.long s_), .second, .val (.long e_), .second, .val (.int lk), .val (.int m_), .val (.int mo), .val (.int (mo &&& (3 : Int32))), .val (.long (e_ &&& (9223372036854775807 : Int64))), .second, .val (.long ((s_ &&& (9223372036854775807 : Int64)) - ((s_ &&& (9223372036854775807 : Int64)) / (e_ &&& (9223372036854775807 : Int64))) * (e_ &&& (9223372036854775807 : Int64)))), .second, .val (.double (FP.i2d (m_ &&& (65535 : Int32)))), .second, .val (.ref b35), .val (.int (0 : Int32))] [(.ref b35)])) rfl (by rw [hml]; rfl) (Steps.refl _) (argsL := []) (rest := []) (lenOf pd_47 rfl) rfl (by show 2 * 0 + _ ≤ _; exact Nat.le_of_eq rfl) (hb hby at_104) (fun _ _ => ⟨rfl, rfl, (by decide : 1 + 0 ≤ _), (by decide : 5 + 0 ≤ _)⟩)
          dsimp only [Pt.U, Pt.locs, Pt.cells, Pt.slots] at X45 l45 y45 z45 st45 hQ45
          subst l45 y45 z45
          obtain ⟨rfl, N45q, e45⟩ := hQ45
          have N45 := Fr.app N41 N45q
          refine OwnFin.step (fun tT kK => st45.trans kK) ?_
          show OwnFin p e below _ (T45.setTop (mkF m 107 #[.val (.int li), .val (.long s_), .second, .val (.long e_), .second, .val (.int lk), .val (.int m_), .val (.int mo), .val (.int (mo &&& (3 : Int32))), .val (.long (e_ &&& (9223372036854775807 : Int64))), .second, .val (.long ((s_ &&& (9223372036854775807 : Int64)) - ((s_ &&& (9223372036854775807 : Int64)) / (e_ &&& (9223372036854775807 : Int64))) * (e_ &&& (9223372036854775807 : Int64)))), .second, .val (.double (FP.i2d (m_ &&& (65535 : Int32)))), .second, .val (.ref b35), .val (.int (0 : Int32))] [(.int (if lcmpW (e_ &&& (9223372036854775807 : Int64)) (9223372036854775807 : Int64) = (0 : Int32) then 0 else 1))]))
          rw [show (if lcmpW (e_ &&& (9223372036854775807 : Int64)) (9223372036854775807 : Int64) = (0 : Int32) then (0 : Int32) else 1) = 0 from if_pos (own_ge hc42)]
          show OwnFin p e below _ (T45.setTop (mkF m 107 #[.val (.int li), .val (.long s_), .second, .val (.long e_), .second, .val (.int lk), .val (.int m_), .val (.int mo), .val (.int (mo &&& (3 : Int32))), .val (.long (e_ &&& (9223372036854775807 : Int64))), .second, .val (.long ((s_ &&& (9223372036854775807 : Int64)) - ((s_ &&& (9223372036854775807 : Int64)) / (e_ &&& (9223372036854775807 : Int64))) * (e_ &&& (9223372036854775807 : Int64)))), .second, .val (.double (FP.i2d (m_ &&& (65535 : Int32)))), .second, .val (.ref b35), .val (.int (0 : Int32))] [(.int (0 : Int32))]))
          refine OwnFin.step (fun tT kK => XS.iload X45.here hx rfl (hb hby at_107) rfl kK) ?_
          show OwnFin p e below _ (T45.setTop (mkF m 109 #[.val (.int li), .val (.long s_), .second, .val (.long e_), .second, .val (.int lk), .val (.int m_), .val (.int mo), .val (.int (mo &&& (3 : Int32))), .val (.long (e_ &&& (9223372036854775807 : Int64))), .second, .val (.long ((s_ &&& (9223372036854775807 : Int64)) - ((s_ &&& (9223372036854775807 : Int64)) / (e_ &&& (9223372036854775807 : Int64))) * (e_ &&& (9223372036854775807 : Int64)))), .second, .val (.double (FP.i2d (m_ &&& (65535 : Int32)))), .second, .val (.ref b35), .val (.int (0 : Int32))] [(.int (0 : Int32)), (.int (0 : Int32))]))
          refine OwnFin.step (fun tT kK => XS.icmpNo X45.here hx rfl (hb hby at_109) rfl (teq (rfl : (0 : Int32) = (0 : Int32))).2 kK) ?_
          show OwnFin p e below _ (T45.setTop (mkF m 112 #[.val (.int li), .val (.long s_), .second, .val (.long e_), .second, .val (.int lk), .val (.int m_), .val (.int mo), .val (.int (mo &&& (3 : Int32))), .val (.long (e_ &&& (9223372036854775807 : Int64))), .second, .val (.long ((s_ &&& (9223372036854775807 : Int64)) - ((s_ &&& (9223372036854775807 : Int64)) / (e_ &&& (9223372036854775807 : Int64))) * (e_ &&& (9223372036854775807 : Int64)))), .second, .val (.double (FP.i2d (m_ &&& (65535 : Int32)))), .second, .val (.ref b35), .val (.int (0 : Int32))] []))
          refine OwnFin.step (fun tT kK => XS.iconst X45.here hx rfl (hb hby at_112) kK) ?_
          show OwnFin p e below _ (T45.setTop (mkF m 113 #[.val (.int li), .val (.long s_), .second, .val (.long e_), .second, .val (.int lk), .val (.int m_), .val (.int mo), .val (.int (mo &&& (3 : Int32))), .val (.long (e_ &&& (9223372036854775807 : Int64))), .second, .val (.long ((s_ &&& (9223372036854775807 : Int64)) - ((s_ &&& (9223372036854775807 : Int64)) / (e_ &&& (9223372036854775807 : Int64))) * (e_ &&& (9223372036854775807 : Int64)))), .second, .val (.double (FP.i2d (m_ &&& (65535 : Int32)))), .second, .val (.ref b35), .val (.int (0 : Int32))] [(.int (1 : Int32))]))
          refine OwnFin.step (fun tT kK => XS.goto X45.here hx rfl (pc0 := 113) (pc' := 117) rfl (hb hby at_113) (by decide) (by decide) kK) ?_
          show OwnFin p e below _ (T45.setTop (mkF m 117 #[.val (.int li), .val (.long s_), .second, .val (.long e_), .second, .val (.int lk), .val (.int m_), .val (.int mo), .val (.int (mo &&& (3 : Int32))), .val (.long (e_ &&& (9223372036854775807 : Int64))), .second, .val (.long ((s_ &&& (9223372036854775807 : Int64)) - ((s_ &&& (9223372036854775807 : Int64)) / (e_ &&& (9223372036854775807 : Int64))) * (e_ &&& (9223372036854775807 : Int64)))), .second, .val (.double (FP.i2d (m_ &&& (65535 : Int32)))), .second, .val (.ref b35), .val (.int (0 : Int32))] [(.int (1 : Int32))]))
          obtain ⟨fs46, hr46, hrun46, hended46, hW46, hsame46⟩ := X45.leave (v := (some (.int (1 : Int32)))) (fun h => by rw [Bd.returns] at h; cases h)
          refine ⟨_, _, retN X45 hx (t := .boolean) Bd.returns (by simp) (hb hby at_117) hr46, hrun46, hended46, _, _, rfl, ?_, ⟨_, rfl⟩, hW46, hsame46.mono (by decide) (by decide)⟩
          show Q0 Z li s_ e_ lk m_ mo h0 n0 _ T45.heap _
          rw [e45]
          exact ⟨rfl, N45, (((Keep.refl h0 []).ext E35).trans K41 (allS (P := fun x => x ∈ [] ∨ h0.size ≤ x) (Or.inr (Nat.le_trans (Nat.le_refl _) (Nat.le_of_eq g35.symm))) all0))⟩
set_option maxRecDepth 65536 in
set_option maxHeartbeats 40000000 in
theorem comes_1 {Post : Tables → Env → Array Value → State → Outcome → State → Prop} (hpost : ∀ tb e args s v u, (limb_1_1.after args s (.returned v) u = true ∧ limb_1_2.after args s (.returned v) u = true ∧ True) → FrameEnd s (.returned v) u (Jvm.fieldLocs frame_1_writes args s ++ Jvm.arrayLocs frame_1_arrays args s ++ Jvm.staticLocs frame_1_statics s) 16 128 → Post tb e args s (.returned v) u) :
    ArmFor flags0 classFile x code maxLocals ret World_1 tables_1 room_1 Calls_1 rest_1 Pre_1 Post := by
  intro l hfl _ _ p e ha hc hk s m args below hf hA hF happ hP
  obtain ⟨hcalls, hrest, hpre⟩ := hP
  obtain ⟨-, -, -, hnamed, -, -, -, hat⟩ := (Spec.applies_iff hf).mp happ
  obtain ⟨hg, hn⟩ := and_e (Cond.before_iff.mp (show (Jvm.Cond.and given_1 narrow_1).before args s = true from hpre))
  obtain ⟨g1, g2⟩ := and_e hg
  obtain ⟨g3, g4⟩ := and_e g2
  obtain ⟨g5, g6⟩ := and_e g4
  obtain ⟨g7, g8⟩ := and_e g6
  obtain ⟨g9, g10⟩ := and_e g8
  obtain ⟨g11, g12⟩ := and_e g10
  obtain ⟨w_0, w_1, w_2, w_3, w_4, w_5, rfl⟩ : ∃ w_0 w_1 w_2 w_3 w_4 w_5 : Value, args = #[w_0, w_1, w_2, w_3, w_4, w_5] := by
    have hs : args.size = 6 := by simpa [Cond.value, given_1] using g1
    obtain ⟨L⟩ := args
    match L, hs with
    | [w_0, w_1, w_2, w_3, w_4, w_5], _ => exact ⟨w_0, w_1, w_2, w_3, w_4, w_5, rfl⟩
  have hw := fun d (hd : d ∈ tables_1) => atoms_spec (ws := Jvm.Cond.code x code maxLocals ret :: tables_1) hat d (List.mem_cons_of_mem _ hd)
  have hfit : Fit s := fun {y c} hc i hi => by
    obtain ⟨ha, rfl⟩ := Array.getElem?_eq_some_iff.mp hc
    have q := List.all_eq_true.mp ((Array.all_eq_true_iff_forall_mem.mp hF) _ (Array.getElem_mem ha)) i (List.mem_range.mpr hi)
    simpa [Array.getElem?_eq_getElem hi] using q
  obtain ⟨li, ei0⟩ := is_v g3
  obtain rfl : w_0 = (.int li) := Option.some.inj ei0
  obtain ⟨s_, ei1⟩ := isL_v g5
  obtain rfl : w_1 = (.long s_) := Option.some.inj ei1
  obtain ⟨e_, ei2⟩ := isL_v g7
  obtain rfl : w_2 = (.long e_) := Option.some.inj ei2
  obtain ⟨lk, ei3⟩ := is_v g9
  obtain rfl : w_3 = (.int lk) := Option.some.inj ei3
  obtain ⟨m_, ei4⟩ := is_v g11
  obtain rfl : w_4 = (.int m_) := Option.some.inj ei4
  obtain ⟨mo, ei5⟩ := is_v g12
  obtain rfl : w_5 = (.int mo) := Option.some.inj ei5
  obtain ⟨n, o, h1, h2, h3, _, L, rfl, ⟨rfl, N, -⟩, hq⟩ := rm0 l s _ hw tables_1 li s_ e_ lk m_ mo s.heap s.heap.size (Nat.le_refl _)  p e ha hc hk s m _ below hf ((Spec.applies_iff_loose hf).mp happ).1 ⟨rfl, State.Warmed39.refl s, rfl⟩ trivial
  refine ⟨n, _, h1, h2, h3, hpost _ _ _ _ _ _ ⟨Cond.after_iff.mpr rfl, Cond.after_iff.mpr (eq_i res_at (Term.int_eval (1)) rfl), trivial⟩ ⟨hq.1, hq.2.1, (hq.2.2.sift fun y hy => Or.inr (N y hy)).mono (by decide) (by decide)⟩⟩
theorem main_1_1 : Claimed_1_1 := comes_1 fun _ _ _ _ _ _ h hF => ⟨h.1, hF⟩
theorem main_1_2 : Claimed_1_2 := comes_1 fun _ _ _ _ _ _ h hF => ⟨h.2.1, hF⟩
end Jvm.Pilot.@@N@@
namespace Jvm.Pilot.@@N@@
open Jvm Jvm.ClassFile Sem Op Lib Jvm.Free Jvm.Stand Jvm.Pilot.@@N@@.Jvm.D
/-! MADE BY PROGRAM (witnessworld.py) out of the Statement's table words and the real class files: 10 classes; the members and pool entries that the words name. The judged class is class 1, her method 1. -/
namespace start1
open Jvm.ClassFile
def u (s : String) : CpInfo := .utf8 (stringToUtf16 s)
/-- a pool by its gaps: so many unusable entries, then the entry; so many at the end -/
def gap : Nat → List CpInfo → List CpInfo
  | 0, r => r
  | n + 1, r => .unusable :: gap n r
def poolList (es : List (Nat × CpInfo)) (last : Nat) : List CpInfo := es.foldr (fun e r => gap e.1 (e.2 :: r)) (gap last [])
def pool (es : List (Nat × CpInfo)) (last : Nat) : Array CpInfo := ⟨poolList es last⟩
def fileOf (pool : Array CpInfo) (this : Nat) (attrs : Array Attribute := #[]) (ms : Array MethodInfo := #[]) (fl : Nat := 33) (sup : Nat := 0) (ifs : Array Nat := #[]) (fds : Array FieldInfo := #[]) : ClassFile where
  minorVersion := 0
  majorVersion := 65
  constantPool := pool
  accessFlags := fl
  thisClass := this
  superClass := sup
  interfaces := ifs
  fields := fds
  methods := ms
  attributes := attrs
def plain (name : String) (sup : Option ClassId) : Class where
  name := name
  kind := .ordinary
  loader := none
  accessFlags := 33
  super := sup
  interfaces := #[]
  cf := none
  fields := #[]
  methods := #[]
  instanceTypes := #[]
  staticTypes := #[]
  resolved := #[]
  callSites := []
  init := .initialized
  statics := none
  mirror := none

def pool0 : Array CpInfo := pool [(5, u "<init>"), (0, u "()V"), (1, .class_ 10), (1, u "java/lang/Object")] 113

def k0c0 : Code := { maxStack := 0, maxLocals := 1, code := object_method_1_code, exceptionTable := #[], attributes := #[] }
def k0m0 : Method := { name := "<init>", desc := "()V", sig := { parameters := [], returnType := none }, accessFlags := 1, code := some k0c0 }
/-- java/lang/Object -/
def k0 : Class := { plain "java/lang/Object" none with
  accessFlags := 33
  interfaces := #[]
  cf := some (fileOf pool0 8 #[] #[{ accessFlags := 1, nameIndex := 5, descriptorIndex := 6, attributes := #[] }] 33 0 #[] #[])
  fields := #[]
  methods := #[k0m0]
  instanceTypes := #[]
  staticTypes := #[]
  resolved := Array.replicate 124 none
  statics := none }

def pool1 : Array CpInfo := pool [(2, .class_ 4), (1, u "java/lang/Object"), (0, u "<init>"), (0, u "()V"), (2, .long 9223372036854775807), (1, .long 9223372036854775806), (1, .integer 65535), (0, .class_ 15), (0, u "com/example/bogong/bogong/events/RoadEvent"), (0, .methodref 14 17), (0, .nameAndType 5 18), (0, u "(IJJID)V"), (0, .methodref 14 20), (0, .nameAndType 21 22), (0, u "ends"), (0, u "()Z"), (0, .class_ 24), (0, u "com/example/bogong/bogong/events/RoadEventEndsPinLaw"), (2, u "law"), (0, u "(IJJIII)Z")] 3

def k1m0 : Method := { name := "<init>", desc := "()V", sig := { parameters := [], returnType := none }, accessFlags := 1, code := none }
def k1c1 : Code := { maxStack := 10, maxLocals := 17, code := code, exceptionTable := #[], attributes := #[] }
def k1m1 : Method := { name := "law", desc := "(IJJIII)Z", sig := { parameters := [.int, .long, .long, .int, .int, .int], returnType := some .boolean }, accessFlags := 9, code := some k1c1 }
/-- com/example/bogong/bogong/events/RoadEventEndsPinLaw -/
def k1 : Class := { plain "com/example/bogong/bogong/events/RoadEventEndsPinLaw" (some 0) with
  accessFlags := 49
  interfaces := #[]
  cf := some (fileOf pool1 23 #[] #[{ accessFlags := 1, nameIndex := 5, descriptorIndex := 6, attributes := #[] }, { accessFlags := 9, nameIndex := 27, descriptorIndex := 28, attributes := #[] }] 49 2 #[] #[])
  fields := #[]
  methods := #[k1m0, k1m1]
  instanceTypes := #[]
  staticTypes := #[]
  resolved := Array.replicate 32 none
  statics := none }

def pool2 : Array CpInfo := pool [(1, .methodref 2 3), (0, .class_ 4), (0, .nameAndType 5 6), (0, u "java/lang/Object"), (0, u "<init>"), (0, u "()V"), (0, .class_ 8), (0, u "java/lang/Record")] 13

def k2c0 : Code := { maxStack := 1, maxLocals := 1, code := jdk_30_method_1_code, exceptionTable := #[], attributes := #[] }
def k2m0 : Method := { name := "<init>", desc := "()V", sig := { parameters := [], returnType := none }, accessFlags := 4, code := some k2c0 }
/-- java/lang/Record -/
def k2 : Class := { plain "java/lang/Record" (some 0) with
  accessFlags := 1057
  interfaces := #[]
  cf := some (fileOf pool2 7 #[] #[{ accessFlags := 4, nameIndex := 5, descriptorIndex := 6, attributes := #[] }] 1057 2 #[] #[])
  fields := #[]
  methods := #[k2m0]
  instanceTypes := #[]
  staticTypes := #[]
  resolved := Array.replicate 22 none
  statics := none }

def pool3 : Array CpInfo := pool [(3, .methodref 4 5), (0, .class_ 6), (0, .nameAndType 7 8), (0, u "java/lang/Record"), (0, u "<init>"), (0, u "()V"), (12, .fieldref 22 23), (0, .class_ 24), (0, .nameAndType 25 26), (0, u "com/example/bogong/bogong/events/RoadEvent"), (0, u "line"), (0, u "I"), (0, .fieldref 22 28), (0, .nameAndType 29 30), (0, u "startTick"), (0, u "J"), (0, .fieldref 22 32), (0, .nameAndType 33 30), (0, u "endTick"), (0, .fieldref 22 35), (0, .nameAndType 36 26), (0, u "link"), (0, .fieldref 22 38), (0, .nameAndType 39 40), (0, u "minutes"), (0, u "D"), (8, .long 9223372036854775807), (3, u "ends"), (0, u "()Z"), (16, u "NEVER"), (1, u "TICKS_PER_TEN_SECONDS"), (0, u "TEN_SECONDS"), (0, u "(IJJID)V")] 46

def k3c0 : Code := { maxStack := 6, maxLocals := 9, code := prog_12_method_1_code, exceptionTable := #[], attributes := #[] }
def k3m0 : Method := { name := "<init>", desc := "(IJJID)V", sig := { parameters := [.int, .long, .long, .int, .double], returnType := none }, accessFlags := 1, code := some k3c0 }
def k3c1 : Code := { maxStack := 4, maxLocals := 1, code := prog_12_method_4_code, exceptionTable := #[], attributes := #[] }
def k3m1 : Method := { name := "ends", desc := "()Z", sig := { parameters := [], returnType := some .boolean }, accessFlags := 1, code := some k3c1 }
/-- com/example/bogong/bogong/events/RoadEvent -/
def k3 : Class := { plain "com/example/bogong/bogong/events/RoadEvent" (some 2) with
  accessFlags := 49
  interfaces := #[]
  cf := some (fileOf pool3 22 #[] #[{ accessFlags := 1, nameIndex := 7, descriptorIndex := 75, attributes := #[] }, { accessFlags := 1, nameIndex := 53, descriptorIndex := 54, attributes := #[] }] 49 4 #[] #[{ accessFlags := 18, nameIndex := 25, descriptorIndex := 26, attributes := #[] }, { accessFlags := 18, nameIndex := 29, descriptorIndex := 30, attributes := #[] }, { accessFlags := 18, nameIndex := 33, descriptorIndex := 30, attributes := #[] }, { accessFlags := 18, nameIndex := 36, descriptorIndex := 26, attributes := #[] }, { accessFlags := 18, nameIndex := 39, descriptorIndex := 40, attributes := #[] }, { accessFlags := 25, nameIndex := 71, descriptorIndex := 30, attributes := #[] }, { accessFlags := 26, nameIndex := 73, descriptorIndex := 40, attributes := #[] }, { accessFlags := 26, nameIndex := 74, descriptorIndex := 40, attributes := #[] }])
  fields := #[{ name := "line", type := .int, accessFlags := 18, slot := 0, constantValue := 0 }, { name := "startTick", type := .long, accessFlags := 18, slot := 1, constantValue := 0 }, { name := "endTick", type := .long, accessFlags := 18, slot := 2, constantValue := 0 }, { name := "link", type := .int, accessFlags := 18, slot := 3, constantValue := 0 }, { name := "minutes", type := .double, accessFlags := 18, slot := 4, constantValue := 0 }, { name := "NEVER", type := .long, accessFlags := 25, slot := 0, constantValue := 0 }, { name := "TICKS_PER_TEN_SECONDS", type := .double, accessFlags := 26, slot := 1, constantValue := 0 }, { name := "TEN_SECONDS", type := .double, accessFlags := 26, slot := 2, constantValue := 0 }]
  methods := #[k3m0, k3m1]
  instanceTypes := #[.int, .long, .long, .int, .double]
  staticTypes := #[.long, .double, .double]
  resolved := Array.replicate 122 none
  statics := none }

def pool4 : Array CpInfo := pool [(1, u "java/lang/Cloneable"), (0, .class_ 1), (0, u "java/lang/Object"), (0, .class_ 3)] 3

/-- java/lang/Cloneable -/
def k4 : Class := { plain "java/lang/Cloneable" (some 0) with
  accessFlags := 1537
  interfaces := #[]
  cf := some (fileOf pool4 2 #[] #[] 1537 4 #[] #[])
  fields := #[]
  methods := #[]
  instanceTypes := #[]
  staticTypes := #[]
  resolved := Array.replicate 8 none
  statics := none }

def pool5 : Array CpInfo := pool [(1, u "java/io/Serializable"), (0, .class_ 1), (0, u "java/lang/Object"), (0, .class_ 3)] 3

/-- java/io/Serializable -/
def k5 : Class := { plain "java/io/Serializable" (some 0) with
  accessFlags := 1537
  interfaces := #[]
  cf := some (fileOf pool5 2 #[] #[] 1537 4 #[] #[])
  fields := #[]
  methods := #[]
  instanceTypes := #[]
  staticTypes := #[]
  resolved := Array.replicate 8 none
  statics := none }

/-- the primitive byte -/
def k6 : Class := { plain "byte" none with kind := .primitive 'B', accessFlags := 0x411 }
/-- [B -/
def k7 : Class := { plain "[B" (some 0) with kind := .array 6 .byte, interfaces := #[4, 5], accessFlags := 1041 }

/-- the primitive int -/
def k8 : Class := { plain "int" none with kind := .primitive 'I', accessFlags := 0x411 }
/-- [I -/
def k9 : Class := { plain "[I" (some 0) with kind := .array 8 .int, interfaces := #[4, 5], accessFlags := 1041 }

def heap : Heap := #[]
def classes : Array Class := #[k0, k1, k2, k3, k4, k5, k6, k7, k8, k9]
def interned : List (Array UInt16 × Addr) := []
def slotsUsed : Nat := 0
def theMethod : MethodId := ⟨1, 1⟩
def args0 : Array Value := #[.int 1, .long 2, .long 3, .int 4, .int 5, .int 6]
def aboutOver (below : List Frame) : State where
  vm := { classes := classes, interned := interned.toArray }
  heap := heap
  slotsUsed := slotsUsed
  threads := #[{ frames := .invoking theMethod args0 :: below }]
def below0 : List Frame := [.native { method := ⟨0, 0⟩, args := #[] }]
def about1 : State := aboutOver below0
def p0 : Program := .bare "" "" ""
def e0 : Env := launch0.env 0 0 0
theorem w_frames : about1.frames = Frame.invoking theMethod args0 :: below0 := rfl
set_option maxRecDepth 65536 in
theorem w_args : argsFit about1.vm theMethod args0 = true := by decide +kernel
set_option maxRecDepth 65536 in
theorem w_heap : heapFits about1 = true := by decide +kernel
set_option maxRecDepth 65536 in
theorem w_runnable : about1.curStatus? = some .runnable := by decide +kernel
set_option maxRecDepth 65536 in
theorem w_alone : about1.alone = true := by decide +kernel
set_option maxRecDepth 65536 in
theorem w_named : about1.methodNamed? x = some theMethod := by decide +kernel
set_option maxRecDepth 65536 in
theorem w_hears : about1.hears theMethod below0 = true := by decide +kernel
set_option maxRecDepth 65536 in
theorem w_ripe : about1.ripe theMethod args0 below0 = true := by decide +kernel
theorem w_running : about1.status = .running := rfl
set_option maxRecDepth 65536 in
theorem w_room : about1.hasRoom e0.platform room_1 = true :=
  launch0.hasRoom_least _ room_1 (by decide +kernel) (by decide +kernel) (by decide +kernel) (by decide +kernel) (by decide +kernel) (by decide +kernel)
theorem allAtoms_all (ts : List Jvm.Cond) (a : Array Jvm.Value) (st : Jvm.State) : (allAtoms ts).before a st = ts.all (fun c => c.before a st) := by
  induction ts with
  | nil => rfl
  | cons c t ih =>
    show (Jvm.Cond.and c (allAtoms t)).before a st = _
    rw [Jvm.Cond.before_and, ih, List.all_cons]
def words1 : List Jvm.Cond := Jvm.Cond.code x code maxLocals ret :: tables_1
/-- a 'code' word, met by the world's own term for the bytes: nothing is compared byte by byte -/
theorem code_word {y : MethodName} {bytes : ByteArray} {mx : Nat} {rt : Option FieldType} {a : Array Value} {s : State} {m : MethodId} {meth : Method} {c : Code} (h1 : s.methodNamed? y = some m) (h2 : s.vm.method? m = some meth) (h3 : meth.code = some c) (h4 : c.code = bytes)
    (h5 : (c.maxLocals == mx && c.exceptionTable.isEmpty && decide (c.maxStack ≤ mostOperands) && decide (meth.sig.returnType = rt) && !meth.locks && decide (parseMethodDescriptor y.desc = some meth.sig)) = true) : (Jvm.Cond.code y bytes mx rt).before a s = true := by
  simp only [Bool.and_eq_true, beq_iff_eq, Bool.not_eq_true', decide_eq_true_eq] at h5
  obtain ⟨⟨⟨⟨⟨g1, g2⟩, g3⟩, g4⟩, g5⟩, g6⟩ := h5
  simp [Cond.before, Cond.holds, Cond.value, h1, h2, h3, h4, g1, g2, g3, g4, g5, g6]
def isCode : Jvm.Cond → Bool
  | .code _ _ _ _ => true
  | _ => false
theorem all_split {L : List Jvm.Cond} {P : Jvm.Cond → Bool} (h1 : L.all (fun c => isCode c || P c) = true) (h2 : ∀ c ∈ L.filter isCode, P c = true) : L.all P = true := by
  refine List.all_eq_true.mpr fun c hc => ?_
  have h := List.all_eq_true.mp h1 c hc
  rcases Bool.eq_false_or_eq_true (isCode c) with hi | hi
  · exact h2 c (List.mem_filter.mpr ⟨hc, hi⟩)
  · simpa [hi] using h
set_option maxRecDepth 65536 in
theorem w_c0 : (Jvm.Cond.code x code maxLocals ret).before args0 about1 = true := code_word (m := ⟨1, 1⟩) (meth := k1m1) (c := k1c1) (by decide +kernel) rfl rfl rfl (by decide +kernel)
set_option maxRecDepth 65536 in
theorem w_c1 : (Jvm.Cond.code ({ cls := "com/example/bogong/bogong/events/RoadEvent", name := "<init>", desc := "(IJJID)V" } : Jvm.MethodName) prog_12_method_1_code (9 : Nat) (Option.none : Option Jvm.ClassFile.FieldType)).before args0 about1 = true := code_word (m := ⟨3, 0⟩) (meth := k3m0) (c := k3c0) (by decide +kernel) rfl rfl rfl (by decide +kernel)
set_option maxRecDepth 65536 in
theorem w_c2 : (Jvm.Cond.code ({ cls := "java/lang/Record", name := "<init>", desc := "()V" } : Jvm.MethodName) jdk_30_method_1_code (1 : Nat) (Option.none : Option Jvm.ClassFile.FieldType)).before args0 about1 = true := code_word (m := ⟨2, 0⟩) (meth := k2m0) (c := k2c0) (by decide +kernel) rfl rfl rfl (by decide +kernel)
set_option maxRecDepth 65536 in
theorem w_c3 : (Jvm.Cond.code ({ cls := "java/lang/Object", name := "<init>", desc := "()V" } : Jvm.MethodName) object_method_1_code (1 : Nat) (Option.none : Option Jvm.ClassFile.FieldType)).before args0 about1 = true := code_word (m := ⟨0, 0⟩) (meth := k0m0) (c := k0c0) (by decide +kernel) rfl rfl rfl (by decide +kernel)
set_option maxRecDepth 65536 in
theorem w_c4 : (Jvm.Cond.code ({ cls := "com/example/bogong/bogong/events/RoadEvent", name := "ends", desc := "()Z" } : Jvm.MethodName) prog_12_method_4_code (1 : Nat) (Option.some Jvm.ClassFile.FieldType.boolean)).before args0 about1 = true := code_word (m := ⟨3, 1⟩) (meth := k3m1) (c := k3c1) (by decide +kernel) rfl rfl rfl (by decide +kernel)
def codes1 : List Jvm.Cond := [Jvm.Cond.code x code maxLocals ret, Jvm.Cond.code ({ cls := "com/example/bogong/bogong/events/RoadEvent", name := "<init>", desc := "(IJJID)V" } : Jvm.MethodName) prog_12_method_1_code (9 : Nat) (Option.none : Option Jvm.ClassFile.FieldType), Jvm.Cond.code ({ cls := "java/lang/Record", name := "<init>", desc := "()V" } : Jvm.MethodName) jdk_30_method_1_code (1 : Nat) (Option.none : Option Jvm.ClassFile.FieldType), Jvm.Cond.code ({ cls := "java/lang/Object", name := "<init>", desc := "()V" } : Jvm.MethodName) object_method_1_code (1 : Nat) (Option.none : Option Jvm.ClassFile.FieldType), Jvm.Cond.code ({ cls := "com/example/bogong/bogong/events/RoadEvent", name := "ends", desc := "()Z" } : Jvm.MethodName) prog_12_method_4_code (1 : Nat) (Option.some Jvm.ClassFile.FieldType.boolean)]
set_option maxRecDepth 65536 in
theorem codes_eq : words1.filter isCode = codes1 := rfl
theorem w_codes : ∀ c ∈ words1.filter isCode, c.before args0 about1 = true := by
  rw [codes_eq]
  intro c hc
  simp only [codes1, List.mem_cons, List.not_mem_nil, or_false] at hc
  rcases hc with rfl | rfl | rfl | rfl | rfl
  · exact w_c0
  · exact w_c1
  · exact w_c2
  · exact w_c3
  · exact w_c4
set_option maxRecDepth 65536 in
theorem w_t1 : (words1.take 24).all (fun c => isCode c || c.before args0 about1) = true := by decide +kernel
set_option maxRecDepth 65536 in
theorem w_t2 : (words1.drop 24).all (fun c => isCode c || c.before args0 about1) = true := by decide +kernel
theorem w_tables : (allAtoms (Jvm.Cond.code x code maxLocals ret :: tables_1)).before args0 about1 = true := by
  rw [allAtoms_all]
  show words1.all (fun c => c.before args0 about1) = true
  refine all_split ?_ w_codes
  rw [← List.take_append_drop 24 words1, List.all_append, w_t1, w_t2]
  rfl
set_option maxRecDepth 65536 in
theorem w_case : (Jvm.Cond.and given_1 narrow_1).before args0 about1 = true := by decide +kernel
theorem w_applies : (headSpec (Jvm.Cond.code x code maxLocals ret :: tables_1) room_1).applies x e0.platform about1 = true :=
  (Spec.applies_iff w_frames).mpr ⟨w_running, w_runnable, w_alone, w_named, w_hears, w_ripe, w_room, w_tables⟩
theorem atStart : AtStart classFile x code maxLocals ret World_1 tables_1 room_1 Calls_1 rest_1 Pre_1 launch0 p0 e0 about1 theMethod args0 below0 :=
  ⟨lists_1, trivial, launch0.admits_env _ _ _, launch0.least_env, fairChoices_fair.cas, fairChoices_fair.clock, w_frames, w_args, w_heap, w_applies, trivial, trivial, w_case⟩
end start1
theorem witness_1 : WitnessClaimed_1 := ⟨start1.p0, start1.e0, start1.about1, start1.theMethod, start1.args0, start1.below0, start1.atStart⟩
end Jvm.Pilot.@@N@@
