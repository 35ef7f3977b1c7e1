import JvmDerived
import JvmDerived.Pilot.@@N@@Statement
import JvmDerived.Pilot.@@N@@Code
set_option linter.unusedVariables false
set_option linter.unusedSimpArgs false

namespace Jvm.Pilot.@@N@@
open Jvm Jvm.ClassFile Sem Op Lib Jvm.Free Jvm.Stand Jvm.LawKit Jvm.RoadKit Bundle Jvm.Pilot.@@N@@.Jvm.D
def OwnFin (p : Program) (e : Env) (below : List Frame) (Q : Outcome → State → Prop) (T : State) : Prop := ∃ s₂ o, Steps p.tables e below T s₂ ∧ s₂.status = .running ∧ Ended s₂ below o ∧ Q o s₂
theorem OwnFin.step {p : Program} {e : Env} {below : List Frame} {Q : Outcome → State → Prop} {A B : State} (h : ∀ t, Steps p.tables e below A t → Steps p.tables e below B t) (k : OwnFin p e below Q A) : OwnFin p e below Q B := by
  obtain ⟨s₂, o, h1, h2⟩ := k
  exact ⟨s₂, o, h _ h1, h2⟩
theorem own_safe_nil {Z : State} {vm : Vm} {h : Heap} {x : Addr} : Safe Z [] vm h x := fun ⟨_, hp, _⟩ => nomatch hp
theorem own_safe_str {Z : State} {EL : List (String × Nat)} {vm : Vm} {h : Heap} {x : Addr} (hal : Z.vm.Alike vm) (E : Exa Z h x "java/lang/String") (F : Fld Z h x "java/lang/String" "value" "[B" .null) : Safe Z EL vm h x := fun B => by
  obtain ⟨p, -, u, a, -, q, -, G, rfl | rfl⟩ := B
  · obtain ⟨cell, cf, k, i, f, h1, h2, h3, h4, h5, h6, h7⟩ := F
    cases (show h[q.sa]? = some q.sC from G.ha).symm.trans h1
    obtain ⟨cS, ⟨⟨-, -, -, ⟨c1, k1, i1, f1, -⟩, -, -, -, v1, -⟩, -⟩, -⟩ := G
    obtain ⟨k3, e3, -⟩ := State.fieldFound?_setVm (s := Z) hal h2
    have e4 := (show (Wst Z vm h).fieldFound? _ _ _ = _ from e3).symm.trans f1
    simp only [Option.some.injEq, Prod.mk.injEq] at e4
    rw [← e4.2.2.2, h7] at v1
    simp at v1
  · obtain ⟨cell, k, e1, e2, e3, -, -⟩ := E
    cases (show h[q.sd]? = some q.SA from G.hd).symm.trans e1
    obtain ⟨cS, -, -, f, -⟩ := G
    have f : vm.findClass "[B" = some q.SA.cls := f
    rw [hal.findClass] at f
    obtain ⟨k1, q1, q2⟩ := Vm.findClass_spec f
    obtain ⟨k2, q3, q4⟩ := Vm.findClass_spec e2
    cases q1.symm.trans q3
    exact absurd (q2.symm.trans q4) (by decide)
theorem own_fits {C : String} {v : Value} (h : v.isRef = true) : fits (.object C) v = true := by cases v <;> simp_all [Value.isRef, fits]
theorem own_cat {v : Value} (h : v.isRef = true) : v.category = 1 := by cases v <;> simp_all [Value.isRef, Value.category]
theorem own_nonsta {Z : State} {h : Heap} {a : Addr} {C : String} (E : Exa Z h a C) : ∃ cell : Cell, h[a]? = some cell ∧ cell.vm.isStatics = false := by
  obtain ⟨cell, k, h1, -, -, h2, -⟩ := E
  exact ⟨cell, h1, h2⟩
theorem own_sta_keep {Z : State} {h h' : Heap} {ws : List Addr} {C n d : String} {v : Value} (F : Sta Z h C n d v) (K : Keep h h' ws) (q : ∀ x ∈ ws, ∃ cell : Cell, h[x]? = some cell ∧ cell.vm.isStatics = false) : Sta Z h' C n d v := by
  obtain ⟨cf, i, k, f, st, cell, h1, h2, h3, h4, h5, h6, h7⟩ := F
  refine ⟨cf, i, k, f, st, cell, h1, h2, h3, h4, K.2.1 _ _ h5 fun z => ?_, h6, h7⟩
  obtain ⟨c2, e1, e2⟩ := q st z
  rw [h5] at e1
  cases e1
  rw [h6] at e2
  cases e2
theorem own_arr_keep {Z : State} {h h' : Heap} {ws : List Addr} {a : Addr} {c : Cell} {ty : FieldType} (A : Arr Z h a c ty) (K : Keep h h' ws) (q : a ∉ ws) : Arr Z h' a c ty := ⟨K.2.1 a c A.1 q, A.2⟩
section OwnLen
variable {p : Program} {l : Launch} {e : Env} {R : Room} {s : State} {m : MethodId} {args : Array Value} {below : List Frame} {meth : Method} {c : Code} {T : State} {locs : List Loc} {cells slots : Nat} {Z : State} {h : Heap}
theorem own_len (X : Stand p l e R s m args below meth c T locs cells slots) (hx : p.tables.exec = Jvm.exec) (hZ : Z.Warmed39 s.vm) (eT : T.heap = h) {a : Addr} {cl : Cell} {ty : FieldType} (A : Arr Z h a cl ty) {z : Int32} (Sz : cl.slots.size = z.toNatClampNeg) (Ng : ¬ z < 0) {g : JFrame} (hg : g.method = m) {rest : List Value} (hs : g.stack = .ref a :: rest) (hd : decode c.code g.pc = .ok (.arraylength, 1)) {t : State}
    (k : Steps p.tables e below (T.setTop { g with pc := g.pc + 1, stack := .int z :: rest }) t) : Steps p.tables e below (T.setTop g) t := by
  refine X.arraylength hx (by rw [eT]; exact A.1) (State.isArrayOf_alike hZ.alike A.2.1) hg hs hd _ ?_
  rw [len_of Sz Ng]
  exact k
end OwnLen

section OwnStart
variable {args : Array Value} {s : State} {t : Term} {x : Addr}
theorem own_eqI {a : Term} {k : Int32} (h : (Jvm.Cond.eq a (Term.int k)).value args s none s [] = some true) : a.eval args s none [] s = some (.int k) := by
  obtain ⟨v, y, e1, e2, k1, k2⟩ := cmp_v (Or.inl h)
  have e3 : (Term.int k).eval args s none [] s = some (.int k) := Term.int_eval k
  rw [e3] at e2
  cases e2
  obtain ⟨z, rfl⟩ := k2
  simp [Cond.value, e1, e3] at h
  subst h
  exact e1
theorem own_fldI {C n d : String} {k : Int32} (ht : t.eval args s none [] s = some (.ref x)) (h : (Jvm.Cond.eq (Term.field t C n d) (Term.int k)).value args s none s [] = some true) : Fld s s.heap x C n d (.int k) := Fld.start (by rw [← fld_at ht (args := args) (first := s) (o := none) (idx := [])]; exact own_eqI h)
theorem own_neI {a : Term} {z k : Int32} (e1 : a.eval args s none [] s = some (.int z)) (h : (Jvm.Cond.not (Jvm.Cond.eq a (Term.int k))).value args s none s [] = some true) : ¬ z = k := by
  have h2 := not_v h
  have e3 : (Term.int k).eval args s none [] s = some (.int k) := Term.int_eval k
  intro e
  subst e
  simp [Cond.value, e1, e3] at h2
theorem own_eqR {a b : Term} {y : Addr} (hb : b.eval args s none [] s = some (.ref y)) (h : (Jvm.Cond.eq a b).value args s none s [] = some true) : a.eval args s none [] s = some (.ref y) := by
  obtain ⟨v, z, e1, e2, k1, k2⟩ := cmp_v (Or.inl h)
  rw [hb] at e2
  cases e2
  have hv : v.isRef = true := k2.2
  rw [eq_R e1 hb hv rfl] at h
  have := of_decide_eq_true (Option.some.inj h)
  subst this
  exact e1
theorem own_arv {t : Term} {a : Addr} {cl : Cell} {ty : FieldType} {z : Int32} {vs : List Value} {dv : Value} (hf : Fit s) (A : Arr s s.heap a cl ty) (ev : t.eval args s none [] s = some (.ref a)) (hl : (Term.length t).eval args s none [] s = some (.int z)) (hz : ¬ z < 0) (hn : z.toNatClampNeg = vs.length) (H : HasL cl 0 vs) : Arv s s.heap a cl.cls ty z vs dv := by
  obtain ⟨b, cell, h1, h2, h3⟩ := Term.length_spec hl
  cases ev.symm.trans h1
  obtain ⟨hcell, -⟩ := State.arrayAt?_spec h2
  cases A.1.symm.trans hcell
  have hsz : cl.slots.size < 2 ^ 31 := by
    simp only [Term.eval, ev, h2, Option.bind_eq_bind, Option.bind_some] at hl
    by_cases hlt : cl.slots.size < 2147483648
    · exact hlt
    · simp [hlt] at hl
  exact Arv.start hf A hsz (Value.int.inj h3).symm hz hn H
theorem own_elem {t : Term} {a : Addr} {cl : Cell} {ty : FieldType} {j : Int32} {v : Value} (A : Arr s s.heap a cl ty) (ev : t.eval args s none [] s = some (.ref a)) (h : (Term.elem t (Term.int j)).eval args s none [] s = some v) : cl.slots[j.toNatClampNeg]? = some v := (elem_in h ev (Term.int_eval j) A.1).2
end OwnStart

theorem own_ix {q : Int64} (h1 : ¬ (lcmpW q (-128 : Int64)) < (0 : Int32)) (h2 : ¬ (0 : Int32) < (lcmpW q (127 : Int64))) : 0 ≤ (q.toInt32 + (128 : Int32)).toInt ∧ (q.toInt32 + (128 : Int32)).toInt < 256 := by
  rw [lw_lt] at h1
  rw [lw_gt] at h2
  rw [Int64.lt_iff_toInt_lt] at h1 h2
  have e1 : ((-128 : Int64)).toInt = -128 := rfl
  have e2 : ((127 : Int64)).toInt = 127 := rfl
  have e3 : ((128 : Int32)).toInt = 128 := rfl
  have c1 := c_l2i q
  have c2 := c_iadd q.toInt32 (128 : Int32)
  have r1 := rng32 q.toInt32
  have r2 := rng32 (q.toInt32 + (128 : Int32))
  omega
theorem pn_0 : plainName "java/lang/Record" = true := by first | (simp [plainName, overriddenIn]; done) | decide +kernel
theorem d_jdk_30_method_1_0 : decode jdk_30_method_1_code 0 = .ok (.aload_n 0, 1) := by decide +kernel
theorem d_jdk_30_method_1_1 : decode jdk_30_method_1_code 1 = .ok (.invokespecial 1, 3) := by decide +kernel
theorem d_jdk_30_method_1_4 : decode jdk_30_method_1_code 4 = .ok (.return_, 1) := by decide +kernel
theorem ef_1 (m : MethodId) (a : Addr) : entryFrame m #[(.ref a)] 1 = mkF m 0 #[.val (.ref a)] [] := by first | (simp [entryFrame, mkF, argsToLocals, Value.category]; done) | rfl
def Q1 (Z : State) (a : Addr) (h0 : Heap) (n0 : Nat) (vV : Option Value) (hH : Heap) (LL : List Loc) : Prop := vV = none ∧ Fr n0 LL ∧ hH = h0
def R1 (Z : State) (a : Addr) (h0 : Heap) (n0 : Nat) (U : State) (o : Outcome) (U' : State) : Prop := ∃ vV LL, o = .returned vV ∧ Q1 Z a h0 n0 vV U'.heap LL ∧ FrameEnd U o U' LL ({ frames := 1, cells := 0, slots := 0, locals := 12 } : Room).cells ({ frames := 1, cells := 0, slots := 0, locals := 12 } : Room).slots
set_option maxRecDepth 65536 in
set_option maxHeartbeats 40000000 in
theorem rm1 (l : Launch) (Z : State) (a0 : Array Value) (hw : ∀ d ∈ tables_1, d.before a0 Z = true) (ws : List Jvm.Cond) (a : Addr) (h0 : Heap) (n0 : Nat) (Z0 : n0 ≤ h0.size) :
    MetFree l (⟨"java/lang/Record", "<init>", "()V"⟩ : MethodName) (head1 (Jvm.Cond.code (⟨"java/lang/Record", "<init>", "()V"⟩ : MethodName) jdk_30_method_1_code 1 none :: ws) ({ frames := 1, cells := 0, slots := 0, locals := 12 } : Room)) (fun aA U => aA = #[(.ref a)] ∧ Z.Warmed39 U.vm ∧ U.heap = h0) (fun _ _ _ _ _ => True) (fun _ U o U' => ∃ vV LL, o = .returned vV ∧ Q1 Z a h0 n0 vV U'.heap LL ∧ FrameEnd U o U' LL ({ frames := 1, cells := 0, slots := 0, locals := 12 } : Room).cells ({ frames := 1, cells := 0, slots := 0, locals := 12 } : Room).slots) := by
  refine MetFree.of_bodySF (plainFor_of_name pn_0) hisR ?_
  intro p e s m args below meth cC s₁ Bd hml0 hP hK
  obtain ⟨rfl, hZ, hh⟩ := hP
  have hx := Bd.exec
  have hby := Bd.bytes
  have hml : cC.maxLocals = 1 := hml0
  have hown : s.vm.findClass "java/lang/Record" = some m.cls := findClass_of_methodNamed Bd.named
  have hnm := (name_of_methodNamed Bd.named Bd.method).1
  have X0 : Stand p l e ({ frames := 1, cells := 0, slots := 0, locals := 12 } : Room) s m #[(.ref a)] below meth cC s₁ [] 0 0 := Stand.of_body Bd
  have e0 : s₁.heap = h0 := by rw [← hh, Bd.state]; rfl
  have N0 := Fr.nil n0
  show OwnFin p e below (R1 Z a h0 n0 s) (s₁.setTop (entryFrame m #[(.ref a)] 1))
  rw [ef_1 m a]
  refine OwnFin.step (fun tT kK => XS.aloadN X0.here hx rfl (hb hby d_jdk_30_method_1_0) rfl rfl kK) ?_
  show OwnFin p e below _ (s₁.setTop (mkF m 1 #[.val (.ref a)] [(.ref a)]))
  obtain ⟨T1, X1, e1, st1⟩ := initO X0 hx hZ hown (hw _ (List.mem_of_getElem? (i := 12) rfl)) (hw _ (List.mem_of_getElem? (i := 13) rfl)) (hw _ (List.mem_of_getElem? (i := 14) rfl)) e0 (g := (mkF m 1 #[.val (.ref a)] [(.ref a)])) rfl (by rw [hml]; rfl) rfl (hb hby d_jdk_30_method_1_1) (by decide) (W := 0) (by show 2 * 0 + _ ≤ _; exact Nat.le_of_eq rfl) (by decide)
  refine OwnFin.step st1 ?_
  show OwnFin p e below _ (T1.setTop (mkF m 4 #[.val (.ref a)] []))
  obtain ⟨fs2, hr2, hrun2, hended2, hW2, hsame2⟩ := X1.leave (v := none) (fun _ => rfl)
  refine ⟨_, _, X1.returnOut hx Bd.returns (hb hby d_jdk_30_method_1_4) hr2, hrun2, hended2, _, _, rfl, ?_, ⟨_, rfl⟩, hW2, hsame2.mono (by decide) (by decide)⟩
  show Q1 Z a h0 n0 _ T1.heap _
  rw [e1]
  exact ⟨rfl, N0, rfl⟩
theorem pn_4 : plainName "java/lang/Number" = true := by first | (simp [plainName, overriddenIn]; done) | decide +kernel
theorem d_jdk_18_method_1_0 : decode jdk_18_method_1_code 0 = .ok (.aload_n 0, 1) := by decide +kernel
theorem d_jdk_18_method_1_1 : decode jdk_18_method_1_code 1 = .ok (.invokespecial 1, 3) := by decide +kernel
theorem d_jdk_18_method_1_4 : decode jdk_18_method_1_code 4 = .ok (.return_, 1) := by decide +kernel
theorem ef_2 (m : MethodId) (a : Addr) : entryFrame m #[(.ref a)] 1 = mkF m 0 #[.val (.ref a)] [] := by first | (simp [entryFrame, mkF, argsToLocals, Value.category]; done) | rfl
def Q2 (Z : State) (a : Addr) (h0 : Heap) (n0 : Nat) (vV : Option Value) (hH : Heap) (LL : List Loc) : Prop := vV = none ∧ Fr n0 LL ∧ hH = h0
def R2 (Z : State) (a : Addr) (h0 : Heap) (n0 : Nat) (U : State) (o : Outcome) (U' : State) : Prop := ∃ vV LL, o = .returned vV ∧ Q2 Z a h0 n0 vV U'.heap LL ∧ FrameEnd U o U' LL ({ frames := 1, cells := 0, slots := 0, locals := 12 } : Room).cells ({ frames := 1, cells := 0, slots := 0, locals := 12 } : Room).slots
set_option maxRecDepth 65536 in
set_option maxHeartbeats 40000000 in
theorem rm2 (l : Launch) (Z : State) (a0 : Array Value) (hw : ∀ d ∈ tables_1, d.before a0 Z = true) (ws : List Jvm.Cond) (a : Addr) (h0 : Heap) (n0 : Nat) (Z0 : n0 ≤ h0.size) :
    MetFree l (⟨"java/lang/Number", "<init>", "()V"⟩ : MethodName) (head1 (Jvm.Cond.code (⟨"java/lang/Number", "<init>", "()V"⟩ : MethodName) jdk_18_method_1_code 1 none :: ws) ({ frames := 1, cells := 0, slots := 0, locals := 12 } : Room)) (fun aA U => aA = #[(.ref a)] ∧ Z.Warmed39 U.vm ∧ U.heap = h0) (fun _ _ _ _ _ => True) (fun _ U o U' => ∃ vV LL, o = .returned vV ∧ Q2 Z a h0 n0 vV U'.heap LL ∧ FrameEnd U o U' LL ({ frames := 1, cells := 0, slots := 0, locals := 12 } : Room).cells ({ frames := 1, cells := 0, slots := 0, locals := 12 } : Room).slots) := by
  refine MetFree.of_bodySF (plainFor_of_name pn_4) hisR ?_
  intro p e s m args below meth cC s₁ Bd hml0 hP hK
  obtain ⟨rfl, hZ, hh⟩ := hP
  have hx := Bd.exec
  have hby := Bd.bytes
  have hml : cC.maxLocals = 1 := hml0
  have hown : s.vm.findClass "java/lang/Number" = some m.cls := findClass_of_methodNamed Bd.named
  have hnm := (name_of_methodNamed Bd.named Bd.method).1
  have X0 : Stand p l e ({ frames := 1, cells := 0, slots := 0, locals := 12 } : Room) s m #[(.ref a)] below meth cC s₁ [] 0 0 := Stand.of_body Bd
  have e0 : s₁.heap = h0 := by rw [← hh, Bd.state]; rfl
  have N0 := Fr.nil n0
  show OwnFin p e below (R2 Z a h0 n0 s) (s₁.setTop (entryFrame m #[(.ref a)] 1))
  rw [ef_2 m a]
  refine OwnFin.step (fun tT kK => XS.aloadN X0.here hx rfl (hb hby d_jdk_18_method_1_0) rfl rfl kK) ?_
  show OwnFin p e below _ (s₁.setTop (mkF m 1 #[.val (.ref a)] [(.ref a)]))
  obtain ⟨T1, X1, e1, st1⟩ := initO X0 hx hZ hown (hw _ (List.mem_of_getElem? (i := 46) rfl)) (hw _ (List.mem_of_getElem? (i := 13) rfl)) (hw _ (List.mem_of_getElem? (i := 14) rfl)) e0 (g := (mkF m 1 #[.val (.ref a)] [(.ref a)])) rfl (by rw [hml]; rfl) rfl (hb hby d_jdk_18_method_1_1) (by decide) (W := 0) (by show 2 * 0 + _ ≤ _; exact Nat.le_of_eq rfl) (by decide)
  refine OwnFin.step st1 ?_
  show OwnFin p e below _ (T1.setTop (mkF m 4 #[.val (.ref a)] []))
  obtain ⟨fs2, hr2, hrun2, hended2, hW2, hsame2⟩ := X1.leave (v := none) (fun _ => rfl)
  refine ⟨_, _, X1.returnOut hx Bd.returns (hb hby d_jdk_18_method_1_4) hr2, hrun2, hended2, _, _, rfl, ?_, ⟨_, rfl⟩, hW2, hsame2.mono (by decide) (by decide)⟩
  show Q2 Z a h0 n0 _ T1.heap _
  rw [e1]
  exact ⟨rfl, N0, rfl⟩
theorem pn_8 : plainName "java/lang/Long" = true := by first | (simp [plainName, overriddenIn]; done) | decide +kernel
theorem d_jdk_35_method_26_0 : decode jdk_35_method_26_code 0 = .ok (.aload_n 0, 1) := by decide +kernel
theorem d_jdk_35_method_26_1 : decode jdk_35_method_26_code 1 = .ok (.invokespecial 270, 3) := by decide +kernel
theorem pd_11 : parseMethodDescriptor "()V" = some ⟨[], none⟩ := by decide +kernel
theorem d_jdk_35_method_26_4 : decode jdk_35_method_26_code 4 = .ok (.aload_n 0, 1) := by decide +kernel
theorem d_jdk_35_method_26_5 : decode jdk_35_method_26_code 5 = .ok (.lload_n 1, 1) := by decide +kernel
theorem d_jdk_35_method_26_6 : decode jdk_35_method_26_code 6 = .ok (.putfield 273, 3) := by decide +kernel
theorem d_jdk_35_method_26_9 : decode jdk_35_method_26_code 9 = .ok (.return_, 1) := by decide +kernel
theorem ef_3 (m : MethodId) (a : Addr) (q : Int64) : entryFrame m #[(.ref a), (.long q)] 3 = mkF m 0 #[.val (.ref a), .val (.long q), .second] [] := by first | (simp [entryFrame, mkF, argsToLocals, Value.category]; done) | rfl
def Q3 (Z : State) (a : Addr) (q : Int64) (h0 : Heap) (n0 : Nat) (vV : Option Value) (hH : Heap) (LL : List Loc) : Prop := vV = none ∧ Fr n0 LL ∧ Keep h0 hH [a]
def R3 (Z : State) (a : Addr) (q : Int64) (h0 : Heap) (n0 : Nat) (U : State) (o : Outcome) (U' : State) : Prop := ∃ vV LL, o = .returned vV ∧ Q3 Z a q h0 n0 vV U'.heap LL ∧ FrameEnd U o U' LL ({ frames := 2, cells := 0, slots := 0, locals := 24 } : Room).cells ({ frames := 2, cells := 0, slots := 0, locals := 24 } : Room).slots
set_option maxRecDepth 65536 in
set_option maxHeartbeats 40000000 in
theorem rm3 (l : Launch) (Z : State) (a0 : Array Value) (hw : ∀ d ∈ tables_1, d.before a0 Z = true) (ws : List Jvm.Cond) (a : Addr) (q : Int64) (h0 : Heap) (n0 : Nat) (Z0 : n0 ≤ h0.size) (hp0 : Exa Z h0 a "java/lang/Long") (hp1 : Fld Z h0 a "java/lang/Long" "value" "J" (.long (0 : Int64))) (hp2 : n0 ≤ a) :
    MetFree l (⟨"java/lang/Long", "<init>", "(J)V"⟩ : MethodName) (head1 (Jvm.Cond.code (⟨"java/lang/Long", "<init>", "(J)V"⟩ : MethodName) jdk_35_method_26_code 3 none :: ws) ({ frames := 2, cells := 0, slots := 0, locals := 24 } : Room)) (fun aA U => aA = #[(.ref a), (.long q)] ∧ Z.Warmed39 U.vm ∧ U.heap = h0) (fun _ _ _ _ _ => True) (fun _ U o U' => ∃ vV LL, o = .returned vV ∧ Q3 Z a q h0 n0 vV U'.heap LL ∧ FrameEnd U o U' LL ({ frames := 2, cells := 0, slots := 0, locals := 24 } : Room).cells ({ frames := 2, cells := 0, slots := 0, locals := 24 } : Room).slots) := by
  refine MetFree.of_bodySF (plainFor_of_name pn_8) hisR ?_
  intro p e s m args below meth cC s₁ Bd hml0 hP hK
  obtain ⟨rfl, hZ, hh⟩ := hP
  have hx := Bd.exec
  have hby := Bd.bytes
  have hml : cC.maxLocals = 3 := hml0
  have hown : s.vm.findClass "java/lang/Long" = some m.cls := findClass_of_methodNamed Bd.named
  have hnm := (name_of_methodNamed Bd.named Bd.method).1
  have X0 : Stand p l e ({ frames := 2, cells := 0, slots := 0, locals := 24 } : Room) s m #[(.ref a), (.long q)] below meth cC s₁ [] 0 0 := Stand.of_body Bd
  have e0 : s₁.heap = h0 := by rw [← hh, Bd.state]; rfl
  have N0 := Fr.nil n0
  show OwnFin p e below (R3 Z a q h0 n0 s) (s₁.setTop (entryFrame m #[(.ref a), (.long q)] 3))
  rw [ef_3 m a q]
  refine OwnFin.step (fun tT kK => XS.aloadN X0.here hx rfl (hb hby d_jdk_35_method_26_0) rfl rfl kK) ?_
  show OwnFin p e below _ (s₁.setTop (mkF m 1 #[.val (.ref a), .val (.long q), .second] [(.ref a)]))
  obtain ⟨_, _, ⟨T1, L1, k1, n1⟩, -, X1, ⟨Lc1, hQ1, l1, y1, z1⟩, st1⟩ := X0.specialBack hx (y := (⟨"java/lang/Number", "<init>", "()V"⟩ : MethodName)) rfl hown (mvT hZ (hw _ (List.mem_of_getElem? (i := 40) rfl))) (mvT hZ (hw _ (List.mem_of_getElem? (i := 41) rfl))) (mvT hZ (hw _ (List.mem_of_getElem? (i := 45) rfl))) (by decide) (backOf (W := 0) (rm2 l Z a0 hw [] a h0 n0 Z0 ) hZ (hw _ (List.mem_of_getElem? (i := 45) rfl)) (hw _ (List.mem_of_getElem? (i := 44) rfl)) (by decide) (by decide)) (g := (mkF m 1 #[.val (.ref a), .val (.long q), .second] [(.ref a)])) rfl (by rw [hml]; rfl) (Steps.refl _) (a := a) (argsL := []) (rest := []) (lenOf pd_11 rfl) rfl (by show 2 * 0 + _ ≤ _; exact Nat.le_of_eq rfl) (hb hby d_jdk_35_method_26_1) (fun _ _ => ⟨rfl, e0, (by decide : 0 + 0 ≤ _), (by decide : 0 + 0 ≤ _)⟩)
  dsimp only [Pt.U, Pt.locs, Pt.cells, Pt.slots] at X1 l1 y1 z1 st1 hQ1
  subst l1 y1 z1
  obtain ⟨rfl, N1q, e1⟩ := hQ1
  have N1 := Fr.app N0 N1q
  refine OwnFin.step (fun tT kK => st1.trans kK) ?_
  show OwnFin p e below _ (T1.setTop (mkF m 4 #[.val (.ref a), .val (.long q), .second] []))
  refine OwnFin.step (fun tT kK => XS.aloadN X1.here hx rfl (hb hby d_jdk_35_method_26_4) rfl rfl kK) ?_
  show OwnFin p e below _ (T1.setTop (mkF m 5 #[.val (.ref a), .val (.long q), .second] [(.ref a)]))
  refine OwnFin.step (fun tT kK => XS.lloadN X1.here hx rfl (hb hby d_jdk_35_method_26_5) rfl kK) ?_
  show OwnFin p e below _ (T1.setTop (mkF m 6 #[.val (.ref a), .val (.long q), .second] [(.long q), (.ref a)]))
  obtain ⟨T2, h2, X2, e2, W2, st2⟩ := putF X1 hx hZ hown (host := "") (Or.inl (hw _ (List.mem_of_getElem? (i := 47) rfl))) Via.refl e1 hp1 hp0 (Or.inr ⟨(hw _ (List.mem_of_getElem? (i := 48) rfl)), rfl, hnm⟩) (hw _ (List.mem_of_getElem? (i := 35) rfl)) (ty := .long) (by decide) rfl rfl (g := (mkF m 6 #[.val (.ref a), .val (.long q), .second] [(.long q), (.ref a)])) rfl rfl (hb hby d_jdk_35_method_26_6)
  refine OwnFin.step st2 ?_
  have N2 := Fr.snoc X2 N1 hp2
  have Fw2 : Fld Z h2 a "java/lang/Long" "value" "J" (.long q) := hp1.same W2
  show OwnFin p e below _ (T2.setTop (mkF m 9 #[.val (.ref a), .val (.long q), .second] []))
  obtain ⟨fs3, hr3, hrun3, hended3, hW3, hsame3⟩ := X2.leave (v := none) (fun _ => rfl)
  refine ⟨_, _, X2.returnOut hx Bd.returns (hb hby d_jdk_35_method_26_9) hr3, hrun3, hended3, _, _, rfl, ?_, ⟨_, rfl⟩, hW3, hsame3.mono (by decide) (by decide)⟩
  show Q3 Z a q h0 n0 _ T2.heap _
  rw [e2]
  exact ⟨rfl, N2, ((Keep.refl h0 [a]).wr W2 (Or.inl (List.mem_of_getElem? (i := 0) rfl)))⟩
theorem d_jdk_35_method_24_0 : decode jdk_35_method_24_code 0 = .ok (.sipush 128, 3) := by decide +kernel
theorem d_jdk_35_method_24_3 : decode jdk_35_method_24_code 3 = .ok (.istore_n 2, 1) := by decide +kernel
theorem d_jdk_35_method_24_4 : decode jdk_35_method_24_code 4 = .ok (.lload_n 0, 1) := by decide +kernel
theorem d_jdk_35_method_24_5 : decode jdk_35_method_24_code 5 = .ok (.ldc2_w 230, 3) := by decide +kernel
theorem d_jdk_35_method_24_8 : decode jdk_35_method_24_code 8 = .ok (.lcmp, 1) := by decide +kernel
theorem d_jdk_35_method_24_9 : decode jdk_35_method_24_code 9 = .ok (.ifCond .lt 22, 3) := by decide +kernel
theorem d_jdk_35_method_24_31 : decode jdk_35_method_24_code 31 = .ok (.new 1, 3) := by decide +kernel
theorem d_jdk_35_method_24_34 : decode jdk_35_method_24_code 34 = .ok (.dup, 1) := by decide +kernel
theorem d_jdk_35_method_24_35 : decode jdk_35_method_24_code 35 = .ok (.lload_n 0, 1) := by decide +kernel
theorem d_jdk_35_method_24_36 : decode jdk_35_method_24_code 36 = .ok (.invokespecial 240, 3) := by decide +kernel
theorem pd_26 : parseMethodDescriptor "(J)V" = some ⟨[.long], none⟩ := by decide +kernel
theorem d_jdk_35_method_24_39 : decode jdk_35_method_24_code 39 = .ok (.areturn, 1) := by decide +kernel
theorem d_jdk_35_method_24_12 : decode jdk_35_method_24_code 12 = .ok (.lload_n 0, 1) := by decide +kernel
theorem d_jdk_35_method_24_13 : decode jdk_35_method_24_code 13 = .ok (.ldc2_w 232, 3) := by decide +kernel
theorem d_jdk_35_method_24_16 : decode jdk_35_method_24_code 16 = .ok (.lcmp, 1) := by decide +kernel
theorem d_jdk_35_method_24_17 : decode jdk_35_method_24_code 17 = .ok (.ifCond .gt 14, 3) := by decide +kernel
theorem d_jdk_35_method_24_20 : decode jdk_35_method_24_code 20 = .ok (.getstatic 234, 3) := by decide +kernel
theorem d_jdk_35_method_24_23 : decode jdk_35_method_24_code 23 = .ok (.lload_n 0, 1) := by decide +kernel
theorem d_jdk_35_method_24_24 : decode jdk_35_method_24_code 24 = .ok (.l2i, 1) := by decide +kernel
theorem d_jdk_35_method_24_25 : decode jdk_35_method_24_code 25 = .ok (.sipush 128, 3) := by decide +kernel
theorem d_jdk_35_method_24_28 : decode jdk_35_method_24_code 28 = .ok (.iadd, 1) := by decide +kernel
theorem d_jdk_35_method_24_29 : decode jdk_35_method_24_code 29 = .ok (.aaload, 1) := by decide +kernel
theorem d_jdk_35_method_24_30 : decode jdk_35_method_24_code 30 = .ok (.areturn, 1) := by decide +kernel
theorem ef_4 (m : MethodId) (q : Int64) : entryFrame m #[(.long q)] 3 = mkF m 0 #[.val (.long q), .second, .unset] [] := by first | (simp [entryFrame, mkF, argsToLocals, Value.category]; done) | rfl
def Q4 (Z : State) (q : Int64) (ca : Addr) (cl : Cell) (h0 : Heap) (n0 : Nat) (vV : Option Value) (hH : Heap) (LL : List Loc) : Prop := ∃ b : Addr, vV = some (.ref b) ∧ Fr n0 LL ∧ Keep h0 hH []
def R4 (Z : State) (q : Int64) (ca : Addr) (cl : Cell) (h0 : Heap) (n0 : Nat) (U : State) (o : Outcome) (U' : State) : Prop := ∃ vV LL, o = .returned vV ∧ Q4 Z q ca cl h0 n0 vV U'.heap LL ∧ FrameEnd U o U' LL ({ frames := 3, cells := 1, slots := 1, locals := 39 } : Room).cells ({ frames := 3, cells := 1, slots := 1, locals := 39 } : Room).slots
set_option maxRecDepth 65536 in
set_option maxHeartbeats 40000000 in
theorem rm4 (l : Launch) (Z : State) (a0 : Array Value) (hw : ∀ d ∈ tables_1, d.before a0 Z = true) (ws : List Jvm.Cond) (q : Int64) (ca : Addr) (cl : Cell) (h0 : Heap) (n0 : Nat) (Z0 : n0 ≤ h0.size) (hp0 : Sta Z h0 "java/lang/Long$LongCache" "cache" "[Ljava/lang/Long;" (.ref ca)) (hp1 : Arr Z h0 ca cl (.object "java/lang/Long")) (hp2 : ∀ j : Int32, 0 ≤ j.toInt → j.toInt < 256 → ¬ (j < 0 ∨ cl.slots.size ≤ j.toNatClampNeg) ∧ ∃ w : Addr, cl.slots[j.toNatClampNeg]? = some (.ref w)) :
    MetFree l (⟨"java/lang/Long", "valueOf", "(J)Ljava/lang/Long;"⟩ : MethodName) (head1 (Jvm.Cond.code (⟨"java/lang/Long", "valueOf", "(J)Ljava/lang/Long;"⟩ : MethodName) jdk_35_method_24_code 3 (some (.object "java/lang/Long")) :: ws) ({ frames := 3, cells := 1, slots := 1, locals := 39 } : Room)) (fun aA U => aA = #[(.long q)] ∧ Z.Warmed39 U.vm ∧ U.heap = h0) (fun _ _ _ _ _ => True) (fun _ U o U' => ∃ vV LL, o = .returned vV ∧ Q4 Z q ca cl h0 n0 vV U'.heap LL ∧ FrameEnd U o U' LL ({ frames := 3, cells := 1, slots := 1, locals := 39 } : Room).cells ({ frames := 3, cells := 1, slots := 1, locals := 39 } : Room).slots) := by
  refine MetFree.of_bodySF (plainFor_of_name pn_8) hisR ?_
  intro p e s m args below meth cC s₁ Bd hml0 hP hK
  obtain ⟨rfl, hZ, hh⟩ := hP
  have hx := Bd.exec
  have hby := Bd.bytes
  have hml : cC.maxLocals = 3 := hml0
  have hown : s.vm.findClass "java/lang/Long" = some m.cls := findClass_of_methodNamed Bd.named
  have hnm := (name_of_methodNamed Bd.named Bd.method).1
  have X0 : Stand p l e ({ frames := 3, cells := 1, slots := 1, locals := 39 } : Room) s m #[(.long q)] below meth cC s₁ [] 0 0 := Stand.of_body Bd
  have e0 : s₁.heap = h0 := by rw [← hh, Bd.state]; rfl
  have N0 := Fr.nil n0
  show OwnFin p e below (R4 Z q ca cl h0 n0 s) (s₁.setTop (entryFrame m #[(.long q)] 3))
  rw [ef_4 m q]
  refine OwnFin.step (fun tT kK => XS.sipush X0.here hx rfl (hb hby d_jdk_35_method_24_0) kK) ?_
  show OwnFin p e below _ (s₁.setTop (mkF m 3 #[.val (.long q), .second, .unset] [(.int (128 : Int32))]))
  refine OwnFin.step (fun tT kK => XS.istoreN X0.here hx rfl (hb hby d_jdk_35_method_24_3) rfl (l' := #[.val (.long q), .second, .val (.int (128 : Int32))]) rfl kK) ?_
  show OwnFin p e below _ (s₁.setTop (mkF m 4 #[.val (.long q), .second, .val (.int (128 : Int32))] []))
  refine OwnFin.step (fun tT kK => XS.lloadN X0.here hx rfl (hb hby d_jdk_35_method_24_4) rfl kK) ?_
  show OwnFin p e below _ (s₁.setTop (mkF m 5 #[.val (.long q), .second, .val (.int (128 : Int32))] [(.long q)]))
  refine OwnFin.step (fun tT kK => X0.ldc2J hx hown (mvT hZ (hw _ (List.mem_of_getElem? (i := 29) rfl))) (g := (mkF m 5 #[.val (.long q), .second, .val (.int (128 : Int32))] [(.long q)])) rfl (hb hby d_jdk_35_method_24_5) kK) ?_
  show OwnFin p e below _ (s₁.setTop (mkF m 8 #[.val (.long q), .second, .val (.int (128 : Int32))] [(.long (-128 : Int64)), (.long q)]))
  refine OwnFin.step (fun tT kK => XS.lcmp X0.here hx rfl (hb hby d_jdk_35_method_24_8) rfl kK) ?_
  show OwnFin p e below _ (s₁.setTop (mkF m 9 #[.val (.long q), .second, .val (.int (128 : Int32))] [(.int (lcmpW q (-128 : Int64)))]))
  by_cases hc1 : (lcmpW q (-128 : Int64)) < (0 : Int32)
  · skip
    refine OwnFin.step (fun tT kK => XS.ifYes X0.here hx rfl (pc0 := 9) (pc' := 31) rfl (hb hby d_jdk_35_method_24_9) rfl ((if0 _ _).trans (tlt (hc1 : (lcmpW q (-128 : Int64)) < (0 : Int32))).1) (by decide) (by decide) kK) ?_
    show OwnFin p e below _ (s₁.setTop (mkF m 31 #[.val (.long q), .second, .val (.int (128 : Int32))] []))
    obtain ⟨T2, h2, X2, e2, E2, A2, D2, -, st2⟩ := newO X0 hx hZ hown (hw _ (List.mem_of_getElem? (i := 34) rfl)) (hw _ (List.mem_of_getElem? (i := 35) rfl)) (hw _ (List.mem_of_getElem? (i := 27) rfl)) e0 (g := (mkF m 31 #[.val (.long q), .second, .val (.int (128 : Int32))] [])) rfl (hb hby d_jdk_35_method_24_31) (by decide) (by decide)
    obtain ⟨b2, g2⟩ : ∃ z, z = h0.size := ⟨_, rfl⟩
    rw [← g2] at A2 D2 st2
    refine OwnFin.step st2 ?_
    have Fz3 : Fld Z h2 b2 "java/lang/Long" "value" "J" (.long (0 : Int64)) := D2 (Or.inr (hw _ (List.mem_of_getElem? (i := 48) rfl))) (ty := .long) (by decide)
    show OwnFin p e below _ (T2.setTop (mkF m 34 #[.val (.long q), .second, .val (.int (128 : Int32))] [(.ref b2)]))
    refine OwnFin.step (fun tT kK => XS.dup X2.here hx rfl (hb hby d_jdk_35_method_24_34) rfl rfl kK) ?_
    show OwnFin p e below _ (T2.setTop (mkF m 35 #[.val (.long q), .second, .val (.int (128 : Int32))] [(.ref b2), (.ref b2)]))
    refine OwnFin.step (fun tT kK => XS.lloadN X2.here hx rfl (hb hby d_jdk_35_method_24_35) rfl kK) ?_
    show OwnFin p e below _ (T2.setTop (mkF m 36 #[.val (.long q), .second, .val (.int (128 : Int32))] [(.long q), (.ref b2), (.ref b2)]))
    obtain ⟨_, _, ⟨T4, L4, k4, n4⟩, -, X4, ⟨Lc4, hQ4, l4, y4, z4⟩, st4⟩ := X2.specialBack hx (y := (⟨"java/lang/Long", "<init>", "(J)V"⟩ : MethodName)) rfl hown (mvT hZ (hw _ (List.mem_of_getElem? (i := 36) rfl))) (mvT hZ (hw _ (List.mem_of_getElem? (i := 37) rfl))) (mvT hZ (hw _ (List.mem_of_getElem? (i := 39) rfl))) (by decide) (backOf (W := 1) (rm3 l Z a0 hw [] b2 q h2 n0 (Nat.le_trans Z0 E2.1) A2 Fz3 (Nat.le_trans Z0 (Nat.le_of_eq g2.symm))) hZ (hw _ (List.mem_of_getElem? (i := 39) rfl)) (hw _ (List.mem_of_getElem? (i := 27) rfl)) (by decide) (by decide)) (g := (mkF m 36 #[.val (.long q), .second, .val (.int (128 : Int32))] [(.long q), (.ref b2), (.ref b2)])) rfl (by rw [hml]; rfl) (Steps.refl _) (a := b2) (argsL := [(.long q)]) (rest := [(.ref b2)]) (lenOf pd_26 rfl) rfl (by show 2 * 0 + _ ≤ _; exact Nat.le_of_eq rfl) (hb hby d_jdk_35_method_24_36) (fun _ _ => ⟨rfl, e2, (by decide : 1 + 0 ≤ _), (by decide : 1 + 0 ≤ _)⟩)
    dsimp only [Pt.U, Pt.locs, Pt.cells, Pt.slots] at X4 l4 y4 z4 st4 hQ4
    subst l4 y4 z4
    obtain ⟨rfl, N4q, K4⟩ := hQ4
    have N4 := Fr.app N0 N4q
    refine OwnFin.step (fun tT kK => st4.trans kK) ?_
    show OwnFin p e below _ (T4.setTop (mkF m 39 #[.val (.long q), .second, .val (.int (128 : Int32))] [(.ref b2)]))
    obtain ⟨fs5, hr5, hrun5, hended5, hW5, hsame5⟩ := X4.leave (v := (some (.ref b2))) (fun h => by rw [Bd.returns] at h; cases h)
    refine ⟨_, _, retOut X4 hx Bd.returns rfl (Or.inr (Or.inr (Or.inr (Or.inr ⟨rfl, rfl, rfl⟩)))) (hb hby d_jdk_35_method_24_39) hr5, hrun5, hended5, _, _, rfl, ?_, ⟨_, rfl⟩, hW5, hsame5.mono (by decide) (by decide)⟩
    show Q4 Z q ca cl h0 n0 _ T4.heap _
    exact ⟨b2, rfl, N4, (((Keep.refl h0 []).ext E2).trans K4 (allS (P := fun x => x ∈ [] ∨ h0.size ≤ x) (Or.inr (Nat.le_trans (Nat.le_refl _) (Nat.le_of_eq g2.symm))) all0))⟩
  · skip
    refine OwnFin.step (fun tT kK => XS.ifNo X0.here hx rfl (hb hby d_jdk_35_method_24_9) rfl ((if0 _ _).trans (flt (hc1 : ¬ ((lcmpW q (-128 : Int64)) < (0 : Int32)))).1) kK) ?_
    show OwnFin p e below _ (s₁.setTop (mkF m 12 #[.val (.long q), .second, .val (.int (128 : Int32))] []))
    refine OwnFin.step (fun tT kK => XS.lloadN X0.here hx rfl (hb hby d_jdk_35_method_24_12) rfl kK) ?_
    show OwnFin p e below _ (s₁.setTop (mkF m 13 #[.val (.long q), .second, .val (.int (128 : Int32))] [(.long q)]))
    refine OwnFin.step (fun tT kK => X0.ldc2J hx hown (mvT hZ (hw _ (List.mem_of_getElem? (i := 30) rfl))) (g := (mkF m 13 #[.val (.long q), .second, .val (.int (128 : Int32))] [(.long q)])) rfl (hb hby d_jdk_35_method_24_13) kK) ?_
    show OwnFin p e below _ (s₁.setTop (mkF m 16 #[.val (.long q), .second, .val (.int (128 : Int32))] [(.long (127 : Int64)), (.long q)]))
    refine OwnFin.step (fun tT kK => XS.lcmp X0.here hx rfl (hb hby d_jdk_35_method_24_16) rfl kK) ?_
    show OwnFin p e below _ (s₁.setTop (mkF m 17 #[.val (.long q), .second, .val (.int (128 : Int32))] [(.int (lcmpW q (127 : Int64)))]))
    by_cases hc6 : (0 : Int32) < (lcmpW q (127 : Int64))
    · skip
      refine OwnFin.step (fun tT kK => XS.ifYes X0.here hx rfl (pc0 := 17) (pc' := 31) rfl (hb hby d_jdk_35_method_24_17) rfl ((if0 _ _).trans (tlt (hc6 : (0 : Int32) < (lcmpW q (127 : Int64)))).2.2.1) (by decide) (by decide) kK) ?_
      show OwnFin p e below _ (s₁.setTop (mkF m 31 #[.val (.long q), .second, .val (.int (128 : Int32))] []))
      obtain ⟨T7, h7, X7, e7, E7, A7, D7, -, st7⟩ := newO X0 hx hZ hown (hw _ (List.mem_of_getElem? (i := 34) rfl)) (hw _ (List.mem_of_getElem? (i := 35) rfl)) (hw _ (List.mem_of_getElem? (i := 27) rfl)) e0 (g := (mkF m 31 #[.val (.long q), .second, .val (.int (128 : Int32))] [])) rfl (hb hby d_jdk_35_method_24_31) (by decide) (by decide)
      obtain ⟨b7, g7⟩ : ∃ z, z = h0.size := ⟨_, rfl⟩
      rw [← g7] at A7 D7 st7
      refine OwnFin.step st7 ?_
      have Fz8 : Fld Z h7 b7 "java/lang/Long" "value" "J" (.long (0 : Int64)) := D7 (Or.inr (hw _ (List.mem_of_getElem? (i := 48) rfl))) (ty := .long) (by decide)
      show OwnFin p e below _ (T7.setTop (mkF m 34 #[.val (.long q), .second, .val (.int (128 : Int32))] [(.ref b7)]))
      refine OwnFin.step (fun tT kK => XS.dup X7.here hx rfl (hb hby d_jdk_35_method_24_34) rfl rfl kK) ?_
      show OwnFin p e below _ (T7.setTop (mkF m 35 #[.val (.long q), .second, .val (.int (128 : Int32))] [(.ref b7), (.ref b7)]))
      refine OwnFin.step (fun tT kK => XS.lloadN X7.here hx rfl (hb hby d_jdk_35_method_24_35) rfl kK) ?_
      show OwnFin p e below _ (T7.setTop (mkF m 36 #[.val (.long q), .second, .val (.int (128 : Int32))] [(.long q), (.ref b7), (.ref b7)]))
      obtain ⟨_, _, ⟨T9, L9, k9, n9⟩, -, X9, ⟨Lc9, hQ9, l9, y9, z9⟩, st9⟩ := X7.specialBack hx (y := (⟨"java/lang/Long", "<init>", "(J)V"⟩ : MethodName)) rfl hown (mvT hZ (hw _ (List.mem_of_getElem? (i := 36) rfl))) (mvT hZ (hw _ (List.mem_of_getElem? (i := 37) rfl))) (mvT hZ (hw _ (List.mem_of_getElem? (i := 39) rfl))) (by decide) (backOf (W := 1) (rm3 l Z a0 hw [] b7 q h7 n0 (Nat.le_trans Z0 E7.1) A7 Fz8 (Nat.le_trans Z0 (Nat.le_of_eq g7.symm))) hZ (hw _ (List.mem_of_getElem? (i := 39) rfl)) (hw _ (List.mem_of_getElem? (i := 27) rfl)) (by decide) (by decide)) (g := (mkF m 36 #[.val (.long q), .second, .val (.int (128 : Int32))] [(.long q), (.ref b7), (.ref b7)])) rfl (by rw [hml]; rfl) (Steps.refl _) (a := b7) (argsL := [(.long q)]) (rest := [(.ref b7)]) (lenOf pd_26 rfl) rfl (by show 2 * 0 + _ ≤ _; exact Nat.le_of_eq rfl) (hb hby d_jdk_35_method_24_36) (fun _ _ => ⟨rfl, e7, (by decide : 1 + 0 ≤ _), (by decide : 1 + 0 ≤ _)⟩)
      dsimp only [Pt.U, Pt.locs, Pt.cells, Pt.slots] at X9 l9 y9 z9 st9 hQ9
      subst l9 y9 z9
      obtain ⟨rfl, N9q, K9⟩ := hQ9
      have N9 := Fr.app N0 N9q
      refine OwnFin.step (fun tT kK => st9.trans kK) ?_
      show OwnFin p e below _ (T9.setTop (mkF m 39 #[.val (.long q), .second, .val (.int (128 : Int32))] [(.ref b7)]))
      obtain ⟨fs10, hr10, hrun10, hended10, hW10, hsame10⟩ := X9.leave (v := (some (.ref b7))) (fun h => by rw [Bd.returns] at h; cases h)
      refine ⟨_, _, retOut X9 hx Bd.returns rfl (Or.inr (Or.inr (Or.inr (Or.inr ⟨rfl, rfl, rfl⟩)))) (hb hby d_jdk_35_method_24_39) hr10, hrun10, hended10, _, _, rfl, ?_, ⟨_, rfl⟩, hW10, hsame10.mono (by decide) (by decide)⟩
      show Q4 Z q ca cl h0 n0 _ T9.heap _
      exact ⟨b7, rfl, N9, (((Keep.refl h0 []).ext E7).trans K9 (allS (P := fun x => x ∈ [] ∨ h0.size ≤ x) (Or.inr (Nat.le_trans (Nat.le_refl _) (Nat.le_of_eq g7.symm))) all0))⟩
    · skip
      refine OwnFin.step (fun tT kK => XS.ifNo X0.here hx rfl (hb hby d_jdk_35_method_24_17) rfl ((if0 _ _).trans (flt (hc6 : ¬ ((0 : Int32) < (lcmpW q (127 : Int64))))).2.2.1) kK) ?_
      show OwnFin p e below _ (s₁.setTop (mkF m 20 #[.val (.long q), .second, .val (.int (128 : Int32))] []))
      obtain ⟨T11, X11, e11, st11⟩ := getS2 X0 hx hZ hown (host := "") (Or.inl (hw _ (List.mem_of_getElem? (i := 31) rfl))) Via.refl e0 hp0 (g := (mkF m 20 #[.val (.long q), .second, .val (.int (128 : Int32))] [])) rfl (hb hby d_jdk_35_method_24_20)
      refine OwnFin.step st11 ?_
      show OwnFin p e below _ (T11.setTop (mkF m 23 #[.val (.long q), .second, .val (.int (128 : Int32))] [(.ref ca)]))
      refine OwnFin.step (fun tT kK => XS.lloadN X11.here hx rfl (hb hby d_jdk_35_method_24_23) rfl kK) ?_
      show OwnFin p e below _ (T11.setTop (mkF m 24 #[.val (.long q), .second, .val (.int (128 : Int32))] [(.long q), (.ref ca)]))
      refine OwnFin.step (fun tT kK => XS.l2i X11.here hx rfl (hb hby d_jdk_35_method_24_24) rfl kK) ?_
      show OwnFin p e below _ (T11.setTop (mkF m 25 #[.val (.long q), .second, .val (.int (128 : Int32))] [(.int (q.toInt32)), (.ref ca)]))
      refine OwnFin.step (fun tT kK => XS.sipush X11.here hx rfl (hb hby d_jdk_35_method_24_25) kK) ?_
      show OwnFin p e below _ (T11.setTop (mkF m 28 #[.val (.long q), .second, .val (.int (128 : Int32))] [(.int (128 : Int32)), (.int (q.toInt32)), (.ref ca)]))
      refine OwnFin.step (fun tT kK => XS.iadd X11.here hx rfl (hb hby d_jdk_35_method_24_28) rfl kK) ?_
      show OwnFin p e below _ (T11.setTop (mkF m 29 #[.val (.long q), .second, .val (.int (128 : Int32))] [(.int ((q.toInt32) + (128 : Int32))), (.ref ca)]))
      obtain ⟨hin, wv, hat⟩ := hp2 ((q.toInt32) + (128 : Int32)) (own_ix hc1 hc6).1 (own_ix hc1 hc6).2
      refine OwnFin.step (fun tT kK => X11.aaload hx (j := ((q.toInt32) + (128 : Int32))) (v := .ref wv) (by rw [e11]; exact hp1.1) (State.isArrayOf_alike hZ.alike hp1.2.1) rfl hp1.2.2 hin hat (g := (mkF m 29 #[.val (.long q), .second, .val (.int (128 : Int32))] [(.int ((q.toInt32) + (128 : Int32))), (.ref ca)])) rfl rfl (hb hby d_jdk_35_method_24_29) _ kK) ?_
      show OwnFin p e below _ (T11.setTop (mkF m 30 #[.val (.long q), .second, .val (.int (128 : Int32))] [(.ref wv)]))
      obtain ⟨fs12, hr12, hrun12, hended12, hW12, hsame12⟩ := X11.leave (v := (some (.ref wv))) (fun h => by rw [Bd.returns] at h; cases h)
      refine ⟨_, _, retOut X11 hx Bd.returns rfl (Or.inr (Or.inr (Or.inr (Or.inr ⟨rfl, rfl, rfl⟩)))) (hb hby d_jdk_35_method_24_30) hr12, hrun12, hended12, _, _, rfl, ?_, ⟨_, rfl⟩, hW12, hsame12.mono (by decide) (by decide)⟩
      show Q4 Z q ca cl h0 n0 _ T11.heap _
      rw [e11]
      exact ⟨wv, rfl, N0, (Keep.refl h0 [])⟩
theorem pn_39 : plainName "com/example/limpet/limpet/TakeReply" = true := by first | (simp [plainName, overriddenIn]; done) | decide +kernel
theorem d_prog_27_method_1_0 : decode prog_27_method_1_code 0 = .ok (.aload_n 0, 1) := by decide +kernel
theorem d_prog_27_method_1_1 : decode prog_27_method_1_code 1 = .ok (.invokespecial 1, 3) := by decide +kernel
theorem d_prog_27_method_1_4 : decode prog_27_method_1_code 4 = .ok (.aload_n 0, 1) := by decide +kernel
theorem d_prog_27_method_1_5 : decode prog_27_method_1_code 5 = .ok (.aload_n 1, 1) := by decide +kernel
theorem d_prog_27_method_1_6 : decode prog_27_method_1_code 6 = .ok (.putfield 7, 3) := by decide +kernel
theorem d_prog_27_method_1_9 : decode prog_27_method_1_code 9 = .ok (.aload_n 0, 1) := by decide +kernel
theorem d_prog_27_method_1_10 : decode prog_27_method_1_code 10 = .ok (.lload_n 2, 1) := by decide +kernel
theorem d_prog_27_method_1_11 : decode prog_27_method_1_code 11 = .ok (.putfield 13, 3) := by decide +kernel
theorem d_prog_27_method_1_14 : decode prog_27_method_1_code 14 = .ok (.return_, 1) := by decide +kernel
theorem ef_5N (m : MethodId) (a : Addr) (q : Int64) : entryFrame m #[(.ref a), .null, (.long q)] 4 = mkF m 0 #[.val (.ref a), .val .null, .val (.long q), .second] [] := by first | (simp [entryFrame, mkF, argsToLocals, Value.category]; done) | rfl
def Q5N (Z : State) (a : Addr) (q : Int64) (h0 : Heap) (n0 : Nat) (vV : Option Value) (hH : Heap) (LL : List Loc) : Prop := vV = none ∧ Fr n0 LL ∧ Keep h0 hH [a] ∧ (Exa Z hH a "com/example/limpet/limpet/TakeReply") ∧ (Fld Z hH a "com/example/limpet/limpet/TakeReply" "token" "Ljava/lang/Long;" .null) ∧ (Fld Z hH a "com/example/limpet/limpet/TakeReply" "toldMillis" "J" (.long q))
def R5N (Z : State) (a : Addr) (q : Int64) (h0 : Heap) (n0 : Nat) (U : State) (o : Outcome) (U' : State) : Prop := ∃ vV LL, o = .returned vV ∧ Q5N Z a q h0 n0 vV U'.heap LL ∧ FrameEnd U o U' LL ({ frames := 2, cells := 0, slots := 0, locals := 24 } : Room).cells ({ frames := 2, cells := 0, slots := 0, locals := 24 } : Room).slots
set_option maxRecDepth 65536 in
set_option maxHeartbeats 40000000 in
theorem rm5N (l : Launch) (Z : State) (a0 : Array Value) (hw : ∀ d ∈ tables_1, d.before a0 Z = true) (ws : List Jvm.Cond) (a : Addr) (q : Int64) (h0 : Heap) (n0 : Nat) (Z0 : n0 ≤ h0.size) (hp0 : Exa Z h0 a "com/example/limpet/limpet/TakeReply") (hp1 : Fld Z h0 a "com/example/limpet/limpet/TakeReply" "token" "Ljava/lang/Long;" .null) (hp2 : Fld Z h0 a "com/example/limpet/limpet/TakeReply" "toldMillis" "J" (.long (0 : Int64))) (hp3 : n0 ≤ a) :
    MetFree l (⟨"com/example/limpet/limpet/TakeReply", "<init>", "(Ljava/lang/Long;J)V"⟩ : MethodName) (head1 (Jvm.Cond.code (⟨"com/example/limpet/limpet/TakeReply", "<init>", "(Ljava/lang/Long;J)V"⟩ : MethodName) prog_27_method_1_code 4 none :: ws) ({ frames := 2, cells := 0, slots := 0, locals := 24 } : Room)) (fun aA U => aA = #[(.ref a), .null, (.long q)] ∧ Z.Warmed39 U.vm ∧ U.heap = h0) (fun _ _ _ _ _ => True) (fun _ U o U' => ∃ vV LL, o = .returned vV ∧ Q5N Z a q h0 n0 vV U'.heap LL ∧ FrameEnd U o U' LL ({ frames := 2, cells := 0, slots := 0, locals := 24 } : Room).cells ({ frames := 2, cells := 0, slots := 0, locals := 24 } : Room).slots) := by
  refine MetFree.of_bodySF (plainFor_of_name pn_39) hisR ?_
  intro p e s m args below meth cC s₁ Bd hml0 hP hK
  obtain ⟨rfl, hZ, hh⟩ := hP
  have hx := Bd.exec
  have hby := Bd.bytes
  have hml : cC.maxLocals = 4 := hml0
  have hown : s.vm.findClass "com/example/limpet/limpet/TakeReply" = some m.cls := findClass_of_methodNamed Bd.named
  have hnm := (name_of_methodNamed Bd.named Bd.method).1
  have X0 : Stand p l e ({ frames := 2, cells := 0, slots := 0, locals := 24 } : Room) s m #[(.ref a), .null, (.long q)] below meth cC s₁ [] 0 0 := Stand.of_body Bd
  have e0 : s₁.heap = h0 := by rw [← hh, Bd.state]; rfl
  have N0 := Fr.nil n0
  show OwnFin p e below (R5N Z a q h0 n0 s) (s₁.setTop (entryFrame m #[(.ref a), .null, (.long q)] 4))
  rw [ef_5N m a q]
  refine OwnFin.step (fun tT kK => XS.aloadN X0.here hx rfl (hb hby d_prog_27_method_1_0) rfl rfl kK) ?_
  show OwnFin p e below _ (s₁.setTop (mkF m 1 #[.val (.ref a), .val .null, .val (.long q), .second] [(.ref a)]))
  obtain ⟨_, _, ⟨T1, L1, k1, n1⟩, -, X1, ⟨Lc1, hQ1, l1, y1, z1⟩, st1⟩ := X0.specialBack hx (y := (⟨"java/lang/Record", "<init>", "()V"⟩ : MethodName)) rfl hown (mvT hZ (hw _ (List.mem_of_getElem? (i := 7) rfl))) (mvT hZ (hw _ (List.mem_of_getElem? (i := 8) rfl))) (mvT hZ (hw _ (List.mem_of_getElem? (i := 11) rfl))) (by decide) (backOf (W := 0) (rm1 l Z a0 hw [] a h0 n0 Z0 ) hZ (hw _ (List.mem_of_getElem? (i := 11) rfl)) (hw _ (List.mem_of_getElem? (i := 10) rfl)) (by decide) (by decide)) (g := (mkF m 1 #[.val (.ref a), .val .null, .val (.long q), .second] [(.ref a)])) rfl (by rw [hml]; rfl) (Steps.refl _) (a := a) (argsL := []) (rest := []) (lenOf pd_11 rfl) rfl (by show 2 * 0 + _ ≤ _; exact Nat.le_of_eq rfl) (hb hby d_prog_27_method_1_1) (fun _ _ => ⟨rfl, e0, (by decide : 0 + 0 ≤ _), (by decide : 0 + 0 ≤ _)⟩)
  dsimp only [Pt.U, Pt.locs, Pt.cells, Pt.slots] at X1 l1 y1 z1 st1 hQ1
  subst l1 y1 z1
  obtain ⟨rfl, N1q, e1⟩ := hQ1
  have N1 := Fr.app N0 N1q
  refine OwnFin.step (fun tT kK => st1.trans kK) ?_
  show OwnFin p e below _ (T1.setTop (mkF m 4 #[.val (.ref a), .val .null, .val (.long q), .second] []))
  refine OwnFin.step (fun tT kK => XS.aloadN X1.here hx rfl (hb hby d_prog_27_method_1_4) rfl rfl kK) ?_
  show OwnFin p e below _ (T1.setTop (mkF m 5 #[.val (.ref a), .val .null, .val (.long q), .second] [(.ref a)]))
  refine OwnFin.step (fun tT kK => XS.aloadN X1.here hx rfl (hb hby d_prog_27_method_1_5) rfl rfl kK) ?_
  show OwnFin p e below _ (T1.setTop (mkF m 6 #[.val (.ref a), .val .null, .val (.long q), .second] [.null, (.ref a)]))
  obtain ⟨T2, h2, X2, e2, W2, st2⟩ := putF X1 hx hZ hown (host := "") (Or.inl (hw _ (List.mem_of_getElem? (i := 15) rfl))) Via.refl e1 hp1 hp0 (Or.inr ⟨(hw _ (List.mem_of_getElem? (i := 16) rfl)), rfl, hnm⟩) (hw _ (List.mem_of_getElem? (i := 2) rfl)) (ty := (.object "java/lang/Long")) (by decide) rfl rfl (g := (mkF m 6 #[.val (.ref a), .val .null, .val (.long q), .second] [.null, (.ref a)])) rfl rfl (hb hby d_prog_27_method_1_6)
  refine OwnFin.step st2 ?_
  have N2 := Fr.snoc X2 N1 hp3
  have Fw2 : Fld Z h2 a "com/example/limpet/limpet/TakeReply" "token" "Ljava/lang/Long;" .null := hp1.same W2
  show OwnFin p e below _ (T2.setTop (mkF m 9 #[.val (.ref a), .val .null, .val (.long q), .second] []))
  refine OwnFin.step (fun tT kK => XS.aloadN X2.here hx rfl (hb hby d_prog_27_method_1_9) rfl rfl kK) ?_
  show OwnFin p e below _ (T2.setTop (mkF m 10 #[.val (.ref a), .val .null, .val (.long q), .second] [(.ref a)]))
  refine OwnFin.step (fun tT kK => XS.lloadN X2.here hx rfl (hb hby d_prog_27_method_1_10) rfl kK) ?_
  show OwnFin p e below _ (T2.setTop (mkF m 11 #[.val (.ref a), .val .null, .val (.long q), .second] [(.long q), (.ref a)]))
  have f3 : Exa Z h2 a "com/example/limpet/limpet/TakeReply" := (hp0.wr W2)
  have f4 : Fld Z h2 a "com/example/limpet/limpet/TakeReply" "toldMillis" "J" (.long (0 : Int64)) := (hp2.other W2 (Or.inr (slot_ne (Or.inr (hw _ (List.mem_of_getElem? (i := 18) rfl))) (Or.inr (hw _ (List.mem_of_getElem? (i := 16) rfl))) (by decide) (t := .long) (t' := (.object "java/lang/Long")) (by decide) (by decide))))
  obtain ⟨T5, h5, X5, e5, W5, st5⟩ := putF X2 hx hZ hown (host := "") (Or.inl (hw _ (List.mem_of_getElem? (i := 17) rfl))) Via.refl e2 f4 f3 (Or.inr ⟨(hw _ (List.mem_of_getElem? (i := 18) rfl)), rfl, hnm⟩) (hw _ (List.mem_of_getElem? (i := 2) rfl)) (ty := .long) (by decide) rfl rfl (g := (mkF m 11 #[.val (.ref a), .val .null, .val (.long q), .second] [(.long q), (.ref a)])) rfl rfl (hb hby d_prog_27_method_1_11)
  refine OwnFin.step st5 ?_
  have N5 := Fr.snoc X5 N2 hp3
  have Fw5 : Fld Z h5 a "com/example/limpet/limpet/TakeReply" "toldMillis" "J" (.long q) := f4.same W5
  show OwnFin p e below _ (T5.setTop (mkF m 14 #[.val (.ref a), .val .null, .val (.long q), .second] []))
  have f7 : Exa Z h5 a "com/example/limpet/limpet/TakeReply" := (f3.wr W5)
  have f8 : Fld Z h5 a "com/example/limpet/limpet/TakeReply" "token" "Ljava/lang/Long;" .null := (Fw2.other W5 (Or.inr (slot_ne (Or.inr (hw _ (List.mem_of_getElem? (i := 16) rfl))) (Or.inr (hw _ (List.mem_of_getElem? (i := 18) rfl))) (by decide) (t := (.object "java/lang/Long")) (t' := .long) (by decide) (by decide))))
  obtain ⟨fs6, hr6, hrun6, hended6, hW6, hsame6⟩ := X5.leave (v := none) (fun _ => rfl)
  refine ⟨_, _, X5.returnOut hx Bd.returns (hb hby d_prog_27_method_1_14) hr6, hrun6, hended6, _, _, rfl, ?_, ⟨_, rfl⟩, hW6, hsame6.mono (by decide) (by decide)⟩
  show Q5N Z a q h0 n0 _ T5.heap _
  rw [e5]
  exact ⟨rfl, N5, (((Keep.refl h0 [a]).wr W2 (Or.inl (List.mem_of_getElem? (i := 0) rfl))).wr W5 (Or.inl (List.mem_of_getElem? (i := 0) rfl))), f7, f8, Fw5⟩
theorem d_prog_27_method_5_0 : decode prog_27_method_5_code 0 = .ok (.aload_n 0, 1) := by decide +kernel
theorem d_prog_27_method_5_1 : decode prog_27_method_5_code 1 = .ok (.getfield 7, 3) := by decide +kernel
theorem d_prog_27_method_5_4 : decode prog_27_method_5_code 4 = .ok (.ifnonnull 18, 3) := by decide +kernel
theorem d_prog_27_method_5_7 : decode prog_27_method_5_code 7 = .ok (.aload_n 0, 1) := by decide +kernel
theorem d_prog_27_method_5_8 : decode prog_27_method_5_code 8 = .ok (.getfield 13, 3) := by decide +kernel
theorem d_prog_27_method_5_11 : decode prog_27_method_5_code 11 = .ok (.ldc2_w 36, 3) := by decide +kernel
theorem d_prog_27_method_5_14 : decode prog_27_method_5_code 14 = .ok (.lcmp, 1) := by decide +kernel
theorem d_prog_27_method_5_15 : decode prog_27_method_5_code 15 = .ok (.ifCond .ne 7, 3) := by decide +kernel
theorem d_prog_27_method_5_18 : decode prog_27_method_5_code 18 = .ok (.iconst 1, 1) := by decide +kernel
theorem d_prog_27_method_5_19 : decode prog_27_method_5_code 19 = .ok (.goto 4, 3) := by decide +kernel
theorem d_prog_27_method_5_23 : decode prog_27_method_5_code 23 = .ok (.ireturn, 1) := by decide +kernel
theorem d_prog_27_method_5_22 : decode prog_27_method_5_code 22 = .ok (.iconst 0, 1) := by decide +kernel
theorem ef_6N (m : MethodId) (a : Addr) : entryFrame m #[(.ref a)] 1 = mkF m 0 #[.val (.ref a)] [] := by first | (simp [entryFrame, mkF, argsToLocals, Value.category]; done) | rfl
def Q6N (Z : State) (a : Addr) (q : Int64) (h0 : Heap) (n0 : Nat) (vV : Option Value) (hH : Heap) (LL : List Loc) : Prop := vV = some (.int (if lcmpW q (-2 : Int64) = (0 : Int32) then 1 else 0)) ∧ Fr n0 LL ∧ hH = h0
def R6N (Z : State) (a : Addr) (q : Int64) (h0 : Heap) (n0 : Nat) (U : State) (o : Outcome) (U' : State) : Prop := ∃ vV LL, o = .returned vV ∧ Q6N Z a q h0 n0 vV U'.heap LL ∧ FrameEnd U o U' LL ({ frames := 0, cells := 0, slots := 0, locals := 0 } : Room).cells ({ frames := 0, cells := 0, slots := 0, locals := 0 } : Room).slots
set_option maxRecDepth 65536 in
set_option maxHeartbeats 40000000 in
theorem rm6N (l : Launch) (Z : State) (a0 : Array Value) (hw : ∀ d ∈ tables_1, d.before a0 Z = true) (ws : List Jvm.Cond) (a : Addr) (q : Int64) (h0 : Heap) (n0 : Nat) (Z0 : n0 ≤ h0.size) (hp0 : Fld Z h0 a "com/example/limpet/limpet/TakeReply" "token" "Ljava/lang/Long;" .null) (hp1 : Fld Z h0 a "com/example/limpet/limpet/TakeReply" "toldMillis" "J" (.long q)) :
    MetFree l (⟨"com/example/limpet/limpet/TakeReply", "gone", "()Z"⟩ : MethodName) (head1 (Jvm.Cond.code (⟨"com/example/limpet/limpet/TakeReply", "gone", "()Z"⟩ : MethodName) prog_27_method_5_code 1 (some .boolean) :: ws) ({ frames := 0, cells := 0, slots := 0, locals := 0 } : Room)) (fun aA U => aA = #[(.ref a)] ∧ Z.Warmed39 U.vm ∧ U.heap = h0) (fun _ _ _ _ _ => True) (fun _ U o U' => ∃ vV LL, o = .returned vV ∧ Q6N Z a q h0 n0 vV U'.heap LL ∧ FrameEnd U o U' LL ({ frames := 0, cells := 0, slots := 0, locals := 0 } : Room).cells ({ frames := 0, cells := 0, slots := 0, locals := 0 } : Room).slots) := by
  refine MetFree.of_bodySF (plainFor_of_name pn_39) hisR ?_
  intro p e s m args below meth cC s₁ Bd hml0 hP hK
  obtain ⟨rfl, hZ, hh⟩ := hP
  have hx := Bd.exec
  have hby := Bd.bytes
  have hml : cC.maxLocals = 1 := hml0
  have hown : s.vm.findClass "com/example/limpet/limpet/TakeReply" = some m.cls := findClass_of_methodNamed Bd.named
  have hnm := (name_of_methodNamed Bd.named Bd.method).1
  have X0 : Stand p l e ({ frames := 0, cells := 0, slots := 0, locals := 0 } : Room) s m #[(.ref a)] below meth cC s₁ [] 0 0 := Stand.of_body Bd
  have e0 : s₁.heap = h0 := by rw [← hh, Bd.state]; rfl
  have N0 := Fr.nil n0
  show OwnFin p e below (R6N Z a q h0 n0 s) (s₁.setTop (entryFrame m #[(.ref a)] 1))
  rw [ef_6N m a]
  refine OwnFin.step (fun tT kK => XS.aloadN X0.here hx rfl (hb hby d_prog_27_method_5_0) rfl rfl kK) ?_
  show OwnFin p e below _ (s₁.setTop (mkF m 1 #[.val (.ref a)] [(.ref a)]))
  obtain ⟨T1, X1, e1, st1⟩ := getF X0 hx hZ hown (host := "") (Or.inl (hw _ (List.mem_of_getElem? (i := 15) rfl))) Via.refl e0 hp0 (g := (mkF m 1 #[.val (.ref a)] [(.ref a)])) rfl rfl (hb hby d_prog_27_method_5_1)
  refine OwnFin.step st1 ?_
  show OwnFin p e below _ (T1.setTop (mkF m 4 #[.val (.ref a)] [.null]))
  refine OwnFin.step (fun tT kK => XS.ifnonnullNo X1.here hx rfl (hb hby d_prog_27_method_5_4) rfl kK) ?_
  show OwnFin p e below _ (T1.setTop (mkF m 7 #[.val (.ref a)] []))
  refine OwnFin.step (fun tT kK => XS.aloadN X1.here hx rfl (hb hby d_prog_27_method_5_7) rfl rfl kK) ?_
  show OwnFin p e below _ (T1.setTop (mkF m 8 #[.val (.ref a)] [(.ref a)]))
  obtain ⟨T2, X2, e2, st2⟩ := getF X1 hx hZ hown (host := "") (Or.inl (hw _ (List.mem_of_getElem? (i := 17) rfl))) Via.refl e1 hp1 (g := (mkF m 8 #[.val (.ref a)] [(.ref a)])) rfl rfl (hb hby d_prog_27_method_5_8)
  refine OwnFin.step st2 ?_
  show OwnFin p e below _ (T2.setTop (mkF m 11 #[.val (.ref a)] [(.long q)]))
  refine OwnFin.step (fun tT kK => X2.ldc2J hx hown (mvT hZ (hw _ (List.mem_of_getElem? (i := 24) rfl))) (g := (mkF m 11 #[.val (.ref a)] [(.long q)])) rfl (hb hby d_prog_27_method_5_11) kK) ?_
  show OwnFin p e below _ (T2.setTop (mkF m 14 #[.val (.ref a)] [(.long (-2 : Int64)), (.long q)]))
  refine OwnFin.step (fun tT kK => XS.lcmp X2.here hx rfl (hb hby d_prog_27_method_5_14) rfl kK) ?_
  show OwnFin p e below _ (T2.setTop (mkF m 15 #[.val (.ref a)] [(.int (lcmpW q (-2 : Int64)))]))
  by_cases hc3 : (lcmpW q (-2 : Int64)) = (0 : Int32)
  · skip
    refine OwnFin.step (fun tT kK => XS.ifNo X2.here hx rfl (hb hby d_prog_27_method_5_15) rfl ((if0 _ _).trans (teq (hc3 : (lcmpW q (-2 : Int64)) = (0 : Int32))).2) kK) ?_
    show OwnFin p e below _ (T2.setTop (mkF m 18 #[.val (.ref a)] []))
    refine OwnFin.step (fun tT kK => XS.iconst X2.here hx rfl (hb hby d_prog_27_method_5_18) kK) ?_
    show OwnFin p e below _ (T2.setTop (mkF m 19 #[.val (.ref a)] [(.int (1 : Int32))]))
    refine OwnFin.step (fun tT kK => XS.goto X2.here hx rfl (pc0 := 19) (pc' := 23) rfl (hb hby d_prog_27_method_5_19) (by decide) (by decide) kK) ?_
    show OwnFin p e below _ (T2.setTop (mkF m 23 #[.val (.ref a)] [(.int (1 : Int32))]))
    obtain ⟨fs4, hr4, hrun4, hended4, hW4, hsame4⟩ := X2.leave (v := (some (.int (1 : Int32)))) (fun h => by rw [Bd.returns] at h; cases h)
    refine ⟨_, _, retN X2 hx (t := .boolean) Bd.returns (by simp) (hb hby d_prog_27_method_5_23) hr4, hrun4, hended4, _, _, rfl, ?_, ⟨_, rfl⟩, hW4, hsame4.mono (by decide) (by decide)⟩
    show Q6N Z a q h0 n0 _ T2.heap _
    rw [e2]
    exact ⟨(by rw [if_pos hc3]), N0, rfl⟩
  · skip
    refine OwnFin.step (fun tT kK => XS.ifYes X2.here hx rfl (pc0 := 15) (pc' := 22) rfl (hb hby d_prog_27_method_5_15) rfl ((if0 _ _).trans (feq (hc3 : ¬ ((lcmpW q (-2 : Int64)) = (0 : Int32)))).2) (by decide) (by decide) kK) ?_
    show OwnFin p e below _ (T2.setTop (mkF m 22 #[.val (.ref a)] []))
    refine OwnFin.step (fun tT kK => XS.iconst X2.here hx rfl (hb hby d_prog_27_method_5_22) kK) ?_
    show OwnFin p e below _ (T2.setTop (mkF m 23 #[.val (.ref a)] [(.int (0 : Int32))]))
    obtain ⟨fs5, hr5, hrun5, hended5, hW5, hsame5⟩ := X2.leave (v := (some (.int (0 : Int32)))) (fun h => by rw [Bd.returns] at h; cases h)
    refine ⟨_, _, retN X2 hx (t := .boolean) Bd.returns (by simp) (hb hby d_prog_27_method_5_23) hr5, hrun5, hended5, _, _, rfl, ?_, ⟨_, rfl⟩, hW5, hsame5.mono (by decide) (by decide)⟩
    show Q6N Z a q h0 n0 _ T2.heap _
    rw [e2]
    exact ⟨(by rw [if_neg hc3]), N0, rfl⟩
theorem ef_5R (m : MethodId) (a : Addr) (tk : Addr) (q : Int64) : entryFrame m #[(.ref a), (.ref tk), (.long q)] 4 = mkF m 0 #[.val (.ref a), .val (.ref tk), .val (.long q), .second] [] := by first | (simp [entryFrame, mkF, argsToLocals, Value.category]; done) | rfl
def Q5R (Z : State) (a : Addr) (tk : Addr) (q : Int64) (h0 : Heap) (n0 : Nat) (vV : Option Value) (hH : Heap) (LL : List Loc) : Prop := vV = none ∧ Fr n0 LL ∧ Keep h0 hH [a] ∧ (Exa Z hH a "com/example/limpet/limpet/TakeReply") ∧ (Fld Z hH a "com/example/limpet/limpet/TakeReply" "token" "Ljava/lang/Long;" (.ref tk)) ∧ (Fld Z hH a "com/example/limpet/limpet/TakeReply" "toldMillis" "J" (.long q))
def R5R (Z : State) (a : Addr) (tk : Addr) (q : Int64) (h0 : Heap) (n0 : Nat) (U : State) (o : Outcome) (U' : State) : Prop := ∃ vV LL, o = .returned vV ∧ Q5R Z a tk q h0 n0 vV U'.heap LL ∧ FrameEnd U o U' LL ({ frames := 2, cells := 0, slots := 0, locals := 24 } : Room).cells ({ frames := 2, cells := 0, slots := 0, locals := 24 } : Room).slots
set_option maxRecDepth 65536 in
set_option maxHeartbeats 40000000 in
theorem rm5R (l : Launch) (Z : State) (a0 : Array Value) (hw : ∀ d ∈ tables_1, d.before a0 Z = true) (ws : List Jvm.Cond) (a : Addr) (tk : Addr) (q : Int64) (h0 : Heap) (n0 : Nat) (Z0 : n0 ≤ h0.size) (hp0 : Exa Z h0 a "com/example/limpet/limpet/TakeReply") (hp1 : Fld Z h0 a "com/example/limpet/limpet/TakeReply" "token" "Ljava/lang/Long;" .null) (hp2 : Fld Z h0 a "com/example/limpet/limpet/TakeReply" "toldMillis" "J" (.long (0 : Int64))) (hp3 : n0 ≤ a) :
    MetFree l (⟨"com/example/limpet/limpet/TakeReply", "<init>", "(Ljava/lang/Long;J)V"⟩ : MethodName) (head1 (Jvm.Cond.code (⟨"com/example/limpet/limpet/TakeReply", "<init>", "(Ljava/lang/Long;J)V"⟩ : MethodName) prog_27_method_1_code 4 none :: ws) ({ frames := 2, cells := 0, slots := 0, locals := 24 } : Room)) (fun aA U => aA = #[(.ref a), (.ref tk), (.long q)] ∧ Z.Warmed39 U.vm ∧ U.heap = h0) (fun _ _ _ _ _ => True) (fun _ U o U' => ∃ vV LL, o = .returned vV ∧ Q5R Z a tk q h0 n0 vV U'.heap LL ∧ FrameEnd U o U' LL ({ frames := 2, cells := 0, slots := 0, locals := 24 } : Room).cells ({ frames := 2, cells := 0, slots := 0, locals := 24 } : Room).slots) := by
  refine MetFree.of_bodySF (plainFor_of_name pn_39) hisR ?_
  intro p e s m args below meth cC s₁ Bd hml0 hP hK
  obtain ⟨rfl, hZ, hh⟩ := hP
  have hx := Bd.exec
  have hby := Bd.bytes
  have hml : cC.maxLocals = 4 := hml0
  have hown : s.vm.findClass "com/example/limpet/limpet/TakeReply" = some m.cls := findClass_of_methodNamed Bd.named
  have hnm := (name_of_methodNamed Bd.named Bd.method).1
  have X0 : Stand p l e ({ frames := 2, cells := 0, slots := 0, locals := 24 } : Room) s m #[(.ref a), (.ref tk), (.long q)] below meth cC s₁ [] 0 0 := Stand.of_body Bd
  have e0 : s₁.heap = h0 := by rw [← hh, Bd.state]; rfl
  have N0 := Fr.nil n0
  show OwnFin p e below (R5R Z a tk q h0 n0 s) (s₁.setTop (entryFrame m #[(.ref a), (.ref tk), (.long q)] 4))
  rw [ef_5R m a tk q]
  refine OwnFin.step (fun tT kK => XS.aloadN X0.here hx rfl (hb hby d_prog_27_method_1_0) rfl rfl kK) ?_
  show OwnFin p e below _ (s₁.setTop (mkF m 1 #[.val (.ref a), .val (.ref tk), .val (.long q), .second] [(.ref a)]))
  obtain ⟨_, _, ⟨T1, L1, k1, n1⟩, -, X1, ⟨Lc1, hQ1, l1, y1, z1⟩, st1⟩ := X0.specialBack hx (y := (⟨"java/lang/Record", "<init>", "()V"⟩ : MethodName)) rfl hown (mvT hZ (hw _ (List.mem_of_getElem? (i := 7) rfl))) (mvT hZ (hw _ (List.mem_of_getElem? (i := 8) rfl))) (mvT hZ (hw _ (List.mem_of_getElem? (i := 11) rfl))) (by decide) (backOf (W := 0) (rm1 l Z a0 hw [] a h0 n0 Z0 ) hZ (hw _ (List.mem_of_getElem? (i := 11) rfl)) (hw _ (List.mem_of_getElem? (i := 10) rfl)) (by decide) (by decide)) (g := (mkF m 1 #[.val (.ref a), .val (.ref tk), .val (.long q), .second] [(.ref a)])) rfl (by rw [hml]; rfl) (Steps.refl _) (a := a) (argsL := []) (rest := []) (lenOf pd_11 rfl) rfl (by show 2 * 0 + _ ≤ _; exact Nat.le_of_eq rfl) (hb hby d_prog_27_method_1_1) (fun _ _ => ⟨rfl, e0, (by decide : 0 + 0 ≤ _), (by decide : 0 + 0 ≤ _)⟩)
  dsimp only [Pt.U, Pt.locs, Pt.cells, Pt.slots] at X1 l1 y1 z1 st1 hQ1
  subst l1 y1 z1
  obtain ⟨rfl, N1q, e1⟩ := hQ1
  have N1 := Fr.app N0 N1q
  refine OwnFin.step (fun tT kK => st1.trans kK) ?_
  show OwnFin p e below _ (T1.setTop (mkF m 4 #[.val (.ref a), .val (.ref tk), .val (.long q), .second] []))
  refine OwnFin.step (fun tT kK => XS.aloadN X1.here hx rfl (hb hby d_prog_27_method_1_4) rfl rfl kK) ?_
  show OwnFin p e below _ (T1.setTop (mkF m 5 #[.val (.ref a), .val (.ref tk), .val (.long q), .second] [(.ref a)]))
  refine OwnFin.step (fun tT kK => XS.aloadN X1.here hx rfl (hb hby d_prog_27_method_1_5) rfl rfl kK) ?_
  show OwnFin p e below _ (T1.setTop (mkF m 6 #[.val (.ref a), .val (.ref tk), .val (.long q), .second] [(.ref tk), (.ref a)]))
  obtain ⟨T2, h2, X2, e2, W2, st2⟩ := putF X1 hx hZ hown (host := "") (Or.inl (hw _ (List.mem_of_getElem? (i := 15) rfl))) Via.refl e1 hp1 hp0 (Or.inr ⟨(hw _ (List.mem_of_getElem? (i := 16) rfl)), rfl, hnm⟩) (hw _ (List.mem_of_getElem? (i := 2) rfl)) (ty := (.object "java/lang/Long")) (by decide) rfl rfl (g := (mkF m 6 #[.val (.ref a), .val (.ref tk), .val (.long q), .second] [(.ref tk), (.ref a)])) rfl rfl (hb hby d_prog_27_method_1_6)
  refine OwnFin.step st2 ?_
  have N2 := Fr.snoc X2 N1 hp3
  have Fw2 : Fld Z h2 a "com/example/limpet/limpet/TakeReply" "token" "Ljava/lang/Long;" (.ref tk) := hp1.same W2
  show OwnFin p e below _ (T2.setTop (mkF m 9 #[.val (.ref a), .val (.ref tk), .val (.long q), .second] []))
  refine OwnFin.step (fun tT kK => XS.aloadN X2.here hx rfl (hb hby d_prog_27_method_1_9) rfl rfl kK) ?_
  show OwnFin p e below _ (T2.setTop (mkF m 10 #[.val (.ref a), .val (.ref tk), .val (.long q), .second] [(.ref a)]))
  refine OwnFin.step (fun tT kK => XS.lloadN X2.here hx rfl (hb hby d_prog_27_method_1_10) rfl kK) ?_
  show OwnFin p e below _ (T2.setTop (mkF m 11 #[.val (.ref a), .val (.ref tk), .val (.long q), .second] [(.long q), (.ref a)]))
  have f3 : Exa Z h2 a "com/example/limpet/limpet/TakeReply" := (hp0.wr W2)
  have f4 : Fld Z h2 a "com/example/limpet/limpet/TakeReply" "toldMillis" "J" (.long (0 : Int64)) := (hp2.other W2 (Or.inr (slot_ne (Or.inr (hw _ (List.mem_of_getElem? (i := 18) rfl))) (Or.inr (hw _ (List.mem_of_getElem? (i := 16) rfl))) (by decide) (t := .long) (t' := (.object "java/lang/Long")) (by decide) (by decide))))
  obtain ⟨T5, h5, X5, e5, W5, st5⟩ := putF X2 hx hZ hown (host := "") (Or.inl (hw _ (List.mem_of_getElem? (i := 17) rfl))) Via.refl e2 f4 f3 (Or.inr ⟨(hw _ (List.mem_of_getElem? (i := 18) rfl)), rfl, hnm⟩) (hw _ (List.mem_of_getElem? (i := 2) rfl)) (ty := .long) (by decide) rfl rfl (g := (mkF m 11 #[.val (.ref a), .val (.ref tk), .val (.long q), .second] [(.long q), (.ref a)])) rfl rfl (hb hby d_prog_27_method_1_11)
  refine OwnFin.step st5 ?_
  have N5 := Fr.snoc X5 N2 hp3
  have Fw5 : Fld Z h5 a "com/example/limpet/limpet/TakeReply" "toldMillis" "J" (.long q) := f4.same W5
  show OwnFin p e below _ (T5.setTop (mkF m 14 #[.val (.ref a), .val (.ref tk), .val (.long q), .second] []))
  have f7 : Exa Z h5 a "com/example/limpet/limpet/TakeReply" := (f3.wr W5)
  have f8 : Fld Z h5 a "com/example/limpet/limpet/TakeReply" "token" "Ljava/lang/Long;" (.ref tk) := (Fw2.other W5 (Or.inr (slot_ne (Or.inr (hw _ (List.mem_of_getElem? (i := 16) rfl))) (Or.inr (hw _ (List.mem_of_getElem? (i := 18) rfl))) (by decide) (t := (.object "java/lang/Long")) (t' := .long) (by decide) (by decide))))
  obtain ⟨fs6, hr6, hrun6, hended6, hW6, hsame6⟩ := X5.leave (v := none) (fun _ => rfl)
  refine ⟨_, _, X5.returnOut hx Bd.returns (hb hby d_prog_27_method_1_14) hr6, hrun6, hended6, _, _, rfl, ?_, ⟨_, rfl⟩, hW6, hsame6.mono (by decide) (by decide)⟩
  show Q5R Z a tk q h0 n0 _ T5.heap _
  rw [e5]
  exact ⟨rfl, N5, (((Keep.refl h0 [a]).wr W2 (Or.inl (List.mem_of_getElem? (i := 0) rfl))).wr W5 (Or.inl (List.mem_of_getElem? (i := 0) rfl))), f7, f8, Fw5⟩
theorem ef_6R (m : MethodId) (a : Addr) : entryFrame m #[(.ref a)] 1 = mkF m 0 #[.val (.ref a)] [] := by first | (simp [entryFrame, mkF, argsToLocals, Value.category]; done) | rfl
def Q6R (Z : State) (a : Addr) (tk : Addr) (q : Int64) (h0 : Heap) (n0 : Nat) (vV : Option Value) (hH : Heap) (LL : List Loc) : Prop := vV = some (.int (0 : Int32)) ∧ Fr n0 LL ∧ hH = h0
def R6R (Z : State) (a : Addr) (tk : Addr) (q : Int64) (h0 : Heap) (n0 : Nat) (U : State) (o : Outcome) (U' : State) : Prop := ∃ vV LL, o = .returned vV ∧ Q6R Z a tk q h0 n0 vV U'.heap LL ∧ FrameEnd U o U' LL ({ frames := 0, cells := 0, slots := 0, locals := 0 } : Room).cells ({ frames := 0, cells := 0, slots := 0, locals := 0 } : Room).slots
set_option maxRecDepth 65536 in
set_option maxHeartbeats 40000000 in
theorem rm6R (l : Launch) (Z : State) (a0 : Array Value) (hw : ∀ d ∈ tables_1, d.before a0 Z = true) (ws : List Jvm.Cond) (a : Addr) (tk : Addr) (q : Int64) (h0 : Heap) (n0 : Nat) (Z0 : n0 ≤ h0.size) (hp0 : Fld Z h0 a "com/example/limpet/limpet/TakeReply" "token" "Ljava/lang/Long;" (.ref tk)) (hp1 : Fld Z h0 a "com/example/limpet/limpet/TakeReply" "toldMillis" "J" (.long q)) :
    MetFree l (⟨"com/example/limpet/limpet/TakeReply", "gone", "()Z"⟩ : MethodName) (head1 (Jvm.Cond.code (⟨"com/example/limpet/limpet/TakeReply", "gone", "()Z"⟩ : MethodName) prog_27_method_5_code 1 (some .boolean) :: ws) ({ frames := 0, cells := 0, slots := 0, locals := 0 } : Room)) (fun aA U => aA = #[(.ref a)] ∧ Z.Warmed39 U.vm ∧ U.heap = h0) (fun _ _ _ _ _ => True) (fun _ U o U' => ∃ vV LL, o = .returned vV ∧ Q6R Z a tk q h0 n0 vV U'.heap LL ∧ FrameEnd U o U' LL ({ frames := 0, cells := 0, slots := 0, locals := 0 } : Room).cells ({ frames := 0, cells := 0, slots := 0, locals := 0 } : Room).slots) := by
  refine MetFree.of_bodySF (plainFor_of_name pn_39) hisR ?_
  intro p e s m args below meth cC s₁ Bd hml0 hP hK
  obtain ⟨rfl, hZ, hh⟩ := hP
  have hx := Bd.exec
  have hby := Bd.bytes
  have hml : cC.maxLocals = 1 := hml0
  have hown : s.vm.findClass "com/example/limpet/limpet/TakeReply" = some m.cls := findClass_of_methodNamed Bd.named
  have hnm := (name_of_methodNamed Bd.named Bd.method).1
  have X0 : Stand p l e ({ frames := 0, cells := 0, slots := 0, locals := 0 } : Room) s m #[(.ref a)] below meth cC s₁ [] 0 0 := Stand.of_body Bd
  have e0 : s₁.heap = h0 := by rw [← hh, Bd.state]; rfl
  have N0 := Fr.nil n0
  show OwnFin p e below (R6R Z a tk q h0 n0 s) (s₁.setTop (entryFrame m #[(.ref a)] 1))
  rw [ef_6R m a]
  refine OwnFin.step (fun tT kK => XS.aloadN X0.here hx rfl (hb hby d_prog_27_method_5_0) rfl rfl kK) ?_
  show OwnFin p e below _ (s₁.setTop (mkF m 1 #[.val (.ref a)] [(.ref a)]))
  obtain ⟨T1, X1, e1, st1⟩ := getF X0 hx hZ hown (host := "") (Or.inl (hw _ (List.mem_of_getElem? (i := 15) rfl))) Via.refl e0 hp0 (g := (mkF m 1 #[.val (.ref a)] [(.ref a)])) rfl rfl (hb hby d_prog_27_method_5_1)
  refine OwnFin.step st1 ?_
  show OwnFin p e below _ (T1.setTop (mkF m 4 #[.val (.ref a)] [(.ref tk)]))
  refine OwnFin.step (fun tT kK => XS.ifnonnullYes X1.here hx rfl (pc0 := 4) (pc' := 22) rfl (hb hby d_prog_27_method_5_4) rfl (by decide) (by decide) kK) ?_
  show OwnFin p e below _ (T1.setTop (mkF m 22 #[.val (.ref a)] []))
  refine OwnFin.step (fun tT kK => XS.iconst X1.here hx rfl (hb hby d_prog_27_method_5_22) kK) ?_
  show OwnFin p e below _ (T1.setTop (mkF m 23 #[.val (.ref a)] [(.int (0 : Int32))]))
  obtain ⟨fs2, hr2, hrun2, hended2, hW2, hsame2⟩ := X1.leave (v := (some (.int (0 : Int32)))) (fun h => by rw [Bd.returns] at h; cases h)
  refine ⟨_, _, retN X1 hx (t := .boolean) Bd.returns (by simp) (hb hby d_prog_27_method_5_23) hr2, hrun2, hended2, _, _, rfl, ?_, ⟨_, rfl⟩, hW2, hsame2.mono (by decide) (by decide)⟩
  show Q6R Z a tk q h0 n0 _ T1.heap _
  rw [e1]
  exact ⟨rfl, N0, rfl⟩
theorem pn_61 : plainName "com/example/limpet/limpet/TakeReplyGonePinLaw" = true := by first | (simp [plainName, overriddenIn]; done) | decide +kernel
theorem pd_62 : parseMethodDescriptor "(Ljava/lang/Long;J)V" = some ⟨[(.object "java/lang/Long"), .long], none⟩ := by decide +kernel
theorem pd_63 : parseMethodDescriptor "()Z" = some ⟨[], some .boolean⟩ := by decide +kernel
theorem pd_64 : parseMethodDescriptor "(J)Ljava/lang/Long;" = some ⟨[.long], some (.object "java/lang/Long")⟩ := by decide +kernel
theorem ef_0 (m : MethodId) (tt_ : Int64) (m_ : Int64) (fl : Int32) : entryFrame m #[(.long tt_), (.long m_), (.int fl)] maxLocals = mkF m 0 #[.val (.long tt_), .second, .val (.long m_), .second, .val (.int fl), .unset, .unset, .unset, .unset, .unset, .unset, .unset] [] := by first | (simp [entryFrame, mkF, argsToLocals, Value.category, maxLocals]; done) | rfl
def Q0 (Z : State) (tt_ : Int64) (m_ : Int64) (fl : Int32) (ca : Addr) (cl : Cell) (h0 : Heap) (n0 : Nat) (vV : Option Value) (hH : Heap) (LL : List Loc) : Prop := vV = some (.int (1 : Int32)) ∧ Fr n0 LL ∧ Keep h0 hH []
def R0 (Z : State) (tt_ : Int64) (m_ : Int64) (fl : Int32) (ca : Addr) (cl : Cell) (h0 : Heap) (n0 : Nat) (U : State) (o : Outcome) (U' : State) : Prop := ∃ vV LL, o = .returned vV ∧ Q0 Z tt_ m_ fl ca cl h0 n0 vV U'.heap LL ∧ FrameEnd U o U' LL room_1.cells room_1.slots
set_option maxRecDepth 65536 in
set_option maxHeartbeats 40000000 in
theorem rm0 (l : Launch) (Z : State) (a0 : Array Value) (hw : ∀ d ∈ tables_1, d.before a0 Z = true) (ws : List Jvm.Cond) (tt_ : Int64) (m_ : Int64) (fl : Int32) (ca : Addr) (cl : Cell) (h0 : Heap) (n0 : Nat) (Z0 : n0 ≤ h0.size) (hp0 : Sta Z h0 "java/lang/Long$LongCache" "cache" "[Ljava/lang/Long;" (.ref ca)) (hp1 : Arr Z h0 ca cl (.object "java/lang/Long")) (hp2 : ∀ j : Int32, 0 ≤ j.toInt → j.toInt < 256 → ¬ (j < 0 ∨ cl.slots.size ≤ j.toNatClampNeg) ∧ ∃ w : Addr, cl.slots[j.toNatClampNeg]? = some (.ref w)) :
    MetFree l x (head1 (Jvm.Cond.code x code maxLocals ret :: ws) room_1) (fun aA U => aA = #[(.long tt_), (.long m_), (.int fl)] ∧ Z.Warmed39 U.vm ∧ U.heap = h0) (fun _ _ _ _ _ => True) (fun _ U o U' => ∃ vV LL, o = .returned vV ∧ Q0 Z tt_ m_ fl ca cl h0 n0 vV U'.heap LL ∧ FrameEnd U o U' LL room_1.cells room_1.slots) := by
  refine MetFree.of_bodySF (plainFor_of_name pn_61) hisR ?_
  intro p e s m args below meth cC s₁ Bd hml0 hP hK
  obtain ⟨rfl, hZ, hh⟩ := hP
  have hx := Bd.exec
  have hby := Bd.bytes
  have hml : cC.maxLocals = 12 := hml0
  have hown : s.vm.findClass "com/example/limpet/limpet/TakeReplyGonePinLaw" = some m.cls := findClass_of_methodNamed Bd.named
  have hnm := (name_of_methodNamed Bd.named Bd.method).1
  have X0 : Stand p l e room_1 s m #[(.long tt_), (.long m_), (.int fl)] below meth cC s₁ [] 0 0 := Stand.of_body Bd
  have e0 : s₁.heap = h0 := by rw [← hh, Bd.state]; rfl
  have N0 := Fr.nil n0
  show OwnFin p e below (R0 Z tt_ m_ fl ca cl h0 n0 s) (s₁.setTop (entryFrame m #[(.long tt_), (.long m_), (.int fl)] maxLocals))
  rw [ef_0 m tt_ m_ fl]
  refine OwnFin.step (fun tT kK => XS.iload X0.here hx rfl (hb hby at_0) rfl kK) ?_
  show OwnFin p e below _ (s₁.setTop (mkF m 2 #[.val (.long tt_), .second, .val (.long m_), .second, .val (.int fl), .unset, .unset, .unset, .unset, .unset, .unset, .unset] [(.int fl)]))
  refine OwnFin.step (fun tT kK => XS.iconst X0.here hx rfl (hb hby at_2) kK) ?_
  show OwnFin p e below _ (s₁.setTop (mkF m 3 #[.val (.long tt_), .second, .val (.long m_), .second, .val (.int fl), .unset, .unset, .unset, .unset, .unset, .unset, .unset] [(.int (1 : Int32)), (.int fl)]))
  refine OwnFin.step (fun tT kK => XS.iand X0.here hx rfl (hb hby at_3) rfl kK) ?_
  show OwnFin p e below _ (s₁.setTop (mkF m 4 #[.val (.long tt_), .second, .val (.long m_), .second, .val (.int fl), .unset, .unset, .unset, .unset, .unset, .unset, .unset] [(.int (fl &&& (1 : Int32)))]))
  by_cases hc1 : (fl &&& (1 : Int32)) = (0 : Int32)
  · skip
    refine OwnFin.step (fun tT kK => XS.ifYes X0.here hx rfl (pc0 := 4) (pc' := 11) rfl (hb hby at_4) rfl ((if0 _ _).trans (teq (hc1 : (fl &&& (1 : Int32)) = (0 : Int32))).1) (by decide) (by decide) kK) ?_
    show OwnFin p e below _ (s₁.setTop (mkF m 11 #[.val (.long tt_), .second, .val (.long m_), .second, .val (.int fl), .unset, .unset, .unset, .unset, .unset, .unset, .unset] []))
    refine OwnFin.step (fun tT kK => XS.iconst X0.here hx rfl (hb hby at_11) kK) ?_
    show OwnFin p e below _ (s₁.setTop (mkF m 12 #[.val (.long tt_), .second, .val (.long m_), .second, .val (.int fl), .unset, .unset, .unset, .unset, .unset, .unset, .unset] [(.int (0 : Int32))]))
    refine OwnFin.step (fun tT kK => XS.istore X0.here hx rfl (hb hby at_12) rfl (l' := #[.val (.long tt_), .second, .val (.long m_), .second, .val (.int fl), .val (.int (0 : Int32)), .unset, .unset, .unset, .unset, .unset, .unset]) rfl kK) ?_
    show OwnFin p e below _ (s₁.setTop (mkF m 14 #[.val (.long tt_), .second, .val (.long m_), .second, .val (.int fl), .val (.int (0 : Int32)), .unset, .unset, .unset, .unset, .unset, .unset] []))
    refine OwnFin.step (fun tT kK => XS.iload X0.here hx rfl (hb hby at_14) rfl kK) ?_
    show OwnFin p e below _ (s₁.setTop (mkF m 16 #[.val (.long tt_), .second, .val (.long m_), .second, .val (.int fl), .val (.int (0 : Int32)), .unset, .unset, .unset, .unset, .unset, .unset] [(.int fl)]))
    refine OwnFin.step (fun tT kK => XS.iconst X0.here hx rfl (hb hby at_16) kK) ?_
    show OwnFin p e below _ (s₁.setTop (mkF m 17 #[.val (.long tt_), .second, .val (.long m_), .second, .val (.int fl), .val (.int (0 : Int32)), .unset, .unset, .unset, .unset, .unset, .unset] [(.int (1 : Int32)), (.int fl)]))
    refine OwnFin.step (fun tT kK => XS.iushr X0.here hx rfl (hb hby at_17) rfl kK) ?_
    show OwnFin p e below _ (s₁.setTop (mkF m 18 #[.val (.long tt_), .second, .val (.long m_), .second, .val (.int fl), .val (.int (0 : Int32)), .unset, .unset, .unset, .unset, .unset, .unset] [(.int ((fl.toUInt32 >>> ((1 : Int32) &&& 31).toUInt32).toInt32))]))
    refine OwnFin.step (fun tT kK => XS.iconst X0.here hx rfl (hb hby at_18) kK) ?_
    show OwnFin p e below _ (s₁.setTop (mkF m 19 #[.val (.long tt_), .second, .val (.long m_), .second, .val (.int fl), .val (.int (0 : Int32)), .unset, .unset, .unset, .unset, .unset, .unset] [(.int (3 : Int32)), (.int ((fl.toUInt32 >>> ((1 : Int32) &&& 31).toUInt32).toInt32))]))
    refine OwnFin.step (fun tT kK => XS.iand X0.here hx rfl (hb hby at_19) rfl kK) ?_
    show OwnFin p e below _ (s₁.setTop (mkF m 20 #[.val (.long tt_), .second, .val (.long m_), .second, .val (.int fl), .val (.int (0 : Int32)), .unset, .unset, .unset, .unset, .unset, .unset] [(.int (((fl.toUInt32 >>> ((1 : Int32) &&& 31).toUInt32).toInt32) &&& (3 : Int32)))]))
    refine OwnFin.step (fun tT kK => XS.istore X0.here hx rfl (hb hby at_20) rfl (l' := #[.val (.long tt_), .second, .val (.long m_), .second, .val (.int fl), .val (.int (0 : Int32)), .val (.int (((fl.toUInt32 >>> ((1 : Int32) &&& 31).toUInt32).toInt32) &&& (3 : Int32))), .unset, .unset, .unset, .unset, .unset]) rfl kK) ?_
    show OwnFin p e below _ (s₁.setTop (mkF m 22 #[.val (.long tt_), .second, .val (.long m_), .second, .val (.int fl), .val (.int (0 : Int32)), .val (.int (((fl.toUInt32 >>> ((1 : Int32) &&& 31).toUInt32).toInt32) &&& (3 : Int32))), .unset, .unset, .unset, .unset, .unset] []))
    refine OwnFin.step (fun tT kK => XS.iload X0.here hx rfl (hb hby at_22) rfl kK) ?_
    show OwnFin p e below _ (s₁.setTop (mkF m 24 #[.val (.long tt_), .second, .val (.long m_), .second, .val (.int fl), .val (.int (0 : Int32)), .val (.int (((fl.toUInt32 >>> ((1 : Int32) &&& 31).toUInt32).toInt32) &&& (3 : Int32))), .unset, .unset, .unset, .unset, .unset] [(.int (((fl.toUInt32 >>> ((1 : Int32) &&& 31).toUInt32).toInt32) &&& (3 : Int32)))]))
    by_cases hc2 : (((fl.toUInt32 >>> ((1 : Int32) &&& 31).toUInt32).toInt32) &&& (3 : Int32)) = (0 : Int32)
    · skip
      refine OwnFin.step (fun tT kK => XS.ifNo X0.here hx rfl (hb hby at_24) rfl ((if0 _ _).trans (teq (hc2 : (((fl.toUInt32 >>> ((1 : Int32) &&& 31).toUInt32).toInt32) &&& (3 : Int32)) = (0 : Int32))).2) kK) ?_
      show OwnFin p e below _ (s₁.setTop (mkF m 27 #[.val (.long tt_), .second, .val (.long m_), .second, .val (.int fl), .val (.int (0 : Int32)), .val (.int (((fl.toUInt32 >>> ((1 : Int32) &&& 31).toUInt32).toInt32) &&& (3 : Int32))), .unset, .unset, .unset, .unset, .unset] []))
      refine OwnFin.step (fun tT kK => X0.ldc2J hx hown (mvT hZ (hw _ (List.mem_of_getElem? (i := 0) rfl))) (g := (mkF m 27 #[.val (.long tt_), .second, .val (.long m_), .second, .val (.int fl), .val (.int (0 : Int32)), .val (.int (((fl.toUInt32 >>> ((1 : Int32) &&& 31).toUInt32).toInt32) &&& (3 : Int32))), .unset, .unset, .unset, .unset, .unset] [])) rfl (hb hby at_27) kK) ?_
      show OwnFin p e below _ (s₁.setTop (mkF m 30 #[.val (.long tt_), .second, .val (.long m_), .second, .val (.int fl), .val (.int (0 : Int32)), .val (.int (((fl.toUInt32 >>> ((1 : Int32) &&& 31).toUInt32).toInt32) &&& (3 : Int32))), .unset, .unset, .unset, .unset, .unset] [(.long (-2 : Int64))]))
      refine OwnFin.step (fun tT kK => XS.lstore X0.here hx rfl (hb hby at_30) rfl (l' := #[.val (.long tt_), .second, .val (.long m_), .second, .val (.int fl), .val (.int (0 : Int32)), .val (.int (((fl.toUInt32 >>> ((1 : Int32) &&& 31).toUInt32).toInt32) &&& (3 : Int32))), .val (.long (-2 : Int64)), .second, .unset, .unset, .unset]) rfl kK) ?_
      show OwnFin p e below _ (s₁.setTop (mkF m 32 #[.val (.long tt_), .second, .val (.long m_), .second, .val (.int fl), .val (.int (0 : Int32)), .val (.int (((fl.toUInt32 >>> ((1 : Int32) &&& 31).toUInt32).toInt32) &&& (3 : Int32))), .val (.long (-2 : Int64)), .second, .unset, .unset, .unset] []))
      refine OwnFin.step (fun tT kK => XS.goto X0.here hx rfl (pc0 := 32) (pc' := 66) rfl (hb hby at_32) (by decide) (by decide) kK) ?_
      show OwnFin p e below _ (s₁.setTop (mkF m 66 #[.val (.long tt_), .second, .val (.long m_), .second, .val (.int fl), .val (.int (0 : Int32)), .val (.int (((fl.toUInt32 >>> ((1 : Int32) &&& 31).toUInt32).toInt32) &&& (3 : Int32))), .val (.long (-2 : Int64)), .second, .unset, .unset, .unset] []))
      refine OwnFin.step (fun tT kK => XS.iload X0.here hx rfl (hb hby at_66) rfl kK) ?_
      show OwnFin p e below _ (s₁.setTop (mkF m 68 #[.val (.long tt_), .second, .val (.long m_), .second, .val (.int fl), .val (.int (0 : Int32)), .val (.int (((fl.toUInt32 >>> ((1 : Int32) &&& 31).toUInt32).toInt32) &&& (3 : Int32))), .val (.long (-2 : Int64)), .second, .unset, .unset, .unset] [(.int (0 : Int32))]))
      refine OwnFin.step (fun tT kK => XS.ifYes X0.here hx rfl (pc0 := 68) (pc' := 78) rfl (hb hby at_68) rfl ((if0 _ _).trans (teq (rfl : (0 : Int32) = (0 : Int32))).1) (by decide) (by decide) kK) ?_
      show OwnFin p e below _ (s₁.setTop (mkF m 78 #[.val (.long tt_), .second, .val (.long m_), .second, .val (.int fl), .val (.int (0 : Int32)), .val (.int (((fl.toUInt32 >>> ((1 : Int32) &&& 31).toUInt32).toInt32) &&& (3 : Int32))), .val (.long (-2 : Int64)), .second, .unset, .unset, .unset] []))
      refine OwnFin.step (fun tT kK => XS.aconstNull X0.here hx rfl (hb hby at_78) kK) ?_
      show OwnFin p e below _ (s₁.setTop (mkF m 79 #[.val (.long tt_), .second, .val (.long m_), .second, .val (.int fl), .val (.int (0 : Int32)), .val (.int (((fl.toUInt32 >>> ((1 : Int32) &&& 31).toUInt32).toInt32) &&& (3 : Int32))), .val (.long (-2 : Int64)), .second, .unset, .unset, .unset] [.null]))
      refine OwnFin.step (fun tT kK => XS.astore X0.here hx rfl (hb hby at_79) rfl rfl (l' := #[.val (.long tt_), .second, .val (.long m_), .second, .val (.int fl), .val (.int (0 : Int32)), .val (.int (((fl.toUInt32 >>> ((1 : Int32) &&& 31).toUInt32).toInt32) &&& (3 : Int32))), .val (.long (-2 : Int64)), .second, .val .null, .unset, .unset]) rfl kK) ?_
      show OwnFin p e below _ (s₁.setTop (mkF m 81 #[.val (.long tt_), .second, .val (.long m_), .second, .val (.int fl), .val (.int (0 : Int32)), .val (.int (((fl.toUInt32 >>> ((1 : Int32) &&& 31).toUInt32).toInt32) &&& (3 : Int32))), .val (.long (-2 : Int64)), .second, .val .null, .unset, .unset] []))
      obtain ⟨T3, h3, X3, e3, E3, A3, D3, -, st3⟩ := newO X0 hx hZ hown (hw _ (List.mem_of_getElem? (i := 1) rfl)) (hw _ (List.mem_of_getElem? (i := 2) rfl)) (hw _ (List.mem_of_getElem? (i := 3) rfl)) e0 (g := (mkF m 81 #[.val (.long tt_), .second, .val (.long m_), .second, .val (.int fl), .val (.int (0 : Int32)), .val (.int (((fl.toUInt32 >>> ((1 : Int32) &&& 31).toUInt32).toInt32) &&& (3 : Int32))), .val (.long (-2 : Int64)), .second, .val .null, .unset, .unset] [])) rfl (hb hby at_81) (by decide) (by decide)
      obtain ⟨b3, g3⟩ : ∃ z, z = h0.size := ⟨_, rfl⟩
      rw [← g3] at A3 D3 st3
      refine OwnFin.step st3 ?_
      have Fz4 : Fld Z h3 b3 "com/example/limpet/limpet/TakeReply" "token" "Ljava/lang/Long;" .null := D3 (Or.inr (hw _ (List.mem_of_getElem? (i := 16) rfl))) (ty := (.object "java/lang/Long")) (by decide)
      have Fz5 : Fld Z h3 b3 "com/example/limpet/limpet/TakeReply" "toldMillis" "J" (.long (0 : Int64)) := D3 (Or.inr (hw _ (List.mem_of_getElem? (i := 18) rfl))) (ty := .long) (by decide)
      show OwnFin p e below _ (T3.setTop (mkF m 84 #[.val (.long tt_), .second, .val (.long m_), .second, .val (.int fl), .val (.int (0 : Int32)), .val (.int (((fl.toUInt32 >>> ((1 : Int32) &&& 31).toUInt32).toInt32) &&& (3 : Int32))), .val (.long (-2 : Int64)), .second, .val .null, .unset, .unset] [(.ref b3)]))
      refine OwnFin.step (fun tT kK => XS.dup X3.here hx rfl (hb hby at_84) rfl rfl kK) ?_
      show OwnFin p e below _ (T3.setTop (mkF m 85 #[.val (.long tt_), .second, .val (.long m_), .second, .val (.int fl), .val (.int (0 : Int32)), .val (.int (((fl.toUInt32 >>> ((1 : Int32) &&& 31).toUInt32).toInt32) &&& (3 : Int32))), .val (.long (-2 : Int64)), .second, .val .null, .unset, .unset] [(.ref b3), (.ref b3)]))
      refine OwnFin.step (fun tT kK => XS.aload X3.here hx rfl (hb hby at_85) rfl rfl kK) ?_
      show OwnFin p e below _ (T3.setTop (mkF m 87 #[.val (.long tt_), .second, .val (.long m_), .second, .val (.int fl), .val (.int (0 : Int32)), .val (.int (((fl.toUInt32 >>> ((1 : Int32) &&& 31).toUInt32).toInt32) &&& (3 : Int32))), .val (.long (-2 : Int64)), .second, .val .null, .unset, .unset] [.null, (.ref b3), (.ref b3)]))
      refine OwnFin.step (fun tT kK => XS.lload X3.here hx rfl (hb hby at_87) rfl kK) ?_
      show OwnFin p e below _ (T3.setTop (mkF m 89 #[.val (.long tt_), .second, .val (.long m_), .second, .val (.int fl), .val (.int (0 : Int32)), .val (.int (((fl.toUInt32 >>> ((1 : Int32) &&& 31).toUInt32).toInt32) &&& (3 : Int32))), .val (.long (-2 : Int64)), .second, .val .null, .unset, .unset] [(.long (-2 : Int64)), .null, (.ref b3), (.ref b3)]))
      obtain ⟨_, _, ⟨T6, L6, k6, n6⟩, -, X6, ⟨Lc6, hQ6, l6, y6, z6⟩, st6⟩ := X3.specialBack hx (y := (⟨"com/example/limpet/limpet/TakeReply", "<init>", "(Ljava/lang/Long;J)V"⟩ : MethodName)) rfl hown (mvT hZ (hw _ (List.mem_of_getElem? (i := 4) rfl))) (mvT hZ (hw _ (List.mem_of_getElem? (i := 5) rfl))) (mvT hZ (hw _ (List.mem_of_getElem? (i := 6) rfl))) (by decide) (backOf (W := 1) (rm5N l Z a0 hw [] b3 (-2 : Int64) h3 n0 (Nat.le_trans Z0 E3.1) A3 Fz4 Fz5 (Nat.le_trans Z0 (Nat.le_of_eq g3.symm))) hZ (hw _ (List.mem_of_getElem? (i := 6) rfl)) (hw _ (List.mem_of_getElem? (i := 3) rfl)) (by decide) (by decide)) (g := (mkF m 89 #[.val (.long tt_), .second, .val (.long m_), .second, .val (.int fl), .val (.int (0 : Int32)), .val (.int (((fl.toUInt32 >>> ((1 : Int32) &&& 31).toUInt32).toInt32) &&& (3 : Int32))), .val (.long (-2 : Int64)), .second, .val .null, .unset, .unset] [(.long (-2 : Int64)), .null, (.ref b3), (.ref b3)])) rfl (by rw [hml]; rfl) (Steps.refl _) (a := b3) (argsL := [.null, (.long (-2 : Int64))]) (rest := [(.ref b3)]) (lenOf pd_62 rfl) rfl (by show 2 * 0 + _ ≤ _; exact Nat.le_of_eq rfl) (hb hby at_89) (fun _ _ => ⟨rfl, e3, (by decide : 1 + 0 ≤ _), (by decide : 2 + 0 ≤ _)⟩)
      dsimp only [Pt.U, Pt.locs, Pt.cells, Pt.slots] at X6 l6 y6 z6 st6 hQ6
      subst l6 y6 z6
      obtain ⟨rfl, N6q, K6, P6_0, P6_1, P6_2⟩ := hQ6
      have N6 := Fr.app N0 N6q
      refine OwnFin.step (fun tT kK => st6.trans kK) ?_
      show OwnFin p e below _ (T6.setTop (mkF m 92 #[.val (.long tt_), .second, .val (.long m_), .second, .val (.int fl), .val (.int (0 : Int32)), .val (.int (((fl.toUInt32 >>> ((1 : Int32) &&& 31).toUInt32).toInt32) &&& (3 : Int32))), .val (.long (-2 : Int64)), .second, .val .null, .unset, .unset] [(.ref b3)]))
      refine OwnFin.step (fun tT kK => XS.astore X6.here hx rfl (hb hby at_92) rfl rfl (l' := #[.val (.long tt_), .second, .val (.long m_), .second, .val (.int fl), .val (.int (0 : Int32)), .val (.int (((fl.toUInt32 >>> ((1 : Int32) &&& 31).toUInt32).toInt32) &&& (3 : Int32))), .val (.long (-2 : Int64)), .second, .val .null, .val (.ref b3), .unset]) rfl kK) ?_
      show OwnFin p e below _ (T6.setTop (mkF m 94 #[.val (.long tt_), .second, .val (.long m_), .second, .val (.int fl), .val (.int (0 : Int32)), .val (.int (((fl.toUInt32 >>> ((1 : Int32) &&& 31).toUInt32).toInt32) &&& (3 : Int32))), .val (.long (-2 : Int64)), .second, .val .null, .val (.ref b3), .unset] []))
      refine OwnFin.step (fun tT kK => XS.iload X6.here hx rfl (hb hby at_94) rfl kK) ?_
      show OwnFin p e below _ (T6.setTop (mkF m 96 #[.val (.long tt_), .second, .val (.long m_), .second, .val (.int fl), .val (.int (0 : Int32)), .val (.int (((fl.toUInt32 >>> ((1 : Int32) &&& 31).toUInt32).toInt32) &&& (3 : Int32))), .val (.long (-2 : Int64)), .second, .val .null, .val (.ref b3), .unset] [(.int (0 : Int32))]))
      refine OwnFin.step (fun tT kK => XS.ifYes X6.here hx rfl (pc0 := 96) (pc' := 105) rfl (hb hby at_96) rfl ((if0 _ _).trans (teq (rfl : (0 : Int32) = (0 : Int32))).1) (by decide) (by decide) kK) ?_
      show OwnFin p e below _ (T6.setTop (mkF m 105 #[.val (.long tt_), .second, .val (.long m_), .second, .val (.int fl), .val (.int (0 : Int32)), .val (.int (((fl.toUInt32 >>> ((1 : Int32) &&& 31).toUInt32).toInt32) &&& (3 : Int32))), .val (.long (-2 : Int64)), .second, .val .null, .val (.ref b3), .unset] []))
      refine OwnFin.step (fun tT kK => XS.lload X6.here hx rfl (hb hby at_105) rfl kK) ?_
      show OwnFin p e below _ (T6.setTop (mkF m 107 #[.val (.long tt_), .second, .val (.long m_), .second, .val (.int fl), .val (.int (0 : Int32)), .val (.int (((fl.toUInt32 >>> ((1 : Int32) &&& 31).toUInt32).toInt32) &&& (3 : Int32))), .val (.long (-2 : Int64)), .second, .val .null, .val (.ref b3), .unset] [(.long (-2 : Int64))]))
      refine OwnFin.step (fun tT kK => X6.ldc2J hx hown (mvT hZ (hw _ (List.mem_of_getElem? (i := 0) rfl))) (g := (mkF m 107 #[.val (.long tt_), .second, .val (.long m_), .second, .val (.int fl), .val (.int (0 : Int32)), .val (.int (((fl.toUInt32 >>> ((1 : Int32) &&& 31).toUInt32).toInt32) &&& (3 : Int32))), .val (.long (-2 : Int64)), .second, .val .null, .val (.ref b3), .unset] [(.long (-2 : Int64))])) rfl (hb hby at_107) kK) ?_
      show OwnFin p e below _ (T6.setTop (mkF m 110 #[.val (.long tt_), .second, .val (.long m_), .second, .val (.int fl), .val (.int (0 : Int32)), .val (.int (((fl.toUInt32 >>> ((1 : Int32) &&& 31).toUInt32).toInt32) &&& (3 : Int32))), .val (.long (-2 : Int64)), .second, .val .null, .val (.ref b3), .unset] [(.long (-2 : Int64)), (.long (-2 : Int64))]))
      refine OwnFin.step (fun tT kK => XS.lcmp X6.here hx rfl (hb hby at_110) rfl kK) ?_
      show OwnFin p e below _ (T6.setTop (mkF m 111 #[.val (.long tt_), .second, .val (.long m_), .second, .val (.int fl), .val (.int (0 : Int32)), .val (.int (((fl.toUInt32 >>> ((1 : Int32) &&& 31).toUInt32).toInt32) &&& (3 : Int32))), .val (.long (-2 : Int64)), .second, .val .null, .val (.ref b3), .unset] [(.int (lcmpW (-2 : Int64) (-2 : Int64)))]))
      refine OwnFin.step (fun tT kK => XS.ifNo X6.here hx rfl (hb hby at_111) rfl ((if0 _ _).trans (teq (by decide : (lcmpW (-2 : Int64) (-2 : Int64)) = (0 : Int32))).2) kK) ?_
      show OwnFin p e below _ (T6.setTop (mkF m 114 #[.val (.long tt_), .second, .val (.long m_), .second, .val (.int fl), .val (.int (0 : Int32)), .val (.int (((fl.toUInt32 >>> ((1 : Int32) &&& 31).toUInt32).toInt32) &&& (3 : Int32))), .val (.long (-2 : Int64)), .second, .val .null, .val (.ref b3), .unset] []))
      refine OwnFin.step (fun tT kK => XS.iconst X6.here hx rfl (hb hby at_114) kK) ?_
      show OwnFin p e below _ (T6.setTop (mkF m 115 #[.val (.long tt_), .second, .val (.long m_), .second, .val (.int fl), .val (.int (0 : Int32)), .val (.int (((fl.toUInt32 >>> ((1 : Int32) &&& 31).toUInt32).toInt32) &&& (3 : Int32))), .val (.long (-2 : Int64)), .second, .val .null, .val (.ref b3), .unset] [(.int (1 : Int32))]))
      refine OwnFin.step (fun tT kK => XS.goto X6.here hx rfl (pc0 := 115) (pc' := 119) rfl (hb hby at_115) (by decide) (by decide) kK) ?_
      show OwnFin p e below _ (T6.setTop (mkF m 119 #[.val (.long tt_), .second, .val (.long m_), .second, .val (.int fl), .val (.int (0 : Int32)), .val (.int (((fl.toUInt32 >>> ((1 : Int32) &&& 31).toUInt32).toInt32) &&& (3 : Int32))), .val (.long (-2 : Int64)), .second, .val .null, .val (.ref b3), .unset] [(.int (1 : Int32))]))
      refine OwnFin.step (fun tT kK => XS.istore X6.here hx rfl (hb hby at_119) rfl (l' := #[.val (.long tt_), .second, .val (.long m_), .second, .val (.int fl), .val (.int (0 : Int32)), .val (.int (((fl.toUInt32 >>> ((1 : Int32) &&& 31).toUInt32).toInt32) &&& (3 : Int32))), .val (.long (-2 : Int64)), .second, .val .null, .val (.ref b3), .val (.int (1 : Int32))]) rfl kK) ?_
      show OwnFin p e below _ (T6.setTop (mkF m 121 #[.val (.long tt_), .second, .val (.long m_), .second, .val (.int fl), .val (.int (0 : Int32)), .val (.int (((fl.toUInt32 >>> ((1 : Int32) &&& 31).toUInt32).toInt32) &&& (3 : Int32))), .val (.long (-2 : Int64)), .second, .val .null, .val (.ref b3), .val (.int (1 : Int32))] []))
      refine OwnFin.step (fun tT kK => XS.aload X6.here hx rfl (hb hby at_121) rfl rfl kK) ?_
      show OwnFin p e below _ (T6.setTop (mkF m 123 #[.val (.long tt_), .second, .val (.long m_), .second, .val (.int fl), .val (.int (0 : Int32)), .val (.int (((fl.toUInt32 >>> ((1 : Int32) &&& 31).toUInt32).toInt32) &&& (3 : Int32))), .val (.long (-2 : Int64)), .second, .val .null, .val (.ref b3), .val (.int (1 : Int32))] [(.ref b3)]))
      obtain ⟨cq7, kq7, q7a, q7b, q7c⟩ := isOf hZ rfl P6_0
      obtain ⟨_, _, ⟨T7, L7, k7, n7⟩, -, X7, ⟨Lc7, hQ7, l7, y7, z7⟩, st7⟩ := X6.virtualBack hx (y := (⟨"com/example/limpet/limpet/TakeReply", "gone", "()Z"⟩ : MethodName)) (z := (⟨"com/example/limpet/limpet/TakeReply", "gone", "()Z"⟩ : MethodName)) hown (mvT hZ (hw _ (List.mem_of_getElem? (i := 19) rfl))) (mvT hZ (hw _ (List.mem_of_getElem? (i := 20) rfl))) (notFace_of_selects (args := #[]) (mvT hZ (hw _ (List.mem_of_getElem? (i := 22) rfl)))) (mvT hZ (hw _ (List.mem_of_getElem? (i := 22) rfl))) (mvT hZ (hw _ (List.mem_of_getElem? (i := 21) rfl))) (by decide) (backOf (W := 0) (rm6N l Z a0 hw [] b3 (-2 : Int64) T6.heap n0 (Nat.le_trans (Nat.le_trans Z0 E3.1) K6.1) P6_1 P6_2) hZ (hw _ (List.mem_of_getElem? (i := 23) rfl)) (hw _ (List.mem_of_getElem? (i := 3) rfl)) (by decide) (by decide)) q7a q7c (g := (mkF m 123 #[.val (.long tt_), .second, .val (.long m_), .second, .val (.int fl), .val (.int (0 : Int32)), .val (.int (((fl.toUInt32 >>> ((1 : Int32) &&& 31).toUInt32).toInt32) &&& (3 : Int32))), .val (.long (-2 : Int64)), .second, .val .null, .val (.ref b3), .val (.int (1 : Int32))] [(.ref b3)])) rfl (by rw [hml]; rfl) (Steps.refl _) (argsL := []) (rest := []) (lenOf pd_63 rfl) rfl (by show 2 * 0 + _ ≤ _; exact Nat.le_of_eq rfl) (hb hby at_123) (fun _ _ => ⟨rfl, rfl, (by decide : 1 + 0 ≤ _), (by decide : 2 + 0 ≤ _)⟩)
      dsimp only [Pt.U, Pt.locs, Pt.cells, Pt.slots] at X7 l7 y7 z7 st7 hQ7
      subst l7 y7 z7
      obtain ⟨rfl, N7q, e7⟩ := hQ7
      have N7 := Fr.app N6 N7q
      refine OwnFin.step (fun tT kK => st7.trans kK) ?_
      show OwnFin p e below _ (T7.setTop (mkF m 126 #[.val (.long tt_), .second, .val (.long m_), .second, .val (.int fl), .val (.int (0 : Int32)), .val (.int (((fl.toUInt32 >>> ((1 : Int32) &&& 31).toUInt32).toInt32) &&& (3 : Int32))), .val (.long (-2 : Int64)), .second, .val .null, .val (.ref b3), .val (.int (1 : Int32))] [(.int (if lcmpW (-2 : Int64) (-2 : Int64) = (0 : Int32) then 1 else 0))]))
      rw [show (if lcmpW (-2 : Int64) (-2 : Int64) = (0 : Int32) then (1 : Int32) else 0) = 1 from if_pos (by decide)]
      show OwnFin p e below _ (T7.setTop (mkF m 126 #[.val (.long tt_), .second, .val (.long m_), .second, .val (.int fl), .val (.int (0 : Int32)), .val (.int (((fl.toUInt32 >>> ((1 : Int32) &&& 31).toUInt32).toInt32) &&& (3 : Int32))), .val (.long (-2 : Int64)), .second, .val .null, .val (.ref b3), .val (.int (1 : Int32))] [(.int (1 : Int32))]))
      refine OwnFin.step (fun tT kK => XS.iload X7.here hx rfl (hb hby at_126) rfl kK) ?_
      show OwnFin p e below _ (T7.setTop (mkF m 128 #[.val (.long tt_), .second, .val (.long m_), .second, .val (.int fl), .val (.int (0 : Int32)), .val (.int (((fl.toUInt32 >>> ((1 : Int32) &&& 31).toUInt32).toInt32) &&& (3 : Int32))), .val (.long (-2 : Int64)), .second, .val .null, .val (.ref b3), .val (.int (1 : Int32))] [(.int (1 : Int32)), (.int (1 : Int32))]))
      refine OwnFin.step (fun tT kK => XS.icmpNo X7.here hx rfl (hb hby at_128) rfl (teq (rfl : (1 : Int32) = (1 : Int32))).2 kK) ?_
      show OwnFin p e below _ (T7.setTop (mkF m 131 #[.val (.long tt_), .second, .val (.long m_), .second, .val (.int fl), .val (.int (0 : Int32)), .val (.int (((fl.toUInt32 >>> ((1 : Int32) &&& 31).toUInt32).toInt32) &&& (3 : Int32))), .val (.long (-2 : Int64)), .second, .val .null, .val (.ref b3), .val (.int (1 : Int32))] []))
      refine OwnFin.step (fun tT kK => XS.iconst X7.here hx rfl (hb hby at_131) kK) ?_
      show OwnFin p e below _ (T7.setTop (mkF m 132 #[.val (.long tt_), .second, .val (.long m_), .second, .val (.int fl), .val (.int (0 : Int32)), .val (.int (((fl.toUInt32 >>> ((1 : Int32) &&& 31).toUInt32).toInt32) &&& (3 : Int32))), .val (.long (-2 : Int64)), .second, .val .null, .val (.ref b3), .val (.int (1 : Int32))] [(.int (1 : Int32))]))
      refine OwnFin.step (fun tT kK => XS.goto X7.here hx rfl (pc0 := 132) (pc' := 136) rfl (hb hby at_132) (by decide) (by decide) kK) ?_
      show OwnFin p e below _ (T7.setTop (mkF m 136 #[.val (.long tt_), .second, .val (.long m_), .second, .val (.int fl), .val (.int (0 : Int32)), .val (.int (((fl.toUInt32 >>> ((1 : Int32) &&& 31).toUInt32).toInt32) &&& (3 : Int32))), .val (.long (-2 : Int64)), .second, .val .null, .val (.ref b3), .val (.int (1 : Int32))] [(.int (1 : Int32))]))
      obtain ⟨fs8, hr8, hrun8, hended8, hW8, hsame8⟩ := X7.leave (v := (some (.int (1 : Int32)))) (fun h => by rw [Bd.returns] at h; cases h)
      refine ⟨_, _, retN X7 hx (t := .boolean) Bd.returns (by simp) (hb hby at_136) hr8, hrun8, hended8, _, _, rfl, ?_, ⟨_, rfl⟩, hW8, hsame8.mono (by decide) (by decide)⟩
      show Q0 Z tt_ m_ fl ca cl h0 n0 _ T7.heap _
      rw [e7]
      exact ⟨rfl, N7, (((Keep.refl h0 []).ext E3).trans K6 (allS (P := fun x => x ∈ [] ∨ h0.size ≤ x) (Or.inr (Nat.le_trans (Nat.le_refl _) (Nat.le_of_eq g3.symm))) all0))⟩
    · skip
      refine OwnFin.step (fun tT kK => XS.ifYes X0.here hx rfl (pc0 := 24) (pc' := 35) rfl (hb hby at_24) rfl ((if0 _ _).trans (feq (hc2 : ¬ ((((fl.toUInt32 >>> ((1 : Int32) &&& 31).toUInt32).toInt32) &&& (3 : Int32)) = (0 : Int32)))).2) (by decide) (by decide) kK) ?_
      show OwnFin p e below _ (s₁.setTop (mkF m 35 #[.val (.long tt_), .second, .val (.long m_), .second, .val (.int fl), .val (.int (0 : Int32)), .val (.int (((fl.toUInt32 >>> ((1 : Int32) &&& 31).toUInt32).toInt32) &&& (3 : Int32))), .unset, .unset, .unset, .unset, .unset] []))
      refine OwnFin.step (fun tT kK => XS.iload X0.here hx rfl (hb hby at_35) rfl kK) ?_
      show OwnFin p e below _ (s₁.setTop (mkF m 37 #[.val (.long tt_), .second, .val (.long m_), .second, .val (.int fl), .val (.int (0 : Int32)), .val (.int (((fl.toUInt32 >>> ((1 : Int32) &&& 31).toUInt32).toInt32) &&& (3 : Int32))), .unset, .unset, .unset, .unset, .unset] [(.int (((fl.toUInt32 >>> ((1 : Int32) &&& 31).toUInt32).toInt32) &&& (3 : Int32)))]))
      refine OwnFin.step (fun tT kK => XS.iconst X0.here hx rfl (hb hby at_37) kK) ?_
      show OwnFin p e below _ (s₁.setTop (mkF m 38 #[.val (.long tt_), .second, .val (.long m_), .second, .val (.int fl), .val (.int (0 : Int32)), .val (.int (((fl.toUInt32 >>> ((1 : Int32) &&& 31).toUInt32).toInt32) &&& (3 : Int32))), .unset, .unset, .unset, .unset, .unset] [(.int (1 : Int32)), (.int (((fl.toUInt32 >>> ((1 : Int32) &&& 31).toUInt32).toInt32) &&& (3 : Int32)))]))
      by_cases hc9 : (((fl.toUInt32 >>> ((1 : Int32) &&& 31).toUInt32).toInt32) &&& (3 : Int32)) = (1 : Int32)
      · skip
        refine OwnFin.step (fun tT kK => XS.icmpNo X0.here hx rfl (hb hby at_38) rfl (teq (hc9 : (((fl.toUInt32 >>> ((1 : Int32) &&& 31).toUInt32).toInt32) &&& (3 : Int32)) = (1 : Int32))).2 kK) ?_
        show OwnFin p e below _ (s₁.setTop (mkF m 41 #[.val (.long tt_), .second, .val (.long m_), .second, .val (.int fl), .val (.int (0 : Int32)), .val (.int (((fl.toUInt32 >>> ((1 : Int32) &&& 31).toUInt32).toInt32) &&& (3 : Int32))), .unset, .unset, .unset, .unset, .unset] []))
        refine OwnFin.step (fun tT kK => X0.ldc2J hx hown (mvT hZ (hw _ (List.mem_of_getElem? (i := 33) rfl))) (g := (mkF m 41 #[.val (.long tt_), .second, .val (.long m_), .second, .val (.int fl), .val (.int (0 : Int32)), .val (.int (((fl.toUInt32 >>> ((1 : Int32) &&& 31).toUInt32).toInt32) &&& (3 : Int32))), .unset, .unset, .unset, .unset, .unset] [])) rfl (hb hby at_41) kK) ?_
        show OwnFin p e below _ (s₁.setTop (mkF m 44 #[.val (.long tt_), .second, .val (.long m_), .second, .val (.int fl), .val (.int (0 : Int32)), .val (.int (((fl.toUInt32 >>> ((1 : Int32) &&& 31).toUInt32).toInt32) &&& (3 : Int32))), .unset, .unset, .unset, .unset, .unset] [(.long (-1 : Int64))]))
        refine OwnFin.step (fun tT kK => XS.lstore X0.here hx rfl (hb hby at_44) rfl (l' := #[.val (.long tt_), .second, .val (.long m_), .second, .val (.int fl), .val (.int (0 : Int32)), .val (.int (((fl.toUInt32 >>> ((1 : Int32) &&& 31).toUInt32).toInt32) &&& (3 : Int32))), .val (.long (-1 : Int64)), .second, .unset, .unset, .unset]) rfl kK) ?_
        show OwnFin p e below _ (s₁.setTop (mkF m 46 #[.val (.long tt_), .second, .val (.long m_), .second, .val (.int fl), .val (.int (0 : Int32)), .val (.int (((fl.toUInt32 >>> ((1 : Int32) &&& 31).toUInt32).toInt32) &&& (3 : Int32))), .val (.long (-1 : Int64)), .second, .unset, .unset, .unset] []))
        refine OwnFin.step (fun tT kK => XS.goto X0.here hx rfl (pc0 := 46) (pc' := 66) rfl (hb hby at_46) (by decide) (by decide) kK) ?_
        show OwnFin p e below _ (s₁.setTop (mkF m 66 #[.val (.long tt_), .second, .val (.long m_), .second, .val (.int fl), .val (.int (0 : Int32)), .val (.int (((fl.toUInt32 >>> ((1 : Int32) &&& 31).toUInt32).toInt32) &&& (3 : Int32))), .val (.long (-1 : Int64)), .second, .unset, .unset, .unset] []))
        refine OwnFin.step (fun tT kK => XS.iload X0.here hx rfl (hb hby at_66) rfl kK) ?_
        show OwnFin p e below _ (s₁.setTop (mkF m 68 #[.val (.long tt_), .second, .val (.long m_), .second, .val (.int fl), .val (.int (0 : Int32)), .val (.int (((fl.toUInt32 >>> ((1 : Int32) &&& 31).toUInt32).toInt32) &&& (3 : Int32))), .val (.long (-1 : Int64)), .second, .unset, .unset, .unset] [(.int (0 : Int32))]))
        refine OwnFin.step (fun tT kK => XS.ifYes X0.here hx rfl (pc0 := 68) (pc' := 78) rfl (hb hby at_68) rfl ((if0 _ _).trans (teq (rfl : (0 : Int32) = (0 : Int32))).1) (by decide) (by decide) kK) ?_
        show OwnFin p e below _ (s₁.setTop (mkF m 78 #[.val (.long tt_), .second, .val (.long m_), .second, .val (.int fl), .val (.int (0 : Int32)), .val (.int (((fl.toUInt32 >>> ((1 : Int32) &&& 31).toUInt32).toInt32) &&& (3 : Int32))), .val (.long (-1 : Int64)), .second, .unset, .unset, .unset] []))
        refine OwnFin.step (fun tT kK => XS.aconstNull X0.here hx rfl (hb hby at_78) kK) ?_
        show OwnFin p e below _ (s₁.setTop (mkF m 79 #[.val (.long tt_), .second, .val (.long m_), .second, .val (.int fl), .val (.int (0 : Int32)), .val (.int (((fl.toUInt32 >>> ((1 : Int32) &&& 31).toUInt32).toInt32) &&& (3 : Int32))), .val (.long (-1 : Int64)), .second, .unset, .unset, .unset] [.null]))
        refine OwnFin.step (fun tT kK => XS.astore X0.here hx rfl (hb hby at_79) rfl rfl (l' := #[.val (.long tt_), .second, .val (.long m_), .second, .val (.int fl), .val (.int (0 : Int32)), .val (.int (((fl.toUInt32 >>> ((1 : Int32) &&& 31).toUInt32).toInt32) &&& (3 : Int32))), .val (.long (-1 : Int64)), .second, .val .null, .unset, .unset]) rfl kK) ?_
        show OwnFin p e below _ (s₁.setTop (mkF m 81 #[.val (.long tt_), .second, .val (.long m_), .second, .val (.int fl), .val (.int (0 : Int32)), .val (.int (((fl.toUInt32 >>> ((1 : Int32) &&& 31).toUInt32).toInt32) &&& (3 : Int32))), .val (.long (-1 : Int64)), .second, .val .null, .unset, .unset] []))
        obtain ⟨T10, h10, X10, e10, E10, A10, D10, -, st10⟩ := newO X0 hx hZ hown (hw _ (List.mem_of_getElem? (i := 1) rfl)) (hw _ (List.mem_of_getElem? (i := 2) rfl)) (hw _ (List.mem_of_getElem? (i := 3) rfl)) e0 (g := (mkF m 81 #[.val (.long tt_), .second, .val (.long m_), .second, .val (.int fl), .val (.int (0 : Int32)), .val (.int (((fl.toUInt32 >>> ((1 : Int32) &&& 31).toUInt32).toInt32) &&& (3 : Int32))), .val (.long (-1 : Int64)), .second, .val .null, .unset, .unset] [])) rfl (hb hby at_81) (by decide) (by decide)
        obtain ⟨b10, g10⟩ : ∃ z, z = h0.size := ⟨_, rfl⟩
        rw [← g10] at A10 D10 st10
        refine OwnFin.step st10 ?_
        have Fz11 : Fld Z h10 b10 "com/example/limpet/limpet/TakeReply" "token" "Ljava/lang/Long;" .null := D10 (Or.inr (hw _ (List.mem_of_getElem? (i := 16) rfl))) (ty := (.object "java/lang/Long")) (by decide)
        have Fz12 : Fld Z h10 b10 "com/example/limpet/limpet/TakeReply" "toldMillis" "J" (.long (0 : Int64)) := D10 (Or.inr (hw _ (List.mem_of_getElem? (i := 18) rfl))) (ty := .long) (by decide)
        show OwnFin p e below _ (T10.setTop (mkF m 84 #[.val (.long tt_), .second, .val (.long m_), .second, .val (.int fl), .val (.int (0 : Int32)), .val (.int (((fl.toUInt32 >>> ((1 : Int32) &&& 31).toUInt32).toInt32) &&& (3 : Int32))), .val (.long (-1 : Int64)), .second, .val .null, .unset, .unset] [(.ref b10)]))
        refine OwnFin.step (fun tT kK => XS.dup X10.here hx rfl (hb hby at_84) rfl rfl kK) ?_
        show OwnFin p e below _ (T10.setTop (mkF m 85 #[.val (.long tt_), .second, .val (.long m_), .second, .val (.int fl), .val (.int (0 : Int32)), .val (.int (((fl.toUInt32 >>> ((1 : Int32) &&& 31).toUInt32).toInt32) &&& (3 : Int32))), .val (.long (-1 : Int64)), .second, .val .null, .unset, .unset] [(.ref b10), (.ref b10)]))
        refine OwnFin.step (fun tT kK => XS.aload X10.here hx rfl (hb hby at_85) rfl rfl kK) ?_
        show OwnFin p e below _ (T10.setTop (mkF m 87 #[.val (.long tt_), .second, .val (.long m_), .second, .val (.int fl), .val (.int (0 : Int32)), .val (.int (((fl.toUInt32 >>> ((1 : Int32) &&& 31).toUInt32).toInt32) &&& (3 : Int32))), .val (.long (-1 : Int64)), .second, .val .null, .unset, .unset] [.null, (.ref b10), (.ref b10)]))
        refine OwnFin.step (fun tT kK => XS.lload X10.here hx rfl (hb hby at_87) rfl kK) ?_
        show OwnFin p e below _ (T10.setTop (mkF m 89 #[.val (.long tt_), .second, .val (.long m_), .second, .val (.int fl), .val (.int (0 : Int32)), .val (.int (((fl.toUInt32 >>> ((1 : Int32) &&& 31).toUInt32).toInt32) &&& (3 : Int32))), .val (.long (-1 : Int64)), .second, .val .null, .unset, .unset] [(.long (-1 : Int64)), .null, (.ref b10), (.ref b10)]))
        obtain ⟨_, _, ⟨T13, L13, k13, n13⟩, -, X13, ⟨Lc13, hQ13, l13, y13, z13⟩, st13⟩ := X10.specialBack hx (y := (⟨"com/example/limpet/limpet/TakeReply", "<init>", "(Ljava/lang/Long;J)V"⟩ : MethodName)) rfl hown (mvT hZ (hw _ (List.mem_of_getElem? (i := 4) rfl))) (mvT hZ (hw _ (List.mem_of_getElem? (i := 5) rfl))) (mvT hZ (hw _ (List.mem_of_getElem? (i := 6) rfl))) (by decide) (backOf (W := 1) (rm5N l Z a0 hw [] b10 (-1 : Int64) h10 n0 (Nat.le_trans Z0 E10.1) A10 Fz11 Fz12 (Nat.le_trans Z0 (Nat.le_of_eq g10.symm))) hZ (hw _ (List.mem_of_getElem? (i := 6) rfl)) (hw _ (List.mem_of_getElem? (i := 3) rfl)) (by decide) (by decide)) (g := (mkF m 89 #[.val (.long tt_), .second, .val (.long m_), .second, .val (.int fl), .val (.int (0 : Int32)), .val (.int (((fl.toUInt32 >>> ((1 : Int32) &&& 31).toUInt32).toInt32) &&& (3 : Int32))), .val (.long (-1 : Int64)), .second, .val .null, .unset, .unset] [(.long (-1 : Int64)), .null, (.ref b10), (.ref b10)])) rfl (by rw [hml]; rfl) (Steps.refl _) (a := b10) (argsL := [.null, (.long (-1 : Int64))]) (rest := [(.ref b10)]) (lenOf pd_62 rfl) rfl (by show 2 * 0 + _ ≤ _; exact Nat.le_of_eq rfl) (hb hby at_89) (fun _ _ => ⟨rfl, e10, (by decide : 1 + 0 ≤ _), (by decide : 2 + 0 ≤ _)⟩)
        dsimp only [Pt.U, Pt.locs, Pt.cells, Pt.slots] at X13 l13 y13 z13 st13 hQ13
        subst l13 y13 z13
        obtain ⟨rfl, N13q, K13, P13_0, P13_1, P13_2⟩ := hQ13
        have N13 := Fr.app N0 N13q
        refine OwnFin.step (fun tT kK => st13.trans kK) ?_
        show OwnFin p e below _ (T13.setTop (mkF m 92 #[.val (.long tt_), .second, .val (.long m_), .second, .val (.int fl), .val (.int (0 : Int32)), .val (.int (((fl.toUInt32 >>> ((1 : Int32) &&& 31).toUInt32).toInt32) &&& (3 : Int32))), .val (.long (-1 : Int64)), .second, .val .null, .unset, .unset] [(.ref b10)]))
        refine OwnFin.step (fun tT kK => XS.astore X13.here hx rfl (hb hby at_92) rfl rfl (l' := #[.val (.long tt_), .second, .val (.long m_), .second, .val (.int fl), .val (.int (0 : Int32)), .val (.int (((fl.toUInt32 >>> ((1 : Int32) &&& 31).toUInt32).toInt32) &&& (3 : Int32))), .val (.long (-1 : Int64)), .second, .val .null, .val (.ref b10), .unset]) rfl kK) ?_
        show OwnFin p e below _ (T13.setTop (mkF m 94 #[.val (.long tt_), .second, .val (.long m_), .second, .val (.int fl), .val (.int (0 : Int32)), .val (.int (((fl.toUInt32 >>> ((1 : Int32) &&& 31).toUInt32).toInt32) &&& (3 : Int32))), .val (.long (-1 : Int64)), .second, .val .null, .val (.ref b10), .unset] []))
        refine OwnFin.step (fun tT kK => XS.iload X13.here hx rfl (hb hby at_94) rfl kK) ?_
        show OwnFin p e below _ (T13.setTop (mkF m 96 #[.val (.long tt_), .second, .val (.long m_), .second, .val (.int fl), .val (.int (0 : Int32)), .val (.int (((fl.toUInt32 >>> ((1 : Int32) &&& 31).toUInt32).toInt32) &&& (3 : Int32))), .val (.long (-1 : Int64)), .second, .val .null, .val (.ref b10), .unset] [(.int (0 : Int32))]))
        refine OwnFin.step (fun tT kK => XS.ifYes X13.here hx rfl (pc0 := 96) (pc' := 105) rfl (hb hby at_96) rfl ((if0 _ _).trans (teq (rfl : (0 : Int32) = (0 : Int32))).1) (by decide) (by decide) kK) ?_
        show OwnFin p e below _ (T13.setTop (mkF m 105 #[.val (.long tt_), .second, .val (.long m_), .second, .val (.int fl), .val (.int (0 : Int32)), .val (.int (((fl.toUInt32 >>> ((1 : Int32) &&& 31).toUInt32).toInt32) &&& (3 : Int32))), .val (.long (-1 : Int64)), .second, .val .null, .val (.ref b10), .unset] []))
        refine OwnFin.step (fun tT kK => XS.lload X13.here hx rfl (hb hby at_105) rfl kK) ?_
        show OwnFin p e below _ (T13.setTop (mkF m 107 #[.val (.long tt_), .second, .val (.long m_), .second, .val (.int fl), .val (.int (0 : Int32)), .val (.int (((fl.toUInt32 >>> ((1 : Int32) &&& 31).toUInt32).toInt32) &&& (3 : Int32))), .val (.long (-1 : Int64)), .second, .val .null, .val (.ref b10), .unset] [(.long (-1 : Int64))]))
        refine OwnFin.step (fun tT kK => X13.ldc2J hx hown (mvT hZ (hw _ (List.mem_of_getElem? (i := 0) rfl))) (g := (mkF m 107 #[.val (.long tt_), .second, .val (.long m_), .second, .val (.int fl), .val (.int (0 : Int32)), .val (.int (((fl.toUInt32 >>> ((1 : Int32) &&& 31).toUInt32).toInt32) &&& (3 : Int32))), .val (.long (-1 : Int64)), .second, .val .null, .val (.ref b10), .unset] [(.long (-1 : Int64))])) rfl (hb hby at_107) kK) ?_
        show OwnFin p e below _ (T13.setTop (mkF m 110 #[.val (.long tt_), .second, .val (.long m_), .second, .val (.int fl), .val (.int (0 : Int32)), .val (.int (((fl.toUInt32 >>> ((1 : Int32) &&& 31).toUInt32).toInt32) &&& (3 : Int32))), .val (.long (-1 : Int64)), .second, .val .null, .val (.ref b10), .unset] [(.long (-2 : Int64)), (.long (-1 : Int64))]))
        refine OwnFin.step (fun tT kK => XS.lcmp X13.here hx rfl (hb hby at_110) rfl kK) ?_
        show OwnFin p e below _ (T13.setTop (mkF m 111 #[.val (.long tt_), .second, .val (.long m_), .second, .val (.int fl), .val (.int (0 : Int32)), .val (.int (((fl.toUInt32 >>> ((1 : Int32) &&& 31).toUInt32).toInt32) &&& (3 : Int32))), .val (.long (-1 : Int64)), .second, .val .null, .val (.ref b10), .unset] [(.int (lcmpW (-1 : Int64) (-2 : Int64)))]))
        refine OwnFin.step (fun tT kK => XS.ifYes X13.here hx rfl (pc0 := 111) (pc' := 118) rfl (hb hby at_111) rfl ((if0 _ _).trans (feq (by decide : ¬ ((lcmpW (-1 : Int64) (-2 : Int64)) = (0 : Int32)))).2) (by decide) (by decide) kK) ?_
        show OwnFin p e below _ (T13.setTop (mkF m 118 #[.val (.long tt_), .second, .val (.long m_), .second, .val (.int fl), .val (.int (0 : Int32)), .val (.int (((fl.toUInt32 >>> ((1 : Int32) &&& 31).toUInt32).toInt32) &&& (3 : Int32))), .val (.long (-1 : Int64)), .second, .val .null, .val (.ref b10), .unset] []))
        refine OwnFin.step (fun tT kK => XS.iconst X13.here hx rfl (hb hby at_118) kK) ?_
        show OwnFin p e below _ (T13.setTop (mkF m 119 #[.val (.long tt_), .second, .val (.long m_), .second, .val (.int fl), .val (.int (0 : Int32)), .val (.int (((fl.toUInt32 >>> ((1 : Int32) &&& 31).toUInt32).toInt32) &&& (3 : Int32))), .val (.long (-1 : Int64)), .second, .val .null, .val (.ref b10), .unset] [(.int (0 : Int32))]))
        refine OwnFin.step (fun tT kK => XS.istore X13.here hx rfl (hb hby at_119) rfl (l' := #[.val (.long tt_), .second, .val (.long m_), .second, .val (.int fl), .val (.int (0 : Int32)), .val (.int (((fl.toUInt32 >>> ((1 : Int32) &&& 31).toUInt32).toInt32) &&& (3 : Int32))), .val (.long (-1 : Int64)), .second, .val .null, .val (.ref b10), .val (.int (0 : Int32))]) rfl kK) ?_
        show OwnFin p e below _ (T13.setTop (mkF m 121 #[.val (.long tt_), .second, .val (.long m_), .second, .val (.int fl), .val (.int (0 : Int32)), .val (.int (((fl.toUInt32 >>> ((1 : Int32) &&& 31).toUInt32).toInt32) &&& (3 : Int32))), .val (.long (-1 : Int64)), .second, .val .null, .val (.ref b10), .val (.int (0 : Int32))] []))
        refine OwnFin.step (fun tT kK => XS.aload X13.here hx rfl (hb hby at_121) rfl rfl kK) ?_
        show OwnFin p e below _ (T13.setTop (mkF m 123 #[.val (.long tt_), .second, .val (.long m_), .second, .val (.int fl), .val (.int (0 : Int32)), .val (.int (((fl.toUInt32 >>> ((1 : Int32) &&& 31).toUInt32).toInt32) &&& (3 : Int32))), .val (.long (-1 : Int64)), .second, .val .null, .val (.ref b10), .val (.int (0 : Int32))] [(.ref b10)]))
        obtain ⟨cq14, kq14, q14a, q14b, q14c⟩ := isOf hZ rfl P13_0
        obtain ⟨_, _, ⟨T14, L14, k14, n14⟩, -, X14, ⟨Lc14, hQ14, l14, y14, z14⟩, st14⟩ := X13.virtualBack hx (y := (⟨"com/example/limpet/limpet/TakeReply", "gone", "()Z"⟩ : MethodName)) (z := (⟨"com/example/limpet/limpet/TakeReply", "gone", "()Z"⟩ : MethodName)) hown (mvT hZ (hw _ (List.mem_of_getElem? (i := 19) rfl))) (mvT hZ (hw _ (List.mem_of_getElem? (i := 20) rfl))) (notFace_of_selects (args := #[]) (mvT hZ (hw _ (List.mem_of_getElem? (i := 22) rfl)))) (mvT hZ (hw _ (List.mem_of_getElem? (i := 22) rfl))) (mvT hZ (hw _ (List.mem_of_getElem? (i := 21) rfl))) (by decide) (backOf (W := 0) (rm6N l Z a0 hw [] b10 (-1 : Int64) T13.heap n0 (Nat.le_trans (Nat.le_trans Z0 E10.1) K13.1) P13_1 P13_2) hZ (hw _ (List.mem_of_getElem? (i := 23) rfl)) (hw _ (List.mem_of_getElem? (i := 3) rfl)) (by decide) (by decide)) q14a q14c (g := (mkF m 123 #[.val (.long tt_), .second, .val (.long m_), .second, .val (.int fl), .val (.int (0 : Int32)), .val (.int (((fl.toUInt32 >>> ((1 : Int32) &&& 31).toUInt32).toInt32) &&& (3 : Int32))), .val (.long (-1 : Int64)), .second, .val .null, .val (.ref b10), .val (.int (0 : Int32))] [(.ref b10)])) rfl (by rw [hml]; rfl) (Steps.refl _) (argsL := []) (rest := []) (lenOf pd_63 rfl) rfl (by show 2 * 0 + _ ≤ _; exact Nat.le_of_eq rfl) (hb hby at_123) (fun _ _ => ⟨rfl, rfl, (by decide : 1 + 0 ≤ _), (by decide : 2 + 0 ≤ _)⟩)
        dsimp only [Pt.U, Pt.locs, Pt.cells, Pt.slots] at X14 l14 y14 z14 st14 hQ14
        subst l14 y14 z14
        obtain ⟨rfl, N14q, e14⟩ := hQ14
        have N14 := Fr.app N13 N14q
        refine OwnFin.step (fun tT kK => st14.trans kK) ?_
        show OwnFin p e below _ (T14.setTop (mkF m 126 #[.val (.long tt_), .second, .val (.long m_), .second, .val (.int fl), .val (.int (0 : Int32)), .val (.int (((fl.toUInt32 >>> ((1 : Int32) &&& 31).toUInt32).toInt32) &&& (3 : Int32))), .val (.long (-1 : Int64)), .second, .val .null, .val (.ref b10), .val (.int (0 : Int32))] [(.int (if lcmpW (-1 : Int64) (-2 : Int64) = (0 : Int32) then 1 else 0))]))
        rw [show (if lcmpW (-1 : Int64) (-2 : Int64) = (0 : Int32) then (1 : Int32) else 0) = 0 from if_neg (by decide)]
        show OwnFin p e below _ (T14.setTop (mkF m 126 #[.val (.long tt_), .second, .val (.long m_), .second, .val (.int fl), .val (.int (0 : Int32)), .val (.int (((fl.toUInt32 >>> ((1 : Int32) &&& 31).toUInt32).toInt32) &&& (3 : Int32))), .val (.long (-1 : Int64)), .second, .val .null, .val (.ref b10), .val (.int (0 : Int32))] [(.int (0 : Int32))]))
        refine OwnFin.step (fun tT kK => XS.iload X14.here hx rfl (hb hby at_126) rfl kK) ?_
        show OwnFin p e below _ (T14.setTop (mkF m 128 #[.val (.long tt_), .second, .val (.long m_), .second, .val (.int fl), .val (.int (0 : Int32)), .val (.int (((fl.toUInt32 >>> ((1 : Int32) &&& 31).toUInt32).toInt32) &&& (3 : Int32))), .val (.long (-1 : Int64)), .second, .val .null, .val (.ref b10), .val (.int (0 : Int32))] [(.int (0 : Int32)), (.int (0 : Int32))]))
        refine OwnFin.step (fun tT kK => XS.icmpNo X14.here hx rfl (hb hby at_128) rfl (teq (rfl : (0 : Int32) = (0 : Int32))).2 kK) ?_
        show OwnFin p e below _ (T14.setTop (mkF m 131 #[.val (.long tt_), .second, .val (.long m_), .second, .val (.int fl), .val (.int (0 : Int32)), .val (.int (((fl.toUInt32 >>> ((1 : Int32) &&& 31).toUInt32).toInt32) &&& (3 : Int32))), .val (.long (-1 : Int64)), .second, .val .null, .val (.ref b10), .val (.int (0 : Int32))] []))
        refine OwnFin.step (fun tT kK => XS.iconst X14.here hx rfl (hb hby at_131) kK) ?_
        show OwnFin p e below _ (T14.setTop (mkF m 132 #[.val (.long tt_), .second, .val (.long m_), .second, .val (.int fl), .val (.int (0 : Int32)), .val (.int (((fl.toUInt32 >>> ((1 : Int32) &&& 31).toUInt32).toInt32) &&& (3 : Int32))), .val (.long (-1 : Int64)), .second, .val .null, .val (.ref b10), .val (.int (0 : Int32))] [(.int (1 : Int32))]))
        refine OwnFin.step (fun tT kK => XS.goto X14.here hx rfl (pc0 := 132) (pc' := 136) rfl (hb hby at_132) (by decide) (by decide) kK) ?_
        show OwnFin p e below _ (T14.setTop (mkF m 136 #[.val (.long tt_), .second, .val (.long m_), .second, .val (.int fl), .val (.int (0 : Int32)), .val (.int (((fl.toUInt32 >>> ((1 : Int32) &&& 31).toUInt32).toInt32) &&& (3 : Int32))), .val (.long (-1 : Int64)), .second, .val .null, .val (.ref b10), .val (.int (0 : Int32))] [(.int (1 : Int32))]))
        obtain ⟨fs15, hr15, hrun15, hended15, hW15, hsame15⟩ := X14.leave (v := (some (.int (1 : Int32)))) (fun h => by rw [Bd.returns] at h; cases h)
        refine ⟨_, _, retN X14 hx (t := .boolean) Bd.returns (by simp) (hb hby at_136) hr15, hrun15, hended15, _, _, rfl, ?_, ⟨_, rfl⟩, hW15, hsame15.mono (by decide) (by decide)⟩
        show Q0 Z tt_ m_ fl ca cl h0 n0 _ T14.heap _
        rw [e14]
        exact ⟨rfl, N14, (((Keep.refl h0 []).ext E10).trans K13 (allS (P := fun x => x ∈ [] ∨ h0.size ≤ x) (Or.inr (Nat.le_trans (Nat.le_refl _) (Nat.le_of_eq g10.symm))) all0))⟩
      · skip
        refine OwnFin.step (fun tT kK => XS.icmpYes X0.here hx rfl (pc0 := 38) (pc' := 49) rfl (hb hby at_38) rfl (feq (hc9 : ¬ ((((fl.toUInt32 >>> ((1 : Int32) &&& 31).toUInt32).toInt32) &&& (3 : Int32)) = (1 : Int32)))).2 (by decide) (by decide) kK) ?_
        show OwnFin p e below _ (s₁.setTop (mkF m 49 #[.val (.long tt_), .second, .val (.long m_), .second, .val (.int fl), .val (.int (0 : Int32)), .val (.int (((fl.toUInt32 >>> ((1 : Int32) &&& 31).toUInt32).toInt32) &&& (3 : Int32))), .unset, .unset, .unset, .unset, .unset] []))
        refine OwnFin.step (fun tT kK => XS.iload X0.here hx rfl (hb hby at_49) rfl kK) ?_
        show OwnFin p e below _ (s₁.setTop (mkF m 51 #[.val (.long tt_), .second, .val (.long m_), .second, .val (.int fl), .val (.int (0 : Int32)), .val (.int (((fl.toUInt32 >>> ((1 : Int32) &&& 31).toUInt32).toInt32) &&& (3 : Int32))), .unset, .unset, .unset, .unset, .unset] [(.int (((fl.toUInt32 >>> ((1 : Int32) &&& 31).toUInt32).toInt32) &&& (3 : Int32)))]))
        refine OwnFin.step (fun tT kK => XS.iconst X0.here hx rfl (hb hby at_51) kK) ?_
        show OwnFin p e below _ (s₁.setTop (mkF m 52 #[.val (.long tt_), .second, .val (.long m_), .second, .val (.int fl), .val (.int (0 : Int32)), .val (.int (((fl.toUInt32 >>> ((1 : Int32) &&& 31).toUInt32).toInt32) &&& (3 : Int32))), .unset, .unset, .unset, .unset, .unset] [(.int (2 : Int32)), (.int (((fl.toUInt32 >>> ((1 : Int32) &&& 31).toUInt32).toInt32) &&& (3 : Int32)))]))
        by_cases hc16 : (((fl.toUInt32 >>> ((1 : Int32) &&& 31).toUInt32).toInt32) &&& (3 : Int32)) = (2 : Int32)
        · skip
          refine OwnFin.step (fun tT kK => XS.icmpNo X0.here hx rfl (hb hby at_52) rfl (teq (hc16 : (((fl.toUInt32 >>> ((1 : Int32) &&& 31).toUInt32).toInt32) &&& (3 : Int32)) = (2 : Int32))).2 kK) ?_
          show OwnFin p e below _ (s₁.setTop (mkF m 55 #[.val (.long tt_), .second, .val (.long m_), .second, .val (.int fl), .val (.int (0 : Int32)), .val (.int (((fl.toUInt32 >>> ((1 : Int32) &&& 31).toUInt32).toInt32) &&& (3 : Int32))), .unset, .unset, .unset, .unset, .unset] []))
          refine OwnFin.step (fun tT kK => X0.ldc2J hx hown (mvT hZ (hw _ (List.mem_of_getElem? (i := 49) rfl))) (g := (mkF m 55 #[.val (.long tt_), .second, .val (.long m_), .second, .val (.int fl), .val (.int (0 : Int32)), .val (.int (((fl.toUInt32 >>> ((1 : Int32) &&& 31).toUInt32).toInt32) &&& (3 : Int32))), .unset, .unset, .unset, .unset, .unset] [])) rfl (hb hby at_55) kK) ?_
          show OwnFin p e below _ (s₁.setTop (mkF m 58 #[.val (.long tt_), .second, .val (.long m_), .second, .val (.int fl), .val (.int (0 : Int32)), .val (.int (((fl.toUInt32 >>> ((1 : Int32) &&& 31).toUInt32).toInt32) &&& (3 : Int32))), .unset, .unset, .unset, .unset, .unset] [(.long (-3 : Int64))]))
          refine OwnFin.step (fun tT kK => XS.lstore X0.here hx rfl (hb hby at_58) rfl (l' := #[.val (.long tt_), .second, .val (.long m_), .second, .val (.int fl), .val (.int (0 : Int32)), .val (.int (((fl.toUInt32 >>> ((1 : Int32) &&& 31).toUInt32).toInt32) &&& (3 : Int32))), .val (.long (-3 : Int64)), .second, .unset, .unset, .unset]) rfl kK) ?_
          show OwnFin p e below _ (s₁.setTop (mkF m 60 #[.val (.long tt_), .second, .val (.long m_), .second, .val (.int fl), .val (.int (0 : Int32)), .val (.int (((fl.toUInt32 >>> ((1 : Int32) &&& 31).toUInt32).toInt32) &&& (3 : Int32))), .val (.long (-3 : Int64)), .second, .unset, .unset, .unset] []))
          refine OwnFin.step (fun tT kK => XS.goto X0.here hx rfl (pc0 := 60) (pc' := 66) rfl (hb hby at_60) (by decide) (by decide) kK) ?_
          show OwnFin p e below _ (s₁.setTop (mkF m 66 #[.val (.long tt_), .second, .val (.long m_), .second, .val (.int fl), .val (.int (0 : Int32)), .val (.int (((fl.toUInt32 >>> ((1 : Int32) &&& 31).toUInt32).toInt32) &&& (3 : Int32))), .val (.long (-3 : Int64)), .second, .unset, .unset, .unset] []))
          refine OwnFin.step (fun tT kK => XS.iload X0.here hx rfl (hb hby at_66) rfl kK) ?_
          show OwnFin p e below _ (s₁.setTop (mkF m 68 #[.val (.long tt_), .second, .val (.long m_), .second, .val (.int fl), .val (.int (0 : Int32)), .val (.int (((fl.toUInt32 >>> ((1 : Int32) &&& 31).toUInt32).toInt32) &&& (3 : Int32))), .val (.long (-3 : Int64)), .second, .unset, .unset, .unset] [(.int (0 : Int32))]))
          refine OwnFin.step (fun tT kK => XS.ifYes X0.here hx rfl (pc0 := 68) (pc' := 78) rfl (hb hby at_68) rfl ((if0 _ _).trans (teq (rfl : (0 : Int32) = (0 : Int32))).1) (by decide) (by decide) kK) ?_
          show OwnFin p e below _ (s₁.setTop (mkF m 78 #[.val (.long tt_), .second, .val (.long m_), .second, .val (.int fl), .val (.int (0 : Int32)), .val (.int (((fl.toUInt32 >>> ((1 : Int32) &&& 31).toUInt32).toInt32) &&& (3 : Int32))), .val (.long (-3 : Int64)), .second, .unset, .unset, .unset] []))
          refine OwnFin.step (fun tT kK => XS.aconstNull X0.here hx rfl (hb hby at_78) kK) ?_
          show OwnFin p e below _ (s₁.setTop (mkF m 79 #[.val (.long tt_), .second, .val (.long m_), .second, .val (.int fl), .val (.int (0 : Int32)), .val (.int (((fl.toUInt32 >>> ((1 : Int32) &&& 31).toUInt32).toInt32) &&& (3 : Int32))), .val (.long (-3 : Int64)), .second, .unset, .unset, .unset] [.null]))
          refine OwnFin.step (fun tT kK => XS.astore X0.here hx rfl (hb hby at_79) rfl rfl (l' := #[.val (.long tt_), .second, .val (.long m_), .second, .val (.int fl), .val (.int (0 : Int32)), .val (.int (((fl.toUInt32 >>> ((1 : Int32) &&& 31).toUInt32).toInt32) &&& (3 : Int32))), .val (.long (-3 : Int64)), .second, .val .null, .unset, .unset]) rfl kK) ?_
          show OwnFin p e below _ (s₁.setTop (mkF m 81 #[.val (.long tt_), .second, .val (.long m_), .second, .val (.int fl), .val (.int (0 : Int32)), .val (.int (((fl.toUInt32 >>> ((1 : Int32) &&& 31).toUInt32).toInt32) &&& (3 : Int32))), .val (.long (-3 : Int64)), .second, .val .null, .unset, .unset] []))
          obtain ⟨T17, h17, X17, e17, E17, A17, D17, -, st17⟩ := newO X0 hx hZ hown (hw _ (List.mem_of_getElem? (i := 1) rfl)) (hw _ (List.mem_of_getElem? (i := 2) rfl)) (hw _ (List.mem_of_getElem? (i := 3) rfl)) e0 (g := (mkF m 81 #[.val (.long tt_), .second, .val (.long m_), .second, .val (.int fl), .val (.int (0 : Int32)), .val (.int (((fl.toUInt32 >>> ((1 : Int32) &&& 31).toUInt32).toInt32) &&& (3 : Int32))), .val (.long (-3 : Int64)), .second, .val .null, .unset, .unset] [])) rfl (hb hby at_81) (by decide) (by decide)
          obtain ⟨b17, g17⟩ : ∃ z, z = h0.size := ⟨_, rfl⟩
          rw [← g17] at A17 D17 st17
          refine OwnFin.step st17 ?_
          have Fz18 : Fld Z h17 b17 "com/example/limpet/limpet/TakeReply" "token" "Ljava/lang/Long;" .null := D17 (Or.inr (hw _ (List.mem_of_getElem? (i := 16) rfl))) (ty := (.object "java/lang/Long")) (by decide)
          have Fz19 : Fld Z h17 b17 "com/example/limpet/limpet/TakeReply" "toldMillis" "J" (.long (0 : Int64)) := D17 (Or.inr (hw _ (List.mem_of_getElem? (i := 18) rfl))) (ty := .long) (by decide)
          show OwnFin p e below _ (T17.setTop (mkF m 84 #[.val (.long tt_), .second, .val (.long m_), .second, .val (.int fl), .val (.int (0 : Int32)), .val (.int (((fl.toUInt32 >>> ((1 : Int32) &&& 31).toUInt32).toInt32) &&& (3 : Int32))), .val (.long (-3 : Int64)), .second, .val .null, .unset, .unset] [(.ref b17)]))
          refine OwnFin.step (fun tT kK => XS.dup X17.here hx rfl (hb hby at_84) rfl rfl kK) ?_
          show OwnFin p e below _ (T17.setTop (mkF m 85 #[.val (.long tt_), .second, .val (.long m_), .second, .val (.int fl), .val (.int (0 : Int32)), .val (.int (((fl.toUInt32 >>> ((1 : Int32) &&& 31).toUInt32).toInt32) &&& (3 : Int32))), .val (.long (-3 : Int64)), .second, .val .null, .unset, .unset] [(.ref b17), (.ref b17)]))
          refine OwnFin.step (fun tT kK => XS.aload X17.here hx rfl (hb hby at_85) rfl rfl kK) ?_
          show OwnFin p e below _ (T17.setTop (mkF m 87 #[.val (.long tt_), .second, .val (.long m_), .second, .val (.int fl), .val (.int (0 : Int32)), .val (.int (((fl.toUInt32 >>> ((1 : Int32) &&& 31).toUInt32).toInt32) &&& (3 : Int32))), .val (.long (-3 : Int64)), .second, .val .null, .unset, .unset] [.null, (.ref b17), (.ref b17)]))
          refine OwnFin.step (fun tT kK => XS.lload X17.here hx rfl (hb hby at_87) rfl kK) ?_
          show OwnFin p e below _ (T17.setTop (mkF m 89 #[.val (.long tt_), .second, .val (.long m_), .second, .val (.int fl), .val (.int (0 : Int32)), .val (.int (((fl.toUInt32 >>> ((1 : Int32) &&& 31).toUInt32).toInt32) &&& (3 : Int32))), .val (.long (-3 : Int64)), .second, .val .null, .unset, .unset] [(.long (-3 : Int64)), .null, (.ref b17), (.ref b17)]))
          obtain ⟨_, _, ⟨T20, L20, k20, n20⟩, -, X20, ⟨Lc20, hQ20, l20, y20, z20⟩, st20⟩ := X17.specialBack hx (y := (⟨"com/example/limpet/limpet/TakeReply", "<init>", "(Ljava/lang/Long;J)V"⟩ : MethodName)) rfl hown (mvT hZ (hw _ (List.mem_of_getElem? (i := 4) rfl))) (mvT hZ (hw _ (List.mem_of_getElem? (i := 5) rfl))) (mvT hZ (hw _ (List.mem_of_getElem? (i := 6) rfl))) (by decide) (backOf (W := 1) (rm5N l Z a0 hw [] b17 (-3 : Int64) h17 n0 (Nat.le_trans Z0 E17.1) A17 Fz18 Fz19 (Nat.le_trans Z0 (Nat.le_of_eq g17.symm))) hZ (hw _ (List.mem_of_getElem? (i := 6) rfl)) (hw _ (List.mem_of_getElem? (i := 3) rfl)) (by decide) (by decide)) (g := (mkF m 89 #[.val (.long tt_), .second, .val (.long m_), .second, .val (.int fl), .val (.int (0 : Int32)), .val (.int (((fl.toUInt32 >>> ((1 : Int32) &&& 31).toUInt32).toInt32) &&& (3 : Int32))), .val (.long (-3 : Int64)), .second, .val .null, .unset, .unset] [(.long (-3 : Int64)), .null, (.ref b17), (.ref b17)])) rfl (by rw [hml]; rfl) (Steps.refl _) (a := b17) (argsL := [.null, (.long (-3 : Int64))]) (rest := [(.ref b17)]) (lenOf pd_62 rfl) rfl (by show 2 * 0 + _ ≤ _; exact Nat.le_of_eq rfl) (hb hby at_89) (fun _ _ => ⟨rfl, e17, (by decide : 1 + 0 ≤ _), (by decide : 2 + 0 ≤ _)⟩)
          dsimp only [Pt.U, Pt.locs, Pt.cells, Pt.slots] at X20 l20 y20 z20 st20 hQ20
          subst l20 y20 z20
          obtain ⟨rfl, N20q, K20, P20_0, P20_1, P20_2⟩ := hQ20
          have N20 := Fr.app N0 N20q
          refine OwnFin.step (fun tT kK => st20.trans kK) ?_
          show OwnFin p e below _ (T20.setTop (mkF m 92 #[.val (.long tt_), .second, .val (.long m_), .second, .val (.int fl), .val (.int (0 : Int32)), .val (.int (((fl.toUInt32 >>> ((1 : Int32) &&& 31).toUInt32).toInt32) &&& (3 : Int32))), .val (.long (-3 : Int64)), .second, .val .null, .unset, .unset] [(.ref b17)]))
          refine OwnFin.step (fun tT kK => XS.astore X20.here hx rfl (hb hby at_92) rfl rfl (l' := #[.val (.long tt_), .second, .val (.long m_), .second, .val (.int fl), .val (.int (0 : Int32)), .val (.int (((fl.toUInt32 >>> ((1 : Int32) &&& 31).toUInt32).toInt32) &&& (3 : Int32))), .val (.long (-3 : Int64)), .second, .val .null, .val (.ref b17), .unset]) rfl kK) ?_
          show OwnFin p e below _ (T20.setTop (mkF m 94 #[.val (.long tt_), .second, .val (.long m_), .second, .val (.int fl), .val (.int (0 : Int32)), .val (.int (((fl.toUInt32 >>> ((1 : Int32) &&& 31).toUInt32).toInt32) &&& (3 : Int32))), .val (.long (-3 : Int64)), .second, .val .null, .val (.ref b17), .unset] []))
          refine OwnFin.step (fun tT kK => XS.iload X20.here hx rfl (hb hby at_94) rfl kK) ?_
          show OwnFin p e below _ (T20.setTop (mkF m 96 #[.val (.long tt_), .second, .val (.long m_), .second, .val (.int fl), .val (.int (0 : Int32)), .val (.int (((fl.toUInt32 >>> ((1 : Int32) &&& 31).toUInt32).toInt32) &&& (3 : Int32))), .val (.long (-3 : Int64)), .second, .val .null, .val (.ref b17), .unset] [(.int (0 : Int32))]))
          refine OwnFin.step (fun tT kK => XS.ifYes X20.here hx rfl (pc0 := 96) (pc' := 105) rfl (hb hby at_96) rfl ((if0 _ _).trans (teq (rfl : (0 : Int32) = (0 : Int32))).1) (by decide) (by decide) kK) ?_
          show OwnFin p e below _ (T20.setTop (mkF m 105 #[.val (.long tt_), .second, .val (.long m_), .second, .val (.int fl), .val (.int (0 : Int32)), .val (.int (((fl.toUInt32 >>> ((1 : Int32) &&& 31).toUInt32).toInt32) &&& (3 : Int32))), .val (.long (-3 : Int64)), .second, .val .null, .val (.ref b17), .unset] []))
          refine OwnFin.step (fun tT kK => XS.lload X20.here hx rfl (hb hby at_105) rfl kK) ?_
          show OwnFin p e below _ (T20.setTop (mkF m 107 #[.val (.long tt_), .second, .val (.long m_), .second, .val (.int fl), .val (.int (0 : Int32)), .val (.int (((fl.toUInt32 >>> ((1 : Int32) &&& 31).toUInt32).toInt32) &&& (3 : Int32))), .val (.long (-3 : Int64)), .second, .val .null, .val (.ref b17), .unset] [(.long (-3 : Int64))]))
          refine OwnFin.step (fun tT kK => X20.ldc2J hx hown (mvT hZ (hw _ (List.mem_of_getElem? (i := 0) rfl))) (g := (mkF m 107 #[.val (.long tt_), .second, .val (.long m_), .second, .val (.int fl), .val (.int (0 : Int32)), .val (.int (((fl.toUInt32 >>> ((1 : Int32) &&& 31).toUInt32).toInt32) &&& (3 : Int32))), .val (.long (-3 : Int64)), .second, .val .null, .val (.ref b17), .unset] [(.long (-3 : Int64))])) rfl (hb hby at_107) kK) ?_
          show OwnFin p e below _ (T20.setTop (mkF m 110 #[.val (.long tt_), .second, .val (.long m_), .second, .val (.int fl), .val (.int (0 : Int32)), .val (.int (((fl.toUInt32 >>> ((1 : Int32) &&& 31).toUInt32).toInt32) &&& (3 : Int32))), .val (.long (-3 : Int64)), .second, .val .null, .val (.ref b17), .unset] [(.long (-2 : Int64)), (.long (-3 : Int64))]))
          refine OwnFin.step (fun tT kK => XS.lcmp X20.here hx rfl (hb hby at_110) rfl kK) ?_
          show OwnFin p e below _ (T20.setTop (mkF m 111 #[.val (.long tt_), .second, .val (.long m_), .second, .val (.int fl), .val (.int (0 : Int32)), .val (.int (((fl.toUInt32 >>> ((1 : Int32) &&& 31).toUInt32).toInt32) &&& (3 : Int32))), .val (.long (-3 : Int64)), .second, .val .null, .val (.ref b17), .unset] [(.int (lcmpW (-3 : Int64) (-2 : Int64)))]))
          refine OwnFin.step (fun tT kK => XS.ifYes X20.here hx rfl (pc0 := 111) (pc' := 118) rfl (hb hby at_111) rfl ((if0 _ _).trans (feq (by decide : ¬ ((lcmpW (-3 : Int64) (-2 : Int64)) = (0 : Int32)))).2) (by decide) (by decide) kK) ?_
          show OwnFin p e below _ (T20.setTop (mkF m 118 #[.val (.long tt_), .second, .val (.long m_), .second, .val (.int fl), .val (.int (0 : Int32)), .val (.int (((fl.toUInt32 >>> ((1 : Int32) &&& 31).toUInt32).toInt32) &&& (3 : Int32))), .val (.long (-3 : Int64)), .second, .val .null, .val (.ref b17), .unset] []))
          refine OwnFin.step (fun tT kK => XS.iconst X20.here hx rfl (hb hby at_118) kK) ?_
          show OwnFin p e below _ (T20.setTop (mkF m 119 #[.val (.long tt_), .second, .val (.long m_), .second, .val (.int fl), .val (.int (0 : Int32)), .val (.int (((fl.toUInt32 >>> ((1 : Int32) &&& 31).toUInt32).toInt32) &&& (3 : Int32))), .val (.long (-3 : Int64)), .second, .val .null, .val (.ref b17), .unset] [(.int (0 : Int32))]))
          refine OwnFin.step (fun tT kK => XS.istore X20.here hx rfl (hb hby at_119) rfl (l' := #[.val (.long tt_), .second, .val (.long m_), .second, .val (.int fl), .val (.int (0 : Int32)), .val (.int (((fl.toUInt32 >>> ((1 : Int32) &&& 31).toUInt32).toInt32) &&& (3 : Int32))), .val (.long (-3 : Int64)), .second, .val .null, .val (.ref b17), .val (.int (0 : Int32))]) rfl kK) ?_
          show OwnFin p e below _ (T20.setTop (mkF m 121 #[.val (.long tt_), .second, .val (.long m_), .second, .val (.int fl), .val (.int (0 : Int32)), .val (.int (((fl.toUInt32 >>> ((1 : Int32) &&& 31).toUInt32).toInt32) &&& (3 : Int32))), .val (.long (-3 : Int64)), .second, .val .null, .val (.ref b17), .val (.int (0 : Int32))] []))
          refine OwnFin.step (fun tT kK => XS.aload X20.here hx rfl (hb hby at_121) rfl rfl kK) ?_
          show OwnFin p e below _ (T20.setTop (mkF m 123 #[.val (.long tt_), .second, .val (.long m_), .second, .val (.int fl), .val (.int (0 : Int32)), .val (.int (((fl.toUInt32 >>> ((1 : Int32) &&& 31).toUInt32).toInt32) &&& (3 : Int32))), .val (.long (-3 : Int64)), .second, .val .null, .val (.ref b17), .val (.int (0 : Int32))] [(.ref b17)]))
          obtain ⟨cq21, kq21, q21a, q21b, q21c⟩ := isOf hZ rfl P20_0
          obtain ⟨_, _, ⟨T21, L21, k21, n21⟩, -, X21, ⟨Lc21, hQ21, l21, y21, z21⟩, st21⟩ := X20.virtualBack hx (y := (⟨"com/example/limpet/limpet/TakeReply", "gone", "()Z"⟩ : MethodName)) (z := (⟨"com/example/limpet/limpet/TakeReply", "gone", "()Z"⟩ : MethodName)) hown (mvT hZ (hw _ (List.mem_of_getElem? (i := 19) rfl))) (mvT hZ (hw _ (List.mem_of_getElem? (i := 20) rfl))) (notFace_of_selects (args := #[]) (mvT hZ (hw _ (List.mem_of_getElem? (i := 22) rfl)))) (mvT hZ (hw _ (List.mem_of_getElem? (i := 22) rfl))) (mvT hZ (hw _ (List.mem_of_getElem? (i := 21) rfl))) (by decide) (backOf (W := 0) (rm6N l Z a0 hw [] b17 (-3 : Int64) T20.heap n0 (Nat.le_trans (Nat.le_trans Z0 E17.1) K20.1) P20_1 P20_2) hZ (hw _ (List.mem_of_getElem? (i := 23) rfl)) (hw _ (List.mem_of_getElem? (i := 3) rfl)) (by decide) (by decide)) q21a q21c (g := (mkF m 123 #[.val (.long tt_), .second, .val (.long m_), .second, .val (.int fl), .val (.int (0 : Int32)), .val (.int (((fl.toUInt32 >>> ((1 : Int32) &&& 31).toUInt32).toInt32) &&& (3 : Int32))), .val (.long (-3 : Int64)), .second, .val .null, .val (.ref b17), .val (.int (0 : Int32))] [(.ref b17)])) rfl (by rw [hml]; rfl) (Steps.refl _) (argsL := []) (rest := []) (lenOf pd_63 rfl) rfl (by show 2 * 0 + _ ≤ _; exact Nat.le_of_eq rfl) (hb hby at_123) (fun _ _ => ⟨rfl, rfl, (by decide : 1 + 0 ≤ _), (by decide : 2 + 0 ≤ _)⟩)
          dsimp only [Pt.U, Pt.locs, Pt.cells, Pt.slots] at X21 l21 y21 z21 st21 hQ21
          subst l21 y21 z21
          obtain ⟨rfl, N21q, e21⟩ := hQ21
          have N21 := Fr.app N20 N21q
          refine OwnFin.step (fun tT kK => st21.trans kK) ?_
          show OwnFin p e below _ (T21.setTop (mkF m 126 #[.val (.long tt_), .second, .val (.long m_), .second, .val (.int fl), .val (.int (0 : Int32)), .val (.int (((fl.toUInt32 >>> ((1 : Int32) &&& 31).toUInt32).toInt32) &&& (3 : Int32))), .val (.long (-3 : Int64)), .second, .val .null, .val (.ref b17), .val (.int (0 : Int32))] [(.int (if lcmpW (-3 : Int64) (-2 : Int64) = (0 : Int32) then 1 else 0))]))
          rw [show (if lcmpW (-3 : Int64) (-2 : Int64) = (0 : Int32) then (1 : Int32) else 0) = 0 from if_neg (by decide)]
          show OwnFin p e below _ (T21.setTop (mkF m 126 #[.val (.long tt_), .second, .val (.long m_), .second, .val (.int fl), .val (.int (0 : Int32)), .val (.int (((fl.toUInt32 >>> ((1 : Int32) &&& 31).toUInt32).toInt32) &&& (3 : Int32))), .val (.long (-3 : Int64)), .second, .val .null, .val (.ref b17), .val (.int (0 : Int32))] [(.int (0 : Int32))]))
          refine OwnFin.step (fun tT kK => XS.iload X21.here hx rfl (hb hby at_126) rfl kK) ?_
          show OwnFin p e below _ (T21.setTop (mkF m 128 #[.val (.long tt_), .second, .val (.long m_), .second, .val (.int fl), .val (.int (0 : Int32)), .val (.int (((fl.toUInt32 >>> ((1 : Int32) &&& 31).toUInt32).toInt32) &&& (3 : Int32))), .val (.long (-3 : Int64)), .second, .val .null, .val (.ref b17), .val (.int (0 : Int32))] [(.int (0 : Int32)), (.int (0 : Int32))]))
          refine OwnFin.step (fun tT kK => XS.icmpNo X21.here hx rfl (hb hby at_128) rfl (teq (rfl : (0 : Int32) = (0 : Int32))).2 kK) ?_
          show OwnFin p e below _ (T21.setTop (mkF m 131 #[.val (.long tt_), .second, .val (.long m_), .second, .val (.int fl), .val (.int (0 : Int32)), .val (.int (((fl.toUInt32 >>> ((1 : Int32) &&& 31).toUInt32).toInt32) &&& (3 : Int32))), .val (.long (-3 : Int64)), .second, .val .null, .val (.ref b17), .val (.int (0 : Int32))] []))
          refine OwnFin.step (fun tT kK => XS.iconst X21.here hx rfl (hb hby at_131) kK) ?_
          show OwnFin p e below _ (T21.setTop (mkF m 132 #[.val (.long tt_), .second, .val (.long m_), .second, .val (.int fl), .val (.int (0 : Int32)), .val (.int (((fl.toUInt32 >>> ((1 : Int32) &&& 31).toUInt32).toInt32) &&& (3 : Int32))), .val (.long (-3 : Int64)), .second, .val .null, .val (.ref b17), .val (.int (0 : Int32))] [(.int (1 : Int32))]))
          refine OwnFin.step (fun tT kK => XS.goto X21.here hx rfl (pc0 := 132) (pc' := 136) rfl (hb hby at_132) (by decide) (by decide) kK) ?_
          show OwnFin p e below _ (T21.setTop (mkF m 136 #[.val (.long tt_), .second, .val (.long m_), .second, .val (.int fl), .val (.int (0 : Int32)), .val (.int (((fl.toUInt32 >>> ((1 : Int32) &&& 31).toUInt32).toInt32) &&& (3 : Int32))), .val (.long (-3 : Int64)), .second, .val .null, .val (.ref b17), .val (.int (0 : Int32))] [(.int (1 : Int32))]))
          obtain ⟨fs22, hr22, hrun22, hended22, hW22, hsame22⟩ := X21.leave (v := (some (.int (1 : Int32)))) (fun h => by rw [Bd.returns] at h; cases h)
          refine ⟨_, _, retN X21 hx (t := .boolean) Bd.returns (by simp) (hb hby at_136) hr22, hrun22, hended22, _, _, rfl, ?_, ⟨_, rfl⟩, hW22, hsame22.mono (by decide) (by decide)⟩
          show Q0 Z tt_ m_ fl ca cl h0 n0 _ T21.heap _
          rw [e21]
          exact ⟨rfl, N21, (((Keep.refl h0 []).ext E17).trans K20 (allS (P := fun x => x ∈ [] ∨ h0.size ≤ x) (Or.inr (Nat.le_trans (Nat.le_refl _) (Nat.le_of_eq g17.symm))) all0))⟩
        · skip
          refine OwnFin.step (fun tT kK => XS.icmpYes X0.here hx rfl (pc0 := 52) (pc' := 63) rfl (hb hby at_52) rfl (feq (hc16 : ¬ ((((fl.toUInt32 >>> ((1 : Int32) &&& 31).toUInt32).toInt32) &&& (3 : Int32)) = (2 : Int32)))).2 (by decide) (by decide) kK) ?_
          show OwnFin p e below _ (s₁.setTop (mkF m 63 #[.val (.long tt_), .second, .val (.long m_), .second, .val (.int fl), .val (.int (0 : Int32)), .val (.int (((fl.toUInt32 >>> ((1 : Int32) &&& 31).toUInt32).toInt32) &&& (3 : Int32))), .unset, .unset, .unset, .unset, .unset] []))
          refine OwnFin.step (fun tT kK => XS.lloadN X0.here hx rfl (hb hby at_63) rfl kK) ?_
          show OwnFin p e below _ (s₁.setTop (mkF m 64 #[.val (.long tt_), .second, .val (.long m_), .second, .val (.int fl), .val (.int (0 : Int32)), .val (.int (((fl.toUInt32 >>> ((1 : Int32) &&& 31).toUInt32).toInt32) &&& (3 : Int32))), .unset, .unset, .unset, .unset, .unset] [(.long m_)]))
          refine OwnFin.step (fun tT kK => XS.lstore X0.here hx rfl (hb hby at_64) rfl (l' := #[.val (.long tt_), .second, .val (.long m_), .second, .val (.int fl), .val (.int (0 : Int32)), .val (.int (((fl.toUInt32 >>> ((1 : Int32) &&& 31).toUInt32).toInt32) &&& (3 : Int32))), .val (.long m_), .second, .unset, .unset, .unset]) rfl kK) ?_
          show OwnFin p e below _ (s₁.setTop (mkF m 66 #[.val (.long tt_), .second, .val (.long m_), .second, .val (.int fl), .val (.int (0 : Int32)), .val (.int (((fl.toUInt32 >>> ((1 : Int32) &&& 31).toUInt32).toInt32) &&& (3 : Int32))), .val (.long m_), .second, .unset, .unset, .unset] []))
          refine OwnFin.step (fun tT kK => XS.iload X0.here hx rfl (hb hby at_66) rfl kK) ?_
          show OwnFin p e below _ (s₁.setTop (mkF m 68 #[.val (.long tt_), .second, .val (.long m_), .second, .val (.int fl), .val (.int (0 : Int32)), .val (.int (((fl.toUInt32 >>> ((1 : Int32) &&& 31).toUInt32).toInt32) &&& (3 : Int32))), .val (.long m_), .second, .unset, .unset, .unset] [(.int (0 : Int32))]))
          refine OwnFin.step (fun tT kK => XS.ifYes X0.here hx rfl (pc0 := 68) (pc' := 78) rfl (hb hby at_68) rfl ((if0 _ _).trans (teq (rfl : (0 : Int32) = (0 : Int32))).1) (by decide) (by decide) kK) ?_
          show OwnFin p e below _ (s₁.setTop (mkF m 78 #[.val (.long tt_), .second, .val (.long m_), .second, .val (.int fl), .val (.int (0 : Int32)), .val (.int (((fl.toUInt32 >>> ((1 : Int32) &&& 31).toUInt32).toInt32) &&& (3 : Int32))), .val (.long m_), .second, .unset, .unset, .unset] []))
          refine OwnFin.step (fun tT kK => XS.aconstNull X0.here hx rfl (hb hby at_78) kK) ?_
          show OwnFin p e below _ (s₁.setTop (mkF m 79 #[.val (.long tt_), .second, .val (.long m_), .second, .val (.int fl), .val (.int (0 : Int32)), .val (.int (((fl.toUInt32 >>> ((1 : Int32) &&& 31).toUInt32).toInt32) &&& (3 : Int32))), .val (.long m_), .second, .unset, .unset, .unset] [.null]))
          refine OwnFin.step (fun tT kK => XS.astore X0.here hx rfl (hb hby at_79) rfl rfl (l' := #[.val (.long tt_), .second, .val (.long m_), .second, .val (.int fl), .val (.int (0 : Int32)), .val (.int (((fl.toUInt32 >>> ((1 : Int32) &&& 31).toUInt32).toInt32) &&& (3 : Int32))), .val (.long m_), .second, .val .null, .unset, .unset]) rfl kK) ?_
          show OwnFin p e below _ (s₁.setTop (mkF m 81 #[.val (.long tt_), .second, .val (.long m_), .second, .val (.int fl), .val (.int (0 : Int32)), .val (.int (((fl.toUInt32 >>> ((1 : Int32) &&& 31).toUInt32).toInt32) &&& (3 : Int32))), .val (.long m_), .second, .val .null, .unset, .unset] []))
          obtain ⟨T23, h23, X23, e23, E23, A23, D23, -, st23⟩ := newO X0 hx hZ hown (hw _ (List.mem_of_getElem? (i := 1) rfl)) (hw _ (List.mem_of_getElem? (i := 2) rfl)) (hw _ (List.mem_of_getElem? (i := 3) rfl)) e0 (g := (mkF m 81 #[.val (.long tt_), .second, .val (.long m_), .second, .val (.int fl), .val (.int (0 : Int32)), .val (.int (((fl.toUInt32 >>> ((1 : Int32) &&& 31).toUInt32).toInt32) &&& (3 : Int32))), .val (.long m_), .second, .val .null, .unset, .unset] [])) rfl (hb hby at_81) (by decide) (by decide)
          obtain ⟨b23, g23⟩ : ∃ z, z = h0.size := ⟨_, rfl⟩
          rw [← g23] at A23 D23 st23
          refine OwnFin.step st23 ?_
          have Fz24 : Fld Z h23 b23 "com/example/limpet/limpet/TakeReply" "token" "Ljava/lang/Long;" .null := D23 (Or.inr (hw _ (List.mem_of_getElem? (i := 16) rfl))) (ty := (.object "java/lang/Long")) (by decide)
          have Fz25 : Fld Z h23 b23 "com/example/limpet/limpet/TakeReply" "toldMillis" "J" (.long (0 : Int64)) := D23 (Or.inr (hw _ (List.mem_of_getElem? (i := 18) rfl))) (ty := .long) (by decide)
          show OwnFin p e below _ (T23.setTop (mkF m 84 #[.val (.long tt_), .second, .val (.long m_), .second, .val (.int fl), .val (.int (0 : Int32)), .val (.int (((fl.toUInt32 >>> ((1 : Int32) &&& 31).toUInt32).toInt32) &&& (3 : Int32))), .val (.long m_), .second, .val .null, .unset, .unset] [(.ref b23)]))
          refine OwnFin.step (fun tT kK => XS.dup X23.here hx rfl (hb hby at_84) rfl rfl kK) ?_
          show OwnFin p e below _ (T23.setTop (mkF m 85 #[.val (.long tt_), .second, .val (.long m_), .second, .val (.int fl), .val (.int (0 : Int32)), .val (.int (((fl.toUInt32 >>> ((1 : Int32) &&& 31).toUInt32).toInt32) &&& (3 : Int32))), .val (.long m_), .second, .val .null, .unset, .unset] [(.ref b23), (.ref b23)]))
          refine OwnFin.step (fun tT kK => XS.aload X23.here hx rfl (hb hby at_85) rfl rfl kK) ?_
          show OwnFin p e below _ (T23.setTop (mkF m 87 #[.val (.long tt_), .second, .val (.long m_), .second, .val (.int fl), .val (.int (0 : Int32)), .val (.int (((fl.toUInt32 >>> ((1 : Int32) &&& 31).toUInt32).toInt32) &&& (3 : Int32))), .val (.long m_), .second, .val .null, .unset, .unset] [.null, (.ref b23), (.ref b23)]))
          refine OwnFin.step (fun tT kK => XS.lload X23.here hx rfl (hb hby at_87) rfl kK) ?_
          show OwnFin p e below _ (T23.setTop (mkF m 89 #[.val (.long tt_), .second, .val (.long m_), .second, .val (.int fl), .val (.int (0 : Int32)), .val (.int (((fl.toUInt32 >>> ((1 : Int32) &&& 31).toUInt32).toInt32) &&& (3 : Int32))), .val (.long m_), .second, .val .null, .unset, .unset] [(.long m_), .null, (.ref b23), (.ref b23)]))
          obtain ⟨_, _, ⟨T26, L26, k26, n26⟩, -, X26, ⟨Lc26, hQ26, l26, y26, z26⟩, st26⟩ := X23.specialBack hx (y := (⟨"com/example/limpet/limpet/TakeReply", "<init>", "(Ljava/lang/Long;J)V"⟩ : MethodName)) rfl hown (mvT hZ (hw _ (List.mem_of_getElem? (i := 4) rfl))) (mvT hZ (hw _ (List.mem_of_getElem? (i := 5) rfl))) (mvT hZ (hw _ (List.mem_of_getElem? (i := 6) rfl))) (by decide) (backOf (W := 1) (rm5N l Z a0 hw [] b23 m_ h23 n0 (Nat.le_trans Z0 E23.1) A23 Fz24 Fz25 (Nat.le_trans Z0 (Nat.le_of_eq g23.symm))) hZ (hw _ (List.mem_of_getElem? (i := 6) rfl)) (hw _ (List.mem_of_getElem? (i := 3) rfl)) (by decide) (by decide)) (g := (mkF m 89 #[.val (.long tt_), .second, .val (.long m_), .second, .val (.int fl), .val (.int (0 : Int32)), .val (.int (((fl.toUInt32 >>> ((1 : Int32) &&& 31).toUInt32).toInt32) &&& (3 : Int32))), .val (.long m_), .second, .val .null, .unset, .unset] [(.long m_), .null, (.ref b23), (.ref b23)])) rfl (by rw [hml]; rfl) (Steps.refl _) (a := b23) (argsL := [.null, (.long m_)]) (rest := [(.ref b23)]) (lenOf pd_62 rfl) rfl (by show 2 * 0 + _ ≤ _; exact Nat.le_of_eq rfl) (hb hby at_89) (fun _ _ => ⟨rfl, e23, (by decide : 1 + 0 ≤ _), (by decide : 2 + 0 ≤ _)⟩)
          dsimp only [Pt.U, Pt.locs, Pt.cells, Pt.slots] at X26 l26 y26 z26 st26 hQ26
          subst l26 y26 z26
          obtain ⟨rfl, N26q, K26, P26_0, P26_1, P26_2⟩ := hQ26
          have N26 := Fr.app N0 N26q
          refine OwnFin.step (fun tT kK => st26.trans kK) ?_
          show OwnFin p e below _ (T26.setTop (mkF m 92 #[.val (.long tt_), .second, .val (.long m_), .second, .val (.int fl), .val (.int (0 : Int32)), .val (.int (((fl.toUInt32 >>> ((1 : Int32) &&& 31).toUInt32).toInt32) &&& (3 : Int32))), .val (.long m_), .second, .val .null, .unset, .unset] [(.ref b23)]))
          refine OwnFin.step (fun tT kK => XS.astore X26.here hx rfl (hb hby at_92) rfl rfl (l' := #[.val (.long tt_), .second, .val (.long m_), .second, .val (.int fl), .val (.int (0 : Int32)), .val (.int (((fl.toUInt32 >>> ((1 : Int32) &&& 31).toUInt32).toInt32) &&& (3 : Int32))), .val (.long m_), .second, .val .null, .val (.ref b23), .unset]) rfl kK) ?_
          show OwnFin p e below _ (T26.setTop (mkF m 94 #[.val (.long tt_), .second, .val (.long m_), .second, .val (.int fl), .val (.int (0 : Int32)), .val (.int (((fl.toUInt32 >>> ((1 : Int32) &&& 31).toUInt32).toInt32) &&& (3 : Int32))), .val (.long m_), .second, .val .null, .val (.ref b23), .unset] []))
          refine OwnFin.step (fun tT kK => XS.iload X26.here hx rfl (hb hby at_94) rfl kK) ?_
          show OwnFin p e below _ (T26.setTop (mkF m 96 #[.val (.long tt_), .second, .val (.long m_), .second, .val (.int fl), .val (.int (0 : Int32)), .val (.int (((fl.toUInt32 >>> ((1 : Int32) &&& 31).toUInt32).toInt32) &&& (3 : Int32))), .val (.long m_), .second, .val .null, .val (.ref b23), .unset] [(.int (0 : Int32))]))
          refine OwnFin.step (fun tT kK => XS.ifYes X26.here hx rfl (pc0 := 96) (pc' := 105) rfl (hb hby at_96) rfl ((if0 _ _).trans (teq (rfl : (0 : Int32) = (0 : Int32))).1) (by decide) (by decide) kK) ?_
          show OwnFin p e below _ (T26.setTop (mkF m 105 #[.val (.long tt_), .second, .val (.long m_), .second, .val (.int fl), .val (.int (0 : Int32)), .val (.int (((fl.toUInt32 >>> ((1 : Int32) &&& 31).toUInt32).toInt32) &&& (3 : Int32))), .val (.long m_), .second, .val .null, .val (.ref b23), .unset] []))
          refine OwnFin.step (fun tT kK => XS.lload X26.here hx rfl (hb hby at_105) rfl kK) ?_
          show OwnFin p e below _ (T26.setTop (mkF m 107 #[.val (.long tt_), .second, .val (.long m_), .second, .val (.int fl), .val (.int (0 : Int32)), .val (.int (((fl.toUInt32 >>> ((1 : Int32) &&& 31).toUInt32).toInt32) &&& (3 : Int32))), .val (.long m_), .second, .val .null, .val (.ref b23), .unset] [(.long m_)]))
          refine OwnFin.step (fun tT kK => X26.ldc2J hx hown (mvT hZ (hw _ (List.mem_of_getElem? (i := 0) rfl))) (g := (mkF m 107 #[.val (.long tt_), .second, .val (.long m_), .second, .val (.int fl), .val (.int (0 : Int32)), .val (.int (((fl.toUInt32 >>> ((1 : Int32) &&& 31).toUInt32).toInt32) &&& (3 : Int32))), .val (.long m_), .second, .val .null, .val (.ref b23), .unset] [(.long m_)])) rfl (hb hby at_107) kK) ?_
          show OwnFin p e below _ (T26.setTop (mkF m 110 #[.val (.long tt_), .second, .val (.long m_), .second, .val (.int fl), .val (.int (0 : Int32)), .val (.int (((fl.toUInt32 >>> ((1 : Int32) &&& 31).toUInt32).toInt32) &&& (3 : Int32))), .val (.long m_), .second, .val .null, .val (.ref b23), .unset] [(.long (-2 : Int64)), (.long m_)]))
          refine OwnFin.step (fun tT kK => XS.lcmp X26.here hx rfl (hb hby at_110) rfl kK) ?_
          show OwnFin p e below _ (T26.setTop (mkF m 111 #[.val (.long tt_), .second, .val (.long m_), .second, .val (.int fl), .val (.int (0 : Int32)), .val (.int (((fl.toUInt32 >>> ((1 : Int32) &&& 31).toUInt32).toInt32) &&& (3 : Int32))), .val (.long m_), .second, .val .null, .val (.ref b23), .unset] [(.int (lcmpW m_ (-2 : Int64)))]))
          by_cases hc27 : (lcmpW m_ (-2 : Int64)) = (0 : Int32)
          · skip
            refine OwnFin.step (fun tT kK => XS.ifNo X26.here hx rfl (hb hby at_111) rfl ((if0 _ _).trans (teq (hc27 : (lcmpW m_ (-2 : Int64)) = (0 : Int32))).2) kK) ?_
            show OwnFin p e below _ (T26.setTop (mkF m 114 #[.val (.long tt_), .second, .val (.long m_), .second, .val (.int fl), .val (.int (0 : Int32)), .val (.int (((fl.toUInt32 >>> ((1 : Int32) &&& 31).toUInt32).toInt32) &&& (3 : Int32))), .val (.long m_), .second, .val .null, .val (.ref b23), .unset] []))
            refine OwnFin.step (fun tT kK => XS.iconst X26.here hx rfl (hb hby at_114) kK) ?_
            show OwnFin p e below _ (T26.setTop (mkF m 115 #[.val (.long tt_), .second, .val (.long m_), .second, .val (.int fl), .val (.int (0 : Int32)), .val (.int (((fl.toUInt32 >>> ((1 : Int32) &&& 31).toUInt32).toInt32) &&& (3 : Int32))), .val (.long m_), .second, .val .null, .val (.ref b23), .unset] [(.int (1 : Int32))]))
            refine OwnFin.step (fun tT kK => XS.goto X26.here hx rfl (pc0 := 115) (pc' := 119) rfl (hb hby at_115) (by decide) (by decide) kK) ?_
            show OwnFin p e below _ (T26.setTop (mkF m 119 #[.val (.long tt_), .second, .val (.long m_), .second, .val (.int fl), .val (.int (0 : Int32)), .val (.int (((fl.toUInt32 >>> ((1 : Int32) &&& 31).toUInt32).toInt32) &&& (3 : Int32))), .val (.long m_), .second, .val .null, .val (.ref b23), .unset] [(.int (1 : Int32))]))
            refine OwnFin.step (fun tT kK => XS.istore X26.here hx rfl (hb hby at_119) rfl (l' := #[.val (.long tt_), .second, .val (.long m_), .second, .val (.int fl), .val (.int (0 : Int32)), .val (.int (((fl.toUInt32 >>> ((1 : Int32) &&& 31).toUInt32).toInt32) &&& (3 : Int32))), .val (.long m_), .second, .val .null, .val (.ref b23), .val (.int (1 : Int32))]) rfl kK) ?_
            show OwnFin p e below _ (T26.setTop (mkF m 121 #[.val (.long tt_), .second, .val (.long m_), .second, .val (.int fl), .val (.int (0 : Int32)), .val (.int (((fl.toUInt32 >>> ((1 : Int32) &&& 31).toUInt32).toInt32) &&& (3 : Int32))), .val (.long m_), .second, .val .null, .val (.ref b23), .val (.int (1 : Int32))] []))
            refine OwnFin.step (fun tT kK => XS.aload X26.here hx rfl (hb hby at_121) rfl rfl kK) ?_
            show OwnFin p e below _ (T26.setTop (mkF m 123 #[.val (.long tt_), .second, .val (.long m_), .second, .val (.int fl), .val (.int (0 : Int32)), .val (.int (((fl.toUInt32 >>> ((1 : Int32) &&& 31).toUInt32).toInt32) &&& (3 : Int32))), .val (.long m_), .second, .val .null, .val (.ref b23), .val (.int (1 : Int32))] [(.ref b23)]))
            obtain ⟨cq28, kq28, q28a, q28b, q28c⟩ := isOf hZ rfl P26_0
            obtain ⟨_, _, ⟨T28, L28, k28, n28⟩, -, X28, ⟨Lc28, hQ28, l28, y28, z28⟩, st28⟩ := X26.virtualBack hx (y := (⟨"com/example/limpet/limpet/TakeReply", "gone", "()Z"⟩ : MethodName)) (z := (⟨"com/example/limpet/limpet/TakeReply", "gone", "()Z"⟩ : MethodName)) hown (mvT hZ (hw _ (List.mem_of_getElem? (i := 19) rfl))) (mvT hZ (hw _ (List.mem_of_getElem? (i := 20) rfl))) (notFace_of_selects (args := #[]) (mvT hZ (hw _ (List.mem_of_getElem? (i := 22) rfl)))) (mvT hZ (hw _ (List.mem_of_getElem? (i := 22) rfl))) (mvT hZ (hw _ (List.mem_of_getElem? (i := 21) rfl))) (by decide) (backOf (W := 0) (rm6N l Z a0 hw [] b23 m_ T26.heap n0 (Nat.le_trans (Nat.le_trans Z0 E23.1) K26.1) P26_1 P26_2) hZ (hw _ (List.mem_of_getElem? (i := 23) rfl)) (hw _ (List.mem_of_getElem? (i := 3) rfl)) (by decide) (by decide)) q28a q28c (g := (mkF m 123 #[.val (.long tt_), .second, .val (.long m_), .second, .val (.int fl), .val (.int (0 : Int32)), .val (.int (((fl.toUInt32 >>> ((1 : Int32) &&& 31).toUInt32).toInt32) &&& (3 : Int32))), .val (.long m_), .second, .val .null, .val (.ref b23), .val (.int (1 : Int32))] [(.ref b23)])) rfl (by rw [hml]; rfl) (Steps.refl _) (argsL := []) (rest := []) (lenOf pd_63 rfl) rfl (by show 2 * 0 + _ ≤ _; exact Nat.le_of_eq rfl) (hb hby at_123) (fun _ _ => ⟨rfl, rfl, (by decide : 1 + 0 ≤ _), (by decide : 2 + 0 ≤ _)⟩)
            dsimp only [Pt.U, Pt.locs, Pt.cells, Pt.slots] at X28 l28 y28 z28 st28 hQ28
            subst l28 y28 z28
            obtain ⟨rfl, N28q, e28⟩ := hQ28
            have N28 := Fr.app N26 N28q
            refine OwnFin.step (fun tT kK => st28.trans kK) ?_
            show OwnFin p e below _ (T28.setTop (mkF m 126 #[.val (.long tt_), .second, .val (.long m_), .second, .val (.int fl), .val (.int (0 : Int32)), .val (.int (((fl.toUInt32 >>> ((1 : Int32) &&& 31).toUInt32).toInt32) &&& (3 : Int32))), .val (.long m_), .second, .val .null, .val (.ref b23), .val (.int (1 : Int32))] [(.int (if lcmpW m_ (-2 : Int64) = (0 : Int32) then 1 else 0))]))
            rw [show (if lcmpW m_ (-2 : Int64) = (0 : Int32) then (1 : Int32) else 0) = 1 from if_pos hc27]
            show OwnFin p e below _ (T28.setTop (mkF m 126 #[.val (.long tt_), .second, .val (.long m_), .second, .val (.int fl), .val (.int (0 : Int32)), .val (.int (((fl.toUInt32 >>> ((1 : Int32) &&& 31).toUInt32).toInt32) &&& (3 : Int32))), .val (.long m_), .second, .val .null, .val (.ref b23), .val (.int (1 : Int32))] [(.int (1 : Int32))]))
            refine OwnFin.step (fun tT kK => XS.iload X28.here hx rfl (hb hby at_126) rfl kK) ?_
            show OwnFin p e below _ (T28.setTop (mkF m 128 #[.val (.long tt_), .second, .val (.long m_), .second, .val (.int fl), .val (.int (0 : Int32)), .val (.int (((fl.toUInt32 >>> ((1 : Int32) &&& 31).toUInt32).toInt32) &&& (3 : Int32))), .val (.long m_), .second, .val .null, .val (.ref b23), .val (.int (1 : Int32))] [(.int (1 : Int32)), (.int (1 : Int32))]))
            refine OwnFin.step (fun tT kK => XS.icmpNo X28.here hx rfl (hb hby at_128) rfl (teq (rfl : (1 : Int32) = (1 : Int32))).2 kK) ?_
            show OwnFin p e below _ (T28.setTop (mkF m 131 #[.val (.long tt_), .second, .val (.long m_), .second, .val (.int fl), .val (.int (0 : Int32)), .val (.int (((fl.toUInt32 >>> ((1 : Int32) &&& 31).toUInt32).toInt32) &&& (3 : Int32))), .val (.long m_), .second, .val .null, .val (.ref b23), .val (.int (1 : Int32))] []))
            refine OwnFin.step (fun tT kK => XS.iconst X28.here hx rfl (hb hby at_131) kK) ?_
            show OwnFin p e below _ (T28.setTop (mkF m 132 #[.val (.long tt_), .second, .val (.long m_), .second, .val (.int fl), .val (.int (0 : Int32)), .val (.int (((fl.toUInt32 >>> ((1 : Int32) &&& 31).toUInt32).toInt32) &&& (3 : Int32))), .val (.long m_), .second, .val .null, .val (.ref b23), .val (.int (1 : Int32))] [(.int (1 : Int32))]))
            refine OwnFin.step (fun tT kK => XS.goto X28.here hx rfl (pc0 := 132) (pc' := 136) rfl (hb hby at_132) (by decide) (by decide) kK) ?_
            show OwnFin p e below _ (T28.setTop (mkF m 136 #[.val (.long tt_), .second, .val (.long m_), .second, .val (.int fl), .val (.int (0 : Int32)), .val (.int (((fl.toUInt32 >>> ((1 : Int32) &&& 31).toUInt32).toInt32) &&& (3 : Int32))), .val (.long m_), .second, .val .null, .val (.ref b23), .val (.int (1 : Int32))] [(.int (1 : Int32))]))
            obtain ⟨fs29, hr29, hrun29, hended29, hW29, hsame29⟩ := X28.leave (v := (some (.int (1 : Int32)))) (fun h => by rw [Bd.returns] at h; cases h)
            refine ⟨_, _, retN X28 hx (t := .boolean) Bd.returns (by simp) (hb hby at_136) hr29, hrun29, hended29, _, _, rfl, ?_, ⟨_, rfl⟩, hW29, hsame29.mono (by decide) (by decide)⟩
            show Q0 Z tt_ m_ fl ca cl h0 n0 _ T28.heap _
            rw [e28]
            exact ⟨rfl, N28, (((Keep.refl h0 []).ext E23).trans K26 (allS (P := fun x => x ∈ [] ∨ h0.size ≤ x) (Or.inr (Nat.le_trans (Nat.le_refl _) (Nat.le_of_eq g23.symm))) all0))⟩
          · skip
            refine OwnFin.step (fun tT kK => XS.ifYes X26.here hx rfl (pc0 := 111) (pc' := 118) rfl (hb hby at_111) rfl ((if0 _ _).trans (feq (hc27 : ¬ ((lcmpW m_ (-2 : Int64)) = (0 : Int32)))).2) (by decide) (by decide) kK) ?_
            show OwnFin p e below _ (T26.setTop (mkF m 118 #[.val (.long tt_), .second, .val (.long m_), .second, .val (.int fl), .val (.int (0 : Int32)), .val (.int (((fl.toUInt32 >>> ((1 : Int32) &&& 31).toUInt32).toInt32) &&& (3 : Int32))), .val (.long m_), .second, .val .null, .val (.ref b23), .unset] []))
            refine OwnFin.step (fun tT kK => XS.iconst X26.here hx rfl (hb hby at_118) kK) ?_
            show OwnFin p e below _ (T26.setTop (mkF m 119 #[.val (.long tt_), .second, .val (.long m_), .second, .val (.int fl), .val (.int (0 : Int32)), .val (.int (((fl.toUInt32 >>> ((1 : Int32) &&& 31).toUInt32).toInt32) &&& (3 : Int32))), .val (.long m_), .second, .val .null, .val (.ref b23), .unset] [(.int (0 : Int32))]))
            refine OwnFin.step (fun tT kK => XS.istore X26.here hx rfl (hb hby at_119) rfl (l' := #[.val (.long tt_), .second, .val (.long m_), .second, .val (.int fl), .val (.int (0 : Int32)), .val (.int (((fl.toUInt32 >>> ((1 : Int32) &&& 31).toUInt32).toInt32) &&& (3 : Int32))), .val (.long m_), .second, .val .null, .val (.ref b23), .val (.int (0 : Int32))]) rfl kK) ?_
            show OwnFin p e below _ (T26.setTop (mkF m 121 #[.val (.long tt_), .second, .val (.long m_), .second, .val (.int fl), .val (.int (0 : Int32)), .val (.int (((fl.toUInt32 >>> ((1 : Int32) &&& 31).toUInt32).toInt32) &&& (3 : Int32))), .val (.long m_), .second, .val .null, .val (.ref b23), .val (.int (0 : Int32))] []))
            refine OwnFin.step (fun tT kK => XS.aload X26.here hx rfl (hb hby at_121) rfl rfl kK) ?_
            show OwnFin p e below _ (T26.setTop (mkF m 123 #[.val (.long tt_), .second, .val (.long m_), .second, .val (.int fl), .val (.int (0 : Int32)), .val (.int (((fl.toUInt32 >>> ((1 : Int32) &&& 31).toUInt32).toInt32) &&& (3 : Int32))), .val (.long m_), .second, .val .null, .val (.ref b23), .val (.int (0 : Int32))] [(.ref b23)]))
            obtain ⟨cq30, kq30, q30a, q30b, q30c⟩ := isOf hZ rfl P26_0
            obtain ⟨_, _, ⟨T30, L30, k30, n30⟩, -, X30, ⟨Lc30, hQ30, l30, y30, z30⟩, st30⟩ := X26.virtualBack hx (y := (⟨"com/example/limpet/limpet/TakeReply", "gone", "()Z"⟩ : MethodName)) (z := (⟨"com/example/limpet/limpet/TakeReply", "gone", "()Z"⟩ : MethodName)) hown (mvT hZ (hw _ (List.mem_of_getElem? (i := 19) rfl))) (mvT hZ (hw _ (List.mem_of_getElem? (i := 20) rfl))) (notFace_of_selects (args := #[]) (mvT hZ (hw _ (List.mem_of_getElem? (i := 22) rfl)))) (mvT hZ (hw _ (List.mem_of_getElem? (i := 22) rfl))) (mvT hZ (hw _ (List.mem_of_getElem? (i := 21) rfl))) (by decide) (backOf (W := 0) (rm6N l Z a0 hw [] b23 m_ T26.heap n0 (Nat.le_trans (Nat.le_trans Z0 E23.1) K26.1) P26_1 P26_2) hZ (hw _ (List.mem_of_getElem? (i := 23) rfl)) (hw _ (List.mem_of_getElem? (i := 3) rfl)) (by decide) (by decide)) q30a q30c (g := (mkF m 123 #[.val (.long tt_), .second, .val (.long m_), .second, .val (.int fl), .val (.int (0 : Int32)), .val (.int (((fl.toUInt32 >>> ((1 : Int32) &&& 31).toUInt32).toInt32) &&& (3 : Int32))), .val (.long m_), .second, .val .null, .val (.ref b23), .val (.int (0 : Int32))] [(.ref b23)])) rfl (by rw [hml]; rfl) (Steps.refl _) (argsL := []) (rest := []) (lenOf pd_63 rfl) rfl (by show 2 * 0 + _ ≤ _; exact Nat.le_of_eq rfl) (hb hby at_123) (fun _ _ => ⟨rfl, rfl, (by decide : 1 + 0 ≤ _), (by decide : 2 + 0 ≤ _)⟩)
            dsimp only [Pt.U, Pt.locs, Pt.cells, Pt.slots] at X30 l30 y30 z30 st30 hQ30
            subst l30 y30 z30
            obtain ⟨rfl, N30q, e30⟩ := hQ30
            have N30 := Fr.app N26 N30q
            refine OwnFin.step (fun tT kK => st30.trans kK) ?_
            show OwnFin p e below _ (T30.setTop (mkF m 126 #[.val (.long tt_), .second, .val (.long m_), .second, .val (.int fl), .val (.int (0 : Int32)), .val (.int (((fl.toUInt32 >>> ((1 : Int32) &&& 31).toUInt32).toInt32) &&& (3 : Int32))), .val (.long m_), .second, .val .null, .val (.ref b23), .val (.int (0 : Int32))] [(.int (if lcmpW m_ (-2 : Int64) = (0 : Int32) then 1 else 0))]))
            rw [show (if lcmpW m_ (-2 : Int64) = (0 : Int32) then (1 : Int32) else 0) = 0 from if_neg hc27]
            show OwnFin p e below _ (T30.setTop (mkF m 126 #[.val (.long tt_), .second, .val (.long m_), .second, .val (.int fl), .val (.int (0 : Int32)), .val (.int (((fl.toUInt32 >>> ((1 : Int32) &&& 31).toUInt32).toInt32) &&& (3 : Int32))), .val (.long m_), .second, .val .null, .val (.ref b23), .val (.int (0 : Int32))] [(.int (0 : Int32))]))
            refine OwnFin.step (fun tT kK => XS.iload X30.here hx rfl (hb hby at_126) rfl kK) ?_
            show OwnFin p e below _ (T30.setTop (mkF m 128 #[.val (.long tt_), .second, .val (.long m_), .second, .val (.int fl), .val (.int (0 : Int32)), .val (.int (((fl.toUInt32 >>> ((1 : Int32) &&& 31).toUInt32).toInt32) &&& (3 : Int32))), .val (.long m_), .second, .val .null, .val (.ref b23), .val (.int (0 : Int32))] [(.int (0 : Int32)), (.int (0 : Int32))]))
            refine OwnFin.step (fun tT kK => XS.icmpNo X30.here hx rfl (hb hby at_128) rfl (teq (rfl : (0 : Int32) = (0 : Int32))).2 kK) ?_
            show OwnFin p e below _ (T30.setTop (mkF m 131 #[.val (.long tt_), .second, .val (.long m_), .second, .val (.int fl), .val (.int (0 : Int32)), .val (.int (((fl.toUInt32 >>> ((1 : Int32) &&& 31).toUInt32).toInt32) &&& (3 : Int32))), .val (.long m_), .second, .val .null, .val (.ref b23), .val (.int (0 : Int32))] []))
            refine OwnFin.step (fun tT kK => XS.iconst X30.here hx rfl (hb hby at_131) kK) ?_
            show OwnFin p e below _ (T30.setTop (mkF m 132 #[.val (.long tt_), .second, .val (.long m_), .second, .val (.int fl), .val (.int (0 : Int32)), .val (.int (((fl.toUInt32 >>> ((1 : Int32) &&& 31).toUInt32).toInt32) &&& (3 : Int32))), .val (.long m_), .second, .val .null, .val (.ref b23), .val (.int (0 : Int32))] [(.int (1 : Int32))]))
            refine OwnFin.step (fun tT kK => XS.goto X30.here hx rfl (pc0 := 132) (pc' := 136) rfl (hb hby at_132) (by decide) (by decide) kK) ?_
            show OwnFin p e below _ (T30.setTop (mkF m 136 #[.val (.long tt_), .second, .val (.long m_), .second, .val (.int fl), .val (.int (0 : Int32)), .val (.int (((fl.toUInt32 >>> ((1 : Int32) &&& 31).toUInt32).toInt32) &&& (3 : Int32))), .val (.long m_), .second, .val .null, .val (.ref b23), .val (.int (0 : Int32))] [(.int (1 : Int32))]))
            obtain ⟨fs31, hr31, hrun31, hended31, hW31, hsame31⟩ := X30.leave (v := (some (.int (1 : Int32)))) (fun h => by rw [Bd.returns] at h; cases h)
            refine ⟨_, _, retN X30 hx (t := .boolean) Bd.returns (by simp) (hb hby at_136) hr31, hrun31, hended31, _, _, rfl, ?_, ⟨_, rfl⟩, hW31, hsame31.mono (by decide) (by decide)⟩
            show Q0 Z tt_ m_ fl ca cl h0 n0 _ T30.heap _
            rw [e30]
            exact ⟨rfl, N30, (((Keep.refl h0 []).ext E23).trans K26 (allS (P := fun x => x ∈ [] ∨ h0.size ≤ x) (Or.inr (Nat.le_trans (Nat.le_refl _) (Nat.le_of_eq g23.symm))) all0))⟩
  · skip
    refine OwnFin.step (fun tT kK => XS.ifNo X0.here hx rfl (hb hby at_4) rfl ((if0 _ _).trans (feq (hc1 : ¬ ((fl &&& (1 : Int32)) = (0 : Int32)))).1) kK) ?_
    show OwnFin p e below _ (s₁.setTop (mkF m 7 #[.val (.long tt_), .second, .val (.long m_), .second, .val (.int fl), .unset, .unset, .unset, .unset, .unset, .unset, .unset] []))
    refine OwnFin.step (fun tT kK => XS.iconst X0.here hx rfl (hb hby at_7) kK) ?_
    show OwnFin p e below _ (s₁.setTop (mkF m 8 #[.val (.long tt_), .second, .val (.long m_), .second, .val (.int fl), .unset, .unset, .unset, .unset, .unset, .unset, .unset] [(.int (1 : Int32))]))
    refine OwnFin.step (fun tT kK => XS.goto X0.here hx rfl (pc0 := 8) (pc' := 12) rfl (hb hby at_8) (by decide) (by decide) kK) ?_
    show OwnFin p e below _ (s₁.setTop (mkF m 12 #[.val (.long tt_), .second, .val (.long m_), .second, .val (.int fl), .unset, .unset, .unset, .unset, .unset, .unset, .unset] [(.int (1 : Int32))]))
    refine OwnFin.step (fun tT kK => XS.istore X0.here hx rfl (hb hby at_12) rfl (l' := #[.val (.long tt_), .second, .val (.long m_), .second, .val (.int fl), .val (.int (1 : Int32)), .unset, .unset, .unset, .unset, .unset, .unset]) rfl kK) ?_
    show OwnFin p e below _ (s₁.setTop (mkF m 14 #[.val (.long tt_), .second, .val (.long m_), .second, .val (.int fl), .val (.int (1 : Int32)), .unset, .unset, .unset, .unset, .unset, .unset] []))
    refine OwnFin.step (fun tT kK => XS.iload X0.here hx rfl (hb hby at_14) rfl kK) ?_
    show OwnFin p e below _ (s₁.setTop (mkF m 16 #[.val (.long tt_), .second, .val (.long m_), .second, .val (.int fl), .val (.int (1 : Int32)), .unset, .unset, .unset, .unset, .unset, .unset] [(.int fl)]))
    refine OwnFin.step (fun tT kK => XS.iconst X0.here hx rfl (hb hby at_16) kK) ?_
    show OwnFin p e below _ (s₁.setTop (mkF m 17 #[.val (.long tt_), .second, .val (.long m_), .second, .val (.int fl), .val (.int (1 : Int32)), .unset, .unset, .unset, .unset, .unset, .unset] [(.int (1 : Int32)), (.int fl)]))
    refine OwnFin.step (fun tT kK => XS.iushr X0.here hx rfl (hb hby at_17) rfl kK) ?_
    show OwnFin p e below _ (s₁.setTop (mkF m 18 #[.val (.long tt_), .second, .val (.long m_), .second, .val (.int fl), .val (.int (1 : Int32)), .unset, .unset, .unset, .unset, .unset, .unset] [(.int ((fl.toUInt32 >>> ((1 : Int32) &&& 31).toUInt32).toInt32))]))
    refine OwnFin.step (fun tT kK => XS.iconst X0.here hx rfl (hb hby at_18) kK) ?_
    show OwnFin p e below _ (s₁.setTop (mkF m 19 #[.val (.long tt_), .second, .val (.long m_), .second, .val (.int fl), .val (.int (1 : Int32)), .unset, .unset, .unset, .unset, .unset, .unset] [(.int (3 : Int32)), (.int ((fl.toUInt32 >>> ((1 : Int32) &&& 31).toUInt32).toInt32))]))
    refine OwnFin.step (fun tT kK => XS.iand X0.here hx rfl (hb hby at_19) rfl kK) ?_
    show OwnFin p e below _ (s₁.setTop (mkF m 20 #[.val (.long tt_), .second, .val (.long m_), .second, .val (.int fl), .val (.int (1 : Int32)), .unset, .unset, .unset, .unset, .unset, .unset] [(.int (((fl.toUInt32 >>> ((1 : Int32) &&& 31).toUInt32).toInt32) &&& (3 : Int32)))]))
    refine OwnFin.step (fun tT kK => XS.istore X0.here hx rfl (hb hby at_20) rfl (l' := #[.val (.long tt_), .second, .val (.long m_), .second, .val (.int fl), .val (.int (1 : Int32)), .val (.int (((fl.toUInt32 >>> ((1 : Int32) &&& 31).toUInt32).toInt32) &&& (3 : Int32))), .unset, .unset, .unset, .unset, .unset]) rfl kK) ?_
    show OwnFin p e below _ (s₁.setTop (mkF m 22 #[.val (.long tt_), .second, .val (.long m_), .second, .val (.int fl), .val (.int (1 : Int32)), .val (.int (((fl.toUInt32 >>> ((1 : Int32) &&& 31).toUInt32).toInt32) &&& (3 : Int32))), .unset, .unset, .unset, .unset, .unset] []))
    refine OwnFin.step (fun tT kK => XS.iload X0.here hx rfl (hb hby at_22) rfl kK) ?_
    show OwnFin p e below _ (s₁.setTop (mkF m 24 #[.val (.long tt_), .second, .val (.long m_), .second, .val (.int fl), .val (.int (1 : Int32)), .val (.int (((fl.toUInt32 >>> ((1 : Int32) &&& 31).toUInt32).toInt32) &&& (3 : Int32))), .unset, .unset, .unset, .unset, .unset] [(.int (((fl.toUInt32 >>> ((1 : Int32) &&& 31).toUInt32).toInt32) &&& (3 : Int32)))]))
    by_cases hc32 : (((fl.toUInt32 >>> ((1 : Int32) &&& 31).toUInt32).toInt32) &&& (3 : Int32)) = (0 : Int32)
    · skip
      refine OwnFin.step (fun tT kK => XS.ifNo X0.here hx rfl (hb hby at_24) rfl ((if0 _ _).trans (teq (hc32 : (((fl.toUInt32 >>> ((1 : Int32) &&& 31).toUInt32).toInt32) &&& (3 : Int32)) = (0 : Int32))).2) kK) ?_
      show OwnFin p e below _ (s₁.setTop (mkF m 27 #[.val (.long tt_), .second, .val (.long m_), .second, .val (.int fl), .val (.int (1 : Int32)), .val (.int (((fl.toUInt32 >>> ((1 : Int32) &&& 31).toUInt32).toInt32) &&& (3 : Int32))), .unset, .unset, .unset, .unset, .unset] []))
      refine OwnFin.step (fun tT kK => X0.ldc2J hx hown (mvT hZ (hw _ (List.mem_of_getElem? (i := 0) rfl))) (g := (mkF m 27 #[.val (.long tt_), .second, .val (.long m_), .second, .val (.int fl), .val (.int (1 : Int32)), .val (.int (((fl.toUInt32 >>> ((1 : Int32) &&& 31).toUInt32).toInt32) &&& (3 : Int32))), .unset, .unset, .unset, .unset, .unset] [])) rfl (hb hby at_27) kK) ?_
      show OwnFin p e below _ (s₁.setTop (mkF m 30 #[.val (.long tt_), .second, .val (.long m_), .second, .val (.int fl), .val (.int (1 : Int32)), .val (.int (((fl.toUInt32 >>> ((1 : Int32) &&& 31).toUInt32).toInt32) &&& (3 : Int32))), .unset, .unset, .unset, .unset, .unset] [(.long (-2 : Int64))]))
      refine OwnFin.step (fun tT kK => XS.lstore X0.here hx rfl (hb hby at_30) rfl (l' := #[.val (.long tt_), .second, .val (.long m_), .second, .val (.int fl), .val (.int (1 : Int32)), .val (.int (((fl.toUInt32 >>> ((1 : Int32) &&& 31).toUInt32).toInt32) &&& (3 : Int32))), .val (.long (-2 : Int64)), .second, .unset, .unset, .unset]) rfl kK) ?_
      show OwnFin p e below _ (s₁.setTop (mkF m 32 #[.val (.long tt_), .second, .val (.long m_), .second, .val (.int fl), .val (.int (1 : Int32)), .val (.int (((fl.toUInt32 >>> ((1 : Int32) &&& 31).toUInt32).toInt32) &&& (3 : Int32))), .val (.long (-2 : Int64)), .second, .unset, .unset, .unset] []))
      refine OwnFin.step (fun tT kK => XS.goto X0.here hx rfl (pc0 := 32) (pc' := 66) rfl (hb hby at_32) (by decide) (by decide) kK) ?_
      show OwnFin p e below _ (s₁.setTop (mkF m 66 #[.val (.long tt_), .second, .val (.long m_), .second, .val (.int fl), .val (.int (1 : Int32)), .val (.int (((fl.toUInt32 >>> ((1 : Int32) &&& 31).toUInt32).toInt32) &&& (3 : Int32))), .val (.long (-2 : Int64)), .second, .unset, .unset, .unset] []))
      refine OwnFin.step (fun tT kK => XS.iload X0.here hx rfl (hb hby at_66) rfl kK) ?_
      show OwnFin p e below _ (s₁.setTop (mkF m 68 #[.val (.long tt_), .second, .val (.long m_), .second, .val (.int fl), .val (.int (1 : Int32)), .val (.int (((fl.toUInt32 >>> ((1 : Int32) &&& 31).toUInt32).toInt32) &&& (3 : Int32))), .val (.long (-2 : Int64)), .second, .unset, .unset, .unset] [(.int (1 : Int32))]))
      refine OwnFin.step (fun tT kK => XS.ifNo X0.here hx rfl (hb hby at_68) rfl ((if0 _ _).trans (feq (by decide : ¬ ((1 : Int32) = (0 : Int32)))).1) kK) ?_
      show OwnFin p e below _ (s₁.setTop (mkF m 71 #[.val (.long tt_), .second, .val (.long m_), .second, .val (.int fl), .val (.int (1 : Int32)), .val (.int (((fl.toUInt32 >>> ((1 : Int32) &&& 31).toUInt32).toInt32) &&& (3 : Int32))), .val (.long (-2 : Int64)), .second, .unset, .unset, .unset] []))
      refine OwnFin.step (fun tT kK => XS.lloadN X0.here hx rfl (hb hby at_71) rfl kK) ?_
      show OwnFin p e below _ (s₁.setTop (mkF m 72 #[.val (.long tt_), .second, .val (.long m_), .second, .val (.int fl), .val (.int (1 : Int32)), .val (.int (((fl.toUInt32 >>> ((1 : Int32) &&& 31).toUInt32).toInt32) &&& (3 : Int32))), .val (.long (-2 : Int64)), .second, .unset, .unset, .unset] [(.long tt_)]))
      obtain ⟨_, _, ⟨T33, L33, k33, n33⟩, -, X33, ⟨Lc33, hQ33, l33, y33, z33⟩, st33⟩ := Jvm.LawKit.callS X0 hx (y := (⟨"java/lang/Long", "valueOf", "(J)Ljava/lang/Long;"⟩ : MethodName)) hown (mvT hZ (hw _ (List.mem_of_getElem? (i := 25) rfl))) (mvT hZ (hw _ (List.mem_of_getElem? (i := 26) rfl))) (mvT hZ (hw _ (List.mem_of_getElem? (i := 27) rfl))) (mvT hZ (hw _ (List.mem_of_getElem? (i := 28) rfl))) (by decide) (backOf (W := 0) (rm4 l Z a0 hw [] tt_ ca cl h0 n0 Z0 hp0 hp1 (hp2)) hZ (hw _ (List.mem_of_getElem? (i := 28) rfl)) (hw _ (List.mem_of_getElem? (i := 27) rfl)) (by decide) (by decide)) (g := (mkF m 72 #[.val (.long tt_), .second, .val (.long m_), .second, .val (.int fl), .val (.int (1 : Int32)), .val (.int (((fl.toUInt32 >>> ((1 : Int32) &&& 31).toUInt32).toInt32) &&& (3 : Int32))), .val (.long (-2 : Int64)), .second, .unset, .unset, .unset] [(.long tt_)])) rfl (by rw [hml]; rfl) (argsL := [(.long tt_)]) (rest := []) (lenOf pd_64 rfl) rfl (by show 2 * 0 + _ ≤ _; exact Nat.le_of_eq rfl) (hb hby at_72) (fun _ _ => ⟨rfl, e0, (by decide : 0 + 1 ≤ _), (by decide : 0 + 1 ≤ _)⟩)
      dsimp only [Pt.U, Pt.locs, Pt.cells, Pt.slots] at X33 l33 y33 z33 st33 hQ33
      subst l33 y33 z33
      obtain ⟨b34, ⟨rfl, N33q, K33⟩⟩ := hQ33
      have N33 := Fr.app N0 N33q
      refine OwnFin.step st33 ?_
      have E33 : Ext h0 T33.heap := ⟨K33.1, fun x c q => K33.2.1 x c q nin0⟩
      show OwnFin p e below _ (T33.setTop (mkF m 75 #[.val (.long tt_), .second, .val (.long m_), .second, .val (.int fl), .val (.int (1 : Int32)), .val (.int (((fl.toUInt32 >>> ((1 : Int32) &&& 31).toUInt32).toInt32) &&& (3 : Int32))), .val (.long (-2 : Int64)), .second, .unset, .unset, .unset] [(.ref b34)]))
      refine OwnFin.step (fun tT kK => XS.goto X33.here hx rfl (pc0 := 75) (pc' := 79) rfl (hb hby at_75) (by decide) (by decide) kK) ?_
      show OwnFin p e below _ (T33.setTop (mkF m 79 #[.val (.long tt_), .second, .val (.long m_), .second, .val (.int fl), .val (.int (1 : Int32)), .val (.int (((fl.toUInt32 >>> ((1 : Int32) &&& 31).toUInt32).toInt32) &&& (3 : Int32))), .val (.long (-2 : Int64)), .second, .unset, .unset, .unset] [(.ref b34)]))
      refine OwnFin.step (fun tT kK => XS.astore X33.here hx rfl (hb hby at_79) rfl rfl (l' := #[.val (.long tt_), .second, .val (.long m_), .second, .val (.int fl), .val (.int (1 : Int32)), .val (.int (((fl.toUInt32 >>> ((1 : Int32) &&& 31).toUInt32).toInt32) &&& (3 : Int32))), .val (.long (-2 : Int64)), .second, .val (.ref b34), .unset, .unset]) rfl kK) ?_
      show OwnFin p e below _ (T33.setTop (mkF m 81 #[.val (.long tt_), .second, .val (.long m_), .second, .val (.int fl), .val (.int (1 : Int32)), .val (.int (((fl.toUInt32 >>> ((1 : Int32) &&& 31).toUInt32).toInt32) &&& (3 : Int32))), .val (.long (-2 : Int64)), .second, .val (.ref b34), .unset, .unset] []))
      obtain ⟨T35, h35, X35, e35, E35, A35, D35, -, st35⟩ := newO X33 hx hZ hown (hw _ (List.mem_of_getElem? (i := 1) rfl)) (hw _ (List.mem_of_getElem? (i := 2) rfl)) (hw _ (List.mem_of_getElem? (i := 3) rfl)) rfl (g := (mkF m 81 #[.val (.long tt_), .second, .val (.long m_), .second, .val (.int fl), .val (.int (1 : Int32)), .val (.int (((fl.toUInt32 >>> ((1 : Int32) &&& 31).toUInt32).toInt32) &&& (3 : Int32))), .val (.long (-2 : Int64)), .second, .val (.ref b34), .unset, .unset] [])) rfl (hb hby at_81) (by decide) (by decide)
      obtain ⟨b35, g35⟩ : ∃ z, z = T33.heap.size := ⟨_, rfl⟩
      rw [← g35] at A35 D35 st35
      refine OwnFin.step st35 ?_
      have Fz36 : Fld Z h35 b35 "com/example/limpet/limpet/TakeReply" "token" "Ljava/lang/Long;" .null := D35 (Or.inr (hw _ (List.mem_of_getElem? (i := 16) rfl))) (ty := (.object "java/lang/Long")) (by decide)
      have Fz37 : Fld Z h35 b35 "com/example/limpet/limpet/TakeReply" "toldMillis" "J" (.long (0 : Int64)) := D35 (Or.inr (hw _ (List.mem_of_getElem? (i := 18) rfl))) (ty := .long) (by decide)
      show OwnFin p e below _ (T35.setTop (mkF m 84 #[.val (.long tt_), .second, .val (.long m_), .second, .val (.int fl), .val (.int (1 : Int32)), .val (.int (((fl.toUInt32 >>> ((1 : Int32) &&& 31).toUInt32).toInt32) &&& (3 : Int32))), .val (.long (-2 : Int64)), .second, .val (.ref b34), .unset, .unset] [(.ref b35)]))
      refine OwnFin.step (fun tT kK => XS.dup X35.here hx rfl (hb hby at_84) rfl rfl kK) ?_
      show OwnFin p e below _ (T35.setTop (mkF m 85 #[.val (.long tt_), .second, .val (.long m_), .second, .val (.int fl), .val (.int (1 : Int32)), .val (.int (((fl.toUInt32 >>> ((1 : Int32) &&& 31).toUInt32).toInt32) &&& (3 : Int32))), .val (.long (-2 : Int64)), .second, .val (.ref b34), .unset, .unset] [(.ref b35), (.ref b35)]))
      refine OwnFin.step (fun tT kK => XS.aload X35.here hx rfl (hb hby at_85) rfl rfl kK) ?_
      show OwnFin p e below _ (T35.setTop (mkF m 87 #[.val (.long tt_), .second, .val (.long m_), .second, .val (.int fl), .val (.int (1 : Int32)), .val (.int (((fl.toUInt32 >>> ((1 : Int32) &&& 31).toUInt32).toInt32) &&& (3 : Int32))), .val (.long (-2 : Int64)), .second, .val (.ref b34), .unset, .unset] [(.ref b34), (.ref b35), (.ref b35)]))
      refine OwnFin.step (fun tT kK => XS.lload X35.here hx rfl (hb hby at_87) rfl kK) ?_
      show OwnFin p e below _ (T35.setTop (mkF m 89 #[.val (.long tt_), .second, .val (.long m_), .second, .val (.int fl), .val (.int (1 : Int32)), .val (.int (((fl.toUInt32 >>> ((1 : Int32) &&& 31).toUInt32).toInt32) &&& (3 : Int32))), .val (.long (-2 : Int64)), .second, .val (.ref b34), .unset, .unset] [(.long (-2 : Int64)), (.ref b34), (.ref b35), (.ref b35)]))
      obtain ⟨_, _, ⟨T38, L38, k38, n38⟩, -, X38, ⟨Lc38, hQ38, l38, y38, z38⟩, st38⟩ := X35.specialBack hx (y := (⟨"com/example/limpet/limpet/TakeReply", "<init>", "(Ljava/lang/Long;J)V"⟩ : MethodName)) rfl hown (mvT hZ (hw _ (List.mem_of_getElem? (i := 4) rfl))) (mvT hZ (hw _ (List.mem_of_getElem? (i := 5) rfl))) (mvT hZ (hw _ (List.mem_of_getElem? (i := 6) rfl))) (by decide) (backOf (W := 1) (rm5R l Z a0 hw [] b35 b34 (-2 : Int64) h35 n0 (Nat.le_trans (Nat.le_trans Z0 E33.1) E35.1) A35 Fz36 Fz37 (Nat.le_trans (Nat.le_trans Z0 E33.1) (Nat.le_of_eq g35.symm))) hZ (hw _ (List.mem_of_getElem? (i := 6) rfl)) (hw _ (List.mem_of_getElem? (i := 3) rfl)) (by decide) (by decide)) (g := (mkF m 89 #[.val (.long tt_), .second, .val (.long m_), .second, .val (.int fl), .val (.int (1 : Int32)), .val (.int (((fl.toUInt32 >>> ((1 : Int32) &&& 31).toUInt32).toInt32) &&& (3 : Int32))), .val (.long (-2 : Int64)), .second, .val (.ref b34), .unset, .unset] [(.long (-2 : Int64)), (.ref b34), (.ref b35), (.ref b35)])) rfl (by rw [hml]; rfl) (Steps.refl _) (a := b35) (argsL := [(.ref b34), (.long (-2 : Int64))]) (rest := [(.ref b35)]) (lenOf pd_62 rfl) rfl (by show 2 * 0 + _ ≤ _; exact Nat.le_of_eq rfl) (hb hby at_89) (fun _ _ => ⟨rfl, e35, (by decide : 2 + 0 ≤ _), (by decide : 3 + 0 ≤ _)⟩)
      dsimp only [Pt.U, Pt.locs, Pt.cells, Pt.slots] at X38 l38 y38 z38 st38 hQ38
      subst l38 y38 z38
      obtain ⟨rfl, N38q, K38, P38_0, P38_1, P38_2⟩ := hQ38
      have N38 := Fr.app N33 N38q
      refine OwnFin.step (fun tT kK => st38.trans kK) ?_
      show OwnFin p e below _ (T38.setTop (mkF m 92 #[.val (.long tt_), .second, .val (.long m_), .second, .val (.int fl), .val (.int (1 : Int32)), .val (.int (((fl.toUInt32 >>> ((1 : Int32) &&& 31).toUInt32).toInt32) &&& (3 : Int32))), .val (.long (-2 : Int64)), .second, .val (.ref b34), .unset, .unset] [(.ref b35)]))
      refine OwnFin.step (fun tT kK => XS.astore X38.here hx rfl (hb hby at_92) rfl rfl (l' := #[.val (.long tt_), .second, .val (.long m_), .second, .val (.int fl), .val (.int (1 : Int32)), .val (.int (((fl.toUInt32 >>> ((1 : Int32) &&& 31).toUInt32).toInt32) &&& (3 : Int32))), .val (.long (-2 : Int64)), .second, .val (.ref b34), .val (.ref b35), .unset]) rfl kK) ?_
      show OwnFin p e below _ (T38.setTop (mkF m 94 #[.val (.long tt_), .second, .val (.long m_), .second, .val (.int fl), .val (.int (1 : Int32)), .val (.int (((fl.toUInt32 >>> ((1 : Int32) &&& 31).toUInt32).toInt32) &&& (3 : Int32))), .val (.long (-2 : Int64)), .second, .val (.ref b34), .val (.ref b35), .unset] []))
      refine OwnFin.step (fun tT kK => XS.iload X38.here hx rfl (hb hby at_94) rfl kK) ?_
      show OwnFin p e below _ (T38.setTop (mkF m 96 #[.val (.long tt_), .second, .val (.long m_), .second, .val (.int fl), .val (.int (1 : Int32)), .val (.int (((fl.toUInt32 >>> ((1 : Int32) &&& 31).toUInt32).toInt32) &&& (3 : Int32))), .val (.long (-2 : Int64)), .second, .val (.ref b34), .val (.ref b35), .unset] [(.int (1 : Int32))]))
      refine OwnFin.step (fun tT kK => XS.ifNo X38.here hx rfl (hb hby at_96) rfl ((if0 _ _).trans (feq (by decide : ¬ ((1 : Int32) = (0 : Int32)))).1) kK) ?_
      show OwnFin p e below _ (T38.setTop (mkF m 99 #[.val (.long tt_), .second, .val (.long m_), .second, .val (.int fl), .val (.int (1 : Int32)), .val (.int (((fl.toUInt32 >>> ((1 : Int32) &&& 31).toUInt32).toInt32) &&& (3 : Int32))), .val (.long (-2 : Int64)), .second, .val (.ref b34), .val (.ref b35), .unset] []))
      refine OwnFin.step (fun tT kK => XS.iconst X38.here hx rfl (hb hby at_99) kK) ?_
      show OwnFin p e below _ (T38.setTop (mkF m 100 #[.val (.long tt_), .second, .val (.long m_), .second, .val (.int fl), .val (.int (1 : Int32)), .val (.int (((fl.toUInt32 >>> ((1 : Int32) &&& 31).toUInt32).toInt32) &&& (3 : Int32))), .val (.long (-2 : Int64)), .second, .val (.ref b34), .val (.ref b35), .unset] [(.int (0 : Int32))]))
      refine OwnFin.step (fun tT kK => XS.istore X38.here hx rfl (hb hby at_100) rfl (l' := #[.val (.long tt_), .second, .val (.long m_), .second, .val (.int fl), .val (.int (1 : Int32)), .val (.int (((fl.toUInt32 >>> ((1 : Int32) &&& 31).toUInt32).toInt32) &&& (3 : Int32))), .val (.long (-2 : Int64)), .second, .val (.ref b34), .val (.ref b35), .val (.int (0 : Int32))]) rfl kK) ?_
      show OwnFin p e below _ (T38.setTop (mkF m 102 #[.val (.long tt_), .second, .val (.long m_), .second, .val (.int fl), .val (.int (1 : Int32)), .val (.int (((fl.toUInt32 >>> ((1 : Int32) &&& 31).toUInt32).toInt32) &&& (3 : Int32))), .val (.long (-2 : Int64)), .second, .val (.ref b34), .val (.ref b35), .val (.int (0 : Int32))] []))
      refine OwnFin.step (fun tT kK => XS.goto X38.here hx rfl (pc0 := 102) (pc' := 121) rfl (hb hby at_102) (by decide) (by decide) kK) ?_
      show OwnFin p e below _ (T38.setTop (mkF m 121 #[.val (.long tt_), .second, .val (.long m_), .second, .val (.int fl), .val (.int (1 : Int32)), .val (.int (((fl.toUInt32 >>> ((1 : Int32) &&& 31).toUInt32).toInt32) &&& (3 : Int32))), .val (.long (-2 : Int64)), .second, .val (.ref b34), .val (.ref b35), .val (.int (0 : Int32))] []))
      refine OwnFin.step (fun tT kK => XS.aload X38.here hx rfl (hb hby at_121) rfl rfl kK) ?_
      show OwnFin p e below _ (T38.setTop (mkF m 123 #[.val (.long tt_), .second, .val (.long m_), .second, .val (.int fl), .val (.int (1 : Int32)), .val (.int (((fl.toUInt32 >>> ((1 : Int32) &&& 31).toUInt32).toInt32) &&& (3 : Int32))), .val (.long (-2 : Int64)), .second, .val (.ref b34), .val (.ref b35), .val (.int (0 : Int32))] [(.ref b35)]))
      obtain ⟨cq39, kq39, q39a, q39b, q39c⟩ := isOf hZ rfl P38_0
      obtain ⟨_, _, ⟨T39, L39, k39, n39⟩, -, X39, ⟨Lc39, hQ39, l39, y39, z39⟩, st39⟩ := X38.virtualBack hx (y := (⟨"com/example/limpet/limpet/TakeReply", "gone", "()Z"⟩ : MethodName)) (z := (⟨"com/example/limpet/limpet/TakeReply", "gone", "()Z"⟩ : MethodName)) hown (mvT hZ (hw _ (List.mem_of_getElem? (i := 19) rfl))) (mvT hZ (hw _ (List.mem_of_getElem? (i := 20) rfl))) (notFace_of_selects (args := #[]) (mvT hZ (hw _ (List.mem_of_getElem? (i := 22) rfl)))) (mvT hZ (hw _ (List.mem_of_getElem? (i := 22) rfl))) (mvT hZ (hw _ (List.mem_of_getElem? (i := 21) rfl))) (by decide) (backOf (W := 0) (rm6R l Z a0 hw [] b35 b34 (-2 : Int64) T38.heap n0 (Nat.le_trans (Nat.le_trans (Nat.le_trans Z0 E33.1) E35.1) K38.1) P38_1 P38_2) hZ (hw _ (List.mem_of_getElem? (i := 23) rfl)) (hw _ (List.mem_of_getElem? (i := 3) rfl)) (by decide) (by decide)) q39a q39c (g := (mkF m 123 #[.val (.long tt_), .second, .val (.long m_), .second, .val (.int fl), .val (.int (1 : Int32)), .val (.int (((fl.toUInt32 >>> ((1 : Int32) &&& 31).toUInt32).toInt32) &&& (3 : Int32))), .val (.long (-2 : Int64)), .second, .val (.ref b34), .val (.ref b35), .val (.int (0 : Int32))] [(.ref b35)])) rfl (by rw [hml]; rfl) (Steps.refl _) (argsL := []) (rest := []) (lenOf pd_63 rfl) rfl (by show 2 * 0 + _ ≤ _; exact Nat.le_of_eq rfl) (hb hby at_123) (fun _ _ => ⟨rfl, rfl, (by decide : 2 + 0 ≤ _), (by decide : 3 + 0 ≤ _)⟩)
      dsimp only [Pt.U, Pt.locs, Pt.cells, Pt.slots] at X39 l39 y39 z39 st39 hQ39
      subst l39 y39 z39
      obtain ⟨rfl, N39q, e39⟩ := hQ39
      have N39 := Fr.app N38 N39q
      refine OwnFin.step (fun tT kK => st39.trans kK) ?_
      show OwnFin p e below _ (T39.setTop (mkF m 126 #[.val (.long tt_), .second, .val (.long m_), .second, .val (.int fl), .val (.int (1 : Int32)), .val (.int (((fl.toUInt32 >>> ((1 : Int32) &&& 31).toUInt32).toInt32) &&& (3 : Int32))), .val (.long (-2 : Int64)), .second, .val (.ref b34), .val (.ref b35), .val (.int (0 : Int32))] [(.int (0 : Int32))]))
      refine OwnFin.step (fun tT kK => XS.iload X39.here hx rfl (hb hby at_126) rfl kK) ?_
      show OwnFin p e below _ (T39.setTop (mkF m 128 #[.val (.long tt_), .second, .val (.long m_), .second, .val (.int fl), .val (.int (1 : Int32)), .val (.int (((fl.toUInt32 >>> ((1 : Int32) &&& 31).toUInt32).toInt32) &&& (3 : Int32))), .val (.long (-2 : Int64)), .second, .val (.ref b34), .val (.ref b35), .val (.int (0 : Int32))] [(.int (0 : Int32)), (.int (0 : Int32))]))
      refine OwnFin.step (fun tT kK => XS.icmpNo X39.here hx rfl (hb hby at_128) rfl (teq (rfl : (0 : Int32) = (0 : Int32))).2 kK) ?_
      show OwnFin p e below _ (T39.setTop (mkF m 131 #[.val (.long tt_), .second, .val (.long m_), .second, .val (.int fl), .val (.int (1 : Int32)), .val (.int (((fl.toUInt32 >>> ((1 : Int32) &&& 31).toUInt32).toInt32) &&& (3 : Int32))), .val (.long (-2 : Int64)), .second, .val (.ref b34), .val (.ref b35), .val (.int (0 : Int32))] []))
      refine OwnFin.step (fun tT kK => XS.iconst X39.here hx rfl (hb hby at_131) kK) ?_
      show OwnFin p e below _ (T39.setTop (mkF m 132 #[.val (.long tt_), .second, .val (.long m_), .second, .val (.int fl), .val (.int (1 : Int32)), .val (.int (((fl.toUInt32 >>> ((1 : Int32) &&& 31).toUInt32).toInt32) &&& (3 : Int32))), .val (.long (-2 : Int64)), .second, .val (.ref b34), .val (.ref b35), .val (.int (0 : Int32))] [(.int (1 : Int32))]))
      refine OwnFin.step (fun tT kK => XS.goto X39.here hx rfl (pc0 := 132) (pc' := 136) rfl (hb hby at_132) (by decide) (by decide) kK) ?_
      show OwnFin p e below _ (T39.setTop (mkF m 136 #[.val (.long tt_), .second, .val (.long m_), .second, .val (.int fl), .val (.int (1 : Int32)), .val (.int (((fl.toUInt32 >>> ((1 : Int32) &&& 31).toUInt32).toInt32) &&& (3 : Int32))), .val (.long (-2 : Int64)), .second, .val (.ref b34), .val (.ref b35), .val (.int (0 : Int32))] [(.int (1 : Int32))]))
      obtain ⟨fs40, hr40, hrun40, hended40, hW40, hsame40⟩ := X39.leave (v := (some (.int (1 : Int32)))) (fun h => by rw [Bd.returns] at h; cases h)
      refine ⟨_, _, retN X39 hx (t := .boolean) Bd.returns (by simp) (hb hby at_136) hr40, hrun40, hended40, _, _, rfl, ?_, ⟨_, rfl⟩, hW40, hsame40.mono (by decide) (by decide)⟩
      show Q0 Z tt_ m_ fl ca cl h0 n0 _ T39.heap _
      rw [e39]
      exact ⟨rfl, N39, ((((Keep.refl h0 []).ext E33).ext E35).trans K38 (allS (P := fun x => x ∈ [] ∨ h0.size ≤ x) (Or.inr (Nat.le_trans (Nat.le_trans (Nat.le_refl _) E33.1) (Nat.le_of_eq g35.symm))) all0))⟩
    · skip
      refine OwnFin.step (fun tT kK => XS.ifYes X0.here hx rfl (pc0 := 24) (pc' := 35) rfl (hb hby at_24) rfl ((if0 _ _).trans (feq (hc32 : ¬ ((((fl.toUInt32 >>> ((1 : Int32) &&& 31).toUInt32).toInt32) &&& (3 : Int32)) = (0 : Int32)))).2) (by decide) (by decide) kK) ?_
      show OwnFin p e below _ (s₁.setTop (mkF m 35 #[.val (.long tt_), .second, .val (.long m_), .second, .val (.int fl), .val (.int (1 : Int32)), .val (.int (((fl.toUInt32 >>> ((1 : Int32) &&& 31).toUInt32).toInt32) &&& (3 : Int32))), .unset, .unset, .unset, .unset, .unset] []))
      refine OwnFin.step (fun tT kK => XS.iload X0.here hx rfl (hb hby at_35) rfl kK) ?_
      show OwnFin p e below _ (s₁.setTop (mkF m 37 #[.val (.long tt_), .second, .val (.long m_), .second, .val (.int fl), .val (.int (1 : Int32)), .val (.int (((fl.toUInt32 >>> ((1 : Int32) &&& 31).toUInt32).toInt32) &&& (3 : Int32))), .unset, .unset, .unset, .unset, .unset] [(.int (((fl.toUInt32 >>> ((1 : Int32) &&& 31).toUInt32).toInt32) &&& (3 : Int32)))]))
      refine OwnFin.step (fun tT kK => XS.iconst X0.here hx rfl (hb hby at_37) kK) ?_
      show OwnFin p e below _ (s₁.setTop (mkF m 38 #[.val (.long tt_), .second, .val (.long m_), .second, .val (.int fl), .val (.int (1 : Int32)), .val (.int (((fl.toUInt32 >>> ((1 : Int32) &&& 31).toUInt32).toInt32) &&& (3 : Int32))), .unset, .unset, .unset, .unset, .unset] [(.int (1 : Int32)), (.int (((fl.toUInt32 >>> ((1 : Int32) &&& 31).toUInt32).toInt32) &&& (3 : Int32)))]))
      by_cases hc41 : (((fl.toUInt32 >>> ((1 : Int32) &&& 31).toUInt32).toInt32) &&& (3 : Int32)) = (1 : Int32)
      · skip
        refine OwnFin.step (fun tT kK => XS.icmpNo X0.here hx rfl (hb hby at_38) rfl (teq (hc41 : (((fl.toUInt32 >>> ((1 : Int32) &&& 31).toUInt32).toInt32) &&& (3 : Int32)) = (1 : Int32))).2 kK) ?_
        show OwnFin p e below _ (s₁.setTop (mkF m 41 #[.val (.long tt_), .second, .val (.long m_), .second, .val (.int fl), .val (.int (1 : Int32)), .val (.int (((fl.toUInt32 >>> ((1 : Int32) &&& 31).toUInt32).toInt32) &&& (3 : Int32))), .unset, .unset, .unset, .unset, .unset] []))
        refine OwnFin.step (fun tT kK => X0.ldc2J hx hown (mvT hZ (hw _ (List.mem_of_getElem? (i := 33) rfl))) (g := (mkF m 41 #[.val (.long tt_), .second, .val (.long m_), .second, .val (.int fl), .val (.int (1 : Int32)), .val (.int (((fl.toUInt32 >>> ((1 : Int32) &&& 31).toUInt32).toInt32) &&& (3 : Int32))), .unset, .unset, .unset, .unset, .unset] [])) rfl (hb hby at_41) kK) ?_
        show OwnFin p e below _ (s₁.setTop (mkF m 44 #[.val (.long tt_), .second, .val (.long m_), .second, .val (.int fl), .val (.int (1 : Int32)), .val (.int (((fl.toUInt32 >>> ((1 : Int32) &&& 31).toUInt32).toInt32) &&& (3 : Int32))), .unset, .unset, .unset, .unset, .unset] [(.long (-1 : Int64))]))
        refine OwnFin.step (fun tT kK => XS.lstore X0.here hx rfl (hb hby at_44) rfl (l' := #[.val (.long tt_), .second, .val (.long m_), .second, .val (.int fl), .val (.int (1 : Int32)), .val (.int (((fl.toUInt32 >>> ((1 : Int32) &&& 31).toUInt32).toInt32) &&& (3 : Int32))), .val (.long (-1 : Int64)), .second, .unset, .unset, .unset]) rfl kK) ?_
        show OwnFin p e below _ (s₁.setTop (mkF m 46 #[.val (.long tt_), .second, .val (.long m_), .second, .val (.int fl), .val (.int (1 : Int32)), .val (.int (((fl.toUInt32 >>> ((1 : Int32) &&& 31).toUInt32).toInt32) &&& (3 : Int32))), .val (.long (-1 : Int64)), .second, .unset, .unset, .unset] []))
        refine OwnFin.step (fun tT kK => XS.goto X0.here hx rfl (pc0 := 46) (pc' := 66) rfl (hb hby at_46) (by decide) (by decide) kK) ?_
        show OwnFin p e below _ (s₁.setTop (mkF m 66 #[.val (.long tt_), .second, .val (.long m_), .second, .val (.int fl), .val (.int (1 : Int32)), .val (.int (((fl.toUInt32 >>> ((1 : Int32) &&& 31).toUInt32).toInt32) &&& (3 : Int32))), .val (.long (-1 : Int64)), .second, .unset, .unset, .unset] []))
        refine OwnFin.step (fun tT kK => XS.iload X0.here hx rfl (hb hby at_66) rfl kK) ?_
        show OwnFin p e below _ (s₁.setTop (mkF m 68 #[.val (.long tt_), .second, .val (.long m_), .second, .val (.int fl), .val (.int (1 : Int32)), .val (.int (((fl.toUInt32 >>> ((1 : Int32) &&& 31).toUInt32).toInt32) &&& (3 : Int32))), .val (.long (-1 : Int64)), .second, .unset, .unset, .unset] [(.int (1 : Int32))]))
        refine OwnFin.step (fun tT kK => XS.ifNo X0.here hx rfl (hb hby at_68) rfl ((if0 _ _).trans (feq (by decide : ¬ ((1 : Int32) = (0 : Int32)))).1) kK) ?_
        show OwnFin p e below _ (s₁.setTop (mkF m 71 #[.val (.long tt_), .second, .val (.long m_), .second, .val (.int fl), .val (.int (1 : Int32)), .val (.int (((fl.toUInt32 >>> ((1 : Int32) &&& 31).toUInt32).toInt32) &&& (3 : Int32))), .val (.long (-1 : Int64)), .second, .unset, .unset, .unset] []))
        refine OwnFin.step (fun tT kK => XS.lloadN X0.here hx rfl (hb hby at_71) rfl kK) ?_
        show OwnFin p e below _ (s₁.setTop (mkF m 72 #[.val (.long tt_), .second, .val (.long m_), .second, .val (.int fl), .val (.int (1 : Int32)), .val (.int (((fl.toUInt32 >>> ((1 : Int32) &&& 31).toUInt32).toInt32) &&& (3 : Int32))), .val (.long (-1 : Int64)), .second, .unset, .unset, .unset] [(.long tt_)]))
        obtain ⟨_, _, ⟨T42, L42, k42, n42⟩, -, X42, ⟨Lc42, hQ42, l42, y42, z42⟩, st42⟩ := Jvm.LawKit.callS X0 hx (y := (⟨"java/lang/Long", "valueOf", "(J)Ljava/lang/Long;"⟩ : MethodName)) hown (mvT hZ (hw _ (List.mem_of_getElem? (i := 25) rfl))) (mvT hZ (hw _ (List.mem_of_getElem? (i := 26) rfl))) (mvT hZ (hw _ (List.mem_of_getElem? (i := 27) rfl))) (mvT hZ (hw _ (List.mem_of_getElem? (i := 28) rfl))) (by decide) (backOf (W := 0) (rm4 l Z a0 hw [] tt_ ca cl h0 n0 Z0 hp0 hp1 (hp2)) hZ (hw _ (List.mem_of_getElem? (i := 28) rfl)) (hw _ (List.mem_of_getElem? (i := 27) rfl)) (by decide) (by decide)) (g := (mkF m 72 #[.val (.long tt_), .second, .val (.long m_), .second, .val (.int fl), .val (.int (1 : Int32)), .val (.int (((fl.toUInt32 >>> ((1 : Int32) &&& 31).toUInt32).toInt32) &&& (3 : Int32))), .val (.long (-1 : Int64)), .second, .unset, .unset, .unset] [(.long tt_)])) rfl (by rw [hml]; rfl) (argsL := [(.long tt_)]) (rest := []) (lenOf pd_64 rfl) rfl (by show 2 * 0 + _ ≤ _; exact Nat.le_of_eq rfl) (hb hby at_72) (fun _ _ => ⟨rfl, e0, (by decide : 0 + 1 ≤ _), (by decide : 0 + 1 ≤ _)⟩)
        dsimp only [Pt.U, Pt.locs, Pt.cells, Pt.slots] at X42 l42 y42 z42 st42 hQ42
        subst l42 y42 z42
        obtain ⟨b43, ⟨rfl, N42q, K42⟩⟩ := hQ42
        have N42 := Fr.app N0 N42q
        refine OwnFin.step st42 ?_
        have E42 : Ext h0 T42.heap := ⟨K42.1, fun x c q => K42.2.1 x c q nin0⟩
        show OwnFin p e below _ (T42.setTop (mkF m 75 #[.val (.long tt_), .second, .val (.long m_), .second, .val (.int fl), .val (.int (1 : Int32)), .val (.int (((fl.toUInt32 >>> ((1 : Int32) &&& 31).toUInt32).toInt32) &&& (3 : Int32))), .val (.long (-1 : Int64)), .second, .unset, .unset, .unset] [(.ref b43)]))
        refine OwnFin.step (fun tT kK => XS.goto X42.here hx rfl (pc0 := 75) (pc' := 79) rfl (hb hby at_75) (by decide) (by decide) kK) ?_
        show OwnFin p e below _ (T42.setTop (mkF m 79 #[.val (.long tt_), .second, .val (.long m_), .second, .val (.int fl), .val (.int (1 : Int32)), .val (.int (((fl.toUInt32 >>> ((1 : Int32) &&& 31).toUInt32).toInt32) &&& (3 : Int32))), .val (.long (-1 : Int64)), .second, .unset, .unset, .unset] [(.ref b43)]))
        refine OwnFin.step (fun tT kK => XS.astore X42.here hx rfl (hb hby at_79) rfl rfl (l' := #[.val (.long tt_), .second, .val (.long m_), .second, .val (.int fl), .val (.int (1 : Int32)), .val (.int (((fl.toUInt32 >>> ((1 : Int32) &&& 31).toUInt32).toInt32) &&& (3 : Int32))), .val (.long (-1 : Int64)), .second, .val (.ref b43), .unset, .unset]) rfl kK) ?_
        show OwnFin p e below _ (T42.setTop (mkF m 81 #[.val (.long tt_), .second, .val (.long m_), .second, .val (.int fl), .val (.int (1 : Int32)), .val (.int (((fl.toUInt32 >>> ((1 : Int32) &&& 31).toUInt32).toInt32) &&& (3 : Int32))), .val (.long (-1 : Int64)), .second, .val (.ref b43), .unset, .unset] []))
        obtain ⟨T44, h44, X44, e44, E44, A44, D44, -, st44⟩ := newO X42 hx hZ hown (hw _ (List.mem_of_getElem? (i := 1) rfl)) (hw _ (List.mem_of_getElem? (i := 2) rfl)) (hw _ (List.mem_of_getElem? (i := 3) rfl)) rfl (g := (mkF m 81 #[.val (.long tt_), .second, .val (.long m_), .second, .val (.int fl), .val (.int (1 : Int32)), .val (.int (((fl.toUInt32 >>> ((1 : Int32) &&& 31).toUInt32).toInt32) &&& (3 : Int32))), .val (.long (-1 : Int64)), .second, .val (.ref b43), .unset, .unset] [])) rfl (hb hby at_81) (by decide) (by decide)
        obtain ⟨b44, g44⟩ : ∃ z, z = T42.heap.size := ⟨_, rfl⟩
        rw [← g44] at A44 D44 st44
        refine OwnFin.step st44 ?_
        have Fz45 : Fld Z h44 b44 "com/example/limpet/limpet/TakeReply" "token" "Ljava/lang/Long;" .null := D44 (Or.inr (hw _ (List.mem_of_getElem? (i := 16) rfl))) (ty := (.object "java/lang/Long")) (by decide)
        have Fz46 : Fld Z h44 b44 "com/example/limpet/limpet/TakeReply" "toldMillis" "J" (.long (0 : Int64)) := D44 (Or.inr (hw _ (List.mem_of_getElem? (i := 18) rfl))) (ty := .long) (by decide)
        show OwnFin p e below _ (T44.setTop (mkF m 84 #[.val (.long tt_), .second, .val (.long m_), .second, .val (.int fl), .val (.int (1 : Int32)), .val (.int (((fl.toUInt32 >>> ((1 : Int32) &&& 31).toUInt32).toInt32) &&& (3 : Int32))), .val (.long (-1 : Int64)), .second, .val (.ref b43), .unset, .unset] [(.ref b44)]))
        refine OwnFin.step (fun tT kK => XS.dup X44.here hx rfl (hb hby at_84) rfl rfl kK) ?_
        show OwnFin p e below _ (T44.setTop (mkF m 85 #[.val (.long tt_), .second, .val (.long m_), .second, .val (.int fl), .val (.int (1 : Int32)), .val (.int (((fl.toUInt32 >>> ((1 : Int32) &&& 31).toUInt32).toInt32) &&& (3 : Int32))), .val (.long (-1 : Int64)), .second, .val (.ref b43), .unset, .unset] [(.ref b44), (.ref b44)]))
        refine OwnFin.step (fun tT kK => XS.aload X44.here hx rfl (hb hby at_85) rfl rfl kK) ?_
        show OwnFin p e below _ (T44.setTop (mkF m 87 #[.val (.long tt_), .second, .val (.long m_), .second, .val (.int fl), .val (.int (1 : Int32)), .val (.int (((fl.toUInt32 >>> ((1 : Int32) &&& 31).toUInt32).toInt32) &&& (3 : Int32))), .val (.long (-1 : Int64)), .second, .val (.ref b43), .unset, .unset] [(.ref b43), (.ref b44), (.ref b44)]))
        refine OwnFin.step (fun tT kK => XS.lload X44.here hx rfl (hb hby at_87) rfl kK) ?_
        show OwnFin p e below _ (T44.setTop (mkF m 89 #[.val (.long tt_), .second, .val (.long m_), .second, .val (.int fl), .val (.int (1 : Int32)), .val (.int (((fl.toUInt32 >>> ((1 : Int32) &&& 31).toUInt32).toInt32) &&& (3 : Int32))), .val (.long (-1 : Int64)), .second, .val (.ref b43), .unset, .unset] [(.long (-1 : Int64)), (.ref b43), (.ref b44), (.ref b44)]))
        obtain ⟨_, _, ⟨T47, L47, k47, n47⟩, -, X47, ⟨Lc47, hQ47, l47, y47, z47⟩, st47⟩ := X44.specialBack hx (y := (⟨"com/example/limpet/limpet/TakeReply", "<init>", "(Ljava/lang/Long;J)V"⟩ : MethodName)) rfl hown (mvT hZ (hw _ (List.mem_of_getElem? (i := 4) rfl))) (mvT hZ (hw _ (List.mem_of_getElem? (i := 5) rfl))) (mvT hZ (hw _ (List.mem_of_getElem? (i := 6) rfl))) (by decide) (backOf (W := 1) (rm5R l Z a0 hw [] b44 b43 (-1 : Int64) h44 n0 (Nat.le_trans (Nat.le_trans Z0 E42.1) E44.1) A44 Fz45 Fz46 (Nat.le_trans (Nat.le_trans Z0 E42.1) (Nat.le_of_eq g44.symm))) hZ (hw _ (List.mem_of_getElem? (i := 6) rfl)) (hw _ (List.mem_of_getElem? (i := 3) rfl)) (by decide) (by decide)) (g := (mkF m 89 #[.val (.long tt_), .second, .val (.long m_), .second, .val (.int fl), .val (.int (1 : Int32)), .val (.int (((fl.toUInt32 >>> ((1 : Int32) &&& 31).toUInt32).toInt32) &&& (3 : Int32))), .val (.long (-1 : Int64)), .second, .val (.ref b43), .unset, .unset] [(.long (-1 : Int64)), (.ref b43), (.ref b44), (.ref b44)])) rfl (by rw [hml]; rfl) (Steps.refl _) (a := b44) (argsL := [(.ref b43), (.long (-1 : Int64))]) (rest := [(.ref b44)]) (lenOf pd_62 rfl) rfl (by show 2 * 0 + _ ≤ _; exact Nat.le_of_eq rfl) (hb hby at_89) (fun _ _ => ⟨rfl, e44, (by decide : 2 + 0 ≤ _), (by decide : 3 + 0 ≤ _)⟩)
        dsimp only [Pt.U, Pt.locs, Pt.cells, Pt.slots] at X47 l47 y47 z47 st47 hQ47
        subst l47 y47 z47
        obtain ⟨rfl, N47q, K47, P47_0, P47_1, P47_2⟩ := hQ47
        have N47 := Fr.app N42 N47q
        refine OwnFin.step (fun tT kK => st47.trans kK) ?_
        show OwnFin p e below _ (T47.setTop (mkF m 92 #[.val (.long tt_), .second, .val (.long m_), .second, .val (.int fl), .val (.int (1 : Int32)), .val (.int (((fl.toUInt32 >>> ((1 : Int32) &&& 31).toUInt32).toInt32) &&& (3 : Int32))), .val (.long (-1 : Int64)), .second, .val (.ref b43), .unset, .unset] [(.ref b44)]))
        refine OwnFin.step (fun tT kK => XS.astore X47.here hx rfl (hb hby at_92) rfl rfl (l' := #[.val (.long tt_), .second, .val (.long m_), .second, .val (.int fl), .val (.int (1 : Int32)), .val (.int (((fl.toUInt32 >>> ((1 : Int32) &&& 31).toUInt32).toInt32) &&& (3 : Int32))), .val (.long (-1 : Int64)), .second, .val (.ref b43), .val (.ref b44), .unset]) rfl kK) ?_
        show OwnFin p e below _ (T47.setTop (mkF m 94 #[.val (.long tt_), .second, .val (.long m_), .second, .val (.int fl), .val (.int (1 : Int32)), .val (.int (((fl.toUInt32 >>> ((1 : Int32) &&& 31).toUInt32).toInt32) &&& (3 : Int32))), .val (.long (-1 : Int64)), .second, .val (.ref b43), .val (.ref b44), .unset] []))
        refine OwnFin.step (fun tT kK => XS.iload X47.here hx rfl (hb hby at_94) rfl kK) ?_
        show OwnFin p e below _ (T47.setTop (mkF m 96 #[.val (.long tt_), .second, .val (.long m_), .second, .val (.int fl), .val (.int (1 : Int32)), .val (.int (((fl.toUInt32 >>> ((1 : Int32) &&& 31).toUInt32).toInt32) &&& (3 : Int32))), .val (.long (-1 : Int64)), .second, .val (.ref b43), .val (.ref b44), .unset] [(.int (1 : Int32))]))
        refine OwnFin.step (fun tT kK => XS.ifNo X47.here hx rfl (hb hby at_96) rfl ((if0 _ _).trans (feq (by decide : ¬ ((1 : Int32) = (0 : Int32)))).1) kK) ?_
        show OwnFin p e below _ (T47.setTop (mkF m 99 #[.val (.long tt_), .second, .val (.long m_), .second, .val (.int fl), .val (.int (1 : Int32)), .val (.int (((fl.toUInt32 >>> ((1 : Int32) &&& 31).toUInt32).toInt32) &&& (3 : Int32))), .val (.long (-1 : Int64)), .second, .val (.ref b43), .val (.ref b44), .unset] []))
        refine OwnFin.step (fun tT kK => XS.iconst X47.here hx rfl (hb hby at_99) kK) ?_
        show OwnFin p e below _ (T47.setTop (mkF m 100 #[.val (.long tt_), .second, .val (.long m_), .second, .val (.int fl), .val (.int (1 : Int32)), .val (.int (((fl.toUInt32 >>> ((1 : Int32) &&& 31).toUInt32).toInt32) &&& (3 : Int32))), .val (.long (-1 : Int64)), .second, .val (.ref b43), .val (.ref b44), .unset] [(.int (0 : Int32))]))
        refine OwnFin.step (fun tT kK => XS.istore X47.here hx rfl (hb hby at_100) rfl (l' := #[.val (.long tt_), .second, .val (.long m_), .second, .val (.int fl), .val (.int (1 : Int32)), .val (.int (((fl.toUInt32 >>> ((1 : Int32) &&& 31).toUInt32).toInt32) &&& (3 : Int32))), .val (.long (-1 : Int64)), .second, .val (.ref b43), .val (.ref b44), .val (.int (0 : Int32))]) rfl kK) ?_
        show OwnFin p e below _ (T47.setTop (mkF m 102 #[.val (.long tt_), .second, .val (.long m_), .second, .val (.int fl), .val (.int (1 : Int32)), .val (.int (((fl.toUInt32 >>> ((1 : Int32) &&& 31).toUInt32).toInt32) &&& (3 : Int32))), .val (.long (-1 : Int64)), .second, .val (.ref b43), .val (.ref b44), .val (.int (0 : Int32))] []))
        refine OwnFin.step (fun tT kK => XS.goto X47.here hx rfl (pc0 := 102) (pc' := 121) rfl (hb hby at_102) (by decide) (by decide) kK) ?_
        show OwnFin p e below _ (T47.setTop (mkF m 121 #[.val (.long tt_), .second, .val (.long m_), .second, .val (.int fl), .val (.int (1 : Int32)), .val (.int (((fl.toUInt32 >>> ((1 : Int32) &&& 31).toUInt32).toInt32) &&& (3 : Int32))), .val (.long (-1 : Int64)), .second, .val (.ref b43), .val (.ref b44), .val (.int (0 : Int32))] []))
        refine OwnFin.step (fun tT kK => XS.aload X47.here hx rfl (hb hby at_121) rfl rfl kK) ?_
        show OwnFin p e below _ (T47.setTop (mkF m 123 #[.val (.long tt_), .second, .val (.long m_), .second, .val (.int fl), .val (.int (1 : Int32)), .val (.int (((fl.toUInt32 >>> ((1 : Int32) &&& 31).toUInt32).toInt32) &&& (3 : Int32))), .val (.long (-1 : Int64)), .second, .val (.ref b43), .val (.ref b44), .val (.int (0 : Int32))] [(.ref b44)]))
        obtain ⟨cq48, kq48, q48a, q48b, q48c⟩ := isOf hZ rfl P47_0
        obtain ⟨_, _, ⟨T48, L48, k48, n48⟩, -, X48, ⟨Lc48, hQ48, l48, y48, z48⟩, st48⟩ := X47.virtualBack hx (y := (⟨"com/example/limpet/limpet/TakeReply", "gone", "()Z"⟩ : MethodName)) (z := (⟨"com/example/limpet/limpet/TakeReply", "gone", "()Z"⟩ : MethodName)) hown (mvT hZ (hw _ (List.mem_of_getElem? (i := 19) rfl))) (mvT hZ (hw _ (List.mem_of_getElem? (i := 20) rfl))) (notFace_of_selects (args := #[]) (mvT hZ (hw _ (List.mem_of_getElem? (i := 22) rfl)))) (mvT hZ (hw _ (List.mem_of_getElem? (i := 22) rfl))) (mvT hZ (hw _ (List.mem_of_getElem? (i := 21) rfl))) (by decide) (backOf (W := 0) (rm6R l Z a0 hw [] b44 b43 (-1 : Int64) T47.heap n0 (Nat.le_trans (Nat.le_trans (Nat.le_trans Z0 E42.1) E44.1) K47.1) P47_1 P47_2) hZ (hw _ (List.mem_of_getElem? (i := 23) rfl)) (hw _ (List.mem_of_getElem? (i := 3) rfl)) (by decide) (by decide)) q48a q48c (g := (mkF m 123 #[.val (.long tt_), .second, .val (.long m_), .second, .val (.int fl), .val (.int (1 : Int32)), .val (.int (((fl.toUInt32 >>> ((1 : Int32) &&& 31).toUInt32).toInt32) &&& (3 : Int32))), .val (.long (-1 : Int64)), .second, .val (.ref b43), .val (.ref b44), .val (.int (0 : Int32))] [(.ref b44)])) rfl (by rw [hml]; rfl) (Steps.refl _) (argsL := []) (rest := []) (lenOf pd_63 rfl) rfl (by show 2 * 0 + _ ≤ _; exact Nat.le_of_eq rfl) (hb hby at_123) (fun _ _ => ⟨rfl, rfl, (by decide : 2 + 0 ≤ _), (by decide : 3 + 0 ≤ _)⟩)
        dsimp only [Pt.U, Pt.locs, Pt.cells, Pt.slots] at X48 l48 y48 z48 st48 hQ48
        subst l48 y48 z48
        obtain ⟨rfl, N48q, e48⟩ := hQ48
        have N48 := Fr.app N47 N48q
        refine OwnFin.step (fun tT kK => st48.trans kK) ?_
        show OwnFin p e below _ (T48.setTop (mkF m 126 #[.val (.long tt_), .second, .val (.long m_), .second, .val (.int fl), .val (.int (1 : Int32)), .val (.int (((fl.toUInt32 >>> ((1 : Int32) &&& 31).toUInt32).toInt32) &&& (3 : Int32))), .val (.long (-1 : Int64)), .second, .val (.ref b43), .val (.ref b44), .val (.int (0 : Int32))] [(.int (0 : Int32))]))
        refine OwnFin.step (fun tT kK => XS.iload X48.here hx rfl (hb hby at_126) rfl kK) ?_
        show OwnFin p e below _ (T48.setTop (mkF m 128 #[.val (.long tt_), .second, .val (.long m_), .second, .val (.int fl), .val (.int (1 : Int32)), .val (.int (((fl.toUInt32 >>> ((1 : Int32) &&& 31).toUInt32).toInt32) &&& (3 : Int32))), .val (.long (-1 : Int64)), .second, .val (.ref b43), .val (.ref b44), .val (.int (0 : Int32))] [(.int (0 : Int32)), (.int (0 : Int32))]))
        refine OwnFin.step (fun tT kK => XS.icmpNo X48.here hx rfl (hb hby at_128) rfl (teq (rfl : (0 : Int32) = (0 : Int32))).2 kK) ?_
        show OwnFin p e below _ (T48.setTop (mkF m 131 #[.val (.long tt_), .second, .val (.long m_), .second, .val (.int fl), .val (.int (1 : Int32)), .val (.int (((fl.toUInt32 >>> ((1 : Int32) &&& 31).toUInt32).toInt32) &&& (3 : Int32))), .val (.long (-1 : Int64)), .second, .val (.ref b43), .val (.ref b44), .val (.int (0 : Int32))] []))
        refine OwnFin.step (fun tT kK => XS.iconst X48.here hx rfl (hb hby at_131) kK) ?_
        show OwnFin p e below _ (T48.setTop (mkF m 132 #[.val (.long tt_), .second, .val (.long m_), .second, .val (.int fl), .val (.int (1 : Int32)), .val (.int (((fl.toUInt32 >>> ((1 : Int32) &&& 31).toUInt32).toInt32) &&& (3 : Int32))), .val (.long (-1 : Int64)), .second, .val (.ref b43), .val (.ref b44), .val (.int (0 : Int32))] [(.int (1 : Int32))]))
        refine OwnFin.step (fun tT kK => XS.goto X48.here hx rfl (pc0 := 132) (pc' := 136) rfl (hb hby at_132) (by decide) (by decide) kK) ?_
        show OwnFin p e below _ (T48.setTop (mkF m 136 #[.val (.long tt_), .second, .val (.long m_), .second, .val (.int fl), .val (.int (1 : Int32)), .val (.int (((fl.toUInt32 >>> ((1 : Int32) &&& 31).toUInt32).toInt32) &&& (3 : Int32))), .val (.long (-1 : Int64)), .second, .val (.ref b43), .val (.ref b44), .val (.int (0 : Int32))] [(.int (1 : Int32))]))
        obtain ⟨fs49, hr49, hrun49, hended49, hW49, hsame49⟩ := X48.leave (v := (some (.int (1 : Int32)))) (fun h => by rw [Bd.returns] at h; cases h)
        refine ⟨_, _, retN X48 hx (t := .boolean) Bd.returns (by simp) (hb hby at_136) hr49, hrun49, hended49, _, _, rfl, ?_, ⟨_, rfl⟩, hW49, hsame49.mono (by decide) (by decide)⟩
        show Q0 Z tt_ m_ fl ca cl h0 n0 _ T48.heap _
        rw [e48]
        exact ⟨rfl, N48, ((((Keep.refl h0 []).ext E42).ext E44).trans K47 (allS (P := fun x => x ∈ [] ∨ h0.size ≤ x) (Or.inr (Nat.le_trans (Nat.le_trans (Nat.le_refl _) E42.1) (Nat.le_of_eq g44.symm))) all0))⟩
      · skip
        refine OwnFin.step (fun tT kK => XS.icmpYes X0.here hx rfl (pc0 := 38) (pc' := 49) rfl (hb hby at_38) rfl (feq (hc41 : ¬ ((((fl.toUInt32 >>> ((1 : Int32) &&& 31).toUInt32).toInt32) &&& (3 : Int32)) = (1 : Int32)))).2 (by decide) (by decide) kK) ?_
        show OwnFin p e below _ (s₁.setTop (mkF m 49 #[.val (.long tt_), .second, .val (.long m_), .second, .val (.int fl), .val (.int (1 : Int32)), .val (.int (((fl.toUInt32 >>> ((1 : Int32) &&& 31).toUInt32).toInt32) &&& (3 : Int32))), .unset, .unset, .unset, .unset, .unset] []))
        refine OwnFin.step (fun tT kK => XS.iload X0.here hx rfl (hb hby at_49) rfl kK) ?_
        show OwnFin p e below _ (s₁.setTop (mkF m 51 #[.val (.long tt_), .second, .val (.long m_), .second, .val (.int fl), .val (.int (1 : Int32)), .val (.int (((fl.toUInt32 >>> ((1 : Int32) &&& 31).toUInt32).toInt32) &&& (3 : Int32))), .unset, .unset, .unset, .unset, .unset] [(.int (((fl.toUInt32 >>> ((1 : Int32) &&& 31).toUInt32).toInt32) &&& (3 : Int32)))]))
        refine OwnFin.step (fun tT kK => XS.iconst X0.here hx rfl (hb hby at_51) kK) ?_
        show OwnFin p e below _ (s₁.setTop (mkF m 52 #[.val (.long tt_), .second, .val (.long m_), .second, .val (.int fl), .val (.int (1 : Int32)), .val (.int (((fl.toUInt32 >>> ((1 : Int32) &&& 31).toUInt32).toInt32) &&& (3 : Int32))), .unset, .unset, .unset, .unset, .unset] [(.int (2 : Int32)), (.int (((fl.toUInt32 >>> ((1 : Int32) &&& 31).toUInt32).toInt32) &&& (3 : Int32)))]))
        by_cases hc50 : (((fl.toUInt32 >>> ((1 : Int32) &&& 31).toUInt32).toInt32) &&& (3 : Int32)) = (2 : Int32)
        · skip
          refine OwnFin.step (fun tT kK => XS.icmpNo X0.here hx rfl (hb hby at_52) rfl (teq (hc50 : (((fl.toUInt32 >>> ((1 : Int32) &&& 31).toUInt32).toInt32) &&& (3 : Int32)) = (2 : Int32))).2 kK) ?_
          show OwnFin p e below _ (s₁.setTop (mkF m 55 #[.val (.long tt_), .second, .val (.long m_), .second, .val (.int fl), .val (.int (1 : Int32)), .val (.int (((fl.toUInt32 >>> ((1 : Int32) &&& 31).toUInt32).toInt32) &&& (3 : Int32))), .unset, .unset, .unset, .unset, .unset] []))
          refine OwnFin.step (fun tT kK => X0.ldc2J hx hown (mvT hZ (hw _ (List.mem_of_getElem? (i := 49) rfl))) (g := (mkF m 55 #[.val (.long tt_), .second, .val (.long m_), .second, .val (.int fl), .val (.int (1 : Int32)), .val (.int (((fl.toUInt32 >>> ((1 : Int32) &&& 31).toUInt32).toInt32) &&& (3 : Int32))), .unset, .unset, .unset, .unset, .unset] [])) rfl (hb hby at_55) kK) ?_
          show OwnFin p e below _ (s₁.setTop (mkF m 58 #[.val (.long tt_), .second, .val (.long m_), .second, .val (.int fl), .val (.int (1 : Int32)), .val (.int (((fl.toUInt32 >>> ((1 : Int32) &&& 31).toUInt32).toInt32) &&& (3 : Int32))), .unset, .unset, .unset, .unset, .unset] [(.long (-3 : Int64))]))
          refine OwnFin.step (fun tT kK => XS.lstore X0.here hx rfl (hb hby at_58) rfl (l' := #[.val (.long tt_), .second, .val (.long m_), .second, .val (.int fl), .val (.int (1 : Int32)), .val (.int (((fl.toUInt32 >>> ((1 : Int32) &&& 31).toUInt32).toInt32) &&& (3 : Int32))), .val (.long (-3 : Int64)), .second, .unset, .unset, .unset]) rfl kK) ?_
          show OwnFin p e below _ (s₁.setTop (mkF m 60 #[.val (.long tt_), .second, .val (.long m_), .second, .val (.int fl), .val (.int (1 : Int32)), .val (.int (((fl.toUInt32 >>> ((1 : Int32) &&& 31).toUInt32).toInt32) &&& (3 : Int32))), .val (.long (-3 : Int64)), .second, .unset, .unset, .unset] []))
          refine OwnFin.step (fun tT kK => XS.goto X0.here hx rfl (pc0 := 60) (pc' := 66) rfl (hb hby at_60) (by decide) (by decide) kK) ?_
          show OwnFin p e below _ (s₁.setTop (mkF m 66 #[.val (.long tt_), .second, .val (.long m_), .second, .val (.int fl), .val (.int (1 : Int32)), .val (.int (((fl.toUInt32 >>> ((1 : Int32) &&& 31).toUInt32).toInt32) &&& (3 : Int32))), .val (.long (-3 : Int64)), .second, .unset, .unset, .unset] []))
          refine OwnFin.step (fun tT kK => XS.iload X0.here hx rfl (hb hby at_66) rfl kK) ?_
          show OwnFin p e below _ (s₁.setTop (mkF m 68 #[.val (.long tt_), .second, .val (.long m_), .second, .val (.int fl), .val (.int (1 : Int32)), .val (.int (((fl.toUInt32 >>> ((1 : Int32) &&& 31).toUInt32).toInt32) &&& (3 : Int32))), .val (.long (-3 : Int64)), .second, .unset, .unset, .unset] [(.int (1 : Int32))]))
          refine OwnFin.step (fun tT kK => XS.ifNo X0.here hx rfl (hb hby at_68) rfl ((if0 _ _).trans (feq (by decide : ¬ ((1 : Int32) = (0 : Int32)))).1) kK) ?_
          show OwnFin p e below _ (s₁.setTop (mkF m 71 #[.val (.long tt_), .second, .val (.long m_), .second, .val (.int fl), .val (.int (1 : Int32)), .val (.int (((fl.toUInt32 >>> ((1 : Int32) &&& 31).toUInt32).toInt32) &&& (3 : Int32))), .val (.long (-3 : Int64)), .second, .unset, .unset, .unset] []))
          refine OwnFin.step (fun tT kK => XS.lloadN X0.here hx rfl (hb hby at_71) rfl kK) ?_
          show OwnFin p e below _ (s₁.setTop (mkF m 72 #[.val (.long tt_), .second, .val (.long m_), .second, .val (.int fl), .val (.int (1 : Int32)), .val (.int (((fl.toUInt32 >>> ((1 : Int32) &&& 31).toUInt32).toInt32) &&& (3 : Int32))), .val (.long (-3 : Int64)), .second, .unset, .unset, .unset] [(.long tt_)]))
          obtain ⟨_, _, ⟨T51, L51, k51, n51⟩, -, X51, ⟨Lc51, hQ51, l51, y51, z51⟩, st51⟩ := Jvm.LawKit.callS X0 hx (y := (⟨"java/lang/Long", "valueOf", "(J)Ljava/lang/Long;"⟩ : MethodName)) hown (mvT hZ (hw _ (List.mem_of_getElem? (i := 25) rfl))) (mvT hZ (hw _ (List.mem_of_getElem? (i := 26) rfl))) (mvT hZ (hw _ (List.mem_of_getElem? (i := 27) rfl))) (mvT hZ (hw _ (List.mem_of_getElem? (i := 28) rfl))) (by decide) (backOf (W := 0) (rm4 l Z a0 hw [] tt_ ca cl h0 n0 Z0 hp0 hp1 (hp2)) hZ (hw _ (List.mem_of_getElem? (i := 28) rfl)) (hw _ (List.mem_of_getElem? (i := 27) rfl)) (by decide) (by decide)) (g := (mkF m 72 #[.val (.long tt_), .second, .val (.long m_), .second, .val (.int fl), .val (.int (1 : Int32)), .val (.int (((fl.toUInt32 >>> ((1 : Int32) &&& 31).toUInt32).toInt32) &&& (3 : Int32))), .val (.long (-3 : Int64)), .second, .unset, .unset, .unset] [(.long tt_)])) rfl (by rw [hml]; rfl) (argsL := [(.long tt_)]) (rest := []) (lenOf pd_64 rfl) rfl (by show 2 * 0 + _ ≤ _; exact Nat.le_of_eq rfl) (hb hby at_72) (fun _ _ => ⟨rfl, e0, (by decide : 0 + 1 ≤ _), (by decide : 0 + 1 ≤ _)⟩)
          dsimp only [Pt.U, Pt.locs, Pt.cells, Pt.slots] at X51 l51 y51 z51 st51 hQ51
          subst l51 y51 z51
          obtain ⟨b52, ⟨rfl, N51q, K51⟩⟩ := hQ51
          have N51 := Fr.app N0 N51q
          refine OwnFin.step st51 ?_
          have E51 : Ext h0 T51.heap := ⟨K51.1, fun x c q => K51.2.1 x c q nin0⟩
          show OwnFin p e below _ (T51.setTop (mkF m 75 #[.val (.long tt_), .second, .val (.long m_), .second, .val (.int fl), .val (.int (1 : Int32)), .val (.int (((fl.toUInt32 >>> ((1 : Int32) &&& 31).toUInt32).toInt32) &&& (3 : Int32))), .val (.long (-3 : Int64)), .second, .unset, .unset, .unset] [(.ref b52)]))
          refine OwnFin.step (fun tT kK => XS.goto X51.here hx rfl (pc0 := 75) (pc' := 79) rfl (hb hby at_75) (by decide) (by decide) kK) ?_
          show OwnFin p e below _ (T51.setTop (mkF m 79 #[.val (.long tt_), .second, .val (.long m_), .second, .val (.int fl), .val (.int (1 : Int32)), .val (.int (((fl.toUInt32 >>> ((1 : Int32) &&& 31).toUInt32).toInt32) &&& (3 : Int32))), .val (.long (-3 : Int64)), .second, .unset, .unset, .unset] [(.ref b52)]))
          refine OwnFin.step (fun tT kK => XS.astore X51.here hx rfl (hb hby at_79) rfl rfl (l' := #[.val (.long tt_), .second, .val (.long m_), .second, .val (.int fl), .val (.int (1 : Int32)), .val (.int (((fl.toUInt32 >>> ((1 : Int32) &&& 31).toUInt32).toInt32) &&& (3 : Int32))), .val (.long (-3 : Int64)), .second, .val (.ref b52), .unset, .unset]) rfl kK) ?_
          show OwnFin p e below _ (T51.setTop (mkF m 81 #[.val (.long tt_), .second, .val (.long m_), .second, .val (.int fl), .val (.int (1 : Int32)), .val (.int (((fl.toUInt32 >>> ((1 : Int32) &&& 31).toUInt32).toInt32) &&& (3 : Int32))), .val (.long (-3 : Int64)), .second, .val (.ref b52), .unset, .unset] []))
          obtain ⟨T53, h53, X53, e53, E53, A53, D53, -, st53⟩ := newO X51 hx hZ hown (hw _ (List.mem_of_getElem? (i := 1) rfl)) (hw _ (List.mem_of_getElem? (i := 2) rfl)) (hw _ (List.mem_of_getElem? (i := 3) rfl)) rfl (g := (mkF m 81 #[.val (.long tt_), .second, .val (.long m_), .second, .val (.int fl), .val (.int (1 : Int32)), .val (.int (((fl.toUInt32 >>> ((1 : Int32) &&& 31).toUInt32).toInt32) &&& (3 : Int32))), .val (.long (-3 : Int64)), .second, .val (.ref b52), .unset, .unset] [])) rfl (hb hby at_81) (by decide) (by decide)
          obtain ⟨b53, g53⟩ : ∃ z, z = T51.heap.size := ⟨_, rfl⟩
          rw [← g53] at A53 D53 st53
          refine OwnFin.step st53 ?_
          have Fz54 : Fld Z h53 b53 "com/example/limpet/limpet/TakeReply" "token" "Ljava/lang/Long;" .null := D53 (Or.inr (hw _ (List.mem_of_getElem? (i := 16) rfl))) (ty := (.object "java/lang/Long")) (by decide)
          have Fz55 : Fld Z h53 b53 "com/example/limpet/limpet/TakeReply" "toldMillis" "J" (.long (0 : Int64)) := D53 (Or.inr (hw _ (List.mem_of_getElem? (i := 18) rfl))) (ty := .long) (by decide)
          show OwnFin p e below _ (T53.setTop (mkF m 84 #[.val (.long tt_), .second, .val (.long m_), .second, .val (.int fl), .val (.int (1 : Int32)), .val (.int (((fl.toUInt32 >>> ((1 : Int32) &&& 31).toUInt32).toInt32) &&& (3 : Int32))), .val (.long (-3 : Int64)), .second, .val (.ref b52), .unset, .unset] [(.ref b53)]))
          refine OwnFin.step (fun tT kK => XS.dup X53.here hx rfl (hb hby at_84) rfl rfl kK) ?_
          show OwnFin p e below _ (T53.setTop (mkF m 85 #[.val (.long tt_), .second, .val (.long m_), .second, .val (.int fl), .val (.int (1 : Int32)), .val (.int (((fl.toUInt32 >>> ((1 : Int32) &&& 31).toUInt32).toInt32) &&& (3 : Int32))), .val (.long (-3 : Int64)), .second, .val (.ref b52), .unset, .unset] [(.ref b53), (.ref b53)]))
          refine OwnFin.step (fun tT kK => XS.aload X53.here hx rfl (hb hby at_85) rfl rfl kK) ?_
          show OwnFin p e below _ (T53.setTop (mkF m 87 #[.val (.long tt_), .second, .val (.long m_), .second, .val (.int fl), .val (.int (1 : Int32)), .val (.int (((fl.toUInt32 >>> ((1 : Int32) &&& 31).toUInt32).toInt32) &&& (3 : Int32))), .val (.long (-3 : Int64)), .second, .val (.ref b52), .unset, .unset] [(.ref b52), (.ref b53), (.ref b53)]))
          refine OwnFin.step (fun tT kK => XS.lload X53.here hx rfl (hb hby at_87) rfl kK) ?_
          show OwnFin p e below _ (T53.setTop (mkF m 89 #[.val (.long tt_), .second, .val (.long m_), .second, .val (.int fl), .val (.int (1 : Int32)), .val (.int (((fl.toUInt32 >>> ((1 : Int32) &&& 31).toUInt32).toInt32) &&& (3 : Int32))), .val (.long (-3 : Int64)), .second, .val (.ref b52), .unset, .unset] [(.long (-3 : Int64)), (.ref b52), (.ref b53), (.ref b53)]))
          obtain ⟨_, _, ⟨T56, L56, k56, n56⟩, -, X56, ⟨Lc56, hQ56, l56, y56, z56⟩, st56⟩ := X53.specialBack hx (y := (⟨"com/example/limpet/limpet/TakeReply", "<init>", "(Ljava/lang/Long;J)V"⟩ : MethodName)) rfl hown (mvT hZ (hw _ (List.mem_of_getElem? (i := 4) rfl))) (mvT hZ (hw _ (List.mem_of_getElem? (i := 5) rfl))) (mvT hZ (hw _ (List.mem_of_getElem? (i := 6) rfl))) (by decide) (backOf (W := 1) (rm5R l Z a0 hw [] b53 b52 (-3 : Int64) h53 n0 (Nat.le_trans (Nat.le_trans Z0 E51.1) E53.1) A53 Fz54 Fz55 (Nat.le_trans (Nat.le_trans Z0 E51.1) (Nat.le_of_eq g53.symm))) hZ (hw _ (List.mem_of_getElem? (i := 6) rfl)) (hw _ (List.mem_of_getElem? (i := 3) rfl)) (by decide) (by decide)) (g := (mkF m 89 #[.val (.long tt_), .second, .val (.long m_), .second, .val (.int fl), .val (.int (1 : Int32)), .val (.int (((fl.toUInt32 >>> ((1 : Int32) &&& 31).toUInt32).toInt32) &&& (3 : Int32))), .val (.long (-3 : Int64)), .second, .val (.ref b52), .unset, .unset] [(.long (-3 : Int64)), (.ref b52), (.ref b53), (.ref b53)])) rfl (by rw [hml]; rfl) (Steps.refl _) (a := b53) (argsL := [(.ref b52), (.long (-3 : Int64))]) (rest := [(.ref b53)]) (lenOf pd_62 rfl) rfl (by show 2 * 0 + _ ≤ _; exact Nat.le_of_eq rfl) (hb hby at_89) (fun _ _ => ⟨rfl, e53, (by decide : 2 + 0 ≤ _), (by decide : 3 + 0 ≤ _)⟩)
          dsimp only [Pt.U, Pt.locs, Pt.cells, Pt.slots] at X56 l56 y56 z56 st56 hQ56
          subst l56 y56 z56
          obtain ⟨rfl, N56q, K56, P56_0, P56_1, P56_2⟩ := hQ56
          have N56 := Fr.app N51 N56q
          refine OwnFin.step (fun tT kK => st56.trans kK) ?_
          show OwnFin p e below _ (T56.setTop (mkF m 92 #[.val (.long tt_), .second, .val (.long m_), .second, .val (.int fl), .val (.int (1 : Int32)), .val (.int (((fl.toUInt32 >>> ((1 : Int32) &&& 31).toUInt32).toInt32) &&& (3 : Int32))), .val (.long (-3 : Int64)), .second, .val (.ref b52), .unset, .unset] [(.ref b53)]))
          refine OwnFin.step (fun tT kK => XS.astore X56.here hx rfl (hb hby at_92) rfl rfl (l' := #[.val (.long tt_), .second, .val (.long m_), .second, .val (.int fl), .val (.int (1 : Int32)), .val (.int (((fl.toUInt32 >>> ((1 : Int32) &&& 31).toUInt32).toInt32) &&& (3 : Int32))), .val (.long (-3 : Int64)), .second, .val (.ref b52), .val (.ref b53), .unset]) rfl kK) ?_
          show OwnFin p e below _ (T56.setTop (mkF m 94 #[.val (.long tt_), .second, .val (.long m_), .second, .val (.int fl), .val (.int (1 : Int32)), .val (.int (((fl.toUInt32 >>> ((1 : Int32) &&& 31).toUInt32).toInt32) &&& (3 : Int32))), .val (.long (-3 : Int64)), .second, .val (.ref b52), .val (.ref b53), .unset] []))
          refine OwnFin.step (fun tT kK => XS.iload X56.here hx rfl (hb hby at_94) rfl kK) ?_
          show OwnFin p e below _ (T56.setTop (mkF m 96 #[.val (.long tt_), .second, .val (.long m_), .second, .val (.int fl), .val (.int (1 : Int32)), .val (.int (((fl.toUInt32 >>> ((1 : Int32) &&& 31).toUInt32).toInt32) &&& (3 : Int32))), .val (.long (-3 : Int64)), .second, .val (.ref b52), .val (.ref b53), .unset] [(.int (1 : Int32))]))
          refine OwnFin.step (fun tT kK => XS.ifNo X56.here hx rfl (hb hby at_96) rfl ((if0 _ _).trans (feq (by decide : ¬ ((1 : Int32) = (0 : Int32)))).1) kK) ?_
          show OwnFin p e below _ (T56.setTop (mkF m 99 #[.val (.long tt_), .second, .val (.long m_), .second, .val (.int fl), .val (.int (1 : Int32)), .val (.int (((fl.toUInt32 >>> ((1 : Int32) &&& 31).toUInt32).toInt32) &&& (3 : Int32))), .val (.long (-3 : Int64)), .second, .val (.ref b52), .val (.ref b53), .unset] []))
          refine OwnFin.step (fun tT kK => XS.iconst X56.here hx rfl (hb hby at_99) kK) ?_
          show OwnFin p e below _ (T56.setTop (mkF m 100 #[.val (.long tt_), .second, .val (.long m_), .second, .val (.int fl), .val (.int (1 : Int32)), .val (.int (((fl.toUInt32 >>> ((1 : Int32) &&& 31).toUInt32).toInt32) &&& (3 : Int32))), .val (.long (-3 : Int64)), .second, .val (.ref b52), .val (.ref b53), .unset] [(.int (0 : Int32))]))
          refine OwnFin.step (fun tT kK => XS.istore X56.here hx rfl (hb hby at_100) rfl (l' := #[.val (.long tt_), .second, .val (.long m_), .second, .val (.int fl), .val (.int (1 : Int32)), .val (.int (((fl.toUInt32 >>> ((1 : Int32) &&& 31).toUInt32).toInt32) &&& (3 : Int32))), .val (.long (-3 : Int64)), .second, .val (.ref b52), .val (.ref b53), .val (.int (0 : Int32))]) rfl kK) ?_
          show OwnFin p e below _ (T56.setTop (mkF m 102 #[.val (.long tt_), .second, .val (.long m_), .second, .val (.int fl), .val (.int (1 : Int32)), .val (.int (((fl.toUInt32 >>> ((1 : Int32) &&& 31).toUInt32).toInt32) &&& (3 : Int32))), .val (.long (-3 : Int64)), .second, .val (.ref b52), .val (.ref b53), .val (.int (0 : Int32))] []))
          refine OwnFin.step (fun tT kK => XS.goto X56.here hx rfl (pc0 := 102) (pc' := 121) rfl (hb hby at_102) (by decide) (by decide) kK) ?_
          show OwnFin p e below _ (T56.setTop (mkF m 121 #[.val (.long tt_), .second, .val (.long m_), .second, .val (.int fl), .val (.int (1 : Int32)), .val (.int (((fl.toUInt32 >>> ((1 : Int32) &&& 31).toUInt32).toInt32) &&& (3 : Int32))), .val (.long (-3 : Int64)), .second, .val (.ref b52), .val (.ref b53), .val (.int (0 : Int32))] []))
          refine OwnFin.step (fun tT kK => XS.aload X56.here hx rfl (hb hby at_121) rfl rfl kK) ?_
          show OwnFin p e below _ (T56.setTop (mkF m 123 #[.val (.long tt_), .second, .val (.long m_), .second, .val (.int fl), .val (.int (1 : Int32)), .val (.int (((fl.toUInt32 >>> ((1 : Int32) &&& 31).toUInt32).toInt32) &&& (3 : Int32))), .val (.long (-3 : Int64)), .second, .val (.ref b52), .val (.ref b53), .val (.int (0 : Int32))] [(.ref b53)]))
          obtain ⟨cq57, kq57, q57a, q57b, q57c⟩ := isOf hZ rfl P56_0
          obtain ⟨_, _, ⟨T57, L57, k57, n57⟩, -, X57, ⟨Lc57, hQ57, l57, y57, z57⟩, st57⟩ := X56.virtualBack hx (y := (⟨"com/example/limpet/limpet/TakeReply", "gone", "()Z"⟩ : MethodName)) (z := (⟨"com/example/limpet/limpet/TakeReply", "gone", "()Z"⟩ : MethodName)) hown (mvT hZ (hw _ (List.mem_of_getElem? (i := 19) rfl))) (mvT hZ (hw _ (List.mem_of_getElem? (i := 20) rfl))) (notFace_of_selects (args := #[]) (mvT hZ (hw _ (List.mem_of_getElem? (i := 22) rfl)))) (mvT hZ (hw _ (List.mem_of_getElem? (i := 22) rfl))) (mvT hZ (hw _ (List.mem_of_getElem? (i := 21) rfl))) (by decide) (backOf (W := 0) (rm6R l Z a0 hw [] b53 b52 (-3 : Int64) T56.heap n0 (Nat.le_trans (Nat.le_trans (Nat.le_trans Z0 E51.1) E53.1) K56.1) P56_1 P56_2) hZ (hw _ (List.mem_of_getElem? (i := 23) rfl)) (hw _ (List.mem_of_getElem? (i := 3) rfl)) (by decide) (by decide)) q57a q57c (g := (mkF m 123 #[.val (.long tt_), .second, .val (.long m_), .second, .val (.int fl), .val (.int (1 : Int32)), .val (.int (((fl.toUInt32 >>> ((1 : Int32) &&& 31).toUInt32).toInt32) &&& (3 : Int32))), .val (.long (-3 : Int64)), .second, .val (.ref b52), .val (.ref b53), .val (.int (0 : Int32))] [(.ref b53)])) rfl (by rw [hml]; rfl) (Steps.refl _) (argsL := []) (rest := []) (lenOf pd_63 rfl) rfl (by show 2 * 0 + _ ≤ _; exact Nat.le_of_eq rfl) (hb hby at_123) (fun _ _ => ⟨rfl, rfl, (by decide : 2 + 0 ≤ _), (by decide : 3 + 0 ≤ _)⟩)
          dsimp only [Pt.U, Pt.locs, Pt.cells, Pt.slots] at X57 l57 y57 z57 st57 hQ57
          subst l57 y57 z57
          obtain ⟨rfl, N57q, e57⟩ := hQ57
          have N57 := Fr.app N56 N57q
          refine OwnFin.step (fun tT kK => st57.trans kK) ?_
          show OwnFin p e below _ (T57.setTop (mkF m 126 #[.val (.long tt_), .second, .val (.long m_), .second, .val (.int fl), .val (.int (1 : Int32)), .val (.int (((fl.toUInt32 >>> ((1 : Int32) &&& 31).toUInt32).toInt32) &&& (3 : Int32))), .val (.long (-3 : Int64)), .second, .val (.ref b52), .val (.ref b53), .val (.int (0 : Int32))] [(.int (0 : Int32))]))
          refine OwnFin.step (fun tT kK => XS.iload X57.here hx rfl (hb hby at_126) rfl kK) ?_
          show OwnFin p e below _ (T57.setTop (mkF m 128 #[.val (.long tt_), .second, .val (.long m_), .second, .val (.int fl), .val (.int (1 : Int32)), .val (.int (((fl.toUInt32 >>> ((1 : Int32) &&& 31).toUInt32).toInt32) &&& (3 : Int32))), .val (.long (-3 : Int64)), .second, .val (.ref b52), .val (.ref b53), .val (.int (0 : Int32))] [(.int (0 : Int32)), (.int (0 : Int32))]))
          refine OwnFin.step (fun tT kK => XS.icmpNo X57.here hx rfl (hb hby at_128) rfl (teq (rfl : (0 : Int32) = (0 : Int32))).2 kK) ?_
          show OwnFin p e below _ (T57.setTop (mkF m 131 #[.val (.long tt_), .second, .val (.long m_), .second, .val (.int fl), .val (.int (1 : Int32)), .val (.int (((fl.toUInt32 >>> ((1 : Int32) &&& 31).toUInt32).toInt32) &&& (3 : Int32))), .val (.long (-3 : Int64)), .second, .val (.ref b52), .val (.ref b53), .val (.int (0 : Int32))] []))
          refine OwnFin.step (fun tT kK => XS.iconst X57.here hx rfl (hb hby at_131) kK) ?_
          show OwnFin p e below _ (T57.setTop (mkF m 132 #[.val (.long tt_), .second, .val (.long m_), .second, .val (.int fl), .val (.int (1 : Int32)), .val (.int (((fl.toUInt32 >>> ((1 : Int32) &&& 31).toUInt32).toInt32) &&& (3 : Int32))), .val (.long (-3 : Int64)), .second, .val (.ref b52), .val (.ref b53), .val (.int (0 : Int32))] [(.int (1 : Int32))]))
          refine OwnFin.step (fun tT kK => XS.goto X57.here hx rfl (pc0 := 132) (pc' := 136) rfl (hb hby at_132) (by decide) (by decide) kK) ?_
          show OwnFin p e below _ (T57.setTop (mkF m 136 #[.val (.long tt_), .second, .val (.long m_), .second, .val (.int fl), .val (.int (1 : Int32)), .val (.int (((fl.toUInt32 >>> ((1 : Int32) &&& 31).toUInt32).toInt32) &&& (3 : Int32))), .val (.long (-3 : Int64)), .second, .val (.ref b52), .val (.ref b53), .val (.int (0 : Int32))] [(.int (1 : Int32))]))
          obtain ⟨fs58, hr58, hrun58, hended58, hW58, hsame58⟩ := X57.leave (v := (some (.int (1 : Int32)))) (fun h => by rw [Bd.returns] at h; cases h)
          refine ⟨_, _, retN X57 hx (t := .boolean) Bd.returns (by simp) (hb hby at_136) hr58, hrun58, hended58, _, _, rfl, ?_, ⟨_, rfl⟩, hW58, hsame58.mono (by decide) (by decide)⟩
          show Q0 Z tt_ m_ fl ca cl h0 n0 _ T57.heap _
          rw [e57]
          exact ⟨rfl, N57, ((((Keep.refl h0 []).ext E51).ext E53).trans K56 (allS (P := fun x => x ∈ [] ∨ h0.size ≤ x) (Or.inr (Nat.le_trans (Nat.le_trans (Nat.le_refl _) E51.1) (Nat.le_of_eq g53.symm))) all0))⟩
        · skip
          refine OwnFin.step (fun tT kK => XS.icmpYes X0.here hx rfl (pc0 := 52) (pc' := 63) rfl (hb hby at_52) rfl (feq (hc50 : ¬ ((((fl.toUInt32 >>> ((1 : Int32) &&& 31).toUInt32).toInt32) &&& (3 : Int32)) = (2 : Int32)))).2 (by decide) (by decide) kK) ?_
          show OwnFin p e below _ (s₁.setTop (mkF m 63 #[.val (.long tt_), .second, .val (.long m_), .second, .val (.int fl), .val (.int (1 : Int32)), .val (.int (((fl.toUInt32 >>> ((1 : Int32) &&& 31).toUInt32).toInt32) &&& (3 : Int32))), .unset, .unset, .unset, .unset, .unset] []))
          refine OwnFin.step (fun tT kK => XS.lloadN X0.here hx rfl (hb hby at_63) rfl kK) ?_
          show OwnFin p e below _ (s₁.setTop (mkF m 64 #[.val (.long tt_), .second, .val (.long m_), .second, .val (.int fl), .val (.int (1 : Int32)), .val (.int (((fl.toUInt32 >>> ((1 : Int32) &&& 31).toUInt32).toInt32) &&& (3 : Int32))), .unset, .unset, .unset, .unset, .unset] [(.long m_)]))
          refine OwnFin.step (fun tT kK => XS.lstore X0.here hx rfl (hb hby at_64) rfl (l' := #[.val (.long tt_), .second, .val (.long m_), .second, .val (.int fl), .val (.int (1 : Int32)), .val (.int (((fl.toUInt32 >>> ((1 : Int32) &&& 31).toUInt32).toInt32) &&& (3 : Int32))), .val (.long m_), .second, .unset, .unset, .unset]) rfl kK) ?_
          show OwnFin p e below _ (s₁.setTop (mkF m 66 #[.val (.long tt_), .second, .val (.long m_), .second, .val (.int fl), .val (.int (1 : Int32)), .val (.int (((fl.toUInt32 >>> ((1 : Int32) &&& 31).toUInt32).toInt32) &&& (3 : Int32))), .val (.long m_), .second, .unset, .unset, .unset] []))
          refine OwnFin.step (fun tT kK => XS.iload X0.here hx rfl (hb hby at_66) rfl kK) ?_
          show OwnFin p e below _ (s₁.setTop (mkF m 68 #[.val (.long tt_), .second, .val (.long m_), .second, .val (.int fl), .val (.int (1 : Int32)), .val (.int (((fl.toUInt32 >>> ((1 : Int32) &&& 31).toUInt32).toInt32) &&& (3 : Int32))), .val (.long m_), .second, .unset, .unset, .unset] [(.int (1 : Int32))]))
          refine OwnFin.step (fun tT kK => XS.ifNo X0.here hx rfl (hb hby at_68) rfl ((if0 _ _).trans (feq (by decide : ¬ ((1 : Int32) = (0 : Int32)))).1) kK) ?_
          show OwnFin p e below _ (s₁.setTop (mkF m 71 #[.val (.long tt_), .second, .val (.long m_), .second, .val (.int fl), .val (.int (1 : Int32)), .val (.int (((fl.toUInt32 >>> ((1 : Int32) &&& 31).toUInt32).toInt32) &&& (3 : Int32))), .val (.long m_), .second, .unset, .unset, .unset] []))
          refine OwnFin.step (fun tT kK => XS.lloadN X0.here hx rfl (hb hby at_71) rfl kK) ?_
          show OwnFin p e below _ (s₁.setTop (mkF m 72 #[.val (.long tt_), .second, .val (.long m_), .second, .val (.int fl), .val (.int (1 : Int32)), .val (.int (((fl.toUInt32 >>> ((1 : Int32) &&& 31).toUInt32).toInt32) &&& (3 : Int32))), .val (.long m_), .second, .unset, .unset, .unset] [(.long tt_)]))
          obtain ⟨_, _, ⟨T59, L59, k59, n59⟩, -, X59, ⟨Lc59, hQ59, l59, y59, z59⟩, st59⟩ := Jvm.LawKit.callS X0 hx (y := (⟨"java/lang/Long", "valueOf", "(J)Ljava/lang/Long;"⟩ : MethodName)) hown (mvT hZ (hw _ (List.mem_of_getElem? (i := 25) rfl))) (mvT hZ (hw _ (List.mem_of_getElem? (i := 26) rfl))) (mvT hZ (hw _ (List.mem_of_getElem? (i := 27) rfl))) (mvT hZ (hw _ (List.mem_of_getElem? (i := 28) rfl))) (by decide) (backOf (W := 0) (rm4 l Z a0 hw [] tt_ ca cl h0 n0 Z0 hp0 hp1 (hp2)) hZ (hw _ (List.mem_of_getElem? (i := 28) rfl)) (hw _ (List.mem_of_getElem? (i := 27) rfl)) (by decide) (by decide)) (g := (mkF m 72 #[.val (.long tt_), .second, .val (.long m_), .second, .val (.int fl), .val (.int (1 : Int32)), .val (.int (((fl.toUInt32 >>> ((1 : Int32) &&& 31).toUInt32).toInt32) &&& (3 : Int32))), .val (.long m_), .second, .unset, .unset, .unset] [(.long tt_)])) rfl (by rw [hml]; rfl) (argsL := [(.long tt_)]) (rest := []) (lenOf pd_64 rfl) rfl (by show 2 * 0 + _ ≤ _; exact Nat.le_of_eq rfl) (hb hby at_72) (fun _ _ => ⟨rfl, e0, (by decide : 0 + 1 ≤ _), (by decide : 0 + 1 ≤ _)⟩)
          dsimp only [Pt.U, Pt.locs, Pt.cells, Pt.slots] at X59 l59 y59 z59 st59 hQ59
          subst l59 y59 z59
          obtain ⟨b60, ⟨rfl, N59q, K59⟩⟩ := hQ59
          have N59 := Fr.app N0 N59q
          refine OwnFin.step st59 ?_
          have E59 : Ext h0 T59.heap := ⟨K59.1, fun x c q => K59.2.1 x c q nin0⟩
          show OwnFin p e below _ (T59.setTop (mkF m 75 #[.val (.long tt_), .second, .val (.long m_), .second, .val (.int fl), .val (.int (1 : Int32)), .val (.int (((fl.toUInt32 >>> ((1 : Int32) &&& 31).toUInt32).toInt32) &&& (3 : Int32))), .val (.long m_), .second, .unset, .unset, .unset] [(.ref b60)]))
          refine OwnFin.step (fun tT kK => XS.goto X59.here hx rfl (pc0 := 75) (pc' := 79) rfl (hb hby at_75) (by decide) (by decide) kK) ?_
          show OwnFin p e below _ (T59.setTop (mkF m 79 #[.val (.long tt_), .second, .val (.long m_), .second, .val (.int fl), .val (.int (1 : Int32)), .val (.int (((fl.toUInt32 >>> ((1 : Int32) &&& 31).toUInt32).toInt32) &&& (3 : Int32))), .val (.long m_), .second, .unset, .unset, .unset] [(.ref b60)]))
          refine OwnFin.step (fun tT kK => XS.astore X59.here hx rfl (hb hby at_79) rfl rfl (l' := #[.val (.long tt_), .second, .val (.long m_), .second, .val (.int fl), .val (.int (1 : Int32)), .val (.int (((fl.toUInt32 >>> ((1 : Int32) &&& 31).toUInt32).toInt32) &&& (3 : Int32))), .val (.long m_), .second, .val (.ref b60), .unset, .unset]) rfl kK) ?_
          show OwnFin p e below _ (T59.setTop (mkF m 81 #[.val (.long tt_), .second, .val (.long m_), .second, .val (.int fl), .val (.int (1 : Int32)), .val (.int (((fl.toUInt32 >>> ((1 : Int32) &&& 31).toUInt32).toInt32) &&& (3 : Int32))), .val (.long m_), .second, .val (.ref b60), .unset, .unset] []))
          obtain ⟨T61, h61, X61, e61, E61, A61, D61, -, st61⟩ := newO X59 hx hZ hown (hw _ (List.mem_of_getElem? (i := 1) rfl)) (hw _ (List.mem_of_getElem? (i := 2) rfl)) (hw _ (List.mem_of_getElem? (i := 3) rfl)) rfl (g := (mkF m 81 #[.val (.long tt_), .second, .val (.long m_), .second, .val (.int fl), .val (.int (1 : Int32)), .val (.int (((fl.toUInt32 >>> ((1 : Int32) &&& 31).toUInt32).toInt32) &&& (3 : Int32))), .val (.long m_), .second, .val (.ref b60), .unset, .unset] [])) rfl (hb hby at_81) (by decide) (by decide)
          obtain ⟨b61, g61⟩ : ∃ z, z = T59.heap.size := ⟨_, rfl⟩
          rw [← g61] at A61 D61 st61
          refine OwnFin.step st61 ?_
          have Fz62 : Fld Z h61 b61 "com/example/limpet/limpet/TakeReply" "token" "Ljava/lang/Long;" .null := D61 (Or.inr (hw _ (List.mem_of_getElem? (i := 16) rfl))) (ty := (.object "java/lang/Long")) (by decide)
          have Fz63 : Fld Z h61 b61 "com/example/limpet/limpet/TakeReply" "toldMillis" "J" (.long (0 : Int64)) := D61 (Or.inr (hw _ (List.mem_of_getElem? (i := 18) rfl))) (ty := .long) (by decide)
          show OwnFin p e below _ (T61.setTop (mkF m 84 #[.val (.long tt_), .second, .val (.long m_), .second, .val (.int fl), .val (.int (1 : Int32)), .val (.int (((fl.toUInt32 >>> ((1 : Int32) &&& 31).toUInt32).toInt32) &&& (3 : Int32))), .val (.long m_), .second, .val (.ref b60), .unset, .unset] [(.ref b61)]))
          refine OwnFin.step (fun tT kK => XS.dup X61.here hx rfl (hb hby at_84) rfl rfl kK) ?_
          show OwnFin p e below _ (T61.setTop (mkF m 85 #[.val (.long tt_), .second, .val (.long m_), .second, .val (.int fl), .val (.int (1 : Int32)), .val (.int (((fl.toUInt32 >>> ((1 : Int32) &&& 31).toUInt32).toInt32) &&& (3 : Int32))), .val (.long m_), .second, .val (.ref b60), .unset, .unset] [(.ref b61), (.ref b61)]))
          refine OwnFin.step (fun tT kK => XS.aload X61.here hx rfl (hb hby at_85) rfl rfl kK) ?_
          show OwnFin p e below _ (T61.setTop (mkF m 87 #[.val (.long tt_), .second, .val (.long m_), .second, .val (.int fl), .val (.int (1 : Int32)), .val (.int (((fl.toUInt32 >>> ((1 : Int32) &&& 31).toUInt32).toInt32) &&& (3 : Int32))), .val (.long m_), .second, .val (.ref b60), .unset, .unset] [(.ref b60), (.ref b61), (.ref b61)]))
          refine OwnFin.step (fun tT kK => XS.lload X61.here hx rfl (hb hby at_87) rfl kK) ?_
          show OwnFin p e below _ (T61.setTop (mkF m 89 #[.val (.long tt_), .second, .val (.long m_), .second, .val (.int fl), .val (.int (1 : Int32)), .val (.int (((fl.toUInt32 >>> ((1 : Int32) &&& 31).toUInt32).toInt32) &&& (3 : Int32))), .val (.long m_), .second, .val (.ref b60), .unset, .unset] [(.long m_), (.ref b60), (.ref b61), (.ref b61)]))
          obtain ⟨_, _, ⟨T64, L64, k64, n64⟩, -, X64, ⟨Lc64, hQ64, l64, y64, z64⟩, st64⟩ := X61.specialBack hx (y := (⟨"com/example/limpet/limpet/TakeReply", "<init>", "(Ljava/lang/Long;J)V"⟩ : MethodName)) rfl hown (mvT hZ (hw _ (List.mem_of_getElem? (i := 4) rfl))) (mvT hZ (hw _ (List.mem_of_getElem? (i := 5) rfl))) (mvT hZ (hw _ (List.mem_of_getElem? (i := 6) rfl))) (by decide) (backOf (W := 1) (rm5R l Z a0 hw [] b61 b60 m_ h61 n0 (Nat.le_trans (Nat.le_trans Z0 E59.1) E61.1) A61 Fz62 Fz63 (Nat.le_trans (Nat.le_trans Z0 E59.1) (Nat.le_of_eq g61.symm))) hZ (hw _ (List.mem_of_getElem? (i := 6) rfl)) (hw _ (List.mem_of_getElem? (i := 3) rfl)) (by decide) (by decide)) (g := (mkF m 89 #[.val (.long tt_), .second, .val (.long m_), .second, .val (.int fl), .val (.int (1 : Int32)), .val (.int (((fl.toUInt32 >>> ((1 : Int32) &&& 31).toUInt32).toInt32) &&& (3 : Int32))), .val (.long m_), .second, .val (.ref b60), .unset, .unset] [(.long m_), (.ref b60), (.ref b61), (.ref b61)])) rfl (by rw [hml]; rfl) (Steps.refl _) (a := b61) (argsL := [(.ref b60), (.long m_)]) (rest := [(.ref b61)]) (lenOf pd_62 rfl) rfl (by show 2 * 0 + _ ≤ _; exact Nat.le_of_eq rfl) (hb hby at_89) (fun _ _ => ⟨rfl, e61, (by decide : 2 + 0 ≤ _), (by decide : 3 + 0 ≤ _)⟩)
          dsimp only [Pt.U, Pt.locs, Pt.cells, Pt.slots] at X64 l64 y64 z64 st64 hQ64
          subst l64 y64 z64
          obtain ⟨rfl, N64q, K64, P64_0, P64_1, P64_2⟩ := hQ64
          have N64 := Fr.app N59 N64q
          refine OwnFin.step (fun tT kK => st64.trans kK) ?_
          show OwnFin p e below _ (T64.setTop (mkF m 92 #[.val (.long tt_), .second, .val (.long m_), .second, .val (.int fl), .val (.int (1 : Int32)), .val (.int (((fl.toUInt32 >>> ((1 : Int32) &&& 31).toUInt32).toInt32) &&& (3 : Int32))), .val (.long m_), .second, .val (.ref b60), .unset, .unset] [(.ref b61)]))
          refine OwnFin.step (fun tT kK => XS.astore X64.here hx rfl (hb hby at_92) rfl rfl (l' := #[.val (.long tt_), .second, .val (.long m_), .second, .val (.int fl), .val (.int (1 : Int32)), .val (.int (((fl.toUInt32 >>> ((1 : Int32) &&& 31).toUInt32).toInt32) &&& (3 : Int32))), .val (.long m_), .second, .val (.ref b60), .val (.ref b61), .unset]) rfl kK) ?_
          show OwnFin p e below _ (T64.setTop (mkF m 94 #[.val (.long tt_), .second, .val (.long m_), .second, .val (.int fl), .val (.int (1 : Int32)), .val (.int (((fl.toUInt32 >>> ((1 : Int32) &&& 31).toUInt32).toInt32) &&& (3 : Int32))), .val (.long m_), .second, .val (.ref b60), .val (.ref b61), .unset] []))
          refine OwnFin.step (fun tT kK => XS.iload X64.here hx rfl (hb hby at_94) rfl kK) ?_
          show OwnFin p e below _ (T64.setTop (mkF m 96 #[.val (.long tt_), .second, .val (.long m_), .second, .val (.int fl), .val (.int (1 : Int32)), .val (.int (((fl.toUInt32 >>> ((1 : Int32) &&& 31).toUInt32).toInt32) &&& (3 : Int32))), .val (.long m_), .second, .val (.ref b60), .val (.ref b61), .unset] [(.int (1 : Int32))]))
          refine OwnFin.step (fun tT kK => XS.ifNo X64.here hx rfl (hb hby at_96) rfl ((if0 _ _).trans (feq (by decide : ¬ ((1 : Int32) = (0 : Int32)))).1) kK) ?_
          show OwnFin p e below _ (T64.setTop (mkF m 99 #[.val (.long tt_), .second, .val (.long m_), .second, .val (.int fl), .val (.int (1 : Int32)), .val (.int (((fl.toUInt32 >>> ((1 : Int32) &&& 31).toUInt32).toInt32) &&& (3 : Int32))), .val (.long m_), .second, .val (.ref b60), .val (.ref b61), .unset] []))
          refine OwnFin.step (fun tT kK => XS.iconst X64.here hx rfl (hb hby at_99) kK) ?_
          show OwnFin p e below _ (T64.setTop (mkF m 100 #[.val (.long tt_), .second, .val (.long m_), .second, .val (.int fl), .val (.int (1 : Int32)), .val (.int (((fl.toUInt32 >>> ((1 : Int32) &&& 31).toUInt32).toInt32) &&& (3 : Int32))), .val (.long m_), .second, .val (.ref b60), .val (.ref b61), .unset] [(.int (0 : Int32))]))
          refine OwnFin.step (fun tT kK => XS.istore X64.here hx rfl (hb hby at_100) rfl (l' := #[.val (.long tt_), .second, .val (.long m_), .second, .val (.int fl), .val (.int (1 : Int32)), .val (.int (((fl.toUInt32 >>> ((1 : Int32) &&& 31).toUInt32).toInt32) &&& (3 : Int32))), .val (.long m_), .second, .val (.ref b60), .val (.ref b61), .val (.int (0 : Int32))]) rfl kK) ?_
          show OwnFin p e below _ (T64.setTop (mkF m 102 #[.val (.long tt_), .second, .val (.long m_), .second, .val (.int fl), .val (.int (1 : Int32)), .val (.int (((fl.toUInt32 >>> ((1 : Int32) &&& 31).toUInt32).toInt32) &&& (3 : Int32))), .val (.long m_), .second, .val (.ref b60), .val (.ref b61), .val (.int (0 : Int32))] []))
          refine OwnFin.step (fun tT kK => XS.goto X64.here hx rfl (pc0 := 102) (pc' := 121) rfl (hb hby at_102) (by decide) (by decide) kK) ?_
          show OwnFin p e below _ (T64.setTop (mkF m 121 #[.val (.long tt_), .second, .val (.long m_), .second, .val (.int fl), .val (.int (1 : Int32)), .val (.int (((fl.toUInt32 >>> ((1 : Int32) &&& 31).toUInt32).toInt32) &&& (3 : Int32))), .val (.long m_), .second, .val (.ref b60), .val (.ref b61), .val (.int (0 : Int32))] []))
          refine OwnFin.step (fun tT kK => XS.aload X64.here hx rfl (hb hby at_121) rfl rfl kK) ?_
          show OwnFin p e below _ (T64.setTop (mkF m 123 #[.val (.long tt_), .second, .val (.long m_), .second, .val (.int fl), .val (.int (1 : Int32)), .val (.int (((fl.toUInt32 >>> ((1 : Int32) &&& 31).toUInt32).toInt32) &&& (3 : Int32))), .val (.long m_), .second, .val (.ref b60), .val (.ref b61), .val (.int (0 : Int32))] [(.ref b61)]))
          obtain ⟨cq65, kq65, q65a, q65b, q65c⟩ := isOf hZ rfl P64_0
          obtain ⟨_, _, ⟨T65, L65, k65, n65⟩, -, X65, ⟨Lc65, hQ65, l65, y65, z65⟩, st65⟩ := X64.virtualBack hx (y := (⟨"com/example/limpet/limpet/TakeReply", "gone", "()Z"⟩ : MethodName)) (z := (⟨"com/example/limpet/limpet/TakeReply", "gone", "()Z"⟩ : MethodName)) hown (mvT hZ (hw _ (List.mem_of_getElem? (i := 19) rfl))) (mvT hZ (hw _ (List.mem_of_getElem? (i := 20) rfl))) (notFace_of_selects (args := #[]) (mvT hZ (hw _ (List.mem_of_getElem? (i := 22) rfl)))) (mvT hZ (hw _ (List.mem_of_getElem? (i := 22) rfl))) (mvT hZ (hw _ (List.mem_of_getElem? (i := 21) rfl))) (by decide) (backOf (W := 0) (rm6R l Z a0 hw [] b61 b60 m_ T64.heap n0 (Nat.le_trans (Nat.le_trans (Nat.le_trans Z0 E59.1) E61.1) K64.1) P64_1 P64_2) hZ (hw _ (List.mem_of_getElem? (i := 23) rfl)) (hw _ (List.mem_of_getElem? (i := 3) rfl)) (by decide) (by decide)) q65a q65c (g := (mkF m 123 #[.val (.long tt_), .second, .val (.long m_), .second, .val (.int fl), .val (.int (1 : Int32)), .val (.int (((fl.toUInt32 >>> ((1 : Int32) &&& 31).toUInt32).toInt32) &&& (3 : Int32))), .val (.long m_), .second, .val (.ref b60), .val (.ref b61), .val (.int (0 : Int32))] [(.ref b61)])) rfl (by rw [hml]; rfl) (Steps.refl _) (argsL := []) (rest := []) (lenOf pd_63 rfl) rfl (by show 2 * 0 + _ ≤ _; exact Nat.le_of_eq rfl) (hb hby at_123) (fun _ _ => ⟨rfl, rfl, (by decide : 2 + 0 ≤ _), (by decide : 3 + 0 ≤ _)⟩)
          dsimp only [Pt.U, Pt.locs, Pt.cells, Pt.slots] at X65 l65 y65 z65 st65 hQ65
          subst l65 y65 z65
          obtain ⟨rfl, N65q, e65⟩ := hQ65
          have N65 := Fr.app N64 N65q
          refine OwnFin.step (fun tT kK => st65.trans kK) ?_
          show OwnFin p e below _ (T65.setTop (mkF m 126 #[.val (.long tt_), .second, .val (.long m_), .second, .val (.int fl), .val (.int (1 : Int32)), .val (.int (((fl.toUInt32 >>> ((1 : Int32) &&& 31).toUInt32).toInt32) &&& (3 : Int32))), .val (.long m_), .second, .val (.ref b60), .val (.ref b61), .val (.int (0 : Int32))] [(.int (0 : Int32))]))
          refine OwnFin.step (fun tT kK => XS.iload X65.here hx rfl (hb hby at_126) rfl kK) ?_
          show OwnFin p e below _ (T65.setTop (mkF m 128 #[.val (.long tt_), .second, .val (.long m_), .second, .val (.int fl), .val (.int (1 : Int32)), .val (.int (((fl.toUInt32 >>> ((1 : Int32) &&& 31).toUInt32).toInt32) &&& (3 : Int32))), .val (.long m_), .second, .val (.ref b60), .val (.ref b61), .val (.int (0 : Int32))] [(.int (0 : Int32)), (.int (0 : Int32))]))
          refine OwnFin.step (fun tT kK => XS.icmpNo X65.here hx rfl (hb hby at_128) rfl (teq (rfl : (0 : Int32) = (0 : Int32))).2 kK) ?_
          show OwnFin p e below _ (T65.setTop (mkF m 131 #[.val (.long tt_), .second, .val (.long m_), .second, .val (.int fl), .val (.int (1 : Int32)), .val (.int (((fl.toUInt32 >>> ((1 : Int32) &&& 31).toUInt32).toInt32) &&& (3 : Int32))), .val (.long m_), .second, .val (.ref b60), .val (.ref b61), .val (.int (0 : Int32))] []))
          refine OwnFin.step (fun tT kK => XS.iconst X65.here hx rfl (hb hby at_131) kK) ?_
          show OwnFin p e below _ (T65.setTop (mkF m 132 #[.val (.long tt_), .second, .val (.long m_), .second, .val (.int fl), .val (.int (1 : Int32)), .val (.int (((fl.toUInt32 >>> ((1 : Int32) &&& 31).toUInt32).toInt32) &&& (3 : Int32))), .val (.long m_), .second, .val (.ref b60), .val (.ref b61), .val (.int (0 : Int32))] [(.int (1 : Int32))]))
          refine OwnFin.step (fun tT kK => XS.goto X65.here hx rfl (pc0 := 132) (pc' := 136) rfl (hb hby at_132) (by decide) (by decide) kK) ?_
          show OwnFin p e below _ (T65.setTop (mkF m 136 #[.val (.long tt_), .second, .val (.long m_), .second, .val (.int fl), .val (.int (1 : Int32)), .val (.int (((fl.toUInt32 >>> ((1 : Int32) &&& 31).toUInt32).toInt32) &&& (3 : Int32))), .val (.long m_), .second, .val (.ref b60), .val (.ref b61), .val (.int (0 : Int32))] [(.int (1 : Int32))]))
          obtain ⟨fs66, hr66, hrun66, hended66, hW66, hsame66⟩ := X65.leave (v := (some (.int (1 : Int32)))) (fun h => by rw [Bd.returns] at h; cases h)
          refine ⟨_, _, retN X65 hx (t := .boolean) Bd.returns (by simp) (hb hby at_136) hr66, hrun66, hended66, _, _, rfl, ?_, ⟨_, rfl⟩, hW66, hsame66.mono (by decide) (by decide)⟩
          show Q0 Z tt_ m_ fl ca cl h0 n0 _ T65.heap _
          rw [e65]
          exact ⟨rfl, N65, ((((Keep.refl h0 []).ext E59).ext E61).trans K64 (allS (P := fun x => x ∈ [] ∨ h0.size ≤ x) (Or.inr (Nat.le_trans (Nat.le_trans (Nat.le_refl _) E59.1) (Nat.le_of_eq g61.symm))) all0))⟩
theorem own_cache {args : Array Value} {s : State} {t : Term} {a : Addr} {cl : Cell} {ty : FieldType} {C : String} {d : Jvm.Cond} (A : Arr s s.heap a cl ty) (ev : ∀ idx, t.eval args s none idx s = some (.ref a)) (hl : (Term.length t).eval args s none [] s = some (.int (256 : Int32)))
    (h : (Jvm.Cond.all t (Jvm.Cond.and (Jvm.Cond.exactly (Term.elem t (Term.index 0)) C) d)).value args s none s [] = some true) :
    ∀ j : Int32, 0 ≤ j.toInt → j.toInt < 256 → ¬ (j < 0 ∨ cl.slots.size ≤ j.toNatClampNeg) ∧ ∃ w : Addr, cl.slots[j.toNatClampNeg]? = some (.ref w) := by
  have hA : s.arrayAt? a = some cl := Arr.fin (Vm.Alike.refl _) A
  have hs : cl.slots.size = 256 := by
    obtain ⟨b, cell, h1, h2, h3⟩ := Term.length_spec hl
    cases (ev []).symm.trans h1
    cases hA.symm.trans h2
    have hsz : cl.slots.size < 2 ^ 31 := by
      simp only [Term.eval, ev [], hA, Option.bind_eq_bind, Option.bind_some] at hl
      by_cases hlt : cl.slots.size < 2147483648
      · exact hlt
      · simp [hlt] at hl
    have e := congrArg Int32.toInt (Value.int.inj h3)
    rw [len_toInt hsz] at e
    have e2 : ((256 : Int32)).toInt = 256 := rfl
    omega
  intro j h0 h1
  have hj : j.toNatClampNeg < 256 := by simp only [Int32.toNatClampNeg]; omega
  have hin : ¬ (j < 0 ∨ cl.slots.size ≤ j.toNatClampNeg) := by
    rw [hs, Int32.lt_iff_toInt_lt]
    have : (0 : Int32).toInt = 0 := rfl
    omega
  refine ⟨hin, ?_⟩
  have q := Cond.all_elim (ev []) hA h j.toNatClampNeg (by omega)
  obtain ⟨x, hx⟩ := exa_v (and_e q).1
  obtain ⟨a', j', cell', e1, e2, e3, -, e5⟩ := Term.elem_spec hx
  cases (ev [j.toNatClampNeg]).symm.trans e1
  cases hA.symm.trans e3
  have e6 : (Term.index 0).eval args s none [j.toNatClampNeg] s = some (.int (Nat.toInt32 j.toNatClampNeg)) := rfl
  cases e6.symm.trans e2
  have e7 : (Nat.toInt32 j.toNatClampNeg).toNatClampNeg = j.toNatClampNeg := by
    simp only [Int32.toNatClampNeg, len_toInt (show j.toInt.toNat < 2 ^ 31 by omega)]
    rfl
  exact ⟨x, e7 ▸ e5⟩
set_option maxRecDepth 65536 in
set_option maxHeartbeats 40000000 in
theorem comes_1 {Post : Tables → Env → Array Value → State → Outcome → State → Prop} (hpost : ∀ tb e args s v u, (limb_1_1.after args s (.returned v) u = true ∧ limb_1_2.after args s (.returned v) u = true ∧ True) → FrameEnd s (.returned v) u (Jvm.fieldLocs frame_1_writes args s ++ Jvm.arrayLocs frame_1_arrays args s ++ Jvm.staticLocs frame_1_statics s) 16 128 → Post tb e args s (.returned v) u) :
    ArmFor flags0 classFile x code maxLocals ret World_1 tables_1 room_1 Calls_1 rest_1 Pre_1 Post := by
  intro l hfl _ _ p e ha hc hk s m args below hf hA hF happ hP
  obtain ⟨hcalls, hrest, hpre⟩ := hP
  obtain ⟨-, -, -, hnamed, -, -, -, hat⟩ := (Spec.applies_iff hf).mp happ
  obtain ⟨hg, hn⟩ := and_e (Cond.before_iff.mp (show (Jvm.Cond.and given_1 narrow_1).before args s = true from hpre))
  obtain ⟨g1, g2⟩ := and_e hg
  obtain ⟨g3, g4⟩ := and_e g2
  obtain ⟨g5, g6⟩ := and_e g4
  obtain ⟨w_0, w_1, w_2, rfl⟩ : ∃ w_0 w_1 w_2 : Value, args = #[w_0, w_1, w_2] := by
    have hs : args.size = 3 := by simpa [Cond.value, given_1] using g1
    obtain ⟨L⟩ := args
    match L, hs with
    | [w_0, w_1, w_2], _ => exact ⟨w_0, w_1, w_2, rfl⟩
  have hw := fun d (hd : d ∈ tables_1) => atoms_spec (ws := Jvm.Cond.code x code maxLocals ret :: tables_1) hat d (List.mem_cons_of_mem _ hd)
  have hfit : Fit s := fun {y c} hc i hi => by
    obtain ⟨ha, rfl⟩ := Array.getElem?_eq_some_iff.mp hc
    have q := List.all_eq_true.mp ((Array.all_eq_true_iff_forall_mem.mp hF) _ (Array.getElem_mem ha)) i (List.mem_range.mpr hi)
    simpa [Array.getElem?_eq_getElem hi] using q
  obtain ⟨hsets, hown0⟩ := atoms_of _ (rest_1_c_eq ▸ (show rest_1_c.before _ s = true from hrest))
  have hr0 := Cond.before_iff.mp hown0
  obtain ⟨tt_, ei0⟩ := isL_v g3
  obtain rfl : w_0 = (.long tt_) := Option.some.inj ei0
  obtain ⟨m_, ei1⟩ := isL_v g5
  obtain rfl : w_1 = (.long m_) := Option.some.inj ei1
  obtain ⟨fl, ei2⟩ := is_v g6
  obtain rfl : w_2 = (.int fl) := Option.some.inj ei2
  obtain ⟨ca, ev⟩ := arr_v (Cond.before_iff.mp (hsets _ (List.mem_of_getElem? (i := 2) rfl)))
  have Sc := Sta.start ev (Or.inl (hsets _ (List.mem_of_getElem? (i := 1) rfl)))
  obtain ⟨cl, Ac⟩ := Arr.start ev (Cond.before_iff.mp (hsets _ (List.mem_of_getElem? (i := 2) rfl)))
  have Lc := own_eqI (Cond.before_iff.mp (hsets _ (List.mem_of_getElem? (i := 4) rfl)))
  have Hc := own_cache Ac (fun _ => ev) Lc (Cond.before_iff.mp (hsets _ (List.mem_of_getElem? (i := 5) rfl)))
  obtain ⟨n, o, h1, h2, h3, _, L, rfl, ⟨rfl, N, -⟩, hq⟩ := rm0 l s _ hw tables_1 tt_ m_ fl ca cl s.heap s.heap.size (Nat.le_refl _) Sc Ac Hc p e ha hc hk s m _ below hf ((Spec.applies_iff_loose hf).mp happ).1 ⟨rfl, State.Warmed39.refl s, rfl⟩ trivial
  refine ⟨n, _, h1, h2, h3, hpost _ _ _ _ _ _ ⟨Cond.after_iff.mpr rfl, Cond.after_iff.mpr (eq_i res_at (Term.int_eval (1)) rfl), trivial⟩ ⟨hq.1, hq.2.1, (hq.2.2.sift fun y hy => Or.inr (N y hy)).mono (by decide) (by decide)⟩⟩
theorem main_1_1 : Claimed_1_1 := comes_1 fun _ _ _ _ _ _ h hF => ⟨h.1, hF⟩
theorem main_1_2 : Claimed_1_2 := comes_1 fun _ _ _ _ _ _ h hF => ⟨h.2.1, hF⟩
end Jvm.Pilot.@@N@@
namespace Jvm.Pilot.@@N@@
open Jvm Jvm.ClassFile Sem Op Lib Jvm.Free Jvm.Stand Jvm.Pilot.@@N@@.Jvm.D
/-! MADE BY PROGRAM (witnessworld.py) out of the Statement's table words and the real class files: 17 classes; the members and pool entries that the words name. The judged class is class 1, her method 1. -/
namespace start1
open Jvm.ClassFile
def u (s : String) : CpInfo := .utf8 (stringToUtf16 s)
/-- a pool by its gaps: so many unusable entries, then the entry; so many at the end -/
def gap : Nat → List CpInfo → List CpInfo
  | 0, r => r
  | n + 1, r => .unusable :: gap n r
def poolList (es : List (Nat × CpInfo)) (last : Nat) : List CpInfo := es.foldr (fun e r => gap e.1 (e.2 :: r)) (gap last [])
def pool (es : List (Nat × CpInfo)) (last : Nat) : Array CpInfo := ⟨poolList es last⟩
def fileOf (pool : Array CpInfo) (this : Nat) (attrs : Array Attribute := #[]) (ms : Array MethodInfo := #[]) (fl : Nat := 33) (sup : Nat := 0) (ifs : Array Nat := #[]) (fds : Array FieldInfo := #[]) : ClassFile where
  minorVersion := 0
  majorVersion := 65
  constantPool := pool
  accessFlags := fl
  thisClass := this
  superClass := sup
  interfaces := ifs
  fields := fds
  methods := ms
  attributes := attrs
def plain (name : String) (sup : Option ClassId) : Class where
  name := name
  kind := .ordinary
  loader := none
  accessFlags := 33
  super := sup
  interfaces := #[]
  cf := none
  fields := #[]
  methods := #[]
  instanceTypes := #[]
  staticTypes := #[]
  resolved := #[]
  callSites := []
  init := .initialized
  statics := none
  mirror := none

def pool0 : Array CpInfo := pool [(5, u "<init>"), (0, u "()V"), (1, .class_ 10), (1, u "java/lang/Object")] 113

def k0c0 : Code := { maxStack := 0, maxLocals := 1, code := object_method_1_code, exceptionTable := #[], attributes := #[] }
def k0m0 : Method := { name := "<init>", desc := "()V", sig := { parameters := [], returnType := none }, accessFlags := 1, code := some k0c0 }
/-- java/lang/Object -/
def k0 : Class := { plain "java/lang/Object" none with
  accessFlags := 33
  interfaces := #[]
  cf := some (fileOf pool0 8 #[] #[{ accessFlags := 1, nameIndex := 5, descriptorIndex := 6, attributes := #[] }] 33 0 #[] #[])
  fields := #[]
  methods := #[k0m0]
  instanceTypes := #[]
  staticTypes := #[]
  resolved := Array.replicate 124 none
  statics := none }

def pool1 : Array CpInfo := pool [(2, .class_ 4), (1, u "java/lang/Object"), (0, u "<init>"), (0, u "()V"), (0, .long 18446744073709551614), (1, .long 18446744073709551615), (1, .long 18446744073709551613), (1, .methodref 14 15), (0, .class_ 16), (0, .nameAndType 17 18), (0, u "java/lang/Long"), (0, u "valueOf"), (0, u "(J)Ljava/lang/Long;"), (0, .class_ 20), (0, u "com/example/limpet/limpet/TakeReply"), (0, .methodref 19 22), (0, .nameAndType 5 23), (0, u "(Ljava/lang/Long;J)V"), (0, .methodref 19 25), (0, .nameAndType 26 27), (0, u "gone"), (0, u "()Z"), (0, .class_ 29), (0, u "com/example/limpet/limpet/TakeReplyGonePinLaw"), (2, u "law"), (0, u "(JJI)Z")] 3

def k1m0 : Method := { name := "<init>", desc := "()V", sig := { parameters := [], returnType := none }, accessFlags := 1, code := none }
def k1c1 : Code := { maxStack := 5, maxLocals := 12, code := code, exceptionTable := #[], attributes := #[] }
def k1m1 : Method := { name := "law", desc := "(JJI)Z", sig := { parameters := [.long, .long, .int], returnType := some .boolean }, accessFlags := 9, code := some k1c1 }
/-- com/example/limpet/limpet/TakeReplyGonePinLaw -/
def k1 : Class := { plain "com/example/limpet/limpet/TakeReplyGonePinLaw" (some 0) with
  accessFlags := 49
  interfaces := #[]
  cf := some (fileOf pool1 28 #[] #[{ accessFlags := 1, nameIndex := 5, descriptorIndex := 6, attributes := #[] }, { accessFlags := 9, nameIndex := 32, descriptorIndex := 33, attributes := #[] }] 49 2 #[] #[])
  fields := #[]
  methods := #[k1m0, k1m1]
  instanceTypes := #[]
  staticTypes := #[]
  resolved := Array.replicate 37 none
  statics := none }

def pool2 : Array CpInfo := pool [(1, .methodref 2 3), (0, .class_ 4), (0, .nameAndType 5 6), (0, u "java/lang/Object"), (0, u "<init>"), (0, u "()V"), (0, .class_ 8), (0, u "java/lang/Record")] 13

def k2c0 : Code := { maxStack := 1, maxLocals := 1, code := jdk_30_method_1_code, exceptionTable := #[], attributes := #[] }
def k2m0 : Method := { name := "<init>", desc := "()V", sig := { parameters := [], returnType := none }, accessFlags := 4, code := some k2c0 }
/-- java/lang/Record -/
def k2 : Class := { plain "java/lang/Record" (some 0) with
  accessFlags := 1057
  interfaces := #[]
  cf := some (fileOf pool2 7 #[] #[{ accessFlags := 4, nameIndex := 5, descriptorIndex := 6, attributes := #[] }] 1057 2 #[] #[])
  fields := #[]
  methods := #[k2m0]
  instanceTypes := #[]
  staticTypes := #[]
  resolved := Array.replicate 22 none
  statics := none }

def pool3 : Array CpInfo := pool [(1, .methodref 2 3), (0, .class_ 4), (0, .nameAndType 5 6), (0, u "java/lang/Record"), (0, u "<init>"), (0, u "()V"), (0, .fieldref 8 9), (0, .class_ 10), (0, .nameAndType 11 12), (0, u "com/example/limpet/limpet/TakeReply"), (0, u "token"), (0, u "Ljava/lang/Long;"), (0, .fieldref 8 14), (0, .nameAndType 15 16), (0, u "toldMillis"), (0, u "J"), (2, u "TAKEN"), (0, u "Lcom/example/limpet/limpet/TakeReply;"), (8, u "(Ljava/lang/Long;J)V"), (6, .long 18446744073709551614), (13, u "NO_TOKEN"), (11, u "()Z"), (0, u "gone")] 26

def k3c0 : Code := { maxStack := 3, maxLocals := 4, code := prog_27_method_1_code, exceptionTable := #[], attributes := #[] }
def k3m0 : Method := { name := "<init>", desc := "(Ljava/lang/Long;J)V", sig := { parameters := [(.object "java/lang/Long"), .long], returnType := none }, accessFlags := 0, code := some k3c0 }
def k3c1 : Code := { maxStack := 4, maxLocals := 1, code := prog_27_method_5_code, exceptionTable := #[], attributes := #[] }
def k3m1 : Method := { name := "gone", desc := "()Z", sig := { parameters := [], returnType := some .boolean }, accessFlags := 0, code := some k3c1 }
/-- com/example/limpet/limpet/TakeReply -/
def k3 : Class := { plain "com/example/limpet/limpet/TakeReply" (some 2) with
  accessFlags := 48
  interfaces := #[]
  cf := some (fileOf pool3 8 #[] #[{ accessFlags := 0, nameIndex := 5, descriptorIndex := 29, attributes := #[] }, { accessFlags := 0, nameIndex := 63, descriptorIndex := 62, attributes := #[] }] 48 2 #[] #[{ accessFlags := 18, nameIndex := 11, descriptorIndex := 12, attributes := #[] }, { accessFlags := 18, nameIndex := 15, descriptorIndex := 16, attributes := #[] }, { accessFlags := 24, nameIndex := 50, descriptorIndex := 16, attributes := #[] }, { accessFlags := 24, nameIndex := 19, descriptorIndex := 20, attributes := #[] }])
  fields := #[{ name := "token", type := (.object "java/lang/Long"), accessFlags := 18, slot := 0, constantValue := 0 }, { name := "toldMillis", type := .long, accessFlags := 18, slot := 1, constantValue := 0 }, { name := "NO_TOKEN", type := .long, accessFlags := 24, slot := 0, constantValue := 0 }, { name := "TAKEN", type := (.object "com/example/limpet/limpet/TakeReply"), accessFlags := 24, slot := 1, constantValue := 0 }]
  methods := #[k3m0, k3m1]
  instanceTypes := #[(.object "java/lang/Long"), .long]
  staticTypes := #[.long, (.object "com/example/limpet/limpet/TakeReply")]
  resolved := Array.replicate 90 none
  statics := none }

def pool4 : Array CpInfo := pool [(1, .class_ 2), (0, u "java/io/Serializable"), (0, .class_ 4), (0, u "java/lang/Object")] 2

/-- java/io/Serializable -/
def k4 : Class := { plain "java/io/Serializable" (some 0) with
  accessFlags := 1537
  interfaces := #[]
  cf := some (fileOf pool4 1 #[] #[] 1537 3 #[] #[])
  fields := #[]
  methods := #[]
  instanceTypes := #[]
  staticTypes := #[]
  resolved := Array.replicate 7 none
  statics := none }

def pool5 : Array CpInfo := pool [(1, .methodref 2 3), (0, .class_ 4), (0, .nameAndType 5 6), (0, u "java/lang/Object"), (0, u "<init>"), (0, u "()V"), (1, .class_ 10), (1, u "java/lang/Number"), (2, .class_ 14), (0, u "java/io/Serializable"), (0, u "serialVersionUID"), (0, u "J")] 20

def k5c0 : Code := { maxStack := 1, maxLocals := 1, code := jdk_18_method_1_code, exceptionTable := #[], attributes := #[] }
def k5m0 : Method := { name := "<init>", desc := "()V", sig := { parameters := [], returnType := none }, accessFlags := 1, code := some k5c0 }
/-- java/lang/Number -/
def k5 : Class := { plain "java/lang/Number" (some 0) with
  accessFlags := 1057
  interfaces := #[4]
  cf := some (fileOf pool5 8 #[] #[{ accessFlags := 1, nameIndex := 5, descriptorIndex := 6, attributes := #[] }] 1057 2 #[13] #[{ accessFlags := 26, nameIndex := 15, descriptorIndex := 16, attributes := #[] }])
  fields := #[{ name := "serialVersionUID", type := .long, accessFlags := 26, slot := 0, constantValue := 0 }]
  methods := #[k5m0]
  instanceTypes := #[]
  staticTypes := #[.long]
  resolved := Array.replicate 37 none
  statics := none }

def pool6 : Array CpInfo := pool [(1, .class_ 2), (0, u "java/lang/Comparable"), (0, .class_ 4), (0, u "java/lang/Object")] 7

/-- java/lang/Comparable -/
def k6 : Class := { plain "java/lang/Comparable" (some 0) with
  accessFlags := 1537
  interfaces := #[]
  cf := some (fileOf pool6 1 #[] #[] 1537 3 #[] #[])
  fields := #[]
  methods := #[]
  instanceTypes := #[]
  staticTypes := #[]
  resolved := Array.replicate 12 none
  statics := none }

def pool7 : Array CpInfo := pool [(1, .class_ 2), (0, u "java/lang/constant/Constable"), (0, .class_ 4), (0, u "java/lang/Object")] 6

/-- java/lang/constant/Constable -/
def k7 : Class := { plain "java/lang/constant/Constable" (some 0) with
  accessFlags := 1537
  interfaces := #[]
  cf := some (fileOf pool7 1 #[] #[] 1537 3 #[] #[])
  fields := #[]
  methods := #[]
  instanceTypes := #[]
  staticTypes := #[]
  resolved := Array.replicate 11 none
  statics := none }

def pool8 : Array CpInfo := pool [(1, .class_ 2), (0, u "java/lang/constant/ConstantDesc"), (0, .class_ 4), (0, u "java/lang/Object")] 32

/-- java/lang/constant/ConstantDesc -/
def k8 : Class := { plain "java/lang/constant/ConstantDesc" (some 0) with
  accessFlags := 1537
  interfaces := #[]
  cf := some (fileOf pool8 1 #[] #[] 1537 3 #[] #[])
  fields := #[]
  methods := #[]
  instanceTypes := #[]
  staticTypes := #[]
  resolved := Array.replicate 37 none
  statics := none }

def pool9 : Array CpInfo := pool [(1, .class_ 2), (0, u "java/lang/Long"), (55, .nameAndType 59 60), (0, u "<init>"), (0, u "()V"), (24, u "valueOf"), (143, u "(J)Ljava/lang/Long;"), (0, .long 18446744073709551488), (1, .long 127), (1, .fieldref 235 236), (0, .class_ 237), (0, .nameAndType 238 239), (0, u "java/lang/Long$LongCache"), (0, u "cache"), (0, u "[Ljava/lang/Long;"), (0, .methodref 1 241), (0, .nameAndType 59 242), (0, u "(J)V"), (27, .methodref 271 58), (0, .class_ 272), (0, u "java/lang/Number"), (0, .fieldref 1 274), (0, .nameAndType 275 276), (0, u "value"), (0, u "J"), (84, u "TYPE"), (0, u "Ljava/lang/Class;"), (0, .class_ 364), (0, u "java/lang/Comparable"), (0, .class_ 366), (0, u "java/lang/constant/Constable"), (0, .class_ 368), (0, u "java/lang/constant/ConstantDesc"), (0, u "MIN_VALUE"), (1, u "MAX_VALUE"), (4, u "SIZE"), (0, u "I"), (1, u "BYTES"), (1, u "serialVersionUID")] 142

def k9c0 : Code := { maxStack := 4, maxLocals := 3, code := jdk_35_method_24_code, exceptionTable := #[], attributes := #[] }
def k9m0 : Method := { name := "valueOf", desc := "(J)Ljava/lang/Long;", sig := { parameters := [.long], returnType := some (.object "java/lang/Long") }, accessFlags := 9, code := some k9c0 }
def k9c1 : Code := { maxStack := 3, maxLocals := 3, code := jdk_35_method_26_code, exceptionTable := #[], attributes := #[] }
def k9m1 : Method := { name := "<init>", desc := "(J)V", sig := { parameters := [.long], returnType := none }, accessFlags := 1, code := some k9c1 }
/-- java/lang/Long -/
def k9 : Class := { plain "java/lang/Long" (some 5) with
  accessFlags := 49
  interfaces := #[6, 7, 8]
  cf := some (fileOf pool9 1 #[.nestMembers #[235]] #[{ accessFlags := 9, nameIndex := 85, descriptorIndex := 229, attributes := #[] }, { accessFlags := 1, nameIndex := 59, descriptorIndex := 242, attributes := #[] }] 49 271 #[363, 365, 367] #[{ accessFlags := 25, nameIndex := 369, descriptorIndex := 276, attributes := #[] }, { accessFlags := 25, nameIndex := 371, descriptorIndex := 276, attributes := #[] }, { accessFlags := 25, nameIndex := 361, descriptorIndex := 362, attributes := #[] }, { accessFlags := 18, nameIndex := 275, descriptorIndex := 276, attributes := #[] }, { accessFlags := 25, nameIndex := 376, descriptorIndex := 377, attributes := #[] }, { accessFlags := 25, nameIndex := 379, descriptorIndex := 377, attributes := #[] }, { accessFlags := 26, nameIndex := 381, descriptorIndex := 276, attributes := #[] }])
  fields := #[{ name := "MIN_VALUE", type := .long, accessFlags := 25, slot := 0, constantValue := 0 }, { name := "MAX_VALUE", type := .long, accessFlags := 25, slot := 1, constantValue := 0 }, { name := "TYPE", type := (.object "java/lang/Class"), accessFlags := 25, slot := 2, constantValue := 0 }, { name := "value", type := .long, accessFlags := 18, slot := 0, constantValue := 0 }, { name := "SIZE", type := .int, accessFlags := 25, slot := 3, constantValue := 0 }, { name := "BYTES", type := .int, accessFlags := 25, slot := 4, constantValue := 0 }, { name := "serialVersionUID", type := .long, accessFlags := 26, slot := 5, constantValue := 0 }]
  methods := #[k9m0, k9m1]
  instanceTypes := #[.long]
  staticTypes := #[.long, .long, (.object "java/lang/Class"), .int, .int, .long]
  resolved := Array.replicate 524 none
  statics := none }

def pool10 : Array CpInfo := pool [(2, .class_ 4), (1, u "java/lang/Object"), (0, u "<init>"), (0, u "()V"), (0, .class_ 8), (0, u "java/lang/Long"), (7, .class_ 18), (1, u "java/lang/Long$LongCache"), (0, u "$assertionsDisabled"), (0, u "Z"), (8, u "archivedCache"), (0, u "[Ljava/lang/Long;"), (7, u "cache")] 24

def k10m0 : Method := { name := "<init>", desc := "()V", sig := { parameters := [], returnType := none }, accessFlags := 2, code := none }
/-- java/lang/Long$LongCache -/
def k10 : Class := { plain "java/lang/Long$LongCache" (some 0) with
  accessFlags := 48
  interfaces := #[]
  cf := some (fileOf pool10 16 #[.nestHost 7] #[{ accessFlags := 2, nameIndex := 5, descriptorIndex := 6, attributes := #[] }] 48 2 #[] #[{ accessFlags := 24, nameIndex := 38, descriptorIndex := 30, attributes := #[] }, { accessFlags := 8, nameIndex := 29, descriptorIndex := 30, attributes := #[] }, { accessFlags := 4120, nameIndex := 19, descriptorIndex := 20, attributes := #[] }])
  fields := #[{ name := "cache", type := (.array (.object "java/lang/Long")), accessFlags := 24, slot := 0, constantValue := 0 }, { name := "archivedCache", type := (.array (.object "java/lang/Long")), accessFlags := 8, slot := 1, constantValue := 0 }, { name := "$assertionsDisabled", type := .boolean, accessFlags := 4120, slot := 2, constantValue := 0 }]
  methods := #[k10m0]
  instanceTypes := #[]
  staticTypes := #[(.array (.object "java/lang/Long")), (.array (.object "java/lang/Long")), .boolean]
  resolved := Array.replicate 63 none
  statics := some 0 }

def pool11 : Array CpInfo := pool [(1, u "java/lang/Cloneable"), (0, .class_ 1), (0, u "java/lang/Object"), (0, .class_ 3)] 3

/-- java/lang/Cloneable -/
def k11 : Class := { plain "java/lang/Cloneable" (some 0) with
  accessFlags := 1537
  interfaces := #[]
  cf := some (fileOf pool11 2 #[] #[] 1537 4 #[] #[])
  fields := #[]
  methods := #[]
  instanceTypes := #[]
  staticTypes := #[]
  resolved := Array.replicate 8 none
  statics := none }

/-- the primitive byte -/
def k12 : Class := { plain "byte" none with kind := .primitive 'B', accessFlags := 0x411 }
/-- [B -/
def k13 : Class := { plain "[B" (some 0) with kind := .array 12 .byte, interfaces := #[11, 4], accessFlags := 1041 }

/-- the primitive int -/
def k14 : Class := { plain "int" none with kind := .primitive 'I', accessFlags := 0x411 }
/-- [I -/
def k15 : Class := { plain "[I" (some 0) with kind := .array 14 .int, interfaces := #[11, 4], accessFlags := 1041 }

/-- [Ljava/lang/Long; -/
def k16 : Class := { plain "[Ljava/lang/Long;" (some 0) with kind := .array 9 (.object "java/lang/Long"), interfaces := #[11, 4], accessFlags := 1041 }

def heap : Heap := #[{ cls := 10, slots := #[.ref 1, .null, .int 0], vm := .statics 10 },
  { cls := 16, slots := #[.ref 2, .ref 3, .ref 4, .ref 5, .ref 6, .ref 7, .ref 8, .ref 9, .ref 10, .ref 11, .ref 12, .ref 13, .ref 14, .ref 15, .ref 16, .ref 17, .ref 18, .ref 19, .ref 20, .ref 21, .ref 22, .ref 23, .ref 24, .ref 25, .ref 26, .ref 27, .ref 28, .ref 29, .ref 30, .ref 31, .ref 32, .ref 33, .ref 34, .ref 35, .ref 36, .ref 37, .ref 38, .ref 39, .ref 40, .ref 41, .ref 42, .ref 43, .ref 44, .ref 45, .ref 46, .ref 47, .ref 48, .ref 49, .ref 50, .ref 51, .ref 52, .ref 53, .ref 54, .ref 55, .ref 56, .ref 57, .ref 58, .ref 59, .ref 60, .ref 61, .ref 62, .ref 63, .ref 64, .ref 65, .ref 66, .ref 67, .ref 68, .ref 69, .ref 70, .ref 71, .ref 72, .ref 73, .ref 74, .ref 75, .ref 76, .ref 77, .ref 78, .ref 79, .ref 80, .ref 81, .ref 82, .ref 83, .ref 84, .ref 85, .ref 86, .ref 87, .ref 88, .ref 89, .ref 90, .ref 91, .ref 92, .ref 93, .ref 94, .ref 95, .ref 96, .ref 97, .ref 98, .ref 99, .ref 100, .ref 101, .ref 102, .ref 103, .ref 104, .ref 105, .ref 106, .ref 107, .ref 108, .ref 109, .ref 110, .ref 111, .ref 112, .ref 113, .ref 114, .ref 115, .ref 116, .ref 117, .ref 118, .ref 119, .ref 120, .ref 121, .ref 122, .ref 123, .ref 124, .ref 125, .ref 126, .ref 127, .ref 128, .ref 129, .ref 130, .ref 131, .ref 132, .ref 133, .ref 134, .ref 135, .ref 136, .ref 137, .ref 138, .ref 139, .ref 140, .ref 141, .ref 142, .ref 143, .ref 144, .ref 145, .ref 146, .ref 147, .ref 148, .ref 149, .ref 150, .ref 151, .ref 152, .ref 153, .ref 154, .ref 155, .ref 156, .ref 157, .ref 158, .ref 159, .ref 160, .ref 161, .ref 162, .ref 163, .ref 164, .ref 165, .ref 166, .ref 167, .ref 168, .ref 169, .ref 170, .ref 171, .ref 172, .ref 173, .ref 174, .ref 175, .ref 176, .ref 177, .ref 178, .ref 179, .ref 180, .ref 181, .ref 182, .ref 183, .ref 184, .ref 185, .ref 186, .ref 187, .ref 188, .ref 189, .ref 190, .ref 191, .ref 192, .ref 193, .ref 194, .ref 195, .ref 196, .ref 197, .ref 198, .ref 199, .ref 200, .ref 201, .ref 202, .ref 203, .ref 204, .ref 205, .ref 206, .ref 207, .ref 208, .ref 209, .ref 210, .ref 211, .ref 212, .ref 213, .ref 214, .ref 215, .ref 216, .ref 217, .ref 218, .ref 219, .ref 220, .ref 221, .ref 222, .ref 223, .ref 224, .ref 225, .ref 226, .ref 227, .ref 228, .ref 229, .ref 230, .ref 231, .ref 232, .ref 233, .ref 234, .ref 235, .ref 236, .ref 237, .ref 238, .ref 239, .ref 240, .ref 241, .ref 242, .ref 243, .ref 244, .ref 245, .ref 246, .ref 247, .ref 248, .ref 249, .ref 250, .ref 251, .ref 252, .ref 253, .ref 254, .ref 255, .ref 256, .ref 257], vm := .none },
  { cls := 9, slots := #[.long (-128)], vm := .none },
  { cls := 9, slots := #[.long (-127)], vm := .none },
  { cls := 9, slots := #[.long (-126)], vm := .none },
  { cls := 9, slots := #[.long (-125)], vm := .none },
  { cls := 9, slots := #[.long (-124)], vm := .none },
  { cls := 9, slots := #[.long (-123)], vm := .none },
  { cls := 9, slots := #[.long (-122)], vm := .none },
  { cls := 9, slots := #[.long (-121)], vm := .none },
  { cls := 9, slots := #[.long (-120)], vm := .none },
  { cls := 9, slots := #[.long (-119)], vm := .none },
  { cls := 9, slots := #[.long (-118)], vm := .none },
  { cls := 9, slots := #[.long (-117)], vm := .none },
  { cls := 9, slots := #[.long (-116)], vm := .none },
  { cls := 9, slots := #[.long (-115)], vm := .none },
  { cls := 9, slots := #[.long (-114)], vm := .none },
  { cls := 9, slots := #[.long (-113)], vm := .none },
  { cls := 9, slots := #[.long (-112)], vm := .none },
  { cls := 9, slots := #[.long (-111)], vm := .none },
  { cls := 9, slots := #[.long (-110)], vm := .none },
  { cls := 9, slots := #[.long (-109)], vm := .none },
  { cls := 9, slots := #[.long (-108)], vm := .none },
  { cls := 9, slots := #[.long (-107)], vm := .none },
  { cls := 9, slots := #[.long (-106)], vm := .none },
  { cls := 9, slots := #[.long (-105)], vm := .none },
  { cls := 9, slots := #[.long (-104)], vm := .none },
  { cls := 9, slots := #[.long (-103)], vm := .none },
  { cls := 9, slots := #[.long (-102)], vm := .none },
  { cls := 9, slots := #[.long (-101)], vm := .none },
  { cls := 9, slots := #[.long (-100)], vm := .none },
  { cls := 9, slots := #[.long (-99)], vm := .none },
  { cls := 9, slots := #[.long (-98)], vm := .none },
  { cls := 9, slots := #[.long (-97)], vm := .none },
  { cls := 9, slots := #[.long (-96)], vm := .none },
  { cls := 9, slots := #[.long (-95)], vm := .none },
  { cls := 9, slots := #[.long (-94)], vm := .none },
  { cls := 9, slots := #[.long (-93)], vm := .none },
  { cls := 9, slots := #[.long (-92)], vm := .none },
  { cls := 9, slots := #[.long (-91)], vm := .none },
  { cls := 9, slots := #[.long (-90)], vm := .none },
  { cls := 9, slots := #[.long (-89)], vm := .none },
  { cls := 9, slots := #[.long (-88)], vm := .none },
  { cls := 9, slots := #[.long (-87)], vm := .none },
  { cls := 9, slots := #[.long (-86)], vm := .none },
  { cls := 9, slots := #[.long (-85)], vm := .none },
  { cls := 9, slots := #[.long (-84)], vm := .none },
  { cls := 9, slots := #[.long (-83)], vm := .none },
  { cls := 9, slots := #[.long (-82)], vm := .none },
  { cls := 9, slots := #[.long (-81)], vm := .none },
  { cls := 9, slots := #[.long (-80)], vm := .none },
  { cls := 9, slots := #[.long (-79)], vm := .none },
  { cls := 9, slots := #[.long (-78)], vm := .none },
  { cls := 9, slots := #[.long (-77)], vm := .none },
  { cls := 9, slots := #[.long (-76)], vm := .none },
  { cls := 9, slots := #[.long (-75)], vm := .none },
  { cls := 9, slots := #[.long (-74)], vm := .none },
  { cls := 9, slots := #[.long (-73)], vm := .none },
  { cls := 9, slots := #[.long (-72)], vm := .none },
  { cls := 9, slots := #[.long (-71)], vm := .none },
  { cls := 9, slots := #[.long (-70)], vm := .none },
  { cls := 9, slots := #[.long (-69)], vm := .none },
  { cls := 9, slots := #[.long (-68)], vm := .none },
  { cls := 9, slots := #[.long (-67)], vm := .none },
  { cls := 9, slots := #[.long (-66)], vm := .none },
  { cls := 9, slots := #[.long (-65)], vm := .none },
  { cls := 9, slots := #[.long (-64)], vm := .none },
  { cls := 9, slots := #[.long (-63)], vm := .none },
  { cls := 9, slots := #[.long (-62)], vm := .none },
  { cls := 9, slots := #[.long (-61)], vm := .none },
  { cls := 9, slots := #[.long (-60)], vm := .none },
  { cls := 9, slots := #[.long (-59)], vm := .none },
  { cls := 9, slots := #[.long (-58)], vm := .none },
  { cls := 9, slots := #[.long (-57)], vm := .none },
  { cls := 9, slots := #[.long (-56)], vm := .none },
  { cls := 9, slots := #[.long (-55)], vm := .none },
  { cls := 9, slots := #[.long (-54)], vm := .none },
  { cls := 9, slots := #[.long (-53)], vm := .none },
  { cls := 9, slots := #[.long (-52)], vm := .none },
  { cls := 9, slots := #[.long (-51)], vm := .none },
  { cls := 9, slots := #[.long (-50)], vm := .none },
  { cls := 9, slots := #[.long (-49)], vm := .none },
  { cls := 9, slots := #[.long (-48)], vm := .none },
  { cls := 9, slots := #[.long (-47)], vm := .none },
  { cls := 9, slots := #[.long (-46)], vm := .none },
  { cls := 9, slots := #[.long (-45)], vm := .none },
  { cls := 9, slots := #[.long (-44)], vm := .none },
  { cls := 9, slots := #[.long (-43)], vm := .none },
  { cls := 9, slots := #[.long (-42)], vm := .none },
  { cls := 9, slots := #[.long (-41)], vm := .none },
  { cls := 9, slots := #[.long (-40)], vm := .none },
  { cls := 9, slots := #[.long (-39)], vm := .none },
  { cls := 9, slots := #[.long (-38)], vm := .none },
  { cls := 9, slots := #[.long (-37)], vm := .none },
  { cls := 9, slots := #[.long (-36)], vm := .none },
  { cls := 9, slots := #[.long (-35)], vm := .none },
  { cls := 9, slots := #[.long (-34)], vm := .none },
  { cls := 9, slots := #[.long (-33)], vm := .none },
  { cls := 9, slots := #[.long (-32)], vm := .none },
  { cls := 9, slots := #[.long (-31)], vm := .none },
  { cls := 9, slots := #[.long (-30)], vm := .none },
  { cls := 9, slots := #[.long (-29)], vm := .none },
  { cls := 9, slots := #[.long (-28)], vm := .none },
  { cls := 9, slots := #[.long (-27)], vm := .none },
  { cls := 9, slots := #[.long (-26)], vm := .none },
  { cls := 9, slots := #[.long (-25)], vm := .none },
  { cls := 9, slots := #[.long (-24)], vm := .none },
  { cls := 9, slots := #[.long (-23)], vm := .none },
  { cls := 9, slots := #[.long (-22)], vm := .none },
  { cls := 9, slots := #[.long (-21)], vm := .none },
  { cls := 9, slots := #[.long (-20)], vm := .none },
  { cls := 9, slots := #[.long (-19)], vm := .none },
  { cls := 9, slots := #[.long (-18)], vm := .none },
  { cls := 9, slots := #[.long (-17)], vm := .none },
  { cls := 9, slots := #[.long (-16)], vm := .none },
  { cls := 9, slots := #[.long (-15)], vm := .none },
  { cls := 9, slots := #[.long (-14)], vm := .none },
  { cls := 9, slots := #[.long (-13)], vm := .none },
  { cls := 9, slots := #[.long (-12)], vm := .none },
  { cls := 9, slots := #[.long (-11)], vm := .none },
  { cls := 9, slots := #[.long (-10)], vm := .none },
  { cls := 9, slots := #[.long (-9)], vm := .none },
  { cls := 9, slots := #[.long (-8)], vm := .none },
  { cls := 9, slots := #[.long (-7)], vm := .none },
  { cls := 9, slots := #[.long (-6)], vm := .none },
  { cls := 9, slots := #[.long (-5)], vm := .none },
  { cls := 9, slots := #[.long (-4)], vm := .none },
  { cls := 9, slots := #[.long (-3)], vm := .none },
  { cls := 9, slots := #[.long (-2)], vm := .none },
  { cls := 9, slots := #[.long (-1)], vm := .none },
  { cls := 9, slots := #[.long 0], vm := .none },
  { cls := 9, slots := #[.long 1], vm := .none },
  { cls := 9, slots := #[.long 2], vm := .none },
  { cls := 9, slots := #[.long 3], vm := .none },
  { cls := 9, slots := #[.long 4], vm := .none },
  { cls := 9, slots := #[.long 5], vm := .none },
  { cls := 9, slots := #[.long 6], vm := .none },
  { cls := 9, slots := #[.long 7], vm := .none },
  { cls := 9, slots := #[.long 8], vm := .none },
  { cls := 9, slots := #[.long 9], vm := .none },
  { cls := 9, slots := #[.long 10], vm := .none },
  { cls := 9, slots := #[.long 11], vm := .none },
  { cls := 9, slots := #[.long 12], vm := .none },
  { cls := 9, slots := #[.long 13], vm := .none },
  { cls := 9, slots := #[.long 14], vm := .none },
  { cls := 9, slots := #[.long 15], vm := .none },
  { cls := 9, slots := #[.long 16], vm := .none },
  { cls := 9, slots := #[.long 17], vm := .none },
  { cls := 9, slots := #[.long 18], vm := .none },
  { cls := 9, slots := #[.long 19], vm := .none },
  { cls := 9, slots := #[.long 20], vm := .none },
  { cls := 9, slots := #[.long 21], vm := .none },
  { cls := 9, slots := #[.long 22], vm := .none },
  { cls := 9, slots := #[.long 23], vm := .none },
  { cls := 9, slots := #[.long 24], vm := .none },
  { cls := 9, slots := #[.long 25], vm := .none },
  { cls := 9, slots := #[.long 26], vm := .none },
  { cls := 9, slots := #[.long 27], vm := .none },
  { cls := 9, slots := #[.long 28], vm := .none },
  { cls := 9, slots := #[.long 29], vm := .none },
  { cls := 9, slots := #[.long 30], vm := .none },
  { cls := 9, slots := #[.long 31], vm := .none },
  { cls := 9, slots := #[.long 32], vm := .none },
  { cls := 9, slots := #[.long 33], vm := .none },
  { cls := 9, slots := #[.long 34], vm := .none },
  { cls := 9, slots := #[.long 35], vm := .none },
  { cls := 9, slots := #[.long 36], vm := .none },
  { cls := 9, slots := #[.long 37], vm := .none },
  { cls := 9, slots := #[.long 38], vm := .none },
  { cls := 9, slots := #[.long 39], vm := .none },
  { cls := 9, slots := #[.long 40], vm := .none },
  { cls := 9, slots := #[.long 41], vm := .none },
  { cls := 9, slots := #[.long 42], vm := .none },
  { cls := 9, slots := #[.long 43], vm := .none },
  { cls := 9, slots := #[.long 44], vm := .none },
  { cls := 9, slots := #[.long 45], vm := .none },
  { cls := 9, slots := #[.long 46], vm := .none },
  { cls := 9, slots := #[.long 47], vm := .none },
  { cls := 9, slots := #[.long 48], vm := .none },
  { cls := 9, slots := #[.long 49], vm := .none },
  { cls := 9, slots := #[.long 50], vm := .none },
  { cls := 9, slots := #[.long 51], vm := .none },
  { cls := 9, slots := #[.long 52], vm := .none },
  { cls := 9, slots := #[.long 53], vm := .none },
  { cls := 9, slots := #[.long 54], vm := .none },
  { cls := 9, slots := #[.long 55], vm := .none },
  { cls := 9, slots := #[.long 56], vm := .none },
  { cls := 9, slots := #[.long 57], vm := .none },
  { cls := 9, slots := #[.long 58], vm := .none },
  { cls := 9, slots := #[.long 59], vm := .none },
  { cls := 9, slots := #[.long 60], vm := .none },
  { cls := 9, slots := #[.long 61], vm := .none },
  { cls := 9, slots := #[.long 62], vm := .none },
  { cls := 9, slots := #[.long 63], vm := .none },
  { cls := 9, slots := #[.long 64], vm := .none },
  { cls := 9, slots := #[.long 65], vm := .none },
  { cls := 9, slots := #[.long 66], vm := .none },
  { cls := 9, slots := #[.long 67], vm := .none },
  { cls := 9, slots := #[.long 68], vm := .none },
  { cls := 9, slots := #[.long 69], vm := .none },
  { cls := 9, slots := #[.long 70], vm := .none },
  { cls := 9, slots := #[.long 71], vm := .none },
  { cls := 9, slots := #[.long 72], vm := .none },
  { cls := 9, slots := #[.long 73], vm := .none },
  { cls := 9, slots := #[.long 74], vm := .none },
  { cls := 9, slots := #[.long 75], vm := .none },
  { cls := 9, slots := #[.long 76], vm := .none },
  { cls := 9, slots := #[.long 77], vm := .none },
  { cls := 9, slots := #[.long 78], vm := .none },
  { cls := 9, slots := #[.long 79], vm := .none },
  { cls := 9, slots := #[.long 80], vm := .none },
  { cls := 9, slots := #[.long 81], vm := .none },
  { cls := 9, slots := #[.long 82], vm := .none },
  { cls := 9, slots := #[.long 83], vm := .none },
  { cls := 9, slots := #[.long 84], vm := .none },
  { cls := 9, slots := #[.long 85], vm := .none },
  { cls := 9, slots := #[.long 86], vm := .none },
  { cls := 9, slots := #[.long 87], vm := .none },
  { cls := 9, slots := #[.long 88], vm := .none },
  { cls := 9, slots := #[.long 89], vm := .none },
  { cls := 9, slots := #[.long 90], vm := .none },
  { cls := 9, slots := #[.long 91], vm := .none },
  { cls := 9, slots := #[.long 92], vm := .none },
  { cls := 9, slots := #[.long 93], vm := .none },
  { cls := 9, slots := #[.long 94], vm := .none },
  { cls := 9, slots := #[.long 95], vm := .none },
  { cls := 9, slots := #[.long 96], vm := .none },
  { cls := 9, slots := #[.long 97], vm := .none },
  { cls := 9, slots := #[.long 98], vm := .none },
  { cls := 9, slots := #[.long 99], vm := .none },
  { cls := 9, slots := #[.long 100], vm := .none },
  { cls := 9, slots := #[.long 101], vm := .none },
  { cls := 9, slots := #[.long 102], vm := .none },
  { cls := 9, slots := #[.long 103], vm := .none },
  { cls := 9, slots := #[.long 104], vm := .none },
  { cls := 9, slots := #[.long 105], vm := .none },
  { cls := 9, slots := #[.long 106], vm := .none },
  { cls := 9, slots := #[.long 107], vm := .none },
  { cls := 9, slots := #[.long 108], vm := .none },
  { cls := 9, slots := #[.long 109], vm := .none },
  { cls := 9, slots := #[.long 110], vm := .none },
  { cls := 9, slots := #[.long 111], vm := .none },
  { cls := 9, slots := #[.long 112], vm := .none },
  { cls := 9, slots := #[.long 113], vm := .none },
  { cls := 9, slots := #[.long 114], vm := .none },
  { cls := 9, slots := #[.long 115], vm := .none },
  { cls := 9, slots := #[.long 116], vm := .none },
  { cls := 9, slots := #[.long 117], vm := .none },
  { cls := 9, slots := #[.long 118], vm := .none },
  { cls := 9, slots := #[.long 119], vm := .none },
  { cls := 9, slots := #[.long 120], vm := .none },
  { cls := 9, slots := #[.long 121], vm := .none },
  { cls := 9, slots := #[.long 122], vm := .none },
  { cls := 9, slots := #[.long 123], vm := .none },
  { cls := 9, slots := #[.long 124], vm := .none },
  { cls := 9, slots := #[.long 125], vm := .none },
  { cls := 9, slots := #[.long 126], vm := .none },
  { cls := 9, slots := #[.long 127], vm := .none }]
def classes : Array Class := #[k0, k1, k2, k3, k4, k5, k6, k7, k8, k9, k10, k11, k12, k13, k14, k15, k16]
def interned : List (Array UInt16 × Addr) := []
def slotsUsed : Nat := 515
def theMethod : MethodId := ⟨1, 1⟩
def args0 : Array Value := #[.long 7, .long 3, .int 1]
def aboutOver (below : List Frame) : State where
  vm := { classes := classes, interned := interned.toArray }
  heap := heap
  slotsUsed := slotsUsed
  threads := #[{ frames := .invoking theMethod args0 :: below }]
def below0 : List Frame := [.native { method := ⟨0, 0⟩, args := #[] }]
def about1 : State := aboutOver below0
def p0 : Program := .bare "" "" ""
def e0 : Env := launch0.env 0 0 0
theorem w_frames : about1.frames = Frame.invoking theMethod args0 :: below0 := rfl
set_option maxRecDepth 65536 in
theorem w_args : argsFit about1.vm theMethod args0 = true := by decide +kernel
set_option maxRecDepth 65536 in
theorem w_heap : heapFits about1 = true := by decide +kernel
set_option maxRecDepth 65536 in
theorem w_runnable : about1.curStatus? = some .runnable := by decide +kernel
set_option maxRecDepth 65536 in
theorem w_alone : about1.alone = true := by decide +kernel
set_option maxRecDepth 65536 in
theorem w_named : about1.methodNamed? x = some theMethod := by decide +kernel
set_option maxRecDepth 65536 in
theorem w_hears : about1.hears theMethod below0 = true := by decide +kernel
set_option maxRecDepth 65536 in
theorem w_ripe : about1.ripe theMethod args0 below0 = true := by decide +kernel
theorem w_running : about1.status = .running := rfl
set_option maxRecDepth 65536 in
theorem w_room : about1.hasRoom e0.platform room_1 = true :=
  launch0.hasRoom_least _ room_1 (by decide +kernel) (by decide +kernel) (by decide +kernel) (by decide +kernel) (by decide +kernel) (by decide +kernel)
theorem allAtoms_all (ts : List Jvm.Cond) (a : Array Jvm.Value) (st : Jvm.State) : (allAtoms ts).before a st = ts.all (fun c => c.before a st) := by
  induction ts with
  | nil => rfl
  | cons c t ih =>
    show (Jvm.Cond.and c (allAtoms t)).before a st = _
    rw [Jvm.Cond.before_and, ih, List.all_cons]
def words1 : List Jvm.Cond := Jvm.Cond.code x code maxLocals ret :: tables_1
/-- a 'code' word, met by the world's own term for the bytes: nothing is compared byte by byte -/
theorem code_word {y : MethodName} {bytes : ByteArray} {mx : Nat} {rt : Option FieldType} {a : Array Value} {s : State} {m : MethodId} {meth : Method} {c : Code} (h1 : s.methodNamed? y = some m) (h2 : s.vm.method? m = some meth) (h3 : meth.code = some c) (h4 : c.code = bytes)
    (h5 : (c.maxLocals == mx && c.exceptionTable.isEmpty && decide (c.maxStack ≤ mostOperands) && decide (meth.sig.returnType = rt) && !meth.locks && decide (parseMethodDescriptor y.desc = some meth.sig)) = true) : (Jvm.Cond.code y bytes mx rt).before a s = true := by
  simp only [Bool.and_eq_true, beq_iff_eq, Bool.not_eq_true', decide_eq_true_eq] at h5
  obtain ⟨⟨⟨⟨⟨g1, g2⟩, g3⟩, g4⟩, g5⟩, g6⟩ := h5
  simp [Cond.before, Cond.holds, Cond.value, h1, h2, h3, h4, g1, g2, g3, g4, g5, g6]
def isCode : Jvm.Cond → Bool
  | .code _ _ _ _ => true
  | _ => false
theorem all_split {L : List Jvm.Cond} {P : Jvm.Cond → Bool} (h1 : L.all (fun c => isCode c || P c) = true) (h2 : ∀ c ∈ L.filter isCode, P c = true) : L.all P = true := by
  refine List.all_eq_true.mpr fun c hc => ?_
  have h := List.all_eq_true.mp h1 c hc
  rcases Bool.eq_false_or_eq_true (isCode c) with hi | hi
  · exact h2 c (List.mem_filter.mpr ⟨hc, hi⟩)
  · simpa [hi] using h
set_option maxRecDepth 65536 in
theorem w_c0 : (Jvm.Cond.code x code maxLocals ret).before args0 about1 = true := code_word (m := ⟨1, 1⟩) (meth := k1m1) (c := k1c1) (by decide +kernel) rfl rfl rfl (by decide +kernel)
set_option maxRecDepth 65536 in
theorem w_c1 : (Jvm.Cond.code ({ cls := "com/example/limpet/limpet/TakeReply", name := "<init>", desc := "(Ljava/lang/Long;J)V" } : Jvm.MethodName) prog_27_method_1_code (4 : Nat) (Option.none : Option Jvm.ClassFile.FieldType)).before args0 about1 = true := code_word (m := ⟨3, 0⟩) (meth := k3m0) (c := k3c0) (by decide +kernel) rfl rfl rfl (by decide +kernel)
set_option maxRecDepth 65536 in
theorem w_c2 : (Jvm.Cond.code ({ cls := "java/lang/Record", name := "<init>", desc := "()V" } : Jvm.MethodName) jdk_30_method_1_code (1 : Nat) (Option.none : Option Jvm.ClassFile.FieldType)).before args0 about1 = true := code_word (m := ⟨2, 0⟩) (meth := k2m0) (c := k2c0) (by decide +kernel) rfl rfl rfl (by decide +kernel)
set_option maxRecDepth 65536 in
theorem w_c3 : (Jvm.Cond.code ({ cls := "java/lang/Object", name := "<init>", desc := "()V" } : Jvm.MethodName) object_method_1_code (1 : Nat) (Option.none : Option Jvm.ClassFile.FieldType)).before args0 about1 = true := code_word (m := ⟨0, 0⟩) (meth := k0m0) (c := k0c0) (by decide +kernel) rfl rfl rfl (by decide +kernel)
set_option maxRecDepth 65536 in
theorem w_c4 : (Jvm.Cond.code ({ cls := "com/example/limpet/limpet/TakeReply", name := "gone", desc := "()Z" } : Jvm.MethodName) prog_27_method_5_code (1 : Nat) (Option.some Jvm.ClassFile.FieldType.boolean)).before args0 about1 = true := code_word (m := ⟨3, 1⟩) (meth := k3m1) (c := k3c1) (by decide +kernel) rfl rfl rfl (by decide +kernel)
set_option maxRecDepth 65536 in
theorem w_c5 : (Jvm.Cond.code ({ cls := "java/lang/Long", name := "valueOf", desc := "(J)Ljava/lang/Long;" } : Jvm.MethodName) jdk_35_method_24_code (3 : Nat) (Option.some (Jvm.ClassFile.FieldType.object "java/lang/Long"))).before args0 about1 = true := code_word (m := ⟨9, 0⟩) (meth := k9m0) (c := k9c0) (by decide +kernel) rfl rfl rfl (by decide +kernel)
set_option maxRecDepth 65536 in
theorem w_c6 : (Jvm.Cond.code ({ cls := "java/lang/Long", name := "<init>", desc := "(J)V" } : Jvm.MethodName) jdk_35_method_26_code (3 : Nat) (Option.none : Option Jvm.ClassFile.FieldType)).before args0 about1 = true := code_word (m := ⟨9, 1⟩) (meth := k9m1) (c := k9c1) (by decide +kernel) rfl rfl rfl (by decide +kernel)
set_option maxRecDepth 65536 in
theorem w_c7 : (Jvm.Cond.code ({ cls := "java/lang/Number", name := "<init>", desc := "()V" } : Jvm.MethodName) jdk_18_method_1_code (1 : Nat) (Option.none : Option Jvm.ClassFile.FieldType)).before args0 about1 = true := code_word (m := ⟨5, 0⟩) (meth := k5m0) (c := k5c0) (by decide +kernel) rfl rfl rfl (by decide +kernel)
def codes1 : List Jvm.Cond := [Jvm.Cond.code x code maxLocals ret, Jvm.Cond.code ({ cls := "com/example/limpet/limpet/TakeReply", name := "<init>", desc := "(Ljava/lang/Long;J)V" } : Jvm.MethodName) prog_27_method_1_code (4 : Nat) (Option.none : Option Jvm.ClassFile.FieldType), Jvm.Cond.code ({ cls := "java/lang/Record", name := "<init>", desc := "()V" } : Jvm.MethodName) jdk_30_method_1_code (1 : Nat) (Option.none : Option Jvm.ClassFile.FieldType), Jvm.Cond.code ({ cls := "java/lang/Object", name := "<init>", desc := "()V" } : Jvm.MethodName) object_method_1_code (1 : Nat) (Option.none : Option Jvm.ClassFile.FieldType), Jvm.Cond.code ({ cls := "com/example/limpet/limpet/TakeReply", name := "gone", desc := "()Z" } : Jvm.MethodName) prog_27_method_5_code (1 : Nat) (Option.some Jvm.ClassFile.FieldType.boolean), Jvm.Cond.code ({ cls := "java/lang/Long", name := "valueOf", desc := "(J)Ljava/lang/Long;" } : Jvm.MethodName) jdk_35_method_24_code (3 : Nat) (Option.some (Jvm.ClassFile.FieldType.object "java/lang/Long")), Jvm.Cond.code ({ cls := "java/lang/Long", name := "<init>", desc := "(J)V" } : Jvm.MethodName) jdk_35_method_26_code (3 : Nat) (Option.none : Option Jvm.ClassFile.FieldType), Jvm.Cond.code ({ cls := "java/lang/Number", name := "<init>", desc := "()V" } : Jvm.MethodName) jdk_18_method_1_code (1 : Nat) (Option.none : Option Jvm.ClassFile.FieldType)]
set_option maxRecDepth 65536 in
theorem codes_eq : words1.filter isCode = codes1 := rfl
theorem w_codes : ∀ c ∈ words1.filter isCode, c.before args0 about1 = true := by
  rw [codes_eq]
  intro c hc
  simp only [codes1, List.mem_cons, List.not_mem_nil, or_false] at hc
  rcases hc with rfl | rfl | rfl | rfl | rfl | rfl | rfl | rfl
  · exact w_c0
  · exact w_c1
  · exact w_c2
  · exact w_c3
  · exact w_c4
  · exact w_c5
  · exact w_c6
  · exact w_c7
set_option maxRecDepth 65536 in
theorem w_t1 : (words1.take 24).all (fun c => isCode c || c.before args0 about1) = true := by decide +kernel
set_option maxRecDepth 65536 in
theorem w_t2 : ((words1.drop 24).take 24).all (fun c => isCode c || c.before args0 about1) = true := by decide +kernel
set_option maxRecDepth 65536 in
theorem w_t3 : ((words1.drop 24).drop 24).all (fun c => isCode c || c.before args0 about1) = true := by decide +kernel
theorem w_tables : (allAtoms (Jvm.Cond.code x code maxLocals ret :: tables_1)).before args0 about1 = true := by
  rw [allAtoms_all]
  show words1.all (fun c => c.before args0 about1) = true
  refine all_split ?_ w_codes
  rw [← List.take_append_drop 24 words1, List.all_append, w_t1, ← List.take_append_drop 24 (words1.drop 24), List.all_append, w_t2, w_t3]
  rfl
set_option maxRecDepth 65536 in
theorem w_rest : rest_1_c.before args0 about1 = true := by decide +kernel
set_option maxRecDepth 65536 in
theorem w_case : (Jvm.Cond.and given_1 narrow_1).before args0 about1 = true := by decide +kernel
theorem w_applies : (headSpec (Jvm.Cond.code x code maxLocals ret :: tables_1) room_1).applies x e0.platform about1 = true :=
  (Spec.applies_iff w_frames).mpr ⟨w_running, w_runnable, w_alone, w_named, w_hears, w_ripe, w_room, w_tables⟩
theorem atStart : AtStart classFile x code maxLocals ret World_1 tables_1 room_1 Calls_1 rest_1 Pre_1 launch0 p0 e0 about1 theMethod args0 below0 :=
  ⟨lists_1, trivial, launch0.admits_env _ _ _, launch0.least_env, fairChoices_fair.cas, fairChoices_fair.clock, w_frames, w_args, w_heap, w_applies, trivial, w_rest, w_case⟩
end start1
theorem witness_1 : WitnessClaimed_1 := ⟨start1.p0, start1.e0, start1.about1, start1.theMethod, start1.args0, start1.below0, start1.atStart⟩
end Jvm.Pilot.@@N@@
