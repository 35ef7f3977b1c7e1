import JvmDerived
import JvmDerived.Pilot.@@N@@Statement
import JvmDerived.Pilot.@@N@@Code
set_option linter.unusedVariables false
set_option linter.unusedSimpArgs false

namespace Jvm.Pilot.@@N@@
open Jvm Jvm.ClassFile Sem Op Lib Jvm.Free Jvm.Stand Jvm.LawKit Jvm.RoadKit Bundle Jvm.Pilot.@@N@@.Jvm.D
def OwnFin (p : Program) (e : Env) (below : List Frame) (Q : Outcome → State → Prop) (T : State) : Prop := ∃ s₂ o, Steps p.tables e below T s₂ ∧ s₂.status = .running ∧ Ended s₂ below o ∧ Q o s₂
theorem OwnFin.step {p : Program} {e : Env} {below : List Frame} {Q : Outcome → State → Prop} {A B : State} (h : ∀ t, Steps p.tables e below A t → Steps p.tables e below B t) (k : OwnFin p e below Q A) : OwnFin p e below Q B := by
  obtain ⟨s₂, o, h1, h2⟩ := k
  exact ⟨s₂, o, h _ h1, h2⟩
theorem own_safe_nil {Z : State} {vm : Vm} {h : Heap} {x : Addr} : Safe Z [] vm h x := fun ⟨_, hp, _⟩ => nomatch hp
theorem own_safe_str {Z : State} {EL : List (String × Nat)} {vm : Vm} {h : Heap} {x : Addr} (hal : Z.vm.Alike vm) (E : Exa Z h x "java/lang/String") (F : Fld Z h x "java/lang/String" "value" "[B" .null) : Safe Z EL vm h x := fun B => by
  obtain ⟨p, -, u, a, -, q, -, G, rfl | rfl⟩ := B
  · obtain ⟨cell, cf, k, i, f, h1, h2, h3, h4, h5, h6, h7⟩ := F
    cases (show h[q.sa]? = some q.sC from G.ha).symm.trans h1
    obtain ⟨cS, ⟨⟨-, -, -, ⟨c1, k1, i1, f1, -⟩, -, -, -, v1, -⟩, -⟩, -⟩ := G
    obtain ⟨k3, e3, -⟩ := State.fieldFound?_setVm (s := Z) hal h2
    have e4 := (show (Wst Z vm h).fieldFound? _ _ _ = _ from e3).symm.trans f1
    simp only [Option.some.injEq, Prod.mk.injEq] at e4
    rw [← e4.2.2.2, h7] at v1
    simp at v1
  · obtain ⟨cell, k, e1, e2, e3, -, -⟩ := E
    cases (show h[q.sd]? = some q.SA from G.hd).symm.trans e1
    obtain ⟨cS, -, -, f, -⟩ := G
    have f : vm.findClass "[B" = some q.SA.cls := f
    rw [hal.findClass] at f
    obtain ⟨k1, q1, q2⟩ := Vm.findClass_spec f
    obtain ⟨k2, q3, q4⟩ := Vm.findClass_spec e2
    cases q1.symm.trans q3
    exact absurd (q2.symm.trans q4) (by decide)
theorem own_fits {C : String} {v : Value} (h : v.isRef = true) : fits (.object C) v = true := by cases v <;> simp_all [Value.isRef, fits]
theorem own_cat {v : Value} (h : v.isRef = true) : v.category = 1 := by cases v <;> simp_all [Value.isRef, Value.category]
theorem own_nonsta {Z : State} {h : Heap} {a : Addr} {C : String} (E : Exa Z h a C) : ∃ cell : Cell, h[a]? = some cell ∧ cell.vm.isStatics = false := by
  obtain ⟨cell, k, h1, -, -, h2, -⟩ := E
  exact ⟨cell, h1, h2⟩
theorem own_sta_keep {Z : State} {h h' : Heap} {ws : List Addr} {C n d : String} {v : Value} (F : Sta Z h C n d v) (K : Keep h h' ws) (q : ∀ x ∈ ws, ∃ cell : Cell, h[x]? = some cell ∧ cell.vm.isStatics = false) : Sta Z h' C n d v := by
  obtain ⟨cf, i, k, f, st, cell, h1, h2, h3, h4, h5, h6, h7⟩ := F
  refine ⟨cf, i, k, f, st, cell, h1, h2, h3, h4, K.2.1 _ _ h5 fun z => ?_, h6, h7⟩
  obtain ⟨c2, e1, e2⟩ := q st z
  rw [h5] at e1
  cases e1
  rw [h6] at e2
  cases e2
theorem own_arr_keep {Z : State} {h h' : Heap} {ws : List Addr} {a : Addr} {c : Cell} {ty : FieldType} (A : Arr Z h a c ty) (K : Keep h h' ws) (q : a ∉ ws) : Arr Z h' a c ty := ⟨K.2.1 a c A.1 q, A.2⟩
section OwnLen
variable {p : Program} {l : Launch} {e : Env} {R : Room} {s : State} {m : MethodId} {args : Array Value} {below : List Frame} {meth : Method} {c : Code} {T : State} {locs : List Loc} {cells slots : Nat} {Z : State} {h : Heap}
theorem own_len (X : Stand p l e R s m args below meth c T locs cells slots) (hx : p.tables.exec = Jvm.exec) (hZ : Z.Warmed39 s.vm) (eT : T.heap = h) {a : Addr} {cl : Cell} {ty : FieldType} (A : Arr Z h a cl ty) {z : Int32} (Sz : cl.slots.size = z.toNatClampNeg) (Ng : ¬ z < 0) {g : JFrame} (hg : g.method = m) {rest : List Value} (hs : g.stack = .ref a :: rest) (hd : decode c.code g.pc = .ok (.arraylength, 1)) {t : State}
    (k : Steps p.tables e below (T.setTop { g with pc := g.pc + 1, stack := .int z :: rest }) t) : Steps p.tables e below (T.setTop g) t := by
  refine X.arraylength hx (by rw [eT]; exact A.1) (State.isArrayOf_alike hZ.alike A.2.1) hg hs hd _ ?_
  rw [len_of Sz Ng]
  exact k
end OwnLen

section OwnStart
variable {args : Array Value} {s : State} {t : Term} {x : Addr}
theorem own_eqI {a : Term} {k : Int32} (h : (Jvm.Cond.eq a (Term.int k)).value args s none s [] = some true) : a.eval args s none [] s = some (.int k) := by
  obtain ⟨v, y, e1, e2, k1, k2⟩ := cmp_v (Or.inl h)
  have e3 : (Term.int k).eval args s none [] s = some (.int k) := Term.int_eval k
  rw [e3] at e2
  cases e2
  obtain ⟨z, rfl⟩ := k2
  simp [Cond.value, e1, e3] at h
  subst h
  exact e1
theorem own_fldI {C n d : String} {k : Int32} (ht : t.eval args s none [] s = some (.ref x)) (h : (Jvm.Cond.eq (Term.field t C n d) (Term.int k)).value args s none s [] = some true) : Fld s s.heap x C n d (.int k) := Fld.start (by rw [← fld_at ht (args := args) (first := s) (o := none) (idx := [])]; exact own_eqI h)
theorem own_neI {a : Term} {z k : Int32} (e1 : a.eval args s none [] s = some (.int z)) (h : (Jvm.Cond.not (Jvm.Cond.eq a (Term.int k))).value args s none s [] = some true) : ¬ z = k := by
  have h2 := not_v h
  have e3 : (Term.int k).eval args s none [] s = some (.int k) := Term.int_eval k
  intro e
  subst e
  simp [Cond.value, e1, e3] at h2
theorem own_eqR {a b : Term} {y : Addr} (hb : b.eval args s none [] s = some (.ref y)) (h : (Jvm.Cond.eq a b).value args s none s [] = some true) : a.eval args s none [] s = some (.ref y) := by
  obtain ⟨v, z, e1, e2, k1, k2⟩ := cmp_v (Or.inl h)
  rw [hb] at e2
  cases e2
  have hv : v.isRef = true := k2.2
  rw [eq_R e1 hb hv rfl] at h
  have := of_decide_eq_true (Option.some.inj h)
  subst this
  exact e1
theorem own_arv {t : Term} {a : Addr} {cl : Cell} {ty : FieldType} {z : Int32} {vs : List Value} {dv : Value} (hf : Fit s) (A : Arr s s.heap a cl ty) (ev : t.eval args s none [] s = some (.ref a)) (hl : (Term.length t).eval args s none [] s = some (.int z)) (hz : ¬ z < 0) (hn : z.toNatClampNeg = vs.length) (H : HasL cl 0 vs) : Arv s s.heap a cl.cls ty z vs dv := by
  obtain ⟨b, cell, h1, h2, h3⟩ := Term.length_spec hl
  cases ev.symm.trans h1
  obtain ⟨hcell, -⟩ := State.arrayAt?_spec h2
  cases A.1.symm.trans hcell
  have hsz : cl.slots.size < 2 ^ 31 := by
    simp only [Term.eval, ev, h2, Option.bind_eq_bind, Option.bind_some] at hl
    by_cases hlt : cl.slots.size < 2147483648
    · exact hlt
    · simp [hlt] at hl
  exact Arv.start hf A hsz (Value.int.inj h3).symm hz hn H
theorem own_elem {t : Term} {a : Addr} {cl : Cell} {ty : FieldType} {j : Int32} {v : Value} (A : Arr s s.heap a cl ty) (ev : t.eval args s none [] s = some (.ref a)) (h : (Term.elem t (Term.int j)).eval args s none [] s = some v) : cl.slots[j.toNatClampNeg]? = some v := (elem_in h ev (Term.int_eval j) A.1).2
end OwnStart

theorem own_mod (k : Int32) (d : Int32) (D : Int) (hd : d.toInt = D) (hD : 0 < D) : 0 ≤ ((k &&& (2147483647 : Int32)) % d).toInt ∧ ((k &&& (2147483647 : Int32)) % d).toInt < D := by
  have h1 := c_mask k (2147483647 : Int32) 31 (by decide) (by decide)
  have h2 := (c_irem (k &&& (2147483647 : Int32)) d D hd).1 (by rw [h1]; exact Int.emod_nonneg _ (by decide))
  rw [h2]
  exact ⟨Int.emod_nonneg _ (by omega), Int.emod_lt_of_pos _ hD⟩

def OwnEL : List (String × Nat) := [("java/lang/String", 7)]

theorem pn_0 : plainName "com/example/identifier_grammars/identifiergrammars/Node" = true := by first | (simp [plainName, overriddenIn]; done) | decide +kernel
theorem d_prog_20_method_1_0 : decode prog_20_method_1_code 0 = .ok (.aload_n 0, 1) := by decide +kernel
theorem d_prog_20_method_1_1 : decode prog_20_method_1_code 1 = .ok (.invokespecial 3, 3) := by decide +kernel
theorem d_prog_20_method_1_4 : decode prog_20_method_1_code 4 = .ok (.aload_n 0, 1) := by decide +kernel
theorem d_prog_20_method_1_5 : decode prog_20_method_1_code 5 = .ok (.aload_n 1, 1) := by decide +kernel
theorem d_prog_20_method_1_6 : decode prog_20_method_1_code 6 = .ok (.putfield 9, 3) := by decide +kernel
theorem d_prog_20_method_1_9 : decode prog_20_method_1_code 9 = .ok (.aload_n 0, 1) := by decide +kernel
theorem d_prog_20_method_1_10 : decode prog_20_method_1_code 10 = .ok (.aload_n 2, 1) := by decide +kernel
theorem d_prog_20_method_1_11 : decode prog_20_method_1_code 11 = .ok (.putfield 15, 3) := by decide +kernel
theorem d_prog_20_method_1_14 : decode prog_20_method_1_code 14 = .ok (.aload_n 0, 1) := by decide +kernel
theorem d_prog_20_method_1_15 : decode prog_20_method_1_code 15 = .ok (.aload_n 3, 1) := by decide +kernel
theorem d_prog_20_method_1_16 : decode prog_20_method_1_code 16 = .ok (.putfield 19, 3) := by decide +kernel
theorem d_prog_20_method_1_19 : decode prog_20_method_1_code 19 = .ok (.aload_n 0, 1) := by decide +kernel
theorem d_prog_20_method_1_20 : decode prog_20_method_1_code 20 = .ok (.iload 4, 2) := by decide +kernel
theorem d_prog_20_method_1_22 : decode prog_20_method_1_code 22 = .ok (.putfield 23, 3) := by decide +kernel
theorem d_prog_20_method_1_25 : decode prog_20_method_1_code 25 = .ok (.aload_n 0, 1) := by decide +kernel
theorem d_prog_20_method_1_26 : decode prog_20_method_1_code 26 = .ok (.iload 5, 2) := by decide +kernel
theorem d_prog_20_method_1_28 : decode prog_20_method_1_code 28 = .ok (.putfield 27, 3) := by decide +kernel
theorem d_prog_20_method_1_31 : decode prog_20_method_1_code 31 = .ok (.aload_n 0, 1) := by decide +kernel
theorem d_prog_20_method_1_32 : decode prog_20_method_1_code 32 = .ok (.aload 6, 2) := by decide +kernel
theorem d_prog_20_method_1_34 : decode prog_20_method_1_code 34 = .ok (.putfield 30, 3) := by decide +kernel
theorem d_prog_20_method_1_37 : decode prog_20_method_1_code 37 = .ok (.aload_n 0, 1) := by decide +kernel
theorem d_prog_20_method_1_38 : decode prog_20_method_1_code 38 = .ok (.aload 7, 2) := by decide +kernel
theorem d_prog_20_method_1_40 : decode prog_20_method_1_code 40 = .ok (.putfield 33, 3) := by decide +kernel
theorem d_prog_20_method_1_43 : decode prog_20_method_1_code 43 = .ok (.aload_n 0, 1) := by decide +kernel
theorem d_prog_20_method_1_44 : decode prog_20_method_1_code 44 = .ok (.iload 8, 2) := by decide +kernel
theorem d_prog_20_method_1_46 : decode prog_20_method_1_code 46 = .ok (.putfield 36, 3) := by decide +kernel
theorem d_prog_20_method_1_49 : decode prog_20_method_1_code 49 = .ok (.return_, 1) := by decide +kernel
theorem ef_1 (m : MethodId) (a : Addr) (kd : Addr) (nm : Addr) (ch : Addr) (lo : Addr) (hi : Addr) : entryFrame m #[(.ref a), (.ref kd), (.ref nm), (.ref ch), (.int (1 : Int32)), (.int (1 : Int32)), (.ref lo), (.ref hi), (.int (0 : Int32))] 9 = mkF m 0 #[.val (.ref a), .val (.ref kd), .val (.ref nm), .val (.ref ch), .val (.int (1 : Int32)), .val (.int (1 : Int32)), .val (.ref lo), .val (.ref hi), .val (.int (0 : Int32))] [] := by first | (simp [entryFrame, mkF, argsToLocals, Value.category]; done) | rfl
def Q1 (Z : State) (a : Addr) (kd : Addr) (nm : Addr) (ch : Addr) (lo : Addr) (hi : Addr) (h0 : Heap) (n0 : Nat) (vV : Option Value) (hH : Heap) (LL : List Loc) : Prop := vV = none ∧ Fr n0 LL ∧ Keep h0 hH [a] ∧ (Exa Z hH a "com/example/identifier_grammars/identifiergrammars/Node") ∧ (Fld Z hH a "com/example/identifier_grammars/identifiergrammars/Node" "kind" "Lcom/example/identifier_grammars/identifiergrammars/Node$Kind;" (.ref kd)) ∧ (Fld Z hH a "com/example/identifier_grammars/identifiergrammars/Node" "name" "Ljava/lang/String;" (.ref nm)) ∧ (Fld Z hH a "com/example/identifier_grammars/identifiergrammars/Node" "children" "[I" (.ref ch)) ∧ (Fld Z hH a "com/example/identifier_grammars/identifiergrammars/Node" "min" "I" (.int (1 : Int32))) ∧ (Fld Z hH a "com/example/identifier_grammars/identifiergrammars/Node" "max" "I" (.int (1 : Int32))) ∧ (Fld Z hH a "com/example/identifier_grammars/identifiergrammars/Node" "low" "[I" (.ref lo)) ∧ (Fld Z hH a "com/example/identifier_grammars/identifiergrammars/Node" "high" "[I" (.ref hi)) ∧ (Fld Z hH a "com/example/identifier_grammars/identifiergrammars/Node" "ignoreCase" "Z" (.int (0 : Int32)))
def R1 (Z : State) (a : Addr) (kd : Addr) (nm : Addr) (ch : Addr) (lo : Addr) (hi : Addr) (h0 : Heap) (n0 : Nat) (U : State) (o : Outcome) (U' : State) : Prop := ∃ vV LL, o = .returned vV ∧ Q1 Z a kd nm ch lo hi h0 n0 vV U'.heap LL ∧ FrameEnd U o U' LL ({ frames := 1, cells := 0, slots := 0, locals := 12 } : Room).cells ({ frames := 1, cells := 0, slots := 0, locals := 12 } : Room).slots
set_option maxRecDepth 65536 in
set_option maxHeartbeats 40000000 in
theorem rm1 (l : Launch) (Z : State) (a0 : Array Value) (hw : ∀ d ∈ tables_1, d.before a0 Z = true) (hEL : EW Z a0 OwnEL) (wS : ∀ a ∈ Bundle.stringAtoms, a.before a0 Z = true) (ws : List Jvm.Cond) (a : Addr) (kd : Addr) (nm : Addr) (ch : Addr) (lo : Addr) (hi : Addr) (h0 : Heap) (n0 : Nat) (Z0 : n0 ≤ h0.size) (hp0 : Exa Z h0 a "com/example/identifier_grammars/identifiergrammars/Node") (hp1 : Fld Z h0 a "com/example/identifier_grammars/identifiergrammars/Node" "kind" "Lcom/example/identifier_grammars/identifiergrammars/Node$Kind;" .null) (hp2 : Fld Z h0 a "com/example/identifier_grammars/identifiergrammars/Node" "name" "Ljava/lang/String;" .null) (hp3 : Fld Z h0 a "com/example/identifier_grammars/identifiergrammars/Node" "children" "[I" .null) (hp4 : Fld Z h0 a "com/example/identifier_grammars/identifiergrammars/Node" "min" "I" (.int (0 : Int32))) (hp5 : Fld Z h0 a "com/example/identifier_grammars/identifiergrammars/Node" "max" "I" (.int (0 : Int32))) (hp6 : Fld Z h0 a "com/example/identifier_grammars/identifiergrammars/Node" "low" "[I" .null) (hp7 : Fld Z h0 a "com/example/identifier_grammars/identifiergrammars/Node" "high" "[I" .null) (hp8 : Fld Z h0 a "com/example/identifier_grammars/identifiergrammars/Node" "ignoreCase" "Z" (.int (0 : Int32))) (hp9 : n0 ≤ a) :
    MetFree l (⟨"com/example/identifier_grammars/identifiergrammars/Node", "<init>", "(Lcom/example/identifier_grammars/identifiergrammars/Node$Kind;Ljava/lang/String;[III[I[IZ)V"⟩ : MethodName) (head1 (Jvm.Cond.code (⟨"com/example/identifier_grammars/identifiergrammars/Node", "<init>", "(Lcom/example/identifier_grammars/identifiergrammars/Node$Kind;Ljava/lang/String;[III[I[IZ)V"⟩ : MethodName) prog_20_method_1_code 9 none :: ws) ({ frames := 1, cells := 0, slots := 0, locals := 12 } : Room)) (fun aA U => aA = #[(.ref a), (.ref kd), (.ref nm), (.ref ch), (.int (1 : Int32)), (.int (1 : Int32)), (.ref lo), (.ref hi), (.int (0 : Int32))] ∧ Z.Warmed39 U.vm ∧ U.heap = h0) (fun _ _ _ _ _ => True) (fun _ U o U' => ∃ vV LL, o = .returned vV ∧ Q1 Z a kd nm ch lo hi h0 n0 vV U'.heap LL ∧ FrameEnd U o U' LL ({ frames := 1, cells := 0, slots := 0, locals := 12 } : Room).cells ({ frames := 1, cells := 0, slots := 0, locals := 12 } : Room).slots) := by
  refine MetFree.of_bodySF (plainFor_of_name pn_0) hisR ?_
  intro p e s m args below meth cC s₁ Bd hml0 hP hK
  obtain ⟨rfl, hZ, hh⟩ := hP
  have hx := Bd.exec
  have hby := Bd.bytes
  have hml : cC.maxLocals = 9 := hml0
  have hown : s.vm.findClass "com/example/identifier_grammars/identifiergrammars/Node" = some m.cls := findClass_of_methodNamed Bd.named
  have hnm := (name_of_methodNamed Bd.named Bd.method).1
  have X0 : Stand p l e ({ frames := 1, cells := 0, slots := 0, locals := 12 } : Room) s m #[(.ref a), (.ref kd), (.ref nm), (.ref ch), (.int (1 : Int32)), (.int (1 : Int32)), (.ref lo), (.ref hi), (.int (0 : Int32))] below meth cC s₁ [] 0 0 := Stand.of_body Bd
  have e0 : s₁.heap = h0 := by rw [← hh, Bd.state]; rfl
  have N0 := Fr.nil n0
  show OwnFin p e below (R1 Z a kd nm ch lo hi h0 n0 s) (s₁.setTop (entryFrame m #[(.ref a), (.ref kd), (.ref nm), (.ref ch), (.int (1 : Int32)), (.int (1 : Int32)), (.ref lo), (.ref hi), (.int (0 : Int32))] 9))
  rw [ef_1 m a kd nm ch lo hi]
  refine OwnFin.step (fun tT kK => XS.aloadN X0.here hx rfl (hb hby d_prog_20_method_1_0) rfl rfl kK) ?_
  show OwnFin p e below _ (s₁.setTop (mkF m 1 #[.val (.ref a), .val (.ref kd), .val (.ref nm), .val (.ref ch), .val (.int (1 : Int32)), .val (.int (1 : Int32)), .val (.ref lo), .val (.ref hi), .val (.int (0 : Int32))] [(.ref a)]))
  obtain ⟨T1, X1, e1, st1⟩ := initO X0 hx hZ hown (hw _ (List.mem_of_getElem? (i := 52) rfl)) (hw _ (List.mem_of_getElem? (i := 16) rfl)) (hw _ (List.mem_of_getElem? (i := 17) rfl)) e0 (g := (mkF m 1 #[.val (.ref a), .val (.ref kd), .val (.ref nm), .val (.ref ch), .val (.int (1 : Int32)), .val (.int (1 : Int32)), .val (.ref lo), .val (.ref hi), .val (.int (0 : Int32))] [(.ref a)])) rfl (by rw [hml]; rfl) rfl (hb hby d_prog_20_method_1_1) (by decide) (W := 0) (by show 2 * 0 + _ ≤ _; exact Nat.le_of_eq rfl) (by decide)
  refine OwnFin.step st1 ?_
  show OwnFin p e below _ (T1.setTop (mkF m 4 #[.val (.ref a), .val (.ref kd), .val (.ref nm), .val (.ref ch), .val (.int (1 : Int32)), .val (.int (1 : Int32)), .val (.ref lo), .val (.ref hi), .val (.int (0 : Int32))] []))
  refine OwnFin.step (fun tT kK => XS.aloadN X1.here hx rfl (hb hby d_prog_20_method_1_4) rfl rfl kK) ?_
  show OwnFin p e below _ (T1.setTop (mkF m 5 #[.val (.ref a), .val (.ref kd), .val (.ref nm), .val (.ref ch), .val (.int (1 : Int32)), .val (.int (1 : Int32)), .val (.ref lo), .val (.ref hi), .val (.int (0 : Int32))] [(.ref a)]))
  refine OwnFin.step (fun tT kK => XS.aloadN X1.here hx rfl (hb hby d_prog_20_method_1_5) rfl rfl kK) ?_
  show OwnFin p e below _ (T1.setTop (mkF m 6 #[.val (.ref a), .val (.ref kd), .val (.ref nm), .val (.ref ch), .val (.int (1 : Int32)), .val (.int (1 : Int32)), .val (.ref lo), .val (.ref hi), .val (.int (0 : Int32))] [(.ref kd), (.ref a)]))
  obtain ⟨T2, h2, X2, e2, W2, st2⟩ := putF X1 hx hZ hown (host := "") (Or.inl (hw _ (List.mem_of_getElem? (i := 53) rfl))) Via.refl e1 hp1 hp0 (Or.inr ⟨(hw _ (List.mem_of_getElem? (i := 54) rfl)), rfl, hnm⟩) (hw _ (List.mem_of_getElem? (i := 42) rfl)) (ty := (.object "com/example/identifier_grammars/identifiergrammars/Node$Kind")) (by decide) rfl rfl (g := (mkF m 6 #[.val (.ref a), .val (.ref kd), .val (.ref nm), .val (.ref ch), .val (.int (1 : Int32)), .val (.int (1 : Int32)), .val (.ref lo), .val (.ref hi), .val (.int (0 : Int32))] [(.ref kd), (.ref a)])) rfl rfl (hb hby d_prog_20_method_1_6)
  refine OwnFin.step st2 ?_
  have N2 := Fr.snoc X2 N0 hp9
  have Fw2 : Fld Z h2 a "com/example/identifier_grammars/identifiergrammars/Node" "kind" "Lcom/example/identifier_grammars/identifiergrammars/Node$Kind;" (.ref kd) := hp1.same W2
  show OwnFin p e below _ (T2.setTop (mkF m 9 #[.val (.ref a), .val (.ref kd), .val (.ref nm), .val (.ref ch), .val (.int (1 : Int32)), .val (.int (1 : Int32)), .val (.ref lo), .val (.ref hi), .val (.int (0 : Int32))] []))
  refine OwnFin.step (fun tT kK => XS.aloadN X2.here hx rfl (hb hby d_prog_20_method_1_9) rfl rfl kK) ?_
  show OwnFin p e below _ (T2.setTop (mkF m 10 #[.val (.ref a), .val (.ref kd), .val (.ref nm), .val (.ref ch), .val (.int (1 : Int32)), .val (.int (1 : Int32)), .val (.ref lo), .val (.ref hi), .val (.int (0 : Int32))] [(.ref a)]))
  refine OwnFin.step (fun tT kK => XS.aloadN X2.here hx rfl (hb hby d_prog_20_method_1_10) rfl rfl kK) ?_
  show OwnFin p e below _ (T2.setTop (mkF m 11 #[.val (.ref a), .val (.ref kd), .val (.ref nm), .val (.ref ch), .val (.int (1 : Int32)), .val (.int (1 : Int32)), .val (.ref lo), .val (.ref hi), .val (.int (0 : Int32))] [(.ref nm), (.ref a)]))
  have f3 : Exa Z h2 a "com/example/identifier_grammars/identifiergrammars/Node" := (hp0.wr W2)
  have f4 : Fld Z h2 a "com/example/identifier_grammars/identifiergrammars/Node" "name" "Ljava/lang/String;" .null := (hp2.other W2 (Or.inr (slot_ne (Or.inr (hw _ (List.mem_of_getElem? (i := 56) rfl))) (Or.inr (hw _ (List.mem_of_getElem? (i := 54) rfl))) (by decide) (t := (.object "java/lang/String")) (t' := (.object "com/example/identifier_grammars/identifiergrammars/Node$Kind")) (by decide) (by decide))))
  obtain ⟨T5, h5, X5, e5, W5, st5⟩ := putF X2 hx hZ hown (host := "") (Or.inl (hw _ (List.mem_of_getElem? (i := 55) rfl))) Via.refl e2 f4 f3 (Or.inr ⟨(hw _ (List.mem_of_getElem? (i := 56) rfl)), rfl, hnm⟩) (hw _ (List.mem_of_getElem? (i := 42) rfl)) (ty := (.object "java/lang/String")) (by decide) rfl rfl (g := (mkF m 11 #[.val (.ref a), .val (.ref kd), .val (.ref nm), .val (.ref ch), .val (.int (1 : Int32)), .val (.int (1 : Int32)), .val (.ref lo), .val (.ref hi), .val (.int (0 : Int32))] [(.ref nm), (.ref a)])) rfl rfl (hb hby d_prog_20_method_1_11)
  refine OwnFin.step st5 ?_
  have N5 := Fr.snoc X5 N2 hp9
  have Fw5 : Fld Z h5 a "com/example/identifier_grammars/identifiergrammars/Node" "name" "Ljava/lang/String;" (.ref nm) := f4.same W5
  show OwnFin p e below _ (T5.setTop (mkF m 14 #[.val (.ref a), .val (.ref kd), .val (.ref nm), .val (.ref ch), .val (.int (1 : Int32)), .val (.int (1 : Int32)), .val (.ref lo), .val (.ref hi), .val (.int (0 : Int32))] []))
  refine OwnFin.step (fun tT kK => XS.aloadN X5.here hx rfl (hb hby d_prog_20_method_1_14) rfl rfl kK) ?_
  show OwnFin p e below _ (T5.setTop (mkF m 15 #[.val (.ref a), .val (.ref kd), .val (.ref nm), .val (.ref ch), .val (.int (1 : Int32)), .val (.int (1 : Int32)), .val (.ref lo), .val (.ref hi), .val (.int (0 : Int32))] [(.ref a)]))
  refine OwnFin.step (fun tT kK => XS.aloadN X5.here hx rfl (hb hby d_prog_20_method_1_15) rfl rfl kK) ?_
  show OwnFin p e below _ (T5.setTop (mkF m 16 #[.val (.ref a), .val (.ref kd), .val (.ref nm), .val (.ref ch), .val (.int (1 : Int32)), .val (.int (1 : Int32)), .val (.ref lo), .val (.ref hi), .val (.int (0 : Int32))] [(.ref ch), (.ref a)]))
  have f6 : Exa Z h5 a "com/example/identifier_grammars/identifiergrammars/Node" := (f3.wr W5)
  have f7 : Fld Z h5 a "com/example/identifier_grammars/identifiergrammars/Node" "children" "[I" .null := ((hp3.other W2 (Or.inr (slot_ne (Or.inr (hw _ (List.mem_of_getElem? (i := 58) rfl))) (Or.inr (hw _ (List.mem_of_getElem? (i := 54) rfl))) (by decide) (t := (.array .int)) (t' := (.object "com/example/identifier_grammars/identifiergrammars/Node$Kind")) (by decide) (by decide)))).other W5 (Or.inr (slot_ne (Or.inr (hw _ (List.mem_of_getElem? (i := 58) rfl))) (Or.inr (hw _ (List.mem_of_getElem? (i := 56) rfl))) (by decide) (t := (.array .int)) (t' := (.object "java/lang/String")) (by decide) (by decide))))
  obtain ⟨T8, h8, X8, e8, W8, st8⟩ := putF X5 hx hZ hown (host := "") (Or.inl (hw _ (List.mem_of_getElem? (i := 57) rfl))) Via.refl e5 f7 f6 (Or.inr ⟨(hw _ (List.mem_of_getElem? (i := 58) rfl)), rfl, hnm⟩) (hw _ (List.mem_of_getElem? (i := 42) rfl)) (ty := (.array .int)) (by decide) rfl rfl (g := (mkF m 16 #[.val (.ref a), .val (.ref kd), .val (.ref nm), .val (.ref ch), .val (.int (1 : Int32)), .val (.int (1 : Int32)), .val (.ref lo), .val (.ref hi), .val (.int (0 : Int32))] [(.ref ch), (.ref a)])) rfl rfl (hb hby d_prog_20_method_1_16)
  refine OwnFin.step st8 ?_
  have N8 := Fr.snoc X8 N5 hp9
  have Fw8 : Fld Z h8 a "com/example/identifier_grammars/identifiergrammars/Node" "children" "[I" (.ref ch) := f7.same W8
  show OwnFin p e below _ (T8.setTop (mkF m 19 #[.val (.ref a), .val (.ref kd), .val (.ref nm), .val (.ref ch), .val (.int (1 : Int32)), .val (.int (1 : Int32)), .val (.ref lo), .val (.ref hi), .val (.int (0 : Int32))] []))
  refine OwnFin.step (fun tT kK => XS.aloadN X8.here hx rfl (hb hby d_prog_20_method_1_19) rfl rfl kK) ?_
  show OwnFin p e below _ (T8.setTop (mkF m 20 #[.val (.ref a), .val (.ref kd), .val (.ref nm), .val (.ref ch), .val (.int (1 : Int32)), .val (.int (1 : Int32)), .val (.ref lo), .val (.ref hi), .val (.int (0 : Int32))] [(.ref a)]))
  refine OwnFin.step (fun tT kK => XS.iload X8.here hx rfl (hb hby d_prog_20_method_1_20) rfl kK) ?_
  show OwnFin p e below _ (T8.setTop (mkF m 22 #[.val (.ref a), .val (.ref kd), .val (.ref nm), .val (.ref ch), .val (.int (1 : Int32)), .val (.int (1 : Int32)), .val (.ref lo), .val (.ref hi), .val (.int (0 : Int32))] [(.int (1 : Int32)), (.ref a)]))
  have f9 : Exa Z h8 a "com/example/identifier_grammars/identifiergrammars/Node" := (f6.wr W8)
  have f10 : Fld Z h8 a "com/example/identifier_grammars/identifiergrammars/Node" "min" "I" (.int (0 : Int32)) := (((hp4.other W2 (Or.inr (slot_ne (Or.inr (hw _ (List.mem_of_getElem? (i := 60) rfl))) (Or.inr (hw _ (List.mem_of_getElem? (i := 54) rfl))) (by decide) (t := .int) (t' := (.object "com/example/identifier_grammars/identifiergrammars/Node$Kind")) (by decide) (by decide)))).other W5 (Or.inr (slot_ne (Or.inr (hw _ (List.mem_of_getElem? (i := 60) rfl))) (Or.inr (hw _ (List.mem_of_getElem? (i := 56) rfl))) (by decide) (t := .int) (t' := (.object "java/lang/String")) (by decide) (by decide)))).other W8 (Or.inr (slot_ne (Or.inr (hw _ (List.mem_of_getElem? (i := 60) rfl))) (Or.inr (hw _ (List.mem_of_getElem? (i := 58) rfl))) (by decide) (t := .int) (t' := (.array .int)) (by decide) (by decide))))
  obtain ⟨T11, h11, X11, e11, W11, st11⟩ := putF X8 hx hZ hown (host := "") (Or.inl (hw _ (List.mem_of_getElem? (i := 59) rfl))) Via.refl e8 f10 f9 (Or.inr ⟨(hw _ (List.mem_of_getElem? (i := 60) rfl)), rfl, hnm⟩) (hw _ (List.mem_of_getElem? (i := 42) rfl)) (ty := .int) (by decide) rfl rfl (g := (mkF m 22 #[.val (.ref a), .val (.ref kd), .val (.ref nm), .val (.ref ch), .val (.int (1 : Int32)), .val (.int (1 : Int32)), .val (.ref lo), .val (.ref hi), .val (.int (0 : Int32))] [(.int (1 : Int32)), (.ref a)])) rfl rfl (hb hby d_prog_20_method_1_22)
  refine OwnFin.step st11 ?_
  have N11 := Fr.snoc X11 N8 hp9
  have Fw11 : Fld Z h11 a "com/example/identifier_grammars/identifiergrammars/Node" "min" "I" (.int (1 : Int32)) := f10.same W11
  show OwnFin p e below _ (T11.setTop (mkF m 25 #[.val (.ref a), .val (.ref kd), .val (.ref nm), .val (.ref ch), .val (.int (1 : Int32)), .val (.int (1 : Int32)), .val (.ref lo), .val (.ref hi), .val (.int (0 : Int32))] []))
  refine OwnFin.step (fun tT kK => XS.aloadN X11.here hx rfl (hb hby d_prog_20_method_1_25) rfl rfl kK) ?_
  show OwnFin p e below _ (T11.setTop (mkF m 26 #[.val (.ref a), .val (.ref kd), .val (.ref nm), .val (.ref ch), .val (.int (1 : Int32)), .val (.int (1 : Int32)), .val (.ref lo), .val (.ref hi), .val (.int (0 : Int32))] [(.ref a)]))
  refine OwnFin.step (fun tT kK => XS.iload X11.here hx rfl (hb hby d_prog_20_method_1_26) rfl kK) ?_
  show OwnFin p e below _ (T11.setTop (mkF m 28 #[.val (.ref a), .val (.ref kd), .val (.ref nm), .val (.ref ch), .val (.int (1 : Int32)), .val (.int (1 : Int32)), .val (.ref lo), .val (.ref hi), .val (.int (0 : Int32))] [(.int (1 : Int32)), (.ref a)]))
  have f12 : Exa Z h11 a "com/example/identifier_grammars/identifiergrammars/Node" := (f9.wr W11)
  have f13 : Fld Z h11 a "com/example/identifier_grammars/identifiergrammars/Node" "max" "I" (.int (0 : Int32)) := ((((hp5.other W2 (Or.inr (slot_ne (Or.inr (hw _ (List.mem_of_getElem? (i := 62) rfl))) (Or.inr (hw _ (List.mem_of_getElem? (i := 54) rfl))) (by decide) (t := .int) (t' := (.object "com/example/identifier_grammars/identifiergrammars/Node$Kind")) (by decide) (by decide)))).other W5 (Or.inr (slot_ne (Or.inr (hw _ (List.mem_of_getElem? (i := 62) rfl))) (Or.inr (hw _ (List.mem_of_getElem? (i := 56) rfl))) (by decide) (t := .int) (t' := (.object "java/lang/String")) (by decide) (by decide)))).other W8 (Or.inr (slot_ne (Or.inr (hw _ (List.mem_of_getElem? (i := 62) rfl))) (Or.inr (hw _ (List.mem_of_getElem? (i := 58) rfl))) (by decide) (t := .int) (t' := (.array .int)) (by decide) (by decide)))).other W11 (Or.inr (slot_ne (Or.inr (hw _ (List.mem_of_getElem? (i := 62) rfl))) (Or.inr (hw _ (List.mem_of_getElem? (i := 60) rfl))) (by decide) (t := .int) (t' := .int) (by decide) (by decide))))
  obtain ⟨T14, h14, X14, e14, W14, st14⟩ := putF X11 hx hZ hown (host := "") (Or.inl (hw _ (List.mem_of_getElem? (i := 61) rfl))) Via.refl e11 f13 f12 (Or.inr ⟨(hw _ (List.mem_of_getElem? (i := 62) rfl)), rfl, hnm⟩) (hw _ (List.mem_of_getElem? (i := 42) rfl)) (ty := .int) (by decide) rfl rfl (g := (mkF m 28 #[.val (.ref a), .val (.ref kd), .val (.ref nm), .val (.ref ch), .val (.int (1 : Int32)), .val (.int (1 : Int32)), .val (.ref lo), .val (.ref hi), .val (.int (0 : Int32))] [(.int (1 : Int32)), (.ref a)])) rfl rfl (hb hby d_prog_20_method_1_28)
  refine OwnFin.step st14 ?_
  have N14 := Fr.snoc X14 N11 hp9
  have Fw14 : Fld Z h14 a "com/example/identifier_grammars/identifiergrammars/Node" "max" "I" (.int (1 : Int32)) := f13.same W14
  show OwnFin p e below _ (T14.setTop (mkF m 31 #[.val (.ref a), .val (.ref kd), .val (.ref nm), .val (.ref ch), .val (.int (1 : Int32)), .val (.int (1 : Int32)), .val (.ref lo), .val (.ref hi), .val (.int (0 : Int32))] []))
  refine OwnFin.step (fun tT kK => XS.aloadN X14.here hx rfl (hb hby d_prog_20_method_1_31) rfl rfl kK) ?_
  show OwnFin p e below _ (T14.setTop (mkF m 32 #[.val (.ref a), .val (.ref kd), .val (.ref nm), .val (.ref ch), .val (.int (1 : Int32)), .val (.int (1 : Int32)), .val (.ref lo), .val (.ref hi), .val (.int (0 : Int32))] [(.ref a)]))
  refine OwnFin.step (fun tT kK => XS.aload X14.here hx rfl (hb hby d_prog_20_method_1_32) rfl rfl kK) ?_
  show OwnFin p e below _ (T14.setTop (mkF m 34 #[.val (.ref a), .val (.ref kd), .val (.ref nm), .val (.ref ch), .val (.int (1 : Int32)), .val (.int (1 : Int32)), .val (.ref lo), .val (.ref hi), .val (.int (0 : Int32))] [(.ref lo), (.ref a)]))
  have f15 : Exa Z h14 a "com/example/identifier_grammars/identifiergrammars/Node" := (f12.wr W14)
  have f16 : Fld Z h14 a "com/example/identifier_grammars/identifiergrammars/Node" "low" "[I" .null := (((((hp6.other W2 (Or.inr (slot_ne (Or.inr (hw _ (List.mem_of_getElem? (i := 64) rfl))) (Or.inr (hw _ (List.mem_of_getElem? (i := 54) rfl))) (by decide) (t := (.array .int)) (t' := (.object "com/example/identifier_grammars/identifiergrammars/Node$Kind")) (by decide) (by decide)))).other W5 (Or.inr (slot_ne (Or.inr (hw _ (List.mem_of_getElem? (i := 64) rfl))) (Or.inr (hw _ (List.mem_of_getElem? (i := 56) rfl))) (by decide) (t := (.array .int)) (t' := (.object "java/lang/String")) (by decide) (by decide)))).other W8 (Or.inr (slot_ne (Or.inr (hw _ (List.mem_of_getElem? (i := 64) rfl))) (Or.inr (hw _ (List.mem_of_getElem? (i := 58) rfl))) (by decide) (t := (.array .int)) (t' := (.array .int)) (by decide) (by decide)))).other W11 (Or.inr (slot_ne (Or.inr (hw _ (List.mem_of_getElem? (i := 64) rfl))) (Or.inr (hw _ (List.mem_of_getElem? (i := 60) rfl))) (by decide) (t := (.array .int)) (t' := .int) (by decide) (by decide)))).other W14 (Or.inr (slot_ne (Or.inr (hw _ (List.mem_of_getElem? (i := 64) rfl))) (Or.inr (hw _ (List.mem_of_getElem? (i := 62) rfl))) (by decide) (t := (.array .int)) (t' := .int) (by decide) (by decide))))
  obtain ⟨T17, h17, X17, e17, W17, st17⟩ := putF X14 hx hZ hown (host := "") (Or.inl (hw _ (List.mem_of_getElem? (i := 63) rfl))) Via.refl e14 f16 f15 (Or.inr ⟨(hw _ (List.mem_of_getElem? (i := 64) rfl)), rfl, hnm⟩) (hw _ (List.mem_of_getElem? (i := 42) rfl)) (ty := (.array .int)) (by decide) rfl rfl (g := (mkF m 34 #[.val (.ref a), .val (.ref kd), .val (.ref nm), .val (.ref ch), .val (.int (1 : Int32)), .val (.int (1 : Int32)), .val (.ref lo), .val (.ref hi), .val (.int (0 : Int32))] [(.ref lo), (.ref a)])) rfl rfl (hb hby d_prog_20_method_1_34)
  refine OwnFin.step st17 ?_
  have N17 := Fr.snoc X17 N14 hp9
  have Fw17 : Fld Z h17 a "com/example/identifier_grammars/identifiergrammars/Node" "low" "[I" (.ref lo) := f16.same W17
  show OwnFin p e below _ (T17.setTop (mkF m 37 #[.val (.ref a), .val (.ref kd), .val (.ref nm), .val (.ref ch), .val (.int (1 : Int32)), .val (.int (1 : Int32)), .val (.ref lo), .val (.ref hi), .val (.int (0 : Int32))] []))
  refine OwnFin.step (fun tT kK => XS.aloadN X17.here hx rfl (hb hby d_prog_20_method_1_37) rfl rfl kK) ?_
  show OwnFin p e below _ (T17.setTop (mkF m 38 #[.val (.ref a), .val (.ref kd), .val (.ref nm), .val (.ref ch), .val (.int (1 : Int32)), .val (.int (1 : Int32)), .val (.ref lo), .val (.ref hi), .val (.int (0 : Int32))] [(.ref a)]))
  refine OwnFin.step (fun tT kK => XS.aload X17.here hx rfl (hb hby d_prog_20_method_1_38) rfl rfl kK) ?_
  show OwnFin p e below _ (T17.setTop (mkF m 40 #[.val (.ref a), .val (.ref kd), .val (.ref nm), .val (.ref ch), .val (.int (1 : Int32)), .val (.int (1 : Int32)), .val (.ref lo), .val (.ref hi), .val (.int (0 : Int32))] [(.ref hi), (.ref a)]))
  have f18 : Exa Z h17 a "com/example/identifier_grammars/identifiergrammars/Node" := (f15.wr W17)
  have f19 : Fld Z h17 a "com/example/identifier_grammars/identifiergrammars/Node" "high" "[I" .null := ((((((hp7.other W2 (Or.inr (slot_ne (Or.inr (hw _ (List.mem_of_getElem? (i := 66) rfl))) (Or.inr (hw _ (List.mem_of_getElem? (i := 54) rfl))) (by decide) (t := (.array .int)) (t' := (.object "com/example/identifier_grammars/identifiergrammars/Node$Kind")) (by decide) (by decide)))).other W5 (Or.inr (slot_ne (Or.inr (hw _ (List.mem_of_getElem? (i := 66) rfl))) (Or.inr (hw _ (List.mem_of_getElem? (i := 56) rfl))) (by decide) (t := (.array .int)) (t' := (.object "java/lang/String")) (by decide) (by decide)))).other W8 (Or.inr (slot_ne (Or.inr (hw _ (List.mem_of_getElem? (i := 66) rfl))) (Or.inr (hw _ (List.mem_of_getElem? (i := 58) rfl))) (by decide) (t := (.array .int)) (t' := (.array .int)) (by decide) (by decide)))).other W11 (Or.inr (slot_ne (Or.inr (hw _ (List.mem_of_getElem? (i := 66) rfl))) (Or.inr (hw _ (List.mem_of_getElem? (i := 60) rfl))) (by decide) (t := (.array .int)) (t' := .int) (by decide) (by decide)))).other W14 (Or.inr (slot_ne (Or.inr (hw _ (List.mem_of_getElem? (i := 66) rfl))) (Or.inr (hw _ (List.mem_of_getElem? (i := 62) rfl))) (by decide) (t := (.array .int)) (t' := .int) (by decide) (by decide)))).other W17 (Or.inr (slot_ne (Or.inr (hw _ (List.mem_of_getElem? (i := 66) rfl))) (Or.inr (hw _ (List.mem_of_getElem? (i := 64) rfl))) (by decide) (t := (.array .int)) (t' := (.array .int)) (by decide) (by decide))))
  obtain ⟨T20, h20, X20, e20, W20, st20⟩ := putF X17 hx hZ hown (host := "") (Or.inl (hw _ (List.mem_of_getElem? (i := 65) rfl))) Via.refl e17 f19 f18 (Or.inr ⟨(hw _ (List.mem_of_getElem? (i := 66) rfl)), rfl, hnm⟩) (hw _ (List.mem_of_getElem? (i := 42) rfl)) (ty := (.array .int)) (by decide) rfl rfl (g := (mkF m 40 #[.val (.ref a), .val (.ref kd), .val (.ref nm), .val (.ref ch), .val (.int (1 : Int32)), .val (.int (1 : Int32)), .val (.ref lo), .val (.ref hi), .val (.int (0 : Int32))] [(.ref hi), (.ref a)])) rfl rfl (hb hby d_prog_20_method_1_40)
  refine OwnFin.step st20 ?_
  have N20 := Fr.snoc X20 N17 hp9
  have Fw20 : Fld Z h20 a "com/example/identifier_grammars/identifiergrammars/Node" "high" "[I" (.ref hi) := f19.same W20
  show OwnFin p e below _ (T20.setTop (mkF m 43 #[.val (.ref a), .val (.ref kd), .val (.ref nm), .val (.ref ch), .val (.int (1 : Int32)), .val (.int (1 : Int32)), .val (.ref lo), .val (.ref hi), .val (.int (0 : Int32))] []))
  refine OwnFin.step (fun tT kK => XS.aloadN X20.here hx rfl (hb hby d_prog_20_method_1_43) rfl rfl kK) ?_
  show OwnFin p e below _ (T20.setTop (mkF m 44 #[.val (.ref a), .val (.ref kd), .val (.ref nm), .val (.ref ch), .val (.int (1 : Int32)), .val (.int (1 : Int32)), .val (.ref lo), .val (.ref hi), .val (.int (0 : Int32))] [(.ref a)]))
  refine OwnFin.step (fun tT kK => XS.iload X20.here hx rfl (hb hby d_prog_20_method_1_44) rfl kK) ?_
  show OwnFin p e below _ (T20.setTop (mkF m 46 #[.val (.ref a), .val (.ref kd), .val (.ref nm), .val (.ref ch), .val (.int (1 : Int32)), .val (.int (1 : Int32)), .val (.ref lo), .val (.ref hi), .val (.int (0 : Int32))] [(.int (0 : Int32)), (.ref a)]))
  have f21 : Exa Z h20 a "com/example/identifier_grammars/identifiergrammars/Node" := (f18.wr W20)
  have f22 : Fld Z h20 a "com/example/identifier_grammars/identifiergrammars/Node" "ignoreCase" "Z" (.int (0 : Int32)) := (((((((hp8.other W2 (Or.inr (slot_ne (Or.inr (hw _ (List.mem_of_getElem? (i := 68) rfl))) (Or.inr (hw _ (List.mem_of_getElem? (i := 54) rfl))) (by decide) (t := .boolean) (t' := (.object "com/example/identifier_grammars/identifiergrammars/Node$Kind")) (by decide) (by decide)))).other W5 (Or.inr (slot_ne (Or.inr (hw _ (List.mem_of_getElem? (i := 68) rfl))) (Or.inr (hw _ (List.mem_of_getElem? (i := 56) rfl))) (by decide) (t := .boolean) (t' := (.object "java/lang/String")) (by decide) (by decide)))).other W8 (Or.inr (slot_ne (Or.inr (hw _ (List.mem_of_getElem? (i := 68) rfl))) (Or.inr (hw _ (List.mem_of_getElem? (i := 58) rfl))) (by decide) (t := .boolean) (t' := (.array .int)) (by decide) (by decide)))).other W11 (Or.inr (slot_ne (Or.inr (hw _ (List.mem_of_getElem? (i := 68) rfl))) (Or.inr (hw _ (List.mem_of_getElem? (i := 60) rfl))) (by decide) (t := .boolean) (t' := .int) (by decide) (by decide)))).other W14 (Or.inr (slot_ne (Or.inr (hw _ (List.mem_of_getElem? (i := 68) rfl))) (Or.inr (hw _ (List.mem_of_getElem? (i := 62) rfl))) (by decide) (t := .boolean) (t' := .int) (by decide) (by decide)))).other W17 (Or.inr (slot_ne (Or.inr (hw _ (List.mem_of_getElem? (i := 68) rfl))) (Or.inr (hw _ (List.mem_of_getElem? (i := 64) rfl))) (by decide) (t := .boolean) (t' := (.array .int)) (by decide) (by decide)))).other W20 (Or.inr (slot_ne (Or.inr (hw _ (List.mem_of_getElem? (i := 68) rfl))) (Or.inr (hw _ (List.mem_of_getElem? (i := 66) rfl))) (by decide) (t := .boolean) (t' := (.array .int)) (by decide) (by decide))))
  obtain ⟨T23, h23, X23, e23, W23, st23⟩ := putF X20 hx hZ hown (host := "") (Or.inl (hw _ (List.mem_of_getElem? (i := 67) rfl))) Via.refl e20 f22 f21 (Or.inr ⟨(hw _ (List.mem_of_getElem? (i := 68) rfl)), rfl, hnm⟩) (hw _ (List.mem_of_getElem? (i := 42) rfl)) (ty := .boolean) (by decide) rfl rfl (g := (mkF m 46 #[.val (.ref a), .val (.ref kd), .val (.ref nm), .val (.ref ch), .val (.int (1 : Int32)), .val (.int (1 : Int32)), .val (.ref lo), .val (.ref hi), .val (.int (0 : Int32))] [(.int (0 : Int32)), (.ref a)])) rfl rfl (hb hby d_prog_20_method_1_46)
  refine OwnFin.step st23 ?_
  have N23 := Fr.snoc X23 N20 hp9
  have Fw23 : Fld Z h23 a "com/example/identifier_grammars/identifiergrammars/Node" "ignoreCase" "Z" (.int (0 : Int32)) := f22.same W23
  show OwnFin p e below _ (T23.setTop (mkF m 49 #[.val (.ref a), .val (.ref kd), .val (.ref nm), .val (.ref ch), .val (.int (1 : Int32)), .val (.int (1 : Int32)), .val (.ref lo), .val (.ref hi), .val (.int (0 : Int32))] []))
  have f25 : Exa Z h23 a "com/example/identifier_grammars/identifiergrammars/Node" := (f21.wr W23)
  have f26 : Fld Z h23 a "com/example/identifier_grammars/identifiergrammars/Node" "kind" "Lcom/example/identifier_grammars/identifiergrammars/Node$Kind;" (.ref kd) := (((((((Fw2.other W5 (Or.inr (slot_ne (Or.inr (hw _ (List.mem_of_getElem? (i := 54) rfl))) (Or.inr (hw _ (List.mem_of_getElem? (i := 56) rfl))) (by decide) (t := (.object "com/example/identifier_grammars/identifiergrammars/Node$Kind")) (t' := (.object "java/lang/String")) (by decide) (by decide)))).other W8 (Or.inr (slot_ne (Or.inr (hw _ (List.mem_of_getElem? (i := 54) rfl))) (Or.inr (hw _ (List.mem_of_getElem? (i := 58) rfl))) (by decide) (t := (.object "com/example/identifier_grammars/identifiergrammars/Node$Kind")) (t' := (.array .int)) (by decide) (by decide)))).other W11 (Or.inr (slot_ne (Or.inr (hw _ (List.mem_of_getElem? (i := 54) rfl))) (Or.inr (hw _ (List.mem_of_getElem? (i := 60) rfl))) (by decide) (t := (.object "com/example/identifier_grammars/identifiergrammars/Node$Kind")) (t' := .int) (by decide) (by decide)))).other W14 (Or.inr (slot_ne (Or.inr (hw _ (List.mem_of_getElem? (i := 54) rfl))) (Or.inr (hw _ (List.mem_of_getElem? (i := 62) rfl))) (by decide) (t := (.object "com/example/identifier_grammars/identifiergrammars/Node$Kind")) (t' := .int) (by decide) (by decide)))).other W17 (Or.inr (slot_ne (Or.inr (hw _ (List.mem_of_getElem? (i := 54) rfl))) (Or.inr (hw _ (List.mem_of_getElem? (i := 64) rfl))) (by decide) (t := (.object "com/example/identifier_grammars/identifiergrammars/Node$Kind")) (t' := (.array .int)) (by decide) (by decide)))).other W20 (Or.inr (slot_ne (Or.inr (hw _ (List.mem_of_getElem? (i := 54) rfl))) (Or.inr (hw _ (List.mem_of_getElem? (i := 66) rfl))) (by decide) (t := (.object "com/example/identifier_grammars/identifiergrammars/Node$Kind")) (t' := (.array .int)) (by decide) (by decide)))).other W23 (Or.inr (slot_ne (Or.inr (hw _ (List.mem_of_getElem? (i := 54) rfl))) (Or.inr (hw _ (List.mem_of_getElem? (i := 68) rfl))) (by decide) (t := (.object "com/example/identifier_grammars/identifiergrammars/Node$Kind")) (t' := .boolean) (by decide) (by decide))))
  have f27 : Fld Z h23 a "com/example/identifier_grammars/identifiergrammars/Node" "name" "Ljava/lang/String;" (.ref nm) := ((((((Fw5.other W8 (Or.inr (slot_ne (Or.inr (hw _ (List.mem_of_getElem? (i := 56) rfl))) (Or.inr (hw _ (List.mem_of_getElem? (i := 58) rfl))) (by decide) (t := (.object "java/lang/String")) (t' := (.array .int)) (by decide) (by decide)))).other W11 (Or.inr (slot_ne (Or.inr (hw _ (List.mem_of_getElem? (i := 56) rfl))) (Or.inr (hw _ (List.mem_of_getElem? (i := 60) rfl))) (by decide) (t := (.object "java/lang/String")) (t' := .int) (by decide) (by decide)))).other W14 (Or.inr (slot_ne (Or.inr (hw _ (List.mem_of_getElem? (i := 56) rfl))) (Or.inr (hw _ (List.mem_of_getElem? (i := 62) rfl))) (by decide) (t := (.object "java/lang/String")) (t' := .int) (by decide) (by decide)))).other W17 (Or.inr (slot_ne (Or.inr (hw _ (List.mem_of_getElem? (i := 56) rfl))) (Or.inr (hw _ (List.mem_of_getElem? (i := 64) rfl))) (by decide) (t := (.object "java/lang/String")) (t' := (.array .int)) (by decide) (by decide)))).other W20 (Or.inr (slot_ne (Or.inr (hw _ (List.mem_of_getElem? (i := 56) rfl))) (Or.inr (hw _ (List.mem_of_getElem? (i := 66) rfl))) (by decide) (t := (.object "java/lang/String")) (t' := (.array .int)) (by decide) (by decide)))).other W23 (Or.inr (slot_ne (Or.inr (hw _ (List.mem_of_getElem? (i := 56) rfl))) (Or.inr (hw _ (List.mem_of_getElem? (i := 68) rfl))) (by decide) (t := (.object "java/lang/String")) (t' := .boolean) (by decide) (by decide))))
  have f28 : Fld Z h23 a "com/example/identifier_grammars/identifiergrammars/Node" "children" "[I" (.ref ch) := (((((Fw8.other W11 (Or.inr (slot_ne (Or.inr (hw _ (List.mem_of_getElem? (i := 58) rfl))) (Or.inr (hw _ (List.mem_of_getElem? (i := 60) rfl))) (by decide) (t := (.array .int)) (t' := .int) (by decide) (by decide)))).other W14 (Or.inr (slot_ne (Or.inr (hw _ (List.mem_of_getElem? (i := 58) rfl))) (Or.inr (hw _ (List.mem_of_getElem? (i := 62) rfl))) (by decide) (t := (.array .int)) (t' := .int) (by decide) (by decide)))).other W17 (Or.inr (slot_ne (Or.inr (hw _ (List.mem_of_getElem? (i := 58) rfl))) (Or.inr (hw _ (List.mem_of_getElem? (i := 64) rfl))) (by decide) (t := (.array .int)) (t' := (.array .int)) (by decide) (by decide)))).other W20 (Or.inr (slot_ne (Or.inr (hw _ (List.mem_of_getElem? (i := 58) rfl))) (Or.inr (hw _ (List.mem_of_getElem? (i := 66) rfl))) (by decide) (t := (.array .int)) (t' := (.array .int)) (by decide) (by decide)))).other W23 (Or.inr (slot_ne (Or.inr (hw _ (List.mem_of_getElem? (i := 58) rfl))) (Or.inr (hw _ (List.mem_of_getElem? (i := 68) rfl))) (by decide) (t := (.array .int)) (t' := .boolean) (by decide) (by decide))))
  have f29 : Fld Z h23 a "com/example/identifier_grammars/identifiergrammars/Node" "min" "I" (.int (1 : Int32)) := ((((Fw11.other W14 (Or.inr (slot_ne (Or.inr (hw _ (List.mem_of_getElem? (i := 60) rfl))) (Or.inr (hw _ (List.mem_of_getElem? (i := 62) rfl))) (by decide) (t := .int) (t' := .int) (by decide) (by decide)))).other W17 (Or.inr (slot_ne (Or.inr (hw _ (List.mem_of_getElem? (i := 60) rfl))) (Or.inr (hw _ (List.mem_of_getElem? (i := 64) rfl))) (by decide) (t := .int) (t' := (.array .int)) (by decide) (by decide)))).other W20 (Or.inr (slot_ne (Or.inr (hw _ (List.mem_of_getElem? (i := 60) rfl))) (Or.inr (hw _ (List.mem_of_getElem? (i := 66) rfl))) (by decide) (t := .int) (t' := (.array .int)) (by decide) (by decide)))).other W23 (Or.inr (slot_ne (Or.inr (hw _ (List.mem_of_getElem? (i := 60) rfl))) (Or.inr (hw _ (List.mem_of_getElem? (i := 68) rfl))) (by decide) (t := .int) (t' := .boolean) (by decide) (by decide))))
  have f30 : Fld Z h23 a "com/example/identifier_grammars/identifiergrammars/Node" "max" "I" (.int (1 : Int32)) := (((Fw14.other W17 (Or.inr (slot_ne (Or.inr (hw _ (List.mem_of_getElem? (i := 62) rfl))) (Or.inr (hw _ (List.mem_of_getElem? (i := 64) rfl))) (by decide) (t := .int) (t' := (.array .int)) (by decide) (by decide)))).other W20 (Or.inr (slot_ne (Or.inr (hw _ (List.mem_of_getElem? (i := 62) rfl))) (Or.inr (hw _ (List.mem_of_getElem? (i := 66) rfl))) (by decide) (t := .int) (t' := (.array .int)) (by decide) (by decide)))).other W23 (Or.inr (slot_ne (Or.inr (hw _ (List.mem_of_getElem? (i := 62) rfl))) (Or.inr (hw _ (List.mem_of_getElem? (i := 68) rfl))) (by decide) (t := .int) (t' := .boolean) (by decide) (by decide))))
  have f31 : Fld Z h23 a "com/example/identifier_grammars/identifiergrammars/Node" "low" "[I" (.ref lo) := ((Fw17.other W20 (Or.inr (slot_ne (Or.inr (hw _ (List.mem_of_getElem? (i := 64) rfl))) (Or.inr (hw _ (List.mem_of_getElem? (i := 66) rfl))) (by decide) (t := (.array .int)) (t' := (.array .int)) (by decide) (by decide)))).other W23 (Or.inr (slot_ne (Or.inr (hw _ (List.mem_of_getElem? (i := 64) rfl))) (Or.inr (hw _ (List.mem_of_getElem? (i := 68) rfl))) (by decide) (t := (.array .int)) (t' := .boolean) (by decide) (by decide))))
  have f32 : Fld Z h23 a "com/example/identifier_grammars/identifiergrammars/Node" "high" "[I" (.ref hi) := (Fw20.other W23 (Or.inr (slot_ne (Or.inr (hw _ (List.mem_of_getElem? (i := 66) rfl))) (Or.inr (hw _ (List.mem_of_getElem? (i := 68) rfl))) (by decide) (t := (.array .int)) (t' := .boolean) (by decide) (by decide))))
  obtain ⟨fs24, hr24, hrun24, hended24, hW24, hsame24⟩ := X23.leave (v := none) (fun _ => rfl)
  refine ⟨_, _, X23.returnOut hx Bd.returns (hb hby d_prog_20_method_1_49) hr24, hrun24, hended24, _, _, rfl, ?_, ⟨_, rfl⟩, hW24, hsame24.mono (by decide) (by decide)⟩
  show Q1 Z a kd nm ch lo hi h0 n0 _ T23.heap _
  rw [e23]
  exact ⟨rfl, N23, (((((((((Keep.refl h0 [a]).wr W2 (Or.inl (List.mem_of_getElem? (i := 0) rfl))).wr W5 (Or.inl (List.mem_of_getElem? (i := 0) rfl))).wr W8 (Or.inl (List.mem_of_getElem? (i := 0) rfl))).wr W11 (Or.inl (List.mem_of_getElem? (i := 0) rfl))).wr W14 (Or.inl (List.mem_of_getElem? (i := 0) rfl))).wr W17 (Or.inl (List.mem_of_getElem? (i := 0) rfl))).wr W20 (Or.inl (List.mem_of_getElem? (i := 0) rfl))).wr W23 (Or.inl (List.mem_of_getElem? (i := 0) rfl))), f25, f26, f27, f28, f29, f30, f31, f32, Fw23⟩
theorem d_prog_20_method_2_0 : decode prog_20_method_2_code 0 = .ok (.new 10, 3) := by decide +kernel
theorem d_prog_20_method_2_3 : decode prog_20_method_2_code 3 = .ok (.dup, 1) := by decide +kernel
theorem d_prog_20_method_2_4 : decode prog_20_method_2_code 4 = .ok (.getstatic 40, 3) := by decide +kernel
theorem d_prog_20_method_2_7 : decode prog_20_method_2_code 7 = .ok (.aload_n 0, 1) := by decide +kernel
theorem d_prog_20_method_2_8 : decode prog_20_method_2_code 8 = .ok (.iconst 1, 1) := by decide +kernel
theorem d_prog_20_method_2_9 : decode prog_20_method_2_code 9 = .ok (.newarray .int, 2) := by decide +kernel
theorem d_prog_20_method_2_11 : decode prog_20_method_2_code 11 = .ok (.dup, 1) := by decide +kernel
theorem d_prog_20_method_2_12 : decode prog_20_method_2_code 12 = .ok (.iconst 0, 1) := by decide +kernel
theorem d_prog_20_method_2_13 : decode prog_20_method_2_code 13 = .ok (.iload_n 1, 1) := by decide +kernel
theorem d_prog_20_method_2_14 : decode prog_20_method_2_code 14 = .ok (.iastore, 1) := by decide +kernel
theorem d_prog_20_method_2_15 : decode prog_20_method_2_code 15 = .ok (.iconst 1, 1) := by decide +kernel
theorem d_prog_20_method_2_16 : decode prog_20_method_2_code 16 = .ok (.iconst 1, 1) := by decide +kernel
theorem d_prog_20_method_2_17 : decode prog_20_method_2_code 17 = .ok (.getstatic 45, 3) := by decide +kernel
theorem d_prog_20_method_2_20 : decode prog_20_method_2_code 20 = .ok (.getstatic 45, 3) := by decide +kernel
theorem d_prog_20_method_2_23 : decode prog_20_method_2_code 23 = .ok (.iconst 0, 1) := by decide +kernel
theorem d_prog_20_method_2_24 : decode prog_20_method_2_code 24 = .ok (.invokespecial 48, 3) := by decide +kernel
theorem pd_44 : parseMethodDescriptor "(Lcom/example/identifier_grammars/identifiergrammars/Node$Kind;Ljava/lang/String;[III[I[IZ)V" = some ⟨[(.object "com/example/identifier_grammars/identifiergrammars/Node$Kind"), (.object "java/lang/String"), (.array .int), .int, .int, (.array .int), (.array .int), .boolean], none⟩ := by decide +kernel
theorem d_prog_20_method_2_27 : decode prog_20_method_2_code 27 = .ok (.areturn, 1) := by decide +kernel
theorem ef_2 (m : MethodId) (nm : Addr) (it : Int32) : entryFrame m #[(.ref nm), (.int it)] 2 = mkF m 0 #[.val (.ref nm), .val (.int it)] [] := by first | (simp [entryFrame, mkF, argsToLocals, Value.category]; done) | rfl
def Q2 (Z : State) (nm : Addr) (it : Int32) (kd : Addr) (no : Addr) (h0 : Heap) (n0 : Nat) (vV : Option Value) (hH : Heap) (LL : List Loc) : Prop := ∃ b : Addr, ∃ ch : Addr, ∃ kc : ClassId, vV = some (.ref b) ∧ Fr n0 LL ∧ Keep h0 hH [] ∧ h0.size ≤ b ∧ h0.size ≤ ch ∧ (Exa Z hH b "com/example/identifier_grammars/identifiergrammars/Node") ∧ (Fld Z hH b "com/example/identifier_grammars/identifiergrammars/Node" "kind" "Lcom/example/identifier_grammars/identifiergrammars/Node$Kind;" (.ref kd)) ∧ (Fld Z hH b "com/example/identifier_grammars/identifiergrammars/Node" "name" "Ljava/lang/String;" (.ref nm)) ∧ (Fld Z hH b "com/example/identifier_grammars/identifiergrammars/Node" "children" "[I" (.ref ch)) ∧ (Fld Z hH b "com/example/identifier_grammars/identifiergrammars/Node" "min" "I" (.int (1 : Int32))) ∧ (Fld Z hH b "com/example/identifier_grammars/identifiergrammars/Node" "max" "I" (.int (1 : Int32))) ∧ (Fld Z hH b "com/example/identifier_grammars/identifiergrammars/Node" "low" "[I" (.ref no)) ∧ (Fld Z hH b "com/example/identifier_grammars/identifiergrammars/Node" "high" "[I" (.ref no)) ∧ (Fld Z hH b "com/example/identifier_grammars/identifiergrammars/Node" "ignoreCase" "Z" (.int (0 : Int32))) ∧ (Arv Z hH ch kc .int (1 : Int32) [(.int it)] (.int (0 : Int32)))
def R2 (Z : State) (nm : Addr) (it : Int32) (kd : Addr) (no : Addr) (h0 : Heap) (n0 : Nat) (U : State) (o : Outcome) (U' : State) : Prop := ∃ vV LL, o = .returned vV ∧ Q2 Z nm it kd no h0 n0 vV U'.heap LL ∧ FrameEnd U o U' LL ({ frames := 2, cells := 2, slots := 9, locals := 33 } : Room).cells ({ frames := 2, cells := 2, slots := 9, locals := 33 } : Room).slots
set_option maxRecDepth 65536 in
set_option maxHeartbeats 40000000 in
theorem rm2 (l : Launch) (Z : State) (a0 : Array Value) (hw : ∀ d ∈ tables_1, d.before a0 Z = true) (hEL : EW Z a0 OwnEL) (wS : ∀ a ∈ Bundle.stringAtoms, a.before a0 Z = true) (ws : List Jvm.Cond) (nm : Addr) (it : Int32) (kd : Addr) (no : Addr) (h0 : Heap) (n0 : Nat) (Z0 : n0 ≤ h0.size) (hp0 : Sta Z h0 "com/example/identifier_grammars/identifiergrammars/Node$Kind" "RULE" "Lcom/example/identifier_grammars/identifiergrammars/Node$Kind;" (.ref kd)) (hp1 : Sta Z h0 "com/example/identifier_grammars/identifiergrammars/Node" "NONE" "[I" (.ref no)) :
    MetFree l (⟨"com/example/identifier_grammars/identifiergrammars/Node", "rule", "(Ljava/lang/String;I)Lcom/example/identifier_grammars/identifiergrammars/Node;"⟩ : MethodName) (head1 (Jvm.Cond.code (⟨"com/example/identifier_grammars/identifiergrammars/Node", "rule", "(Ljava/lang/String;I)Lcom/example/identifier_grammars/identifiergrammars/Node;"⟩ : MethodName) prog_20_method_2_code 2 (some (.object "com/example/identifier_grammars/identifiergrammars/Node")) :: ws) ({ frames := 2, cells := 2, slots := 9, locals := 33 } : Room)) (fun aA U => aA = #[(.ref nm), (.int it)] ∧ Z.Warmed39 U.vm ∧ U.heap = h0) (fun _ _ _ _ _ => True) (fun _ U o U' => ∃ vV LL, o = .returned vV ∧ Q2 Z nm it kd no h0 n0 vV U'.heap LL ∧ FrameEnd U o U' LL ({ frames := 2, cells := 2, slots := 9, locals := 33 } : Room).cells ({ frames := 2, cells := 2, slots := 9, locals := 33 } : Room).slots) := by
  refine MetFree.of_bodySF (plainFor_of_name pn_0) hisR ?_
  intro p e s m args below meth cC s₁ Bd hml0 hP hK
  obtain ⟨rfl, hZ, hh⟩ := hP
  have hx := Bd.exec
  have hby := Bd.bytes
  have hml : cC.maxLocals = 2 := hml0
  have hown : s.vm.findClass "com/example/identifier_grammars/identifiergrammars/Node" = some m.cls := findClass_of_methodNamed Bd.named
  have hnm := (name_of_methodNamed Bd.named Bd.method).1
  have X0 : Stand p l e ({ frames := 2, cells := 2, slots := 9, locals := 33 } : Room) s m #[(.ref nm), (.int it)] below meth cC s₁ [] 0 0 := Stand.of_body Bd
  have e0 : s₁.heap = h0 := by rw [← hh, Bd.state]; rfl
  have N0 := Fr.nil n0
  show OwnFin p e below (R2 Z nm it kd no h0 n0 s) (s₁.setTop (entryFrame m #[(.ref nm), (.int it)] 2))
  rw [ef_2 m nm it]
  obtain ⟨T1, h1, X1, e1, E1, A1, D1, -, st1⟩ := newO X0 hx hZ hown (hw _ (List.mem_of_getElem? (i := 41) rfl)) (hw _ (List.mem_of_getElem? (i := 42) rfl)) (hw _ (List.mem_of_getElem? (i := 39) rfl)) e0 (g := (mkF m 0 #[.val (.ref nm), .val (.int it)] [])) rfl (hb hby d_prog_20_method_2_0) (by decide) (by decide)
  obtain ⟨b1, g1⟩ : ∃ z, z = h0.size := ⟨_, rfl⟩
  rw [← g1] at A1 D1 st1
  refine OwnFin.step st1 ?_
  have Fz2 : Fld Z h1 b1 "com/example/identifier_grammars/identifiergrammars/Node" "kind" "Lcom/example/identifier_grammars/identifiergrammars/Node$Kind;" .null := D1 (Or.inr (hw _ (List.mem_of_getElem? (i := 54) rfl))) (ty := (.object "com/example/identifier_grammars/identifiergrammars/Node$Kind")) (by decide)
  have Fz3 : Fld Z h1 b1 "com/example/identifier_grammars/identifiergrammars/Node" "name" "Ljava/lang/String;" .null := D1 (Or.inr (hw _ (List.mem_of_getElem? (i := 56) rfl))) (ty := (.object "java/lang/String")) (by decide)
  have Fz4 : Fld Z h1 b1 "com/example/identifier_grammars/identifiergrammars/Node" "children" "[I" .null := D1 (Or.inr (hw _ (List.mem_of_getElem? (i := 58) rfl))) (ty := (.array .int)) (by decide)
  have Fz5 : Fld Z h1 b1 "com/example/identifier_grammars/identifiergrammars/Node" "min" "I" (.int (0 : Int32)) := D1 (Or.inr (hw _ (List.mem_of_getElem? (i := 60) rfl))) (ty := .int) (by decide)
  have Fz6 : Fld Z h1 b1 "com/example/identifier_grammars/identifiergrammars/Node" "max" "I" (.int (0 : Int32)) := D1 (Or.inr (hw _ (List.mem_of_getElem? (i := 62) rfl))) (ty := .int) (by decide)
  have Fz7 : Fld Z h1 b1 "com/example/identifier_grammars/identifiergrammars/Node" "low" "[I" .null := D1 (Or.inr (hw _ (List.mem_of_getElem? (i := 64) rfl))) (ty := (.array .int)) (by decide)
  have Fz8 : Fld Z h1 b1 "com/example/identifier_grammars/identifiergrammars/Node" "high" "[I" .null := D1 (Or.inr (hw _ (List.mem_of_getElem? (i := 66) rfl))) (ty := (.array .int)) (by decide)
  have Fz9 : Fld Z h1 b1 "com/example/identifier_grammars/identifiergrammars/Node" "ignoreCase" "Z" (.int (0 : Int32)) := D1 (Or.inr (hw _ (List.mem_of_getElem? (i := 68) rfl))) (ty := .boolean) (by decide)
  show OwnFin p e below _ (T1.setTop (mkF m 3 #[.val (.ref nm), .val (.int it)] [(.ref b1)]))
  refine OwnFin.step (fun tT kK => XS.dup X1.here hx rfl (hb hby d_prog_20_method_2_3) rfl rfl kK) ?_
  show OwnFin p e below _ (T1.setTop (mkF m 4 #[.val (.ref nm), .val (.int it)] [(.ref b1), (.ref b1)]))
  have f10 : Sta Z h1 "com/example/identifier_grammars/identifiergrammars/Node$Kind" "RULE" "Lcom/example/identifier_grammars/identifiergrammars/Node$Kind;" (.ref kd) := (hp0.ext E1)
  obtain ⟨T11, X11, e11, st11⟩ := getS2 X1 hx hZ hown (host := "") (Or.inl (hw _ (List.mem_of_getElem? (i := 43) rfl))) Via.refl e1 f10 (g := (mkF m 4 #[.val (.ref nm), .val (.int it)] [(.ref b1), (.ref b1)])) rfl (hb hby d_prog_20_method_2_4)
  refine OwnFin.step st11 ?_
  show OwnFin p e below _ (T11.setTop (mkF m 7 #[.val (.ref nm), .val (.int it)] [(.ref kd), (.ref b1), (.ref b1)]))
  refine OwnFin.step (fun tT kK => XS.aloadN X11.here hx rfl (hb hby d_prog_20_method_2_7) rfl rfl kK) ?_
  show OwnFin p e below _ (T11.setTop (mkF m 8 #[.val (.ref nm), .val (.int it)] [(.ref nm), (.ref kd), (.ref b1), (.ref b1)]))
  refine OwnFin.step (fun tT kK => XS.iconst X11.here hx rfl (hb hby d_prog_20_method_2_8) kK) ?_
  show OwnFin p e below _ (T11.setTop (mkF m 9 #[.val (.ref nm), .val (.int it)] [(.int (1 : Int32)), (.ref nm), (.ref kd), (.ref b1), (.ref b1)]))
  obtain ⟨T12, h12, k12, X12, e12, E12, A12, st12⟩ := newP X11 hx hZ (hw _ (List.mem_of_getElem? (i := 46) rfl)) e11 (g := (mkF m 9 #[.val (.ref nm), .val (.int it)] [(.int (1 : Int32)), (.ref nm), (.ref kd), (.ref b1), (.ref b1)])) rfl (hb hby d_prog_20_method_2_9) rfl (by decide) (cap := 1) (by decide) (by decide) (by decide) (by decide)
  obtain ⟨b12, g12⟩ : ∃ z, z = h1.size := ⟨_, rfl⟩
  rw [← g12] at A12 st12
  refine OwnFin.step st12 ?_
  have V12 : Arv Z h12 b12 k12 .int (1 : Int32) [(.int (0 : Int32))] (.int (0 : Int32)) := (Arv.new A12 (by decide)).pad (pad_rep [] (.int (0 : Int32)) 1)
  show OwnFin p e below _ (T12.setTop (mkF m 11 #[.val (.ref nm), .val (.int it)] [(.ref b12), (.ref nm), (.ref kd), (.ref b1), (.ref b1)]))
  refine OwnFin.step (fun tT kK => XS.dup X12.here hx rfl (hb hby d_prog_20_method_2_11) rfl rfl kK) ?_
  show OwnFin p e below _ (T12.setTop (mkF m 12 #[.val (.ref nm), .val (.int it)] [(.ref b12), (.ref b12), (.ref nm), (.ref kd), (.ref b1), (.ref b1)]))
  refine OwnFin.step (fun tT kK => XS.iconst X12.here hx rfl (hb hby d_prog_20_method_2_12) kK) ?_
  show OwnFin p e below _ (T12.setTop (mkF m 13 #[.val (.ref nm), .val (.int it)] [(.int (0 : Int32)), (.ref b12), (.ref b12), (.ref nm), (.ref kd), (.ref b1), (.ref b1)]))
  refine OwnFin.step (fun tT kK => XS.iloadN X12.here hx rfl (hb hby d_prog_20_method_2_13) rfl kK) ?_
  show OwnFin p e below _ (T12.setTop (mkF m 14 #[.val (.ref nm), .val (.int it)] [(.int it), (.int (0 : Int32)), (.ref b12), (.ref b12), (.ref nm), (.ref kd), (.ref b1), (.ref b1)]))
  obtain ⟨cl13, Ar13, q13, Sz13, Ng13, H13, G13⟩ := id V12
  have hin13 : ¬ ((0 : Int32) < 0 ∨ cl13.slots.size ≤ ((0 : Int32)).toNatClampNeg) := inb_of Sz13 ⟨by decide, by decide⟩
  obtain ⟨T14, h14, X14, e14, W14, st14⟩ := stI X12 hx hZ e12 Ar13 (j := (0 : Int32)) hin13 (g := (mkF m 14 #[.val (.ref nm), .val (.int it)] [(.int it), (.int (0 : Int32)), (.ref b12), (.ref b12), (.ref nm), (.ref kd), (.ref b1), (.ref b1)])) rfl rfl (hb hby d_prog_20_method_2_14)
  refine OwnFin.step st14 ?_
  have N14 := Fr.snoc X14 N0 (Nat.le_trans (Nat.le_trans Z0 E1.1) (Nat.le_of_eq g12.symm))
  have V14 : Arv Z h14 b12 k12 .int (1 : Int32) [(.int it)] (.int (0 : Int32)) := Arv.set Ar13 q13 Sz13 Ng13 H13 G13 rfl W14 0 rfl (Nat.le_of_ble_eq_true rfl)
  show OwnFin p e below _ (T14.setTop (mkF m 15 #[.val (.ref nm), .val (.int it)] [(.ref b12), (.ref nm), (.ref kd), (.ref b1), (.ref b1)]))
  refine OwnFin.step (fun tT kK => XS.iconst X14.here hx rfl (hb hby d_prog_20_method_2_15) kK) ?_
  show OwnFin p e below _ (T14.setTop (mkF m 16 #[.val (.ref nm), .val (.int it)] [(.int (1 : Int32)), (.ref b12), (.ref nm), (.ref kd), (.ref b1), (.ref b1)]))
  refine OwnFin.step (fun tT kK => XS.iconst X14.here hx rfl (hb hby d_prog_20_method_2_16) kK) ?_
  show OwnFin p e below _ (T14.setTop (mkF m 17 #[.val (.ref nm), .val (.int it)] [(.int (1 : Int32)), (.int (1 : Int32)), (.ref b12), (.ref nm), (.ref kd), (.ref b1), (.ref b1)]))
  have f15 : Sta Z h14 "com/example/identifier_grammars/identifiergrammars/Node" "NONE" "[I" (.ref no) := (((hp1.ext E1).ext E12).wr W14)
  obtain ⟨T16, X16, e16, st16⟩ := getS2 X14 hx hZ hown (host := "") (Or.inl (hw _ (List.mem_of_getElem? (i := 47) rfl))) Via.refl e14 f15 (g := (mkF m 17 #[.val (.ref nm), .val (.int it)] [(.int (1 : Int32)), (.int (1 : Int32)), (.ref b12), (.ref nm), (.ref kd), (.ref b1), (.ref b1)])) rfl (hb hby d_prog_20_method_2_17)
  refine OwnFin.step st16 ?_
  show OwnFin p e below _ (T16.setTop (mkF m 20 #[.val (.ref nm), .val (.int it)] [(.ref no), (.int (1 : Int32)), (.int (1 : Int32)), (.ref b12), (.ref nm), (.ref kd), (.ref b1), (.ref b1)]))
  obtain ⟨T17, X17, e17, st17⟩ := getS2 X16 hx hZ hown (host := "") (Or.inl (hw _ (List.mem_of_getElem? (i := 47) rfl))) Via.refl e16 f15 (g := (mkF m 20 #[.val (.ref nm), .val (.int it)] [(.ref no), (.int (1 : Int32)), (.int (1 : Int32)), (.ref b12), (.ref nm), (.ref kd), (.ref b1), (.ref b1)])) rfl (hb hby d_prog_20_method_2_20)
  refine OwnFin.step st17 ?_
  show OwnFin p e below _ (T17.setTop (mkF m 23 #[.val (.ref nm), .val (.int it)] [(.ref no), (.ref no), (.int (1 : Int32)), (.int (1 : Int32)), (.ref b12), (.ref nm), (.ref kd), (.ref b1), (.ref b1)]))
  refine OwnFin.step (fun tT kK => XS.iconst X17.here hx rfl (hb hby d_prog_20_method_2_23) kK) ?_
  show OwnFin p e below _ (T17.setTop (mkF m 24 #[.val (.ref nm), .val (.int it)] [(.int (0 : Int32)), (.ref no), (.ref no), (.int (1 : Int32)), (.int (1 : Int32)), (.ref b12), (.ref nm), (.ref kd), (.ref b1), (.ref b1)]))
  have f18 : Exa Z h14 b1 "com/example/identifier_grammars/identifiergrammars/Node" := ((A1.ext E12).wr W14)
  have f19 : Fld Z h14 b1 "com/example/identifier_grammars/identifiergrammars/Node" "kind" "Lcom/example/identifier_grammars/identifiergrammars/Node$Kind;" .null := ((Fz2.ext E12).other W14 (Or.inl (Nat.ne_of_lt (Nat.lt_of_lt_of_le (Nat.lt_of_lt_of_le A1.lt (Nat.le_refl _)) (Nat.le_of_eq g12.symm)))))
  have f20 : Fld Z h14 b1 "com/example/identifier_grammars/identifiergrammars/Node" "name" "Ljava/lang/String;" .null := ((Fz3.ext E12).other W14 (Or.inl (Nat.ne_of_lt (Nat.lt_of_lt_of_le (Nat.lt_of_lt_of_le A1.lt (Nat.le_refl _)) (Nat.le_of_eq g12.symm)))))
  have f21 : Fld Z h14 b1 "com/example/identifier_grammars/identifiergrammars/Node" "children" "[I" .null := ((Fz4.ext E12).other W14 (Or.inl (Nat.ne_of_lt (Nat.lt_of_lt_of_le (Nat.lt_of_lt_of_le A1.lt (Nat.le_refl _)) (Nat.le_of_eq g12.symm)))))
  have f22 : Fld Z h14 b1 "com/example/identifier_grammars/identifiergrammars/Node" "min" "I" (.int (0 : Int32)) := ((Fz5.ext E12).other W14 (Or.inl (Nat.ne_of_lt (Nat.lt_of_lt_of_le (Nat.lt_of_lt_of_le A1.lt (Nat.le_refl _)) (Nat.le_of_eq g12.symm)))))
  have f23 : Fld Z h14 b1 "com/example/identifier_grammars/identifiergrammars/Node" "max" "I" (.int (0 : Int32)) := ((Fz6.ext E12).other W14 (Or.inl (Nat.ne_of_lt (Nat.lt_of_lt_of_le (Nat.lt_of_lt_of_le A1.lt (Nat.le_refl _)) (Nat.le_of_eq g12.symm)))))
  have f24 : Fld Z h14 b1 "com/example/identifier_grammars/identifiergrammars/Node" "low" "[I" .null := ((Fz7.ext E12).other W14 (Or.inl (Nat.ne_of_lt (Nat.lt_of_lt_of_le (Nat.lt_of_lt_of_le A1.lt (Nat.le_refl _)) (Nat.le_of_eq g12.symm)))))
  have f25 : Fld Z h14 b1 "com/example/identifier_grammars/identifiergrammars/Node" "high" "[I" .null := ((Fz8.ext E12).other W14 (Or.inl (Nat.ne_of_lt (Nat.lt_of_lt_of_le (Nat.lt_of_lt_of_le A1.lt (Nat.le_refl _)) (Nat.le_of_eq g12.symm)))))
  have f26 : Fld Z h14 b1 "com/example/identifier_grammars/identifiergrammars/Node" "ignoreCase" "Z" (.int (0 : Int32)) := ((Fz9.ext E12).other W14 (Or.inl (Nat.ne_of_lt (Nat.lt_of_lt_of_le (Nat.lt_of_lt_of_le A1.lt (Nat.le_refl _)) (Nat.le_of_eq g12.symm)))))
  obtain ⟨_, _, ⟨T27, L27, k27, n27⟩, -, X27, ⟨Lc27, hQ27, l27, y27, z27⟩, st27⟩ := X17.specialBack hx (y := (⟨"com/example/identifier_grammars/identifiergrammars/Node", "<init>", "(Lcom/example/identifier_grammars/identifiergrammars/Node$Kind;Ljava/lang/String;[III[I[IZ)V"⟩ : MethodName)) rfl hown (mvT hZ (hw _ (List.mem_of_getElem? (i := 49) rfl))) (mvT hZ (hw _ (List.mem_of_getElem? (i := 50) rfl))) (mvT hZ (hw _ (List.mem_of_getElem? (i := 51) rfl))) (by decide) (backOf (W := 1) (rm1 l Z a0 hw hEL wS [] b1 kd nm b12 no no h14 n0 (Nat.le_trans (Nat.le_trans (Nat.le_trans Z0 E1.1) E12.1) (Keep.of_wr W14).1) f18 f19 f20 f21 f22 f23 f24 f25 f26 (Nat.le_trans Z0 (Nat.le_of_eq g1.symm))) hZ (hw _ (List.mem_of_getElem? (i := 51) rfl)) (hw _ (List.mem_of_getElem? (i := 39) rfl)) (by decide) (by decide)) (g := (mkF m 24 #[.val (.ref nm), .val (.int it)] [(.int (0 : Int32)), (.ref no), (.ref no), (.int (1 : Int32)), (.int (1 : Int32)), (.ref b12), (.ref nm), (.ref kd), (.ref b1), (.ref b1)])) rfl (by rw [hml]; rfl) (Steps.refl _) (a := b1) (argsL := [(.ref kd), (.ref nm), (.ref b12), (.int (1 : Int32)), (.int (1 : Int32)), (.ref no), (.ref no), (.int (0 : Int32))]) (rest := [(.ref b1)]) (lenOf pd_44 rfl) rfl (by show 2 * 0 + _ ≤ _; exact Nat.le_of_eq rfl) (hb hby d_prog_20_method_2_24) (fun _ _ => ⟨rfl, e17, (by decide : 2 + 0 ≤ _), (by decide : 9 + 0 ≤ _)⟩)
  dsimp only [Pt.U, Pt.locs, Pt.cells, Pt.slots] at X27 l27 y27 z27 st27 hQ27
  subst l27 y27 z27
  obtain ⟨rfl, N27q, K27, P27_0, P27_1, P27_2, P27_3, P27_4, P27_5, P27_6, P27_7, P27_8⟩ := hQ27
  have N27 := Fr.app N14 N27q
  refine OwnFin.step (fun tT kK => st27.trans kK) ?_
  show OwnFin p e below _ (T27.setTop (mkF m 27 #[.val (.ref nm), .val (.int it)] [(.ref b1)]))
  have f29 : Arv Z T27.heap b12 k12 .int (1 : Int32) [(.int it)] (.int (0 : Int32)) := (V14.keep K27 (ninS (Ne.symm (Nat.ne_of_lt (Nat.lt_of_lt_of_le (Nat.lt_of_lt_of_le A1.lt (Nat.le_refl _)) (Nat.le_of_eq g12.symm)))) nin0))
  obtain ⟨fs28, hr28, hrun28, hended28, hW28, hsame28⟩ := X27.leave (v := (some (.ref b1))) (fun h => by rw [Bd.returns] at h; cases h)
  refine ⟨_, _, retOut X27 hx Bd.returns rfl (Or.inr (Or.inr (Or.inr (Or.inr ⟨rfl, rfl, rfl⟩)))) (hb hby d_prog_20_method_2_27) hr28, hrun28, hended28, _, _, rfl, ?_, ⟨_, rfl⟩, hW28, hsame28.mono (by decide) (by decide)⟩
  show Q2 Z nm it kd no h0 n0 _ T27.heap _
  exact ⟨b1, b12, k12, rfl, N27, (((((Keep.refl h0 []).ext E1).ext E12).wr W14 (Or.inr (Nat.le_trans (Nat.le_trans (Nat.le_refl _) E1.1) (Nat.le_of_eq g12.symm)))).trans K27 (allS (P := fun x => x ∈ [] ∨ h0.size ≤ x) (Or.inr (Nat.le_trans (Nat.le_refl _) (Nat.le_of_eq g1.symm))) all0)), (Nat.le_trans (Nat.le_refl _) (Nat.le_of_eq g1.symm)), (Nat.le_trans (Nat.le_trans (Nat.le_refl _) E1.1) (Nat.le_of_eq g12.symm)), P27_0, P27_1, P27_2, P27_3, P27_4, P27_5, P27_6, P27_7, P27_8, f29⟩
theorem pn_46 : plainName "com/example/identifier_grammars/identifiergrammars/NodeRulePinLaw" = true := by first | (simp [plainName, overriddenIn]; done) | decide +kernel
theorem d_method_3_0 : decode method_3_code 0 = .ok (.aload_n 0, 1) := by decide +kernel
theorem d_method_3_1 : decode method_3_code 1 = .ok (.ifnull 104, 3) := by decide +kernel
theorem d_method_3_4 : decode method_3_code 4 = .ok (.aload_n 0, 1) := by decide +kernel
theorem d_method_3_5 : decode method_3_code 5 = .ok (.getfield 12, 3) := by decide +kernel
theorem d_method_3_8 : decode method_3_code 8 = .ok (.getstatic 18, 3) := by decide +kernel
theorem d_method_3_11 : decode method_3_code 11 = .ok (.if_acmp .ne 94, 3) := by decide +kernel
theorem d_method_3_14 : decode method_3_code 14 = .ok (.aload_n 0, 1) := by decide +kernel
theorem d_method_3_15 : decode method_3_code 15 = .ok (.getfield 23, 3) := by decide +kernel
theorem d_method_3_18 : decode method_3_code 18 = .ok (.aload_n 1, 1) := by decide +kernel
theorem d_method_3_19 : decode method_3_code 19 = .ok (.if_acmp .ne 86, 3) := by decide +kernel
theorem d_method_3_22 : decode method_3_code 22 = .ok (.aload_n 0, 1) := by decide +kernel
theorem d_method_3_23 : decode method_3_code 23 = .ok (.getfield 27, 3) := by decide +kernel
theorem d_method_3_26 : decode method_3_code 26 = .ok (.ifnull 79, 3) := by decide +kernel
theorem d_method_3_29 : decode method_3_code 29 = .ok (.aload_n 0, 1) := by decide +kernel
theorem d_method_3_30 : decode method_3_code 30 = .ok (.getfield 27, 3) := by decide +kernel
theorem d_method_3_33 : decode method_3_code 33 = .ok (.arraylength, 1) := by decide +kernel
theorem d_method_3_34 : decode method_3_code 34 = .ok (.iconst 1, 1) := by decide +kernel
theorem d_method_3_35 : decode method_3_code 35 = .ok (.if_icmp .ne 70, 3) := by decide +kernel
theorem d_method_3_38 : decode method_3_code 38 = .ok (.aload_n 0, 1) := by decide +kernel
theorem d_method_3_39 : decode method_3_code 39 = .ok (.getfield 27, 3) := by decide +kernel
theorem d_method_3_42 : decode method_3_code 42 = .ok (.iconst 0, 1) := by decide +kernel
theorem d_method_3_43 : decode method_3_code 43 = .ok (.iaload, 1) := by decide +kernel
theorem d_method_3_44 : decode method_3_code 44 = .ok (.iload_n 2, 1) := by decide +kernel
theorem d_method_3_45 : decode method_3_code 45 = .ok (.if_icmp .ne 60, 3) := by decide +kernel
theorem d_method_3_48 : decode method_3_code 48 = .ok (.aload_n 0, 1) := by decide +kernel
theorem d_method_3_49 : decode method_3_code 49 = .ok (.getfield 31, 3) := by decide +kernel
theorem d_method_3_52 : decode method_3_code 52 = .ok (.iconst 1, 1) := by decide +kernel
theorem d_method_3_53 : decode method_3_code 53 = .ok (.if_icmp .ne 52, 3) := by decide +kernel
theorem d_method_3_56 : decode method_3_code 56 = .ok (.aload_n 0, 1) := by decide +kernel
theorem d_method_3_57 : decode method_3_code 57 = .ok (.getfield 35, 3) := by decide +kernel
theorem d_method_3_60 : decode method_3_code 60 = .ok (.iconst 1, 1) := by decide +kernel
theorem d_method_3_61 : decode method_3_code 61 = .ok (.if_icmp .ne 44, 3) := by decide +kernel
theorem d_method_3_64 : decode method_3_code 64 = .ok (.aload_n 0, 1) := by decide +kernel
theorem d_method_3_65 : decode method_3_code 65 = .ok (.getfield 38, 3) := by decide +kernel
theorem d_method_3_68 : decode method_3_code 68 = .ok (.ifnull 37, 3) := by decide +kernel
theorem d_method_3_71 : decode method_3_code 71 = .ok (.aload_n 0, 1) := by decide +kernel
theorem d_method_3_72 : decode method_3_code 72 = .ok (.getfield 38, 3) := by decide +kernel
theorem d_method_3_75 : decode method_3_code 75 = .ok (.arraylength, 1) := by decide +kernel
theorem d_method_3_76 : decode method_3_code 76 = .ok (.ifCond .ne 29, 3) := by decide +kernel
theorem d_method_3_79 : decode method_3_code 79 = .ok (.aload_n 0, 1) := by decide +kernel
theorem d_method_3_80 : decode method_3_code 80 = .ok (.getfield 41, 3) := by decide +kernel
theorem d_method_3_83 : decode method_3_code 83 = .ok (.ifnull 22, 3) := by decide +kernel
theorem d_method_3_86 : decode method_3_code 86 = .ok (.aload_n 0, 1) := by decide +kernel
theorem d_method_3_87 : decode method_3_code 87 = .ok (.getfield 41, 3) := by decide +kernel
theorem d_method_3_90 : decode method_3_code 90 = .ok (.arraylength, 1) := by decide +kernel
theorem d_method_3_91 : decode method_3_code 91 = .ok (.ifCond .ne 14, 3) := by decide +kernel
theorem d_method_3_94 : decode method_3_code 94 = .ok (.aload_n 0, 1) := by decide +kernel
theorem d_method_3_95 : decode method_3_code 95 = .ok (.getfield 44, 3) := by decide +kernel
theorem d_method_3_98 : decode method_3_code 98 = .ok (.ifCond .ne 7, 3) := by decide +kernel
theorem d_method_3_101 : decode method_3_code 101 = .ok (.iconst 1, 1) := by decide +kernel
theorem d_method_3_102 : decode method_3_code 102 = .ok (.goto 4, 3) := by decide +kernel
theorem d_method_3_106 : decode method_3_code 106 = .ok (.ireturn, 1) := by decide +kernel
theorem ef_3 (m : MethodId) (a : Addr) (nm : Addr) (it : Int32) : entryFrame m #[(.ref a), (.ref nm), (.int it)] 3 = mkF m 0 #[.val (.ref a), .val (.ref nm), .val (.int it)] [] := by first | (simp [entryFrame, mkF, argsToLocals, Value.category]; done) | rfl
def Q3 (Z : State) (a : Addr) (nm : Addr) (it : Int32) (kd : Addr) (no : Addr) (ch : Addr) (kc : ClassId) (kn : ClassId) (h0 : Heap) (n0 : Nat) (vV : Option Value) (hH : Heap) (LL : List Loc) : Prop := vV = some (.int (1 : Int32)) ∧ Fr n0 LL ∧ hH = h0
def R3 (Z : State) (a : Addr) (nm : Addr) (it : Int32) (kd : Addr) (no : Addr) (ch : Addr) (kc : ClassId) (kn : ClassId) (h0 : Heap) (n0 : Nat) (U : State) (o : Outcome) (U' : State) : Prop := ∃ vV LL, o = .returned vV ∧ Q3 Z a nm it kd no ch kc kn h0 n0 vV U'.heap LL ∧ FrameEnd U o U' LL ({ frames := 0, cells := 0, slots := 0, locals := 0 } : Room).cells ({ frames := 0, cells := 0, slots := 0, locals := 0 } : Room).slots
set_option maxRecDepth 65536 in
set_option maxHeartbeats 40000000 in
theorem rm3 (l : Launch) (Z : State) (a0 : Array Value) (hw : ∀ d ∈ tables_1, d.before a0 Z = true) (hEL : EW Z a0 OwnEL) (wS : ∀ a ∈ Bundle.stringAtoms, a.before a0 Z = true) (ws : List Jvm.Cond) (a : Addr) (nm : Addr) (it : Int32) (kd : Addr) (no : Addr) (ch : Addr) (kc : ClassId) (kn : ClassId) (h0 : Heap) (n0 : Nat) (Z0 : n0 ≤ h0.size) (hp0 : Sta Z h0 "com/example/identifier_grammars/identifiergrammars/Node$Kind" "RULE" "Lcom/example/identifier_grammars/identifiergrammars/Node$Kind;" (.ref kd)) (hp1 : Fld Z h0 a "com/example/identifier_grammars/identifiergrammars/Node" "kind" "Lcom/example/identifier_grammars/identifiergrammars/Node$Kind;" (.ref kd)) (hp2 : Fld Z h0 a "com/example/identifier_grammars/identifiergrammars/Node" "name" "Ljava/lang/String;" (.ref nm)) (hp3 : Fld Z h0 a "com/example/identifier_grammars/identifiergrammars/Node" "children" "[I" (.ref ch)) (hp4 : Fld Z h0 a "com/example/identifier_grammars/identifiergrammars/Node" "min" "I" (.int (1 : Int32))) (hp5 : Fld Z h0 a "com/example/identifier_grammars/identifiergrammars/Node" "max" "I" (.int (1 : Int32))) (hp6 : Fld Z h0 a "com/example/identifier_grammars/identifiergrammars/Node" "low" "[I" (.ref no)) (hp7 : Fld Z h0 a "com/example/identifier_grammars/identifiergrammars/Node" "high" "[I" (.ref no)) (hp8 : Fld Z h0 a "com/example/identifier_grammars/identifiergrammars/Node" "ignoreCase" "Z" (.int (0 : Int32))) (hp9 : Arv Z h0 ch kc .int (1 : Int32) [(.int it)] (.int (0 : Int32))) (hp10 : Arv Z h0 no kn .int (0 : Int32) [] (.int (0 : Int32))) :
    MetFree l (⟨"com/example/identifier_grammars/identifiergrammars/NodeRulePinLaw", "isPlainRule", "(Lcom/example/identifier_grammars/identifiergrammars/Node;Ljava/lang/String;I)Z"⟩ : MethodName) (head1 (Jvm.Cond.code (⟨"com/example/identifier_grammars/identifiergrammars/NodeRulePinLaw", "isPlainRule", "(Lcom/example/identifier_grammars/identifiergrammars/Node;Ljava/lang/String;I)Z"⟩ : MethodName) method_3_code 3 (some .boolean) :: ws) ({ frames := 0, cells := 0, slots := 0, locals := 0 } : Room)) (fun aA U => aA = #[(.ref a), (.ref nm), (.int it)] ∧ Z.Warmed39 U.vm ∧ U.heap = h0) (fun _ _ _ _ _ => True) (fun _ U o U' => ∃ vV LL, o = .returned vV ∧ Q3 Z a nm it kd no ch kc kn h0 n0 vV U'.heap LL ∧ FrameEnd U o U' LL ({ frames := 0, cells := 0, slots := 0, locals := 0 } : Room).cells ({ frames := 0, cells := 0, slots := 0, locals := 0 } : Room).slots) := by
  refine MetFree.of_bodySF (plainFor_of_name pn_46) hisR ?_
  intro p e s m args below meth cC s₁ Bd hml0 hP hK
  obtain ⟨rfl, hZ, hh⟩ := hP
  have hx := Bd.exec
  have hby := Bd.bytes
  have hml : cC.maxLocals = 3 := hml0
  have hown : s.vm.findClass "com/example/identifier_grammars/identifiergrammars/NodeRulePinLaw" = some m.cls := findClass_of_methodNamed Bd.named
  have hnm := (name_of_methodNamed Bd.named Bd.method).1
  have X0 : Stand p l e ({ frames := 0, cells := 0, slots := 0, locals := 0 } : Room) s m #[(.ref a), (.ref nm), (.int it)] below meth cC s₁ [] 0 0 := Stand.of_body Bd
  have e0 : s₁.heap = h0 := by rw [← hh, Bd.state]; rfl
  have N0 := Fr.nil n0
  show OwnFin p e below (R3 Z a nm it kd no ch kc kn h0 n0 s) (s₁.setTop (entryFrame m #[(.ref a), (.ref nm), (.int it)] 3))
  rw [ef_3 m a nm it]
  refine OwnFin.step (fun tT kK => XS.aloadN X0.here hx rfl (hb hby d_method_3_0) rfl rfl kK) ?_
  show OwnFin p e below _ (s₁.setTop (mkF m 1 #[.val (.ref a), .val (.ref nm), .val (.int it)] [(.ref a)]))
  refine OwnFin.step (fun tT kK => XS.ifnullNo X0.here hx rfl (hb hby d_method_3_1) rfl kK) ?_
  show OwnFin p e below _ (s₁.setTop (mkF m 4 #[.val (.ref a), .val (.ref nm), .val (.int it)] []))
  refine OwnFin.step (fun tT kK => XS.aloadN X0.here hx rfl (hb hby d_method_3_4) rfl rfl kK) ?_
  show OwnFin p e below _ (s₁.setTop (mkF m 5 #[.val (.ref a), .val (.ref nm), .val (.int it)] [(.ref a)]))
  obtain ⟨T1, X1, e1, st1⟩ := getF X0 hx hZ hown (host := "") (Or.inl (hw _ (List.mem_of_getElem? (i := 72) rfl))) Via.refl e0 hp1 (g := (mkF m 5 #[.val (.ref a), .val (.ref nm), .val (.int it)] [(.ref a)])) rfl rfl (hb hby d_method_3_5)
  refine OwnFin.step st1 ?_
  show OwnFin p e below _ (T1.setTop (mkF m 8 #[.val (.ref a), .val (.ref nm), .val (.int it)] [(.ref kd)]))
  obtain ⟨T2, X2, e2, st2⟩ := getS2 X1 hx hZ hown (host := "") (Or.inl (hw _ (List.mem_of_getElem? (i := 73) rfl))) Via.refl e1 hp0 (g := (mkF m 8 #[.val (.ref a), .val (.ref nm), .val (.int it)] [(.ref kd)])) rfl (hb hby d_method_3_8)
  refine OwnFin.step st2 ?_
  show OwnFin p e below _ (T2.setTop (mkF m 11 #[.val (.ref a), .val (.ref nm), .val (.int it)] [(.ref kd), (.ref kd)]))
  refine OwnFin.step (fun tT kK => Jvm.RoadKit.acmp (g := (mkF m 11 #[.val (.ref a), .val (.ref nm), .val (.int it)] [(.ref kd), (.ref kd)])) X2 hx rfl rfl rfl (pc0 := 11) (pc' := 14) (same := true) rfl (hb hby d_method_3_11) rfl (decide_eq_true rfl) (by decide) (by decide) kK) ?_
  show OwnFin p e below _ (T2.setTop (mkF m 14 #[.val (.ref a), .val (.ref nm), .val (.int it)] []))
  refine OwnFin.step (fun tT kK => XS.aloadN X2.here hx rfl (hb hby d_method_3_14) rfl rfl kK) ?_
  show OwnFin p e below _ (T2.setTop (mkF m 15 #[.val (.ref a), .val (.ref nm), .val (.int it)] [(.ref a)]))
  obtain ⟨T3, X3, e3, st3⟩ := getF X2 hx hZ hown (host := "") (Or.inl (hw _ (List.mem_of_getElem? (i := 74) rfl))) Via.refl e2 hp2 (g := (mkF m 15 #[.val (.ref a), .val (.ref nm), .val (.int it)] [(.ref a)])) rfl rfl (hb hby d_method_3_15)
  refine OwnFin.step st3 ?_
  show OwnFin p e below _ (T3.setTop (mkF m 18 #[.val (.ref a), .val (.ref nm), .val (.int it)] [(.ref nm)]))
  refine OwnFin.step (fun tT kK => XS.aloadN X3.here hx rfl (hb hby d_method_3_18) rfl rfl kK) ?_
  show OwnFin p e below _ (T3.setTop (mkF m 19 #[.val (.ref a), .val (.ref nm), .val (.int it)] [(.ref nm), (.ref nm)]))
  refine OwnFin.step (fun tT kK => Jvm.RoadKit.acmp (g := (mkF m 19 #[.val (.ref a), .val (.ref nm), .val (.int it)] [(.ref nm), (.ref nm)])) X3 hx rfl rfl rfl (pc0 := 19) (pc' := 22) (same := true) rfl (hb hby d_method_3_19) rfl (decide_eq_true rfl) (by decide) (by decide) kK) ?_
  show OwnFin p e below _ (T3.setTop (mkF m 22 #[.val (.ref a), .val (.ref nm), .val (.int it)] []))
  refine OwnFin.step (fun tT kK => XS.aloadN X3.here hx rfl (hb hby d_method_3_22) rfl rfl kK) ?_
  show OwnFin p e below _ (T3.setTop (mkF m 23 #[.val (.ref a), .val (.ref nm), .val (.int it)] [(.ref a)]))
  obtain ⟨T4, X4, e4, st4⟩ := getF X3 hx hZ hown (host := "") (Or.inl (hw _ (List.mem_of_getElem? (i := 75) rfl))) Via.refl e3 hp3 (g := (mkF m 23 #[.val (.ref a), .val (.ref nm), .val (.int it)] [(.ref a)])) rfl rfl (hb hby d_method_3_23)
  refine OwnFin.step st4 ?_
  show OwnFin p e below _ (T4.setTop (mkF m 26 #[.val (.ref a), .val (.ref nm), .val (.int it)] [(.ref ch)]))
  refine OwnFin.step (fun tT kK => XS.ifnullNo X4.here hx rfl (hb hby d_method_3_26) rfl kK) ?_
  show OwnFin p e below _ (T4.setTop (mkF m 29 #[.val (.ref a), .val (.ref nm), .val (.int it)] []))
  refine OwnFin.step (fun tT kK => XS.aloadN X4.here hx rfl (hb hby d_method_3_29) rfl rfl kK) ?_
  show OwnFin p e below _ (T4.setTop (mkF m 30 #[.val (.ref a), .val (.ref nm), .val (.int it)] [(.ref a)]))
  obtain ⟨T5, X5, e5, st5⟩ := getF X4 hx hZ hown (host := "") (Or.inl (hw _ (List.mem_of_getElem? (i := 75) rfl))) Via.refl e4 hp3 (g := (mkF m 30 #[.val (.ref a), .val (.ref nm), .val (.int it)] [(.ref a)])) rfl rfl (hb hby d_method_3_30)
  refine OwnFin.step st5 ?_
  show OwnFin p e below _ (T5.setTop (mkF m 33 #[.val (.ref a), .val (.ref nm), .val (.int it)] [(.ref ch)]))
  obtain ⟨cl6, Ar6, -, Sz6, Ng6, -, -⟩ := id hp9
  refine OwnFin.step (fun tT kK => own_len X5 hx hZ e5 Ar6 Sz6 Ng6 (g := (mkF m 33 #[.val (.ref a), .val (.ref nm), .val (.int it)] [(.ref ch)])) rfl rfl (hb hby d_method_3_33) kK) ?_
  show OwnFin p e below _ (T5.setTop (mkF m 34 #[.val (.ref a), .val (.ref nm), .val (.int it)] [(.int (1 : Int32))]))
  refine OwnFin.step (fun tT kK => XS.iconst X5.here hx rfl (hb hby d_method_3_34) kK) ?_
  show OwnFin p e below _ (T5.setTop (mkF m 35 #[.val (.ref a), .val (.ref nm), .val (.int it)] [(.int (1 : Int32)), (.int (1 : Int32))]))
  refine OwnFin.step (fun tT kK => XS.icmpNo X5.here hx rfl (hb hby d_method_3_35) rfl (teq (rfl : (1 : Int32) = (1 : Int32))).2 kK) ?_
  show OwnFin p e below _ (T5.setTop (mkF m 38 #[.val (.ref a), .val (.ref nm), .val (.int it)] []))
  refine OwnFin.step (fun tT kK => XS.aloadN X5.here hx rfl (hb hby d_method_3_38) rfl rfl kK) ?_
  show OwnFin p e below _ (T5.setTop (mkF m 39 #[.val (.ref a), .val (.ref nm), .val (.int it)] [(.ref a)]))
  obtain ⟨T7, X7, e7, st7⟩ := getF X5 hx hZ hown (host := "") (Or.inl (hw _ (List.mem_of_getElem? (i := 75) rfl))) Via.refl e5 hp3 (g := (mkF m 39 #[.val (.ref a), .val (.ref nm), .val (.int it)] [(.ref a)])) rfl rfl (hb hby d_method_3_39)
  refine OwnFin.step st7 ?_
  show OwnFin p e below _ (T7.setTop (mkF m 42 #[.val (.ref a), .val (.ref nm), .val (.int it)] [(.ref ch)]))
  refine OwnFin.step (fun tT kK => XS.iconst X7.here hx rfl (hb hby d_method_3_42) kK) ?_
  show OwnFin p e below _ (T7.setTop (mkF m 43 #[.val (.ref a), .val (.ref nm), .val (.int it)] [(.int (0 : Int32)), (.ref ch)]))
  obtain ⟨cl8, Ar8, q8, Sz8, Ng8, H8, G8⟩ := id hp9
  have hin8 : ¬ ((0 : Int32) < 0 ∨ cl8.slots.size ≤ ((0 : Int32)).toNatClampNeg) := inb_of Sz8 ⟨by decide, by decide⟩
  refine OwnFin.step (fun tT kK => X7.iaload hx (j := (0 : Int32)) (v := (.int it)) (by rw [e7]; exact Ar8.1) (State.isArrayOf_alike hZ.alike Ar8.2.1) Ar8.2.2 hin8 (H8.at hin8 rfl) (g := (mkF m 43 #[.val (.ref a), .val (.ref nm), .val (.int it)] [(.int (0 : Int32)), (.ref ch)])) rfl rfl (hb hby d_method_3_43) _ kK) ?_
  show OwnFin p e below _ (T7.setTop (mkF m 44 #[.val (.ref a), .val (.ref nm), .val (.int it)] [(.int it)]))
  refine OwnFin.step (fun tT kK => XS.iloadN X7.here hx rfl (hb hby d_method_3_44) rfl kK) ?_
  show OwnFin p e below _ (T7.setTop (mkF m 45 #[.val (.ref a), .val (.ref nm), .val (.int it)] [(.int it), (.int it)]))
  refine OwnFin.step (fun tT kK => XS.icmpNo X7.here hx rfl (hb hby d_method_3_45) rfl (teq (rfl : it = it)).2 kK) ?_
  show OwnFin p e below _ (T7.setTop (mkF m 48 #[.val (.ref a), .val (.ref nm), .val (.int it)] []))
  refine OwnFin.step (fun tT kK => XS.aloadN X7.here hx rfl (hb hby d_method_3_48) rfl rfl kK) ?_
  show OwnFin p e below _ (T7.setTop (mkF m 49 #[.val (.ref a), .val (.ref nm), .val (.int it)] [(.ref a)]))
  obtain ⟨T9, X9, e9, st9⟩ := getF X7 hx hZ hown (host := "") (Or.inl (hw _ (List.mem_of_getElem? (i := 76) rfl))) Via.refl e7 hp4 (g := (mkF m 49 #[.val (.ref a), .val (.ref nm), .val (.int it)] [(.ref a)])) rfl rfl (hb hby d_method_3_49)
  refine OwnFin.step st9 ?_
  show OwnFin p e below _ (T9.setTop (mkF m 52 #[.val (.ref a), .val (.ref nm), .val (.int it)] [(.int (1 : Int32))]))
  refine OwnFin.step (fun tT kK => XS.iconst X9.here hx rfl (hb hby d_method_3_52) kK) ?_
  show OwnFin p e below _ (T9.setTop (mkF m 53 #[.val (.ref a), .val (.ref nm), .val (.int it)] [(.int (1 : Int32)), (.int (1 : Int32))]))
  refine OwnFin.step (fun tT kK => XS.icmpNo X9.here hx rfl (hb hby d_method_3_53) rfl (teq (rfl : (1 : Int32) = (1 : Int32))).2 kK) ?_
  show OwnFin p e below _ (T9.setTop (mkF m 56 #[.val (.ref a), .val (.ref nm), .val (.int it)] []))
  refine OwnFin.step (fun tT kK => XS.aloadN X9.here hx rfl (hb hby d_method_3_56) rfl rfl kK) ?_
  show OwnFin p e below _ (T9.setTop (mkF m 57 #[.val (.ref a), .val (.ref nm), .val (.int it)] [(.ref a)]))
  obtain ⟨T10, X10, e10, st10⟩ := getF X9 hx hZ hown (host := "") (Or.inl (hw _ (List.mem_of_getElem? (i := 77) rfl))) Via.refl e9 hp5 (g := (mkF m 57 #[.val (.ref a), .val (.ref nm), .val (.int it)] [(.ref a)])) rfl rfl (hb hby d_method_3_57)
  refine OwnFin.step st10 ?_
  show OwnFin p e below _ (T10.setTop (mkF m 60 #[.val (.ref a), .val (.ref nm), .val (.int it)] [(.int (1 : Int32))]))
  refine OwnFin.step (fun tT kK => XS.iconst X10.here hx rfl (hb hby d_method_3_60) kK) ?_
  show OwnFin p e below _ (T10.setTop (mkF m 61 #[.val (.ref a), .val (.ref nm), .val (.int it)] [(.int (1 : Int32)), (.int (1 : Int32))]))
  refine OwnFin.step (fun tT kK => XS.icmpNo X10.here hx rfl (hb hby d_method_3_61) rfl (teq (rfl : (1 : Int32) = (1 : Int32))).2 kK) ?_
  show OwnFin p e below _ (T10.setTop (mkF m 64 #[.val (.ref a), .val (.ref nm), .val (.int it)] []))
  refine OwnFin.step (fun tT kK => XS.aloadN X10.here hx rfl (hb hby d_method_3_64) rfl rfl kK) ?_
  show OwnFin p e below _ (T10.setTop (mkF m 65 #[.val (.ref a), .val (.ref nm), .val (.int it)] [(.ref a)]))
  obtain ⟨T11, X11, e11, st11⟩ := getF X10 hx hZ hown (host := "") (Or.inl (hw _ (List.mem_of_getElem? (i := 78) rfl))) Via.refl e10 hp6 (g := (mkF m 65 #[.val (.ref a), .val (.ref nm), .val (.int it)] [(.ref a)])) rfl rfl (hb hby d_method_3_65)
  refine OwnFin.step st11 ?_
  show OwnFin p e below _ (T11.setTop (mkF m 68 #[.val (.ref a), .val (.ref nm), .val (.int it)] [(.ref no)]))
  refine OwnFin.step (fun tT kK => XS.ifnullNo X11.here hx rfl (hb hby d_method_3_68) rfl kK) ?_
  show OwnFin p e below _ (T11.setTop (mkF m 71 #[.val (.ref a), .val (.ref nm), .val (.int it)] []))
  refine OwnFin.step (fun tT kK => XS.aloadN X11.here hx rfl (hb hby d_method_3_71) rfl rfl kK) ?_
  show OwnFin p e below _ (T11.setTop (mkF m 72 #[.val (.ref a), .val (.ref nm), .val (.int it)] [(.ref a)]))
  obtain ⟨T12, X12, e12, st12⟩ := getF X11 hx hZ hown (host := "") (Or.inl (hw _ (List.mem_of_getElem? (i := 78) rfl))) Via.refl e11 hp6 (g := (mkF m 72 #[.val (.ref a), .val (.ref nm), .val (.int it)] [(.ref a)])) rfl rfl (hb hby d_method_3_72)
  refine OwnFin.step st12 ?_
  show OwnFin p e below _ (T12.setTop (mkF m 75 #[.val (.ref a), .val (.ref nm), .val (.int it)] [(.ref no)]))
  obtain ⟨cl13, Ar13, -, Sz13, Ng13, -, -⟩ := id hp10
  refine OwnFin.step (fun tT kK => own_len X12 hx hZ e12 Ar13 Sz13 Ng13 (g := (mkF m 75 #[.val (.ref a), .val (.ref nm), .val (.int it)] [(.ref no)])) rfl rfl (hb hby d_method_3_75) kK) ?_
  show OwnFin p e below _ (T12.setTop (mkF m 76 #[.val (.ref a), .val (.ref nm), .val (.int it)] [(.int (0 : Int32))]))
  refine OwnFin.step (fun tT kK => XS.ifNo X12.here hx rfl (hb hby d_method_3_76) rfl ((if0 _ _).trans (teq (rfl : (0 : Int32) = (0 : Int32))).2) kK) ?_
  show OwnFin p e below _ (T12.setTop (mkF m 79 #[.val (.ref a), .val (.ref nm), .val (.int it)] []))
  refine OwnFin.step (fun tT kK => XS.aloadN X12.here hx rfl (hb hby d_method_3_79) rfl rfl kK) ?_
  show OwnFin p e below _ (T12.setTop (mkF m 80 #[.val (.ref a), .val (.ref nm), .val (.int it)] [(.ref a)]))
  obtain ⟨T14, X14, e14, st14⟩ := getF X12 hx hZ hown (host := "") (Or.inl (hw _ (List.mem_of_getElem? (i := 79) rfl))) Via.refl e12 hp7 (g := (mkF m 80 #[.val (.ref a), .val (.ref nm), .val (.int it)] [(.ref a)])) rfl rfl (hb hby d_method_3_80)
  refine OwnFin.step st14 ?_
  show OwnFin p e below _ (T14.setTop (mkF m 83 #[.val (.ref a), .val (.ref nm), .val (.int it)] [(.ref no)]))
  refine OwnFin.step (fun tT kK => XS.ifnullNo X14.here hx rfl (hb hby d_method_3_83) rfl kK) ?_
  show OwnFin p e below _ (T14.setTop (mkF m 86 #[.val (.ref a), .val (.ref nm), .val (.int it)] []))
  refine OwnFin.step (fun tT kK => XS.aloadN X14.here hx rfl (hb hby d_method_3_86) rfl rfl kK) ?_
  show OwnFin p e below _ (T14.setTop (mkF m 87 #[.val (.ref a), .val (.ref nm), .val (.int it)] [(.ref a)]))
  obtain ⟨T15, X15, e15, st15⟩ := getF X14 hx hZ hown (host := "") (Or.inl (hw _ (List.mem_of_getElem? (i := 79) rfl))) Via.refl e14 hp7 (g := (mkF m 87 #[.val (.ref a), .val (.ref nm), .val (.int it)] [(.ref a)])) rfl rfl (hb hby d_method_3_87)
  refine OwnFin.step st15 ?_
  show OwnFin p e below _ (T15.setTop (mkF m 90 #[.val (.ref a), .val (.ref nm), .val (.int it)] [(.ref no)]))
  obtain ⟨cl16, Ar16, -, Sz16, Ng16, -, -⟩ := id hp10
  refine OwnFin.step (fun tT kK => own_len X15 hx hZ e15 Ar16 Sz16 Ng16 (g := (mkF m 90 #[.val (.ref a), .val (.ref nm), .val (.int it)] [(.ref no)])) rfl rfl (hb hby d_method_3_90) kK) ?_
  show OwnFin p e below _ (T15.setTop (mkF m 91 #[.val (.ref a), .val (.ref nm), .val (.int it)] [(.int (0 : Int32))]))
  refine OwnFin.step (fun tT kK => XS.ifNo X15.here hx rfl (hb hby d_method_3_91) rfl ((if0 _ _).trans (teq (rfl : (0 : Int32) = (0 : Int32))).2) kK) ?_
  show OwnFin p e below _ (T15.setTop (mkF m 94 #[.val (.ref a), .val (.ref nm), .val (.int it)] []))
  refine OwnFin.step (fun tT kK => XS.aloadN X15.here hx rfl (hb hby d_method_3_94) rfl rfl kK) ?_
  show OwnFin p e below _ (T15.setTop (mkF m 95 #[.val (.ref a), .val (.ref nm), .val (.int it)] [(.ref a)]))
  obtain ⟨T17, X17, e17, st17⟩ := getF X15 hx hZ hown (host := "") (Or.inl (hw _ (List.mem_of_getElem? (i := 80) rfl))) Via.refl e15 hp8 (g := (mkF m 95 #[.val (.ref a), .val (.ref nm), .val (.int it)] [(.ref a)])) rfl rfl (hb hby d_method_3_95)
  refine OwnFin.step st17 ?_
  show OwnFin p e below _ (T17.setTop (mkF m 98 #[.val (.ref a), .val (.ref nm), .val (.int it)] [(.int (0 : Int32))]))
  refine OwnFin.step (fun tT kK => XS.ifNo X17.here hx rfl (hb hby d_method_3_98) rfl ((if0 _ _).trans (teq (rfl : (0 : Int32) = (0 : Int32))).2) kK) ?_
  show OwnFin p e below _ (T17.setTop (mkF m 101 #[.val (.ref a), .val (.ref nm), .val (.int it)] []))
  refine OwnFin.step (fun tT kK => XS.iconst X17.here hx rfl (hb hby d_method_3_101) kK) ?_
  show OwnFin p e below _ (T17.setTop (mkF m 102 #[.val (.ref a), .val (.ref nm), .val (.int it)] [(.int (1 : Int32))]))
  refine OwnFin.step (fun tT kK => XS.goto X17.here hx rfl (pc0 := 102) (pc' := 106) rfl (hb hby d_method_3_102) (by decide) (by decide) kK) ?_
  show OwnFin p e below _ (T17.setTop (mkF m 106 #[.val (.ref a), .val (.ref nm), .val (.int it)] [(.int (1 : Int32))]))
  obtain ⟨fs18, hr18, hrun18, hended18, hW18, hsame18⟩ := X17.leave (v := (some (.int (1 : Int32)))) (fun h => by rw [Bd.returns] at h; cases h)
  refine ⟨_, _, retN X17 hx (t := .boolean) Bd.returns (by simp) (hb hby d_method_3_106) hr18, hrun18, hended18, _, _, rfl, ?_, ⟨_, rfl⟩, hW18, hsame18.mono (by decide) (by decide)⟩
  show Q3 Z a nm it kd no ch kc kn h0 n0 _ T17.heap _
  rw [e17]
  exact ⟨rfl, N0, rfl⟩
theorem d_prog_20_method_9_0 : decode prog_20_method_9_code 0 = .ok (.iconst 0, 1) := by decide +kernel
theorem d_prog_20_method_9_1 : decode prog_20_method_9_code 1 = .ok (.istore_n 1, 1) := by decide +kernel
theorem d_prog_20_method_9_2 : decode prog_20_method_9_code 2 = .ok (.iload_n 1, 1) := by decide +kernel
theorem d_prog_20_method_9_3 : decode prog_20_method_9_code 3 = .ok (.aload_n 0, 1) := by decide +kernel
theorem d_prog_20_method_9_4 : decode prog_20_method_9_code 4 = .ok (.getfield 30, 3) := by decide +kernel
theorem d_prog_20_method_9_7 : decode prog_20_method_9_code 7 = .ok (.arraylength, 1) := by decide +kernel
theorem d_prog_20_method_9_8 : decode prog_20_method_9_code 8 = .ok (.if_icmp .ge 60, 3) := by decide +kernel
theorem d_prog_20_method_9_68 : decode prog_20_method_9_code 68 = .ok (.iconst 1, 1) := by decide +kernel
theorem d_prog_20_method_9_69 : decode prog_20_method_9_code 69 = .ok (.ireturn, 1) := by decide +kernel
theorem ef_4 (m : MethodId) (a : Addr) : entryFrame m #[(.ref a)] 4 = mkF m 0 #[.val (.ref a), .unset, .unset, .unset] [] := by first | (simp [entryFrame, mkF, argsToLocals, Value.category]; done) | rfl
def Q4 (Z : State) (a : Addr) (no : Addr) (kn : ClassId) (h0 : Heap) (n0 : Nat) (vV : Option Value) (hH : Heap) (LL : List Loc) : Prop := vV = some (.int (1 : Int32)) ∧ Fr n0 LL ∧ hH = h0
def R4 (Z : State) (a : Addr) (no : Addr) (kn : ClassId) (h0 : Heap) (n0 : Nat) (U : State) (o : Outcome) (U' : State) : Prop := ∃ vV LL, o = .returned vV ∧ Q4 Z a no kn h0 n0 vV U'.heap LL ∧ FrameEnd U o U' LL ({ frames := 0, cells := 0, slots := 0, locals := 0 } : Room).cells ({ frames := 0, cells := 0, slots := 0, locals := 0 } : Room).slots
set_option maxRecDepth 65536 in
set_option maxHeartbeats 40000000 in
theorem rm4 (l : Launch) (Z : State) (a0 : Array Value) (hw : ∀ d ∈ tables_1, d.before a0 Z = true) (hEL : EW Z a0 OwnEL) (wS : ∀ a ∈ Bundle.stringAtoms, a.before a0 Z = true) (ws : List Jvm.Cond) (a : Addr) (no : Addr) (kn : ClassId) (h0 : Heap) (n0 : Nat) (Z0 : n0 ≤ h0.size) (hp0 : Fld Z h0 a "com/example/identifier_grammars/identifiergrammars/Node" "low" "[I" (.ref no)) (hp1 : Arv Z h0 no kn .int (0 : Int32) [] (.int (0 : Int32))) :
    MetFree l (⟨"com/example/identifier_grammars/identifiergrammars/Node", "acceptsSomeString", "()Z"⟩ : MethodName) (head1 (Jvm.Cond.code (⟨"com/example/identifier_grammars/identifiergrammars/Node", "acceptsSomeString", "()Z"⟩ : MethodName) prog_20_method_9_code 4 (some .boolean) :: ws) ({ frames := 0, cells := 0, slots := 0, locals := 0 } : Room)) (fun aA U => aA = #[(.ref a)] ∧ Z.Warmed39 U.vm ∧ U.heap = h0) (fun _ _ _ _ _ => True) (fun _ U o U' => ∃ vV LL, o = .returned vV ∧ Q4 Z a no kn h0 n0 vV U'.heap LL ∧ FrameEnd U o U' LL ({ frames := 0, cells := 0, slots := 0, locals := 0 } : Room).cells ({ frames := 0, cells := 0, slots := 0, locals := 0 } : Room).slots) := by
  refine MetFree.of_bodySF (plainFor_of_name pn_0) hisR ?_
  intro p e s m args below meth cC s₁ Bd hml0 hP hK
  obtain ⟨rfl, hZ, hh⟩ := hP
  have hx := Bd.exec
  have hby := Bd.bytes
  have hml : cC.maxLocals = 4 := hml0
  have hown : s.vm.findClass "com/example/identifier_grammars/identifiergrammars/Node" = some m.cls := findClass_of_methodNamed Bd.named
  have hnm := (name_of_methodNamed Bd.named Bd.method).1
  have X0 : Stand p l e ({ frames := 0, cells := 0, slots := 0, locals := 0 } : Room) s m #[(.ref a)] below meth cC s₁ [] 0 0 := Stand.of_body Bd
  have e0 : s₁.heap = h0 := by rw [← hh, Bd.state]; rfl
  have N0 := Fr.nil n0
  show OwnFin p e below (R4 Z a no kn h0 n0 s) (s₁.setTop (entryFrame m #[(.ref a)] 4))
  rw [ef_4 m a]
  refine OwnFin.step (fun tT kK => XS.iconst X0.here hx rfl (hb hby d_prog_20_method_9_0) kK) ?_
  show OwnFin p e below _ (s₁.setTop (mkF m 1 #[.val (.ref a), .unset, .unset, .unset] [(.int (0 : Int32))]))
  refine OwnFin.step (fun tT kK => XS.istoreN X0.here hx rfl (hb hby d_prog_20_method_9_1) rfl (l' := #[.val (.ref a), .val (.int (0 : Int32)), .unset, .unset]) rfl kK) ?_
  show OwnFin p e below _ (s₁.setTop (mkF m 2 #[.val (.ref a), .val (.int (0 : Int32)), .unset, .unset] []))
  refine OwnFin.step (fun tT kK => XS.iloadN X0.here hx rfl (hb hby d_prog_20_method_9_2) rfl kK) ?_
  show OwnFin p e below _ (s₁.setTop (mkF m 3 #[.val (.ref a), .val (.int (0 : Int32)), .unset, .unset] [(.int (0 : Int32))]))
  refine OwnFin.step (fun tT kK => XS.aloadN X0.here hx rfl (hb hby d_prog_20_method_9_3) rfl rfl kK) ?_
  show OwnFin p e below _ (s₁.setTop (mkF m 4 #[.val (.ref a), .val (.int (0 : Int32)), .unset, .unset] [(.ref a), (.int (0 : Int32))]))
  obtain ⟨T1, X1, e1, st1⟩ := getF X0 hx hZ hown (host := "") (Or.inl (hw _ (List.mem_of_getElem? (i := 63) rfl))) Via.refl e0 hp0 (g := (mkF m 4 #[.val (.ref a), .val (.int (0 : Int32)), .unset, .unset] [(.ref a), (.int (0 : Int32))])) rfl rfl (hb hby d_prog_20_method_9_4)
  refine OwnFin.step st1 ?_
  show OwnFin p e below _ (T1.setTop (mkF m 7 #[.val (.ref a), .val (.int (0 : Int32)), .unset, .unset] [(.ref no), (.int (0 : Int32))]))
  obtain ⟨cl2, Ar2, -, Sz2, Ng2, -, -⟩ := id hp1
  refine OwnFin.step (fun tT kK => own_len X1 hx hZ e1 Ar2 Sz2 Ng2 (g := (mkF m 7 #[.val (.ref a), .val (.int (0 : Int32)), .unset, .unset] [(.ref no), (.int (0 : Int32))])) rfl rfl (hb hby d_prog_20_method_9_7) kK) ?_
  show OwnFin p e below _ (T1.setTop (mkF m 8 #[.val (.ref a), .val (.int (0 : Int32)), .unset, .unset] [(.int (0 : Int32)), (.int (0 : Int32))]))
  refine OwnFin.step (fun tT kK => XS.icmpYes X1.here hx rfl (pc0 := 8) (pc' := 68) rfl (hb hby d_prog_20_method_9_8) rfl (flt (by decide : ¬ ((0 : Int32) < (0 : Int32)))).2.1 (by decide) (by decide) kK) ?_
  show OwnFin p e below _ (T1.setTop (mkF m 68 #[.val (.ref a), .val (.int (0 : Int32)), .unset, .unset] []))
  refine OwnFin.step (fun tT kK => XS.iconst X1.here hx rfl (hb hby d_prog_20_method_9_68) kK) ?_
  show OwnFin p e below _ (T1.setTop (mkF m 69 #[.val (.ref a), .val (.int (0 : Int32)), .unset, .unset] [(.int (1 : Int32))]))
  obtain ⟨fs3, hr3, hrun3, hended3, hW3, hsame3⟩ := X1.leave (v := (some (.int (1 : Int32)))) (fun h => by rw [Bd.returns] at h; cases h)
  refine ⟨_, _, retN X1 hx (t := .boolean) Bd.returns (by simp) (hb hby d_prog_20_method_9_69) hr3, hrun3, hended3, _, _, rfl, ?_, ⟨_, rfl⟩, hW3, hsame3.mono (by decide) (by decide)⟩
  show Q4 Z a no kn h0 n0 _ T1.heap _
  rw [e1]
  exact ⟨rfl, N0, rfl⟩
theorem pn_108 : plainName "java/lang/String" = true := by first | (simp [plainName, overriddenIn]; done) | decide +kernel
theorem d_jdk_42_method_149_0 : decode jdk_42_method_149_code 0 = .ok (.aload_n 0, 1) := by decide +kernel
theorem d_jdk_42_method_149_1 : decode jdk_42_method_149_code 1 = .ok (.invokespecial 1, 3) := by decide +kernel
theorem d_jdk_42_method_149_4 : decode jdk_42_method_149_code 4 = .ok (.iload_n 3, 1) := by decide +kernel
theorem d_jdk_42_method_149_5 : decode jdk_42_method_149_code 5 = .ok (.ifCond .ne 22, 3) := by decide +kernel
theorem d_jdk_42_method_149_8 : decode jdk_42_method_149_code 8 = .ok (.aload_n 0, 1) := by decide +kernel
theorem d_jdk_42_method_149_9 : decode jdk_42_method_149_code 9 = .ok (.ldc 7, 2) := by decide +kernel
theorem d_jdk_42_method_149_11 : decode jdk_42_method_149_code 11 = .ok (.getfield 9, 3) := by decide +kernel
theorem d_jdk_42_method_149_14 : decode jdk_42_method_149_code 14 = .ok (.putfield 9, 3) := by decide +kernel
theorem d_jdk_42_method_149_17 : decode jdk_42_method_149_code 17 = .ok (.aload_n 0, 1) := by decide +kernel
theorem d_jdk_42_method_149_18 : decode jdk_42_method_149_code 18 = .ok (.ldc 7, 2) := by decide +kernel
theorem d_jdk_42_method_149_20 : decode jdk_42_method_149_code 20 = .ok (.getfield 15, 3) := by decide +kernel
theorem d_jdk_42_method_149_23 : decode jdk_42_method_149_code 23 = .ok (.putfield 15, 3) := by decide +kernel
theorem d_jdk_42_method_149_26 : decode jdk_42_method_149_code 26 = .ok (.return_, 1) := by decide +kernel
theorem ef_50d (m : MethodId) (a : Addr) (ar : Addr) : entryFrame m #[(.ref a), (.ref ar), (.int (0 : Int32)), (.int (0 : Int32)), .null] 6 = mkF m 0 #[.val (.ref a), .val (.ref ar), .val (.int (0 : Int32)), .val (.int (0 : Int32)), .val .null, .unset] [] := by first | (simp [entryFrame, mkF, argsToLocals, Value.category]; done) | rfl
def Q50d (Z : State) (a : Addr) (ar : Addr) (h0 : Heap) (n0 : Nat) (vV : Option Value) (hH : Heap) (LL : List Loc) : Prop := ∃ b : Addr, ∃ kb : ClassId, vV = none ∧ Fr n0 LL ∧ Keep h0 hH [a] ∧ (Exa Z hH a "java/lang/String") ∧ (Fld Z hH a "java/lang/String" "value" "[B" (.ref b)) ∧ (Fld Z hH a "java/lang/String" "coder" "B" (.int (0 : Int32))) ∧ (Arv Z hH b kb .byte (0 : Int32) [] (.int (0 : Int32)))
def R50d (Z : State) (a : Addr) (ar : Addr) (h0 : Heap) (n0 : Nat) (U : State) (o : Outcome) (U' : State) : Prop := ∃ vV LL, o = .returned vV ∧ Q50d Z a ar h0 n0 vV U'.heap LL ∧ CHr Z OwnEL U.vm U.heap U'.vm U'.heap ∧ ReturnedEndW U o U' LL ({ frames := 1, cells := 4, slots := 8, locals := 12 } : Room).cells ({ frames := 1, cells := 4, slots := 8, locals := 12 } : Room).slots
set_option maxRecDepth 65536 in
set_option maxHeartbeats 40000000 in
theorem rm50d (l : Launch) (Z : State) (a0 : Array Value) (hw : ∀ d ∈ tables_1, d.before a0 Z = true) (hEL : EW Z a0 OwnEL) (wS : ∀ a ∈ Bundle.stringAtoms, a.before a0 Z = true) (ws : List Jvm.Cond) (a : Addr) (ar : Addr) (h0 : Heap) (n0 : Nat) (Z0 : n0 ≤ h0.size) (hp0 : Exa Z h0 a "java/lang/String") (hp1 : Fld Z h0 a "java/lang/String" "value" "[B" .null) (hp2 : Fld Z h0 a "java/lang/String" "coder" "B" (.int (0 : Int32))) (hp3 : n0 ≤ a) :
    MetFree l (⟨"java/lang/String", "<init>", "([CIILjava/lang/Void;)V"⟩ : MethodName) (head1 (Jvm.Cond.code (⟨"java/lang/String", "<init>", "([CIILjava/lang/Void;)V"⟩ : MethodName) jdk_42_method_149_code 6 none :: ws) ({ frames := 1, cells := 4, slots := 8, locals := 12 } : Room)) (fun aA U => aA = #[(.ref a), (.ref ar), (.int (0 : Int32)), (.int (0 : Int32)), .null] ∧ Z.Warmed39 U.vm ∧ U.heap = h0 ∧ CHv Z OwnEL U.vm h0) (fun _ _ _ _ _ => True) (fun _ U o U' => ∃ vV LL, o = .returned vV ∧ Q50d Z a ar h0 n0 vV U'.heap LL ∧ CHr Z OwnEL U.vm U.heap U'.vm U'.heap ∧ ReturnedEndW U o U' LL ({ frames := 1, cells := 4, slots := 8, locals := 12 } : Room).cells ({ frames := 1, cells := 4, slots := 8, locals := 12 } : Room).slots) := by
  refine MetFree.of_bodySF (plainFor_of_name pn_108) hisR ?_
  intro p e s m args below meth cC s₁ Bd hml0 hP hK
  obtain ⟨rfl, hZ, hh, hCH⟩ := hP
  have hx := Bd.exec
  have hby := Bd.bytes
  have hml : cC.maxLocals = 6 := hml0
  have hown : s.vm.findClass "java/lang/String" = some m.cls := findClass_of_methodNamed Bd.named
  have hnm := (name_of_methodNamed Bd.named Bd.method).1
  have X0 : Stand p l e ({ frames := 1, cells := 4, slots := 8, locals := 12 } : Room) (s.setVm s.vm) m #[(.ref a), (.ref ar), (.int (0 : Int32)), (.int (0 : Int32)), .null] below meth cC s₁ [] 0 0 := Stand.of_body Bd
  have e0 : s₁.heap = h0 := by rw [← hh, Bd.state]; rfl
  have N0 := Fr.nil n0
  have C0 : CHr Z OwnEL s.vm h0 s.vm h0 := CHr.refl hCH
  have hS0 : s.Since s.vm h0.size := (State.WarmedH.refl s).since _
  have hk0 : h0.size ≤ h0.size := Nat.le_refl _
  show OwnFin p e below (R50d Z a ar h0 n0 s) (s₁.setTop (entryFrame m #[(.ref a), (.ref ar), (.int (0 : Int32)), (.int (0 : Int32)), .null] 6))
  rw [ef_50d m a ar]
  have sf1 : Safe Z OwnEL s.vm h0 a := own_safe_str hZ.alike hp0 hp1
  refine OwnFin.step (fun tT kK => XS.aloadN X0.here hx rfl (hb hby d_jdk_42_method_149_0) rfl rfl kK) ?_
  show OwnFin p e below _ (s₁.setTop (mkF m 1 #[.val (.ref a), .val (.ref ar), .val (.int (0 : Int32)), .val (.int (0 : Int32)), .val .null, .unset] [(.ref a)]))
  obtain ⟨T2, X2, e2, st2⟩ := initO X0 hx hZ hown (hw _ (List.mem_of_getElem? (i := 15) rfl)) (hw _ (List.mem_of_getElem? (i := 16) rfl)) (hw _ (List.mem_of_getElem? (i := 17) rfl)) e0 (g := (mkF m 1 #[.val (.ref a), .val (.ref ar), .val (.int (0 : Int32)), .val (.int (0 : Int32)), .val .null, .unset] [(.ref a)])) rfl (by rw [hml]; rfl) rfl (hb hby d_jdk_42_method_149_1) (by decide) (W := 0) (by show 2 * 0 + _ ≤ _; exact Nat.le_of_eq rfl) (by decide)
  refine OwnFin.step st2 ?_
  show OwnFin p e below _ (T2.setTop (mkF m 4 #[.val (.ref a), .val (.ref ar), .val (.int (0 : Int32)), .val (.int (0 : Int32)), .val .null, .unset] []))
  refine OwnFin.step (fun tT kK => XS.iloadN X2.here hx rfl (hb hby d_jdk_42_method_149_4) rfl kK) ?_
  show OwnFin p e below _ (T2.setTop (mkF m 5 #[.val (.ref a), .val (.ref ar), .val (.int (0 : Int32)), .val (.int (0 : Int32)), .val .null, .unset] [(.int (0 : Int32))]))
  refine OwnFin.step (fun tT kK => XS.ifNo X2.here hx rfl (hb hby d_jdk_42_method_149_5) rfl ((if0 _ _).trans (teq (rfl : (0 : Int32) = (0 : Int32))).2) kK) ?_
  show OwnFin p e below _ (T2.setTop (mkF m 8 #[.val (.ref a), .val (.ref ar), .val (.int (0 : Int32)), .val (.int (0 : Int32)), .val .null, .unset] []))
  refine OwnFin.step (fun tT kK => XS.aloadN X2.here hx rfl (hb hby d_jdk_42_method_149_8) rfl rfl kK) ?_
  show OwnFin p e below _ (T2.setTop (mkF m 9 #[.val (.ref a), .val (.ref ar), .val (.int (0 : Int32)), .val (.int (0 : Int32)), .val .null, .unset] [(.ref a)]))
  obtain ⟨a3, T3, h3, k3, d3, kd3, X3, e3, E3, hS3, hk3, hZ, hown, Es3, Fc3, Fv3, Va3, -, -, cq3, Li3, sn3, st3⟩ := ldcCH X2 hx hZ hown (hw _ (List.mem_of_getElem? (i := 34) rfl)) wS e2 hS0 (Nat.le_trans hk0 (Nat.le_refl _)) hEL (List.mem_of_getElem? (i := 0) rfl) C0.1 (vs := []) (z := (0 : Int32)) ⟨by decide, by decide⟩ (by decide) rfl (g := (mkF m 9 #[.val (.ref a), .val (.ref ar), .val (.int (0 : Int32)), .val (.int (0 : Int32)), .val .null, .unset] [(.ref a)])) rfl (hb hby d_jdk_42_method_149_9) (n := 0) (by decide) (by decide) (by decide) (by decide)
  refine OwnFin.step st3 ?_
  have cp4 := cq3
  have C4 := C0.trans cp4
  show OwnFin p e below _ (T3.setTop (mkF m 11 #[.val (.ref a), .val (.ref ar), .val (.int (0 : Int32)), .val (.int (0 : Int32)), .val .null, .unset] [(.ref a3), (.ref a)]))
  obtain ⟨T5, X5, e5, st5⟩ := getF X3 hx hZ hown (host := "") (Or.inl (hw _ (List.mem_of_getElem? (i := 32) rfl))) Via.refl e3 Fv3 (g := (mkF m 11 #[.val (.ref a), .val (.ref ar), .val (.int (0 : Int32)), .val (.int (0 : Int32)), .val .null, .unset] [(.ref a3), (.ref a)])) rfl rfl (hb hby d_jdk_42_method_149_11)
  refine OwnFin.step st5 ?_
  show OwnFin p e below _ (T5.setTop (mkF m 14 #[.val (.ref a), .val (.ref ar), .val (.int (0 : Int32)), .val (.int (0 : Int32)), .val .null, .unset] [(.ref d3), (.ref a)]))
  have sf6 : Safe Z OwnEL T3.vm h3 a := cp4.safe (Nat.lt_of_lt_of_le hp0.lt (Nat.le_refl _)) sf1
  have f7 : Exa Z h3 a "java/lang/String" := (hp0.ext E3)
  have f8 : Fld Z h3 a "java/lang/String" "value" "[B" .null := (hp1.ext E3)
  obtain ⟨T9, h9, X9, e9, W9, st9⟩ := putF X5 hx hZ hown (host := "") (Or.inl (hw _ (List.mem_of_getElem? (i := 32) rfl))) Via.refl e5 f8 f7 (Or.inr ⟨(hw _ (List.mem_of_getElem? (i := 33) rfl)), rfl, hnm⟩) (hw _ (List.mem_of_getElem? (i := 6) rfl)) (ty := (.array .byte)) (by decide) rfl rfl (g := (mkF m 14 #[.val (.ref a), .val (.ref ar), .val (.int (0 : Int32)), .val (.int (0 : Int32)), .val .null, .unset] [(.ref d3), (.ref a)])) rfl rfl (hb hby d_jdk_42_method_149_14)
  refine OwnFin.step st9 ?_
  have N9 := Fr.snoc X9 N0 hp3
  have cp10 := (CHr.wr W9 sf6 C4.1)
  have C10 := C4.trans cp10
  have Fw9 : Fld Z h9 a "java/lang/String" "value" "[B" (.ref d3) := f8.same W9
  show OwnFin p e below _ (T9.setTop (mkF m 17 #[.val (.ref a), .val (.ref ar), .val (.int (0 : Int32)), .val (.int (0 : Int32)), .val .null, .unset] []))
  refine OwnFin.step (fun tT kK => XS.aloadN X9.here hx rfl (hb hby d_jdk_42_method_149_17) rfl rfl kK) ?_
  show OwnFin p e below _ (T9.setTop (mkF m 18 #[.val (.ref a), .val (.ref ar), .val (.int (0 : Int32)), .val (.int (0 : Int32)), .val .null, .unset] [(.ref a)]))
  obtain ⟨a11, T11, h11, k11, d11, kd11, X11, e11, E11, hS11, hk11, hZ, hown, Es11, Fc11, Fv11, Va11, -, -, cq11, Li11, sn11, st11⟩ := ldcCH X9 hx hZ hown (hw _ (List.mem_of_getElem? (i := 34) rfl)) wS e9 hS3 (Nat.le_trans hk3 (Nat.le_trans (Nat.le_refl _) (Keep.of_wr W9).1)) hEL (List.mem_of_getElem? (i := 0) rfl) C10.1 (vs := []) (z := (0 : Int32)) ⟨by decide, by decide⟩ (by decide) rfl (g := (mkF m 18 #[.val (.ref a), .val (.ref ar), .val (.int (0 : Int32)), .val (.int (0 : Int32)), .val .null, .unset] [(.ref a)])) rfl (hb hby d_jdk_42_method_149_18) (n := 0) (by decide) (by decide) (by decide) (by decide)
  refine OwnFin.step st11 ?_
  have cp12 := cq11
  have C12 := C10.trans cp12
  show OwnFin p e below _ (T11.setTop (mkF m 20 #[.val (.ref a), .val (.ref ar), .val (.int (0 : Int32)), .val (.int (0 : Int32)), .val .null, .unset] [(.ref a11), (.ref a)]))
  obtain ⟨T13, X13, e13, st13⟩ := getF X11 hx hZ hown (host := "") (Or.inl (hw _ (List.mem_of_getElem? (i := 30) rfl))) Via.refl e11 Fc11 (g := (mkF m 20 #[.val (.ref a), .val (.ref ar), .val (.int (0 : Int32)), .val (.int (0 : Int32)), .val .null, .unset] [(.ref a11), (.ref a)])) rfl rfl (hb hby d_jdk_42_method_149_20)
  refine OwnFin.step st13 ?_
  show OwnFin p e below _ (T13.setTop (mkF m 23 #[.val (.ref a), .val (.ref ar), .val (.int (0 : Int32)), .val (.int (0 : Int32)), .val .null, .unset] [(.int (0 : Int32)), (.ref a)]))
  have sf14 : Safe Z OwnEL T11.vm h11 a := (cp10.trans cp12).safe (Nat.lt_of_lt_of_le f7.lt (Nat.le_refl _)) sf6
  have f15 : Exa Z h11 a "java/lang/String" := ((f7.wr W9).ext E11)
  have f16 : Fld Z h11 a "java/lang/String" "coder" "B" (.int (0 : Int32)) := (((hp2.ext E3).other W9 (Or.inr (slot_ne (Or.inr (hw _ (List.mem_of_getElem? (i := 31) rfl))) (Or.inr (hw _ (List.mem_of_getElem? (i := 33) rfl))) (by decide) (t := .byte) (t' := (.array .byte)) (by decide) (by decide)))).ext E11)
  obtain ⟨T17, h17, X17, e17, W17, st17⟩ := putF X13 hx hZ hown (host := "") (Or.inl (hw _ (List.mem_of_getElem? (i := 30) rfl))) Via.refl e13 f16 f15 (Or.inr ⟨(hw _ (List.mem_of_getElem? (i := 31) rfl)), rfl, hnm⟩) (hw _ (List.mem_of_getElem? (i := 6) rfl)) (ty := .byte) (by decide) rfl rfl (g := (mkF m 23 #[.val (.ref a), .val (.ref ar), .val (.int (0 : Int32)), .val (.int (0 : Int32)), .val .null, .unset] [(.int (0 : Int32)), (.ref a)])) rfl rfl (hb hby d_jdk_42_method_149_23)
  refine OwnFin.step st17 ?_
  have N17 := Fr.snoc X17 N9 hp3
  have cp18 := (CHr.wr W17 sf14 C12.1)
  have C18 := C12.trans cp18
  have Fw17 : Fld Z h17 a "java/lang/String" "coder" "B" (.int (0 : Int32)) := f16.same W17
  show OwnFin p e below _ (T17.setTop (mkF m 26 #[.val (.ref a), .val (.ref ar), .val (.int (0 : Int32)), .val (.int (0 : Int32)), .val .null, .unset] []))
  have f20 : Exa Z h17 a "java/lang/String" := (f15.wr W17)
  have f21 : Fld Z h17 a "java/lang/String" "value" "[B" (.ref d3) := ((Fw9.ext E11).other W17 (Or.inr (slot_ne (Or.inr (hw _ (List.mem_of_getElem? (i := 33) rfl))) (Or.inr (hw _ (List.mem_of_getElem? (i := 31) rfl))) (by decide) (t := (.array .byte)) (t' := .byte) (by decide) (by decide))))
  have f22 : Arv Z h17 d3 kd3 .byte (0 : Int32) [] (.int (0 : Int32)) := (((Va3.other W9 (Ne.symm (Exa.neArv f7 Va3 (hw _ (List.mem_of_getElem? (i := 6) rfl))))).ext E11).other W17 (Ne.symm (Exa.neArv f7 Va3 (hw _ (List.mem_of_getElem? (i := 6) rfl)))))
  obtain ⟨fs19, hr19, hrun19, hended19, hW19⟩ := X17.leaveW (s := s) hS11 (by rw [e17]; exact (Nat.le_trans hk11 (Nat.le_trans (Nat.le_refl _) (Keep.of_wr W17).1))) (v := none) (fun _ => rfl)
  refine ⟨_, _, X17.returnOut hx Bd.returns (hb hby d_jdk_42_method_149_26) hr19, hrun19, hended19, _, _, rfl, ?_, (by show CHr Z OwnEL s.vm s.heap T17.vm T17.heap; rw [hh, e17]; exact C18.trans (CHv.at X17 hZ hEL C18.1)), hW19.1, hW19.2.1, hW19.2.2.1, hW19.2.2.2.mono (by decide) (by decide)⟩
  show Q50d Z a ar h0 n0 _ T17.heap _
  rw [e17]
  exact ⟨d3, kd3, rfl, N17, (((((Keep.refl h0 [a]).ext E3).wr W9 (Or.inl (List.mem_of_getElem? (i := 0) rfl))).ext E11).wr W17 (Or.inl (List.mem_of_getElem? (i := 0) rfl))), f20, f21, Fw17, f22⟩
theorem d_jdk_42_method_3_0 : decode jdk_42_method_3_code 0 = .ok (.aload_n 0, 1) := by decide +kernel
theorem d_jdk_42_method_3_1 : decode jdk_42_method_3_code 1 = .ok (.aload_n 1, 1) := by decide +kernel
theorem d_jdk_42_method_3_2 : decode jdk_42_method_3_code 2 = .ok (.iconst 0, 1) := by decide +kernel
theorem d_jdk_42_method_3_3 : decode jdk_42_method_3_code 3 = .ok (.aload_n 1, 1) := by decide +kernel
theorem d_jdk_42_method_3_4 : decode jdk_42_method_3_code 4 = .ok (.arraylength, 1) := by decide +kernel
theorem d_jdk_42_method_3_5 : decode jdk_42_method_3_code 5 = .ok (.aconst_null, 1) := by decide +kernel
theorem d_jdk_42_method_3_6 : decode jdk_42_method_3_code 6 = .ok (.invokespecial 27, 3) := by decide +kernel
theorem pd_129 : parseMethodDescriptor "([CIILjava/lang/Void;)V" = some ⟨[(.array .char), .int, .int, (.object "java/lang/Void")], none⟩ := by decide +kernel
theorem d_jdk_42_method_3_9 : decode jdk_42_method_3_code 9 = .ok (.return_, 1) := by decide +kernel
theorem ef_50 (m : MethodId) (a : Addr) (ar : Addr) : entryFrame m #[(.ref a), (.ref ar)] 2 = mkF m 0 #[.val (.ref a), .val (.ref ar)] [] := by first | (simp [entryFrame, mkF, argsToLocals, Value.category]; done) | rfl
def Q50 (Z : State) (a : Addr) (ar : Addr) (k : ClassId) (h0 : Heap) (n0 : Nat) (vV : Option Value) (hH : Heap) (LL : List Loc) : Prop := ∃ b : Addr, ∃ kb : ClassId, vV = none ∧ Fr n0 LL ∧ Keep h0 hH [a] ∧ (Exa Z hH a "java/lang/String") ∧ (Fld Z hH a "java/lang/String" "value" "[B" (.ref b)) ∧ (Fld Z hH a "java/lang/String" "coder" "B" (.int (0 : Int32))) ∧ (Arv Z hH b kb .byte (0 : Int32) [] (.int (0 : Int32)))
def R50 (Z : State) (a : Addr) (ar : Addr) (k : ClassId) (h0 : Heap) (n0 : Nat) (U : State) (o : Outcome) (U' : State) : Prop := ∃ vV LL, o = .returned vV ∧ Q50 Z a ar k h0 n0 vV U'.heap LL ∧ CHr Z OwnEL U.vm U.heap U'.vm U'.heap ∧ ReturnedEndW U o U' LL ({ frames := 2, cells := 4, slots := 8, locals := 29 } : Room).cells ({ frames := 2, cells := 4, slots := 8, locals := 29 } : Room).slots
set_option maxRecDepth 65536 in
set_option maxHeartbeats 40000000 in
theorem rm50 (l : Launch) (Z : State) (a0 : Array Value) (hw : ∀ d ∈ tables_1, d.before a0 Z = true) (hEL : EW Z a0 OwnEL) (wS : ∀ a ∈ Bundle.stringAtoms, a.before a0 Z = true) (ws : List Jvm.Cond) (a : Addr) (ar : Addr) (k : ClassId) (h0 : Heap) (n0 : Nat) (Z0 : n0 ≤ h0.size) (hp0 : Exa Z h0 a "java/lang/String") (hp1 : Fld Z h0 a "java/lang/String" "value" "[B" .null) (hp2 : Fld Z h0 a "java/lang/String" "coder" "B" (.int (0 : Int32))) (hp3 : n0 ≤ a) (hp4 : Arv Z h0 ar k .char (0 : Int32) [] (.int (0 : Int32))) :
    MetFree l (⟨"java/lang/String", "<init>", "([C)V"⟩ : MethodName) (head1 (Jvm.Cond.code (⟨"java/lang/String", "<init>", "([C)V"⟩ : MethodName) jdk_42_method_3_code 2 none :: ws) ({ frames := 2, cells := 4, slots := 8, locals := 29 } : Room)) (fun aA U => aA = #[(.ref a), (.ref ar)] ∧ Z.Warmed39 U.vm ∧ U.heap = h0 ∧ CHv Z OwnEL U.vm h0) (fun _ _ _ _ _ => True) (fun _ U o U' => ∃ vV LL, o = .returned vV ∧ Q50 Z a ar k h0 n0 vV U'.heap LL ∧ CHr Z OwnEL U.vm U.heap U'.vm U'.heap ∧ ReturnedEndW U o U' LL ({ frames := 2, cells := 4, slots := 8, locals := 29 } : Room).cells ({ frames := 2, cells := 4, slots := 8, locals := 29 } : Room).slots) := by
  refine MetFree.of_bodySF (plainFor_of_name pn_108) hisR ?_
  intro p e s m args below meth cC s₁ Bd hml0 hP hK
  obtain ⟨rfl, hZ, hh, hCH⟩ := hP
  have hx := Bd.exec
  have hby := Bd.bytes
  have hml : cC.maxLocals = 2 := hml0
  have hown : s.vm.findClass "java/lang/String" = some m.cls := findClass_of_methodNamed Bd.named
  have hnm := (name_of_methodNamed Bd.named Bd.method).1
  have X0 : Stand p l e ({ frames := 2, cells := 4, slots := 8, locals := 29 } : Room) (s.setVm s.vm) m #[(.ref a), (.ref ar)] below meth cC s₁ [] 0 0 := Stand.of_body Bd
  have e0 : s₁.heap = h0 := by rw [← hh, Bd.state]; rfl
  have N0 := Fr.nil n0
  have C0 : CHr Z OwnEL s.vm h0 s.vm h0 := CHr.refl hCH
  have hS0 : s.Since s.vm h0.size := (State.WarmedH.refl s).since _
  have hk0 : h0.size ≤ h0.size := Nat.le_refl _
  show OwnFin p e below (R50 Z a ar k h0 n0 s) (s₁.setTop (entryFrame m #[(.ref a), (.ref ar)] 2))
  rw [ef_50 m a ar]
  refine OwnFin.step (fun tT kK => XS.aloadN X0.here hx rfl (hb hby d_jdk_42_method_3_0) rfl rfl kK) ?_
  show OwnFin p e below _ (s₁.setTop (mkF m 1 #[.val (.ref a), .val (.ref ar)] [(.ref a)]))
  refine OwnFin.step (fun tT kK => XS.aloadN X0.here hx rfl (hb hby d_jdk_42_method_3_1) rfl rfl kK) ?_
  show OwnFin p e below _ (s₁.setTop (mkF m 2 #[.val (.ref a), .val (.ref ar)] [(.ref ar), (.ref a)]))
  refine OwnFin.step (fun tT kK => XS.iconst X0.here hx rfl (hb hby d_jdk_42_method_3_2) kK) ?_
  show OwnFin p e below _ (s₁.setTop (mkF m 3 #[.val (.ref a), .val (.ref ar)] [(.int (0 : Int32)), (.ref ar), (.ref a)]))
  refine OwnFin.step (fun tT kK => XS.aloadN X0.here hx rfl (hb hby d_jdk_42_method_3_3) rfl rfl kK) ?_
  show OwnFin p e below _ (s₁.setTop (mkF m 4 #[.val (.ref a), .val (.ref ar)] [(.ref ar), (.int (0 : Int32)), (.ref ar), (.ref a)]))
  obtain ⟨cl1, Ar1, -, Sz1, Ng1, -, -⟩ := id hp4
  refine OwnFin.step (fun tT kK => own_len X0 hx hZ e0 Ar1 Sz1 Ng1 (g := (mkF m 4 #[.val (.ref a), .val (.ref ar)] [(.ref ar), (.int (0 : Int32)), (.ref ar), (.ref a)])) rfl rfl (hb hby d_jdk_42_method_3_4) kK) ?_
  show OwnFin p e below _ (s₁.setTop (mkF m 5 #[.val (.ref a), .val (.ref ar)] [(.int (0 : Int32)), (.int (0 : Int32)), (.ref ar), (.ref a)]))
  refine OwnFin.step (fun tT kK => XS.aconstNull X0.here hx rfl (hb hby d_jdk_42_method_3_5) kK) ?_
  show OwnFin p e below _ (s₁.setTop (mkF m 6 #[.val (.ref a), .val (.ref ar)] [.null, (.int (0 : Int32)), (.int (0 : Int32)), (.ref ar), (.ref a)]))
  obtain ⟨_, _, ⟨T2, L2, k2, n2⟩, -, X2', hs2, hg2, ⟨Lc2, hQ2, l2, y2, z2, cq2⟩, st2⟩ := X0.specialBackS hx (y := (⟨"java/lang/String", "<init>", "([CIILjava/lang/Void;)V"⟩ : MethodName)) rfl hown (mvT hZ (hw _ (List.mem_of_getElem? (i := 11) rfl))) (mvT hZ (hw _ (List.mem_of_getElem? (i := 12) rfl))) (mvT hZ (hw _ (List.mem_of_getElem? (i := 14) rfl))) (by decide) (backOfSH (W := 0) (rm50d l Z a0 hw hEL wS [] a ar h0 n0 Z0 hp0 hp1 hp2 hp3) hZ (hw _ (List.mem_of_getElem? (i := 14) rfl)) (hw _ (List.mem_of_getElem? (i := 7) rfl)) (by decide) (by decide) hEL C0.1) (g := (mkF m 6 #[.val (.ref a), .val (.ref ar)] [.null, (.int (0 : Int32)), (.int (0 : Int32)), (.ref ar), (.ref a)])) rfl (by rw [hml]; rfl) (Steps.refl _) (a := a) (argsL := [(.ref ar), (.int (0 : Int32)), (.int (0 : Int32)), .null]) (rest := []) (lenOf pd_129 rfl) rfl (by show 2 * 0 + _ ≤ _; exact Nat.le_of_eq rfl) (hb hby d_jdk_42_method_3_6) (fun _ _ => ⟨rfl, e0, (by decide : 0 + 4 ≤ _), (by decide : 0 + 8 ≤ _)⟩)
  dsimp only [Pt.U, Pt.locs, Pt.cells, Pt.slots] at X2' hs2 hg2 l2 y2 z2 st2 hQ2 cq2
  subst l2 y2 z2
  obtain ⟨X2, hS2, hZ, hown⟩ := rebS hS0 (by rw [e0]; exact (Nat.le_trans hk0 (Nat.le_refl _))) X2' hs2 hg2 hZ hown
  obtain ⟨b3, ⟨kb4, ⟨rfl, N2q, K2, P2_0, P2_1, P2_2, P2_3⟩⟩⟩ := hQ2
  have N2 := Fr.app N0 N2q
  refine OwnFin.step (fun tT kK => st2.trans kK) ?_
  have cp5 := cq2
  have C5 := C0.trans cp5
  show OwnFin p e below _ (T2.setTop (mkF m 9 #[.val (.ref a), .val (.ref ar)] []))
  obtain ⟨fs6, hr6, hrun6, hended6, hW6⟩ := X2.leaveW (s := s) hS2 (Nat.le_trans (Nat.le_refl T2.heap.size) (Nat.le_refl _)) (v := none) (fun _ => rfl)
  refine ⟨_, _, X2.returnOut hx Bd.returns (hb hby d_jdk_42_method_3_9) hr6, hrun6, hended6, _, _, rfl, ?_, (by show CHr Z OwnEL s.vm s.heap T2.vm T2.heap; rw [hh]; exact C5.trans (CHv.at X2 hZ hEL C5.1)), hW6.1, hW6.2.1, hW6.2.2.1, hW6.2.2.2.mono (by decide) (by decide)⟩
  show Q50 Z a ar k h0 n0 _ T2.heap _
  exact ⟨b3, kb4, rfl, N2, ((Keep.refl h0 [a]).trans K2 (allS (P := fun x => x ∈ [a] ∨ h0.size ≤ x) (Or.inl (List.mem_of_getElem? (i := 0) rfl)) all0)), P2_0, P2_1, P2_2, P2_3⟩
theorem pn_131 : plainName "java/lang/StringUTF16" = true := by first | (simp [plainName, overriddenIn]; done) | decide +kernel
theorem d_jdk_52_method_21_0 : decode jdk_52_method_21_code 0 = .ok (.iconst 0, 1) := by decide +kernel
theorem d_jdk_52_method_21_1 : decode jdk_52_method_21_code 1 = .ok (.istore 5, 2) := by decide +kernel
theorem d_jdk_52_method_21_3 : decode jdk_52_method_21_code 3 = .ok (.iload 5, 2) := by decide +kernel
theorem d_jdk_52_method_21_5 : decode jdk_52_method_21_code 5 = .ok (.iload 4, 2) := by decide +kernel
theorem d_jdk_52_method_21_7 : decode jdk_52_method_21_code 7 = .ok (.if_icmp .ge 37, 3) := by decide +kernel
theorem d_jdk_52_method_21_10 : decode jdk_52_method_21_code 10 = .ok (.aload_n 0, 1) := by decide +kernel
theorem d_jdk_52_method_21_11 : decode jdk_52_method_21_code 11 = .ok (.iload_n 1, 1) := by decide +kernel
theorem d_jdk_52_method_21_12 : decode jdk_52_method_21_code 12 = .ok (.caload, 1) := by decide +kernel
theorem d_jdk_52_method_21_13 : decode jdk_52_method_21_code 13 = .ok (.istore 6, 2) := by decide +kernel
theorem d_jdk_52_method_21_15 : decode jdk_52_method_21_code 15 = .ok (.iload 6, 2) := by decide +kernel
theorem d_jdk_52_method_21_17 : decode jdk_52_method_21_code 17 = .ok (.sipush 255, 3) := by decide +kernel
theorem d_jdk_52_method_21_20 : decode jdk_52_method_21_code 20 = .ok (.if_icmp .le 6, 3) := by decide +kernel
theorem d_jdk_52_method_21_26 : decode jdk_52_method_21_code 26 = .ok (.aload_n 2, 1) := by decide +kernel
theorem d_jdk_52_method_21_27 : decode jdk_52_method_21_code 27 = .ok (.iload_n 3, 1) := by decide +kernel
theorem d_jdk_52_method_21_28 : decode jdk_52_method_21_code 28 = .ok (.iload 6, 2) := by decide +kernel
theorem d_jdk_52_method_21_30 : decode jdk_52_method_21_code 30 = .ok (.i2b, 1) := by decide +kernel
theorem d_jdk_52_method_21_31 : decode jdk_52_method_21_code 31 = .ok (.bastore, 1) := by decide +kernel
theorem d_jdk_52_method_21_32 : decode jdk_52_method_21_code 32 = .ok (.iinc 1 1, 3) := by decide +kernel
theorem d_jdk_52_method_21_35 : decode jdk_52_method_21_code 35 = .ok (.iinc 3 1, 3) := by decide +kernel
theorem d_jdk_52_method_21_38 : decode jdk_52_method_21_code 38 = .ok (.iinc 5 1, 3) := by decide +kernel
theorem d_jdk_52_method_21_41 : decode jdk_52_method_21_code 41 = .ok (.goto (-38), 3) := by decide +kernel
theorem d_jdk_52_method_21_44 : decode jdk_52_method_21_code 44 = .ok (.iload 4, 2) := by decide +kernel
theorem d_jdk_52_method_21_46 : decode jdk_52_method_21_code 46 = .ok (.ireturn, 1) := by decide +kernel
theorem ef_51a (m : MethodId) (ar : Addr) (yb : Addr) : entryFrame m #[(.ref ar), (.int (0 : Int32)), (.ref yb), (.int (0 : Int32)), (.int (1 : Int32))] 7 = mkF m 0 #[.val (.ref ar), .val (.int (0 : Int32)), .val (.ref yb), .val (.int (0 : Int32)), .val (.int (1 : Int32)), .unset, .unset] [] := by first | (simp [entryFrame, mkF, argsToLocals, Value.category]; done) | rfl
def Q51a (Z : State) (ar : Addr) (yb : Addr) (k : ClassId) (kb : ClassId) (c0 : Int32) (h0 : Heap) (n0 : Nat) (vV : Option Value) (hH : Heap) (LL : List Loc) : Prop := vV = some (.int (1 : Int32)) ∧ Fr n0 LL ∧ Keep h0 hH [yb] ∧ (Arv Z hH yb kb .byte (1 : Int32) [(.int (nar .byte (c0.toInt8.toInt32)))] (.int (0 : Int32)))
def R51a (Z : State) (ar : Addr) (yb : Addr) (k : ClassId) (kb : ClassId) (c0 : Int32) (h0 : Heap) (n0 : Nat) (U : State) (o : Outcome) (U' : State) : Prop := ∃ vV LL, o = .returned vV ∧ Q51a Z ar yb k kb c0 h0 n0 vV U'.heap LL ∧ FrameEnd U o U' LL ({ frames := 0, cells := 0, slots := 0, locals := 0 } : Room).cells ({ frames := 0, cells := 0, slots := 0, locals := 0 } : Room).slots
set_option maxRecDepth 65536 in
set_option maxHeartbeats 40000000 in
theorem rm51a (l : Launch) (Z : State) (a0 : Array Value) (hw : ∀ d ∈ tables_1, d.before a0 Z = true) (hEL : EW Z a0 OwnEL) (wS : ∀ a ∈ Bundle.stringAtoms, a.before a0 Z = true) (ws : List Jvm.Cond) (ar : Addr) (yb : Addr) (k : ClassId) (kb : ClassId) (c0 : Int32) (h0 : Heap) (n0 : Nat) (Z0 : n0 ≤ h0.size) (hp0 : Arv Z h0 ar k .char (1 : Int32) [(.int c0)] (.int (0 : Int32))) (hp1 : Arv Z h0 yb kb .byte (1 : Int32) [(.int (0 : Int32))] (.int (0 : Int32))) (hp2 : ¬ (255 : Int32) < c0) (hp3 : n0 ≤ yb) (hp4 : ar ≠ yb) :
    MetFree l (⟨"java/lang/StringUTF16", "compress", "([CI[BII)I"⟩ : MethodName) (head1 (Jvm.Cond.code (⟨"java/lang/StringUTF16", "compress", "([CI[BII)I"⟩ : MethodName) jdk_52_method_21_code 7 (some .int) :: ws) ({ frames := 0, cells := 0, slots := 0, locals := 0 } : Room)) (fun aA U => aA = #[(.ref ar), (.int (0 : Int32)), (.ref yb), (.int (0 : Int32)), (.int (1 : Int32))] ∧ Z.Warmed39 U.vm ∧ U.heap = h0) (fun _ _ _ _ _ => True) (fun _ U o U' => ∃ vV LL, o = .returned vV ∧ Q51a Z ar yb k kb c0 h0 n0 vV U'.heap LL ∧ FrameEnd U o U' LL ({ frames := 0, cells := 0, slots := 0, locals := 0 } : Room).cells ({ frames := 0, cells := 0, slots := 0, locals := 0 } : Room).slots) := by
  refine MetFree.of_bodySF (plainFor_of_name pn_131) hisR ?_
  intro p e s m args below meth cC s₁ Bd hml0 hP hK
  obtain ⟨rfl, hZ, hh⟩ := hP
  have hx := Bd.exec
  have hby := Bd.bytes
  have hml : cC.maxLocals = 7 := hml0
  have hown : s.vm.findClass "java/lang/StringUTF16" = some m.cls := findClass_of_methodNamed Bd.named
  have hnm := (name_of_methodNamed Bd.named Bd.method).1
  have X0 : Stand p l e ({ frames := 0, cells := 0, slots := 0, locals := 0 } : Room) s m #[(.ref ar), (.int (0 : Int32)), (.ref yb), (.int (0 : Int32)), (.int (1 : Int32))] below meth cC s₁ [] 0 0 := Stand.of_body Bd
  have e0 : s₁.heap = h0 := by rw [← hh, Bd.state]; rfl
  have N0 := Fr.nil n0
  show OwnFin p e below (R51a Z ar yb k kb c0 h0 n0 s) (s₁.setTop (entryFrame m #[(.ref ar), (.int (0 : Int32)), (.ref yb), (.int (0 : Int32)), (.int (1 : Int32))] 7))
  rw [ef_51a m ar yb]
  refine OwnFin.step (fun tT kK => XS.iconst X0.here hx rfl (hb hby d_jdk_52_method_21_0) kK) ?_
  show OwnFin p e below _ (s₁.setTop (mkF m 1 #[.val (.ref ar), .val (.int (0 : Int32)), .val (.ref yb), .val (.int (0 : Int32)), .val (.int (1 : Int32)), .unset, .unset] [(.int (0 : Int32))]))
  refine OwnFin.step (fun tT kK => XS.istore X0.here hx rfl (hb hby d_jdk_52_method_21_1) rfl (l' := #[.val (.ref ar), .val (.int (0 : Int32)), .val (.ref yb), .val (.int (0 : Int32)), .val (.int (1 : Int32)), .val (.int (0 : Int32)), .unset]) rfl kK) ?_
  show OwnFin p e below _ (s₁.setTop (mkF m 3 #[.val (.ref ar), .val (.int (0 : Int32)), .val (.ref yb), .val (.int (0 : Int32)), .val (.int (1 : Int32)), .val (.int (0 : Int32)), .unset] []))
  refine OwnFin.step (fun tT kK => XS.iload X0.here hx rfl (hb hby d_jdk_52_method_21_3) rfl kK) ?_
  show OwnFin p e below _ (s₁.setTop (mkF m 5 #[.val (.ref ar), .val (.int (0 : Int32)), .val (.ref yb), .val (.int (0 : Int32)), .val (.int (1 : Int32)), .val (.int (0 : Int32)), .unset] [(.int (0 : Int32))]))
  refine OwnFin.step (fun tT kK => XS.iload X0.here hx rfl (hb hby d_jdk_52_method_21_5) rfl kK) ?_
  show OwnFin p e below _ (s₁.setTop (mkF m 7 #[.val (.ref ar), .val (.int (0 : Int32)), .val (.ref yb), .val (.int (0 : Int32)), .val (.int (1 : Int32)), .val (.int (0 : Int32)), .unset] [(.int (1 : Int32)), (.int (0 : Int32))]))
  refine OwnFin.step (fun tT kK => XS.icmpNo X0.here hx rfl (hb hby d_jdk_52_method_21_7) rfl (tlt (by decide : (0 : Int32) < (1 : Int32))).2.1 kK) ?_
  show OwnFin p e below _ (s₁.setTop (mkF m 10 #[.val (.ref ar), .val (.int (0 : Int32)), .val (.ref yb), .val (.int (0 : Int32)), .val (.int (1 : Int32)), .val (.int (0 : Int32)), .unset] []))
  refine OwnFin.step (fun tT kK => XS.aloadN X0.here hx rfl (hb hby d_jdk_52_method_21_10) rfl rfl kK) ?_
  show OwnFin p e below _ (s₁.setTop (mkF m 11 #[.val (.ref ar), .val (.int (0 : Int32)), .val (.ref yb), .val (.int (0 : Int32)), .val (.int (1 : Int32)), .val (.int (0 : Int32)), .unset] [(.ref ar)]))
  refine OwnFin.step (fun tT kK => XS.iloadN X0.here hx rfl (hb hby d_jdk_52_method_21_11) rfl kK) ?_
  show OwnFin p e below _ (s₁.setTop (mkF m 12 #[.val (.ref ar), .val (.int (0 : Int32)), .val (.ref yb), .val (.int (0 : Int32)), .val (.int (1 : Int32)), .val (.int (0 : Int32)), .unset] [(.int (0 : Int32)), (.ref ar)]))
  obtain ⟨cl1, Ar1, q1, Sz1, Ng1, H1, G1⟩ := id hp0
  have hin1 : ¬ ((0 : Int32) < 0 ∨ cl1.slots.size ≤ ((0 : Int32)).toNatClampNeg) := inb_of Sz1 ⟨by decide, by decide⟩
  refine OwnFin.step (fun tT kK => X0.caload hx (j := (0 : Int32)) (v := (.int c0)) (by rw [e0]; exact Ar1.1) (State.isArrayOf_alike hZ.alike Ar1.2.1) Ar1.2.2 hin1 (H1.at hin1 rfl) (g := (mkF m 12 #[.val (.ref ar), .val (.int (0 : Int32)), .val (.ref yb), .val (.int (0 : Int32)), .val (.int (1 : Int32)), .val (.int (0 : Int32)), .unset] [(.int (0 : Int32)), (.ref ar)])) rfl rfl (hb hby d_jdk_52_method_21_12) _ kK) ?_
  show OwnFin p e below _ (s₁.setTop (mkF m 13 #[.val (.ref ar), .val (.int (0 : Int32)), .val (.ref yb), .val (.int (0 : Int32)), .val (.int (1 : Int32)), .val (.int (0 : Int32)), .unset] [(.int c0)]))
  refine OwnFin.step (fun tT kK => XS.istore X0.here hx rfl (hb hby d_jdk_52_method_21_13) rfl (l' := #[.val (.ref ar), .val (.int (0 : Int32)), .val (.ref yb), .val (.int (0 : Int32)), .val (.int (1 : Int32)), .val (.int (0 : Int32)), .val (.int c0)]) rfl kK) ?_
  show OwnFin p e below _ (s₁.setTop (mkF m 15 #[.val (.ref ar), .val (.int (0 : Int32)), .val (.ref yb), .val (.int (0 : Int32)), .val (.int (1 : Int32)), .val (.int (0 : Int32)), .val (.int c0)] []))
  refine OwnFin.step (fun tT kK => XS.iload X0.here hx rfl (hb hby d_jdk_52_method_21_15) rfl kK) ?_
  show OwnFin p e below _ (s₁.setTop (mkF m 17 #[.val (.ref ar), .val (.int (0 : Int32)), .val (.ref yb), .val (.int (0 : Int32)), .val (.int (1 : Int32)), .val (.int (0 : Int32)), .val (.int c0)] [(.int c0)]))
  refine OwnFin.step (fun tT kK => XS.sipush X0.here hx rfl (hb hby d_jdk_52_method_21_17) kK) ?_
  show OwnFin p e below _ (s₁.setTop (mkF m 20 #[.val (.ref ar), .val (.int (0 : Int32)), .val (.ref yb), .val (.int (0 : Int32)), .val (.int (1 : Int32)), .val (.int (0 : Int32)), .val (.int c0)] [(.int (255 : Int32)), (.int c0)]))
  refine OwnFin.step (fun tT kK => XS.icmpYes X0.here hx rfl (pc0 := 20) (pc' := 26) rfl (hb hby d_jdk_52_method_21_20) rfl (flt (hp2 : ¬ ((255 : Int32) < c0))).2.2.2 (by decide) (by decide) kK) ?_
  show OwnFin p e below _ (s₁.setTop (mkF m 26 #[.val (.ref ar), .val (.int (0 : Int32)), .val (.ref yb), .val (.int (0 : Int32)), .val (.int (1 : Int32)), .val (.int (0 : Int32)), .val (.int c0)] []))
  refine OwnFin.step (fun tT kK => XS.aloadN X0.here hx rfl (hb hby d_jdk_52_method_21_26) rfl rfl kK) ?_
  show OwnFin p e below _ (s₁.setTop (mkF m 27 #[.val (.ref ar), .val (.int (0 : Int32)), .val (.ref yb), .val (.int (0 : Int32)), .val (.int (1 : Int32)), .val (.int (0 : Int32)), .val (.int c0)] [(.ref yb)]))
  refine OwnFin.step (fun tT kK => XS.iloadN X0.here hx rfl (hb hby d_jdk_52_method_21_27) rfl kK) ?_
  show OwnFin p e below _ (s₁.setTop (mkF m 28 #[.val (.ref ar), .val (.int (0 : Int32)), .val (.ref yb), .val (.int (0 : Int32)), .val (.int (1 : Int32)), .val (.int (0 : Int32)), .val (.int c0)] [(.int (0 : Int32)), (.ref yb)]))
  refine OwnFin.step (fun tT kK => XS.iload X0.here hx rfl (hb hby d_jdk_52_method_21_28) rfl kK) ?_
  show OwnFin p e below _ (s₁.setTop (mkF m 30 #[.val (.ref ar), .val (.int (0 : Int32)), .val (.ref yb), .val (.int (0 : Int32)), .val (.int (1 : Int32)), .val (.int (0 : Int32)), .val (.int c0)] [(.int c0), (.int (0 : Int32)), (.ref yb)]))
  refine OwnFin.step (fun tT kK => XS.i2b X0.here hx rfl (hb hby d_jdk_52_method_21_30) rfl kK) ?_
  show OwnFin p e below _ (s₁.setTop (mkF m 31 #[.val (.ref ar), .val (.int (0 : Int32)), .val (.ref yb), .val (.int (0 : Int32)), .val (.int (1 : Int32)), .val (.int (0 : Int32)), .val (.int c0)] [(.int (c0.toInt8.toInt32)), (.int (0 : Int32)), (.ref yb)]))
  obtain ⟨cl2, Ar2, q2, Sz2, Ng2, H2, G2⟩ := id hp1
  have hin2 : ¬ ((0 : Int32) < 0 ∨ cl2.slots.size ≤ ((0 : Int32)).toNatClampNeg) := inb_of Sz2 ⟨by decide, by decide⟩
  obtain ⟨T3, h3, X3, e3, W3, st3⟩ := stB X0 hx hZ e0 Ar2 (j := (0 : Int32)) hin2 (g := (mkF m 31 #[.val (.ref ar), .val (.int (0 : Int32)), .val (.ref yb), .val (.int (0 : Int32)), .val (.int (1 : Int32)), .val (.int (0 : Int32)), .val (.int c0)] [(.int (c0.toInt8.toInt32)), (.int (0 : Int32)), (.ref yb)])) rfl rfl (hb hby d_jdk_52_method_21_31)
  refine OwnFin.step st3 ?_
  have N3 := Fr.snoc X3 N0 hp3
  have V3 : Arv Z h3 yb kb .byte (1 : Int32) [(.int (nar .byte (c0.toInt8.toInt32)))] (.int (0 : Int32)) := Arv.set Ar2 q2 Sz2 Ng2 H2 G2 (fits_nar_byte _) W3 0 rfl (Nat.le_of_ble_eq_true rfl)
  show OwnFin p e below _ (T3.setTop (mkF m 32 #[.val (.ref ar), .val (.int (0 : Int32)), .val (.ref yb), .val (.int (0 : Int32)), .val (.int (1 : Int32)), .val (.int (0 : Int32)), .val (.int c0)] []))
  refine OwnFin.step (fun tT kK => XS.iinc X3.here hx rfl (hb hby d_jdk_52_method_21_32) rfl (l' := #[.val (.ref ar), .val (.int (1 : Int32)), .val (.ref yb), .val (.int (0 : Int32)), .val (.int (1 : Int32)), .val (.int (0 : Int32)), .val (.int c0)]) rfl kK) ?_
  show OwnFin p e below _ (T3.setTop (mkF m 35 #[.val (.ref ar), .val (.int (1 : Int32)), .val (.ref yb), .val (.int (0 : Int32)), .val (.int (1 : Int32)), .val (.int (0 : Int32)), .val (.int c0)] []))
  refine OwnFin.step (fun tT kK => XS.iinc X3.here hx rfl (hb hby d_jdk_52_method_21_35) rfl (l' := #[.val (.ref ar), .val (.int (1 : Int32)), .val (.ref yb), .val (.int (1 : Int32)), .val (.int (1 : Int32)), .val (.int (0 : Int32)), .val (.int c0)]) rfl kK) ?_
  show OwnFin p e below _ (T3.setTop (mkF m 38 #[.val (.ref ar), .val (.int (1 : Int32)), .val (.ref yb), .val (.int (1 : Int32)), .val (.int (1 : Int32)), .val (.int (0 : Int32)), .val (.int c0)] []))
  refine OwnFin.step (fun tT kK => XS.iinc X3.here hx rfl (hb hby d_jdk_52_method_21_38) rfl (l' := #[.val (.ref ar), .val (.int (1 : Int32)), .val (.ref yb), .val (.int (1 : Int32)), .val (.int (1 : Int32)), .val (.int (1 : Int32)), .val (.int c0)]) rfl kK) ?_
  show OwnFin p e below _ (T3.setTop (mkF m 41 #[.val (.ref ar), .val (.int (1 : Int32)), .val (.ref yb), .val (.int (1 : Int32)), .val (.int (1 : Int32)), .val (.int (1 : Int32)), .val (.int c0)] []))
  refine OwnFin.step (fun tT kK => XS.goto X3.here hx rfl (pc0 := 41) (pc' := 3) rfl (hb hby d_jdk_52_method_21_41) (by decide) (by decide) kK) ?_
  show OwnFin p e below _ (T3.setTop (mkF m 3 #[.val (.ref ar), .val (.int (1 : Int32)), .val (.ref yb), .val (.int (1 : Int32)), .val (.int (1 : Int32)), .val (.int (1 : Int32)), .val (.int c0)] []))
  refine OwnFin.step (fun tT kK => XS.iload X3.here hx rfl (hb hby d_jdk_52_method_21_3) rfl kK) ?_
  show OwnFin p e below _ (T3.setTop (mkF m 5 #[.val (.ref ar), .val (.int (1 : Int32)), .val (.ref yb), .val (.int (1 : Int32)), .val (.int (1 : Int32)), .val (.int (1 : Int32)), .val (.int c0)] [(.int (1 : Int32))]))
  refine OwnFin.step (fun tT kK => XS.iload X3.here hx rfl (hb hby d_jdk_52_method_21_5) rfl kK) ?_
  show OwnFin p e below _ (T3.setTop (mkF m 7 #[.val (.ref ar), .val (.int (1 : Int32)), .val (.ref yb), .val (.int (1 : Int32)), .val (.int (1 : Int32)), .val (.int (1 : Int32)), .val (.int c0)] [(.int (1 : Int32)), (.int (1 : Int32))]))
  refine OwnFin.step (fun tT kK => XS.icmpYes X3.here hx rfl (pc0 := 7) (pc' := 44) rfl (hb hby d_jdk_52_method_21_7) rfl (flt (by decide : ¬ ((1 : Int32) < (1 : Int32)))).2.1 (by decide) (by decide) kK) ?_
  show OwnFin p e below _ (T3.setTop (mkF m 44 #[.val (.ref ar), .val (.int (1 : Int32)), .val (.ref yb), .val (.int (1 : Int32)), .val (.int (1 : Int32)), .val (.int (1 : Int32)), .val (.int c0)] []))
  refine OwnFin.step (fun tT kK => XS.iload X3.here hx rfl (hb hby d_jdk_52_method_21_44) rfl kK) ?_
  show OwnFin p e below _ (T3.setTop (mkF m 46 #[.val (.ref ar), .val (.int (1 : Int32)), .val (.ref yb), .val (.int (1 : Int32)), .val (.int (1 : Int32)), .val (.int (1 : Int32)), .val (.int c0)] [(.int (1 : Int32))]))
  obtain ⟨fs4, hr4, hrun4, hended4, hW4, hsame4⟩ := X3.leave (v := (some (.int (1 : Int32)))) (fun h => by rw [Bd.returns] at h; cases h)
  refine ⟨_, _, retOut X3 hx Bd.returns rfl (Or.inl ⟨rfl, Or.inl rfl, _, rfl⟩) (hb hby d_jdk_52_method_21_46) hr4, hrun4, hended4, _, _, rfl, ?_, ⟨_, rfl⟩, hW4, hsame4.mono (by decide) (by decide)⟩
  show Q51a Z ar yb k kb c0 h0 n0 _ T3.heap _
  rw [e3]
  exact ⟨rfl, N3, ((Keep.refl h0 [yb]).wr W3 (Or.inl (List.mem_of_getElem? (i := 0) rfl))), V3⟩
theorem d_jdk_52_method_16_0 : decode jdk_52_method_16_code 0 = .ok (.iload_n 2, 1) := by decide +kernel
theorem d_jdk_52_method_16_1 : decode jdk_52_method_16_code 1 = .ok (.newarray .byte, 2) := by decide +kernel
theorem d_jdk_52_method_16_3 : decode jdk_52_method_16_code 3 = .ok (.astore_n 3, 1) := by decide +kernel
theorem d_jdk_52_method_16_4 : decode jdk_52_method_16_code 4 = .ok (.aload_n 0, 1) := by decide +kernel
theorem d_jdk_52_method_16_5 : decode jdk_52_method_16_code 5 = .ok (.iload_n 1, 1) := by decide +kernel
theorem d_jdk_52_method_16_6 : decode jdk_52_method_16_code 6 = .ok (.aload_n 3, 1) := by decide +kernel
theorem d_jdk_52_method_16_7 : decode jdk_52_method_16_code 7 = .ok (.iconst 0, 1) := by decide +kernel
theorem d_jdk_52_method_16_8 : decode jdk_52_method_16_code 8 = .ok (.iload_n 2, 1) := by decide +kernel
theorem d_jdk_52_method_16_9 : decode jdk_52_method_16_code 9 = .ok (.invokestatic 115, 3) := by decide +kernel
theorem pd_164 : parseMethodDescriptor "([CI[BII)I" = some ⟨[(.array .char), .int, (.array .byte), .int, .int], some .int⟩ := by decide +kernel
theorem d_jdk_52_method_16_12 : decode jdk_52_method_16_code 12 = .ok (.istore 4, 2) := by decide +kernel
theorem d_jdk_52_method_16_14 : decode jdk_52_method_16_code 14 = .ok (.iload 4, 2) := by decide +kernel
theorem d_jdk_52_method_16_16 : decode jdk_52_method_16_code 16 = .ok (.iload_n 2, 1) := by decide +kernel
theorem d_jdk_52_method_16_17 : decode jdk_52_method_16_code 17 = .ok (.if_icmp .eq 40, 3) := by decide +kernel
theorem d_jdk_52_method_16_57 : decode jdk_52_method_16_code 57 = .ok (.aload_n 3, 1) := by decide +kernel
theorem d_jdk_52_method_16_58 : decode jdk_52_method_16_code 58 = .ok (.areturn, 1) := by decide +kernel
theorem ef_51b (m : MethodId) (ar : Addr) : entryFrame m #[(.ref ar), (.int (0 : Int32)), (.int (1 : Int32))] 6 = mkF m 0 #[.val (.ref ar), .val (.int (0 : Int32)), .val (.int (1 : Int32)), .unset, .unset, .unset] [] := by first | (simp [entryFrame, mkF, argsToLocals, Value.category]; done) | rfl
def Q51b (Z : State) (ar : Addr) (k : ClassId) (c0 : Int32) (h0 : Heap) (n0 : Nat) (vV : Option Value) (hH : Heap) (LL : List Loc) : Prop := ∃ b : Addr, ∃ kb : ClassId, vV = some (.ref b) ∧ Fr n0 LL ∧ Keep h0 hH [] ∧ h0.size ≤ b ∧ (Arv Z hH b kb .byte (1 : Int32) [(.int (nar .byte (c0.toInt8.toInt32)))] (.int (0 : Int32)))
def R51b (Z : State) (ar : Addr) (k : ClassId) (c0 : Int32) (h0 : Heap) (n0 : Nat) (U : State) (o : Outcome) (U' : State) : Prop := ∃ vV LL, o = .returned vV ∧ Q51b Z ar k c0 h0 n0 vV U'.heap LL ∧ FrameEnd U o U' LL ({ frames := 1, cells := 1, slots := 1, locals := 18 } : Room).cells ({ frames := 1, cells := 1, slots := 1, locals := 18 } : Room).slots
set_option maxRecDepth 65536 in
set_option maxHeartbeats 40000000 in
theorem rm51b (l : Launch) (Z : State) (a0 : Array Value) (hw : ∀ d ∈ tables_1, d.before a0 Z = true) (hEL : EW Z a0 OwnEL) (wS : ∀ a ∈ Bundle.stringAtoms, a.before a0 Z = true) (ws : List Jvm.Cond) (ar : Addr) (k : ClassId) (c0 : Int32) (h0 : Heap) (n0 : Nat) (Z0 : n0 ≤ h0.size) (hp0 : Arv Z h0 ar k .char (1 : Int32) [(.int c0)] (.int (0 : Int32))) (hp1 : ¬ (255 : Int32) < c0) :
    MetFree l (⟨"java/lang/StringUTF16", "compress", "([CII)[B"⟩ : MethodName) (head1 (Jvm.Cond.code (⟨"java/lang/StringUTF16", "compress", "([CII)[B"⟩ : MethodName) jdk_52_method_16_code 6 (some (.array .byte)) :: ws) ({ frames := 1, cells := 1, slots := 1, locals := 18 } : Room)) (fun aA U => aA = #[(.ref ar), (.int (0 : Int32)), (.int (1 : Int32))] ∧ Z.Warmed39 U.vm ∧ U.heap = h0) (fun _ _ _ _ _ => True) (fun _ U o U' => ∃ vV LL, o = .returned vV ∧ Q51b Z ar k c0 h0 n0 vV U'.heap LL ∧ FrameEnd U o U' LL ({ frames := 1, cells := 1, slots := 1, locals := 18 } : Room).cells ({ frames := 1, cells := 1, slots := 1, locals := 18 } : Room).slots) := by
  refine MetFree.of_bodySF (plainFor_of_name pn_131) hisR ?_
  intro p e s m args below meth cC s₁ Bd hml0 hP hK
  obtain ⟨rfl, hZ, hh⟩ := hP
  have hx := Bd.exec
  have hby := Bd.bytes
  have hml : cC.maxLocals = 6 := hml0
  have hown : s.vm.findClass "java/lang/StringUTF16" = some m.cls := findClass_of_methodNamed Bd.named
  have hnm := (name_of_methodNamed Bd.named Bd.method).1
  have X0 : Stand p l e ({ frames := 1, cells := 1, slots := 1, locals := 18 } : Room) s m #[(.ref ar), (.int (0 : Int32)), (.int (1 : Int32))] below meth cC s₁ [] 0 0 := Stand.of_body Bd
  have e0 : s₁.heap = h0 := by rw [← hh, Bd.state]; rfl
  have N0 := Fr.nil n0
  show OwnFin p e below (R51b Z ar k c0 h0 n0 s) (s₁.setTop (entryFrame m #[(.ref ar), (.int (0 : Int32)), (.int (1 : Int32))] 6))
  rw [ef_51b m ar]
  refine OwnFin.step (fun tT kK => XS.iloadN X0.here hx rfl (hb hby d_jdk_52_method_16_0) rfl kK) ?_
  show OwnFin p e below _ (s₁.setTop (mkF m 1 #[.val (.ref ar), .val (.int (0 : Int32)), .val (.int (1 : Int32)), .unset, .unset, .unset] [(.int (1 : Int32))]))
  obtain ⟨T1, h1, k1, X1, e1, E1, A1, st1⟩ := newP X0 hx hZ (hw _ (List.mem_of_getElem? (i := 23) rfl)) e0 (g := (mkF m 1 #[.val (.ref ar), .val (.int (0 : Int32)), .val (.int (1 : Int32)), .unset, .unset, .unset] [(.int (1 : Int32))])) rfl (hb hby d_jdk_52_method_16_1) rfl (by decide) (cap := 1) (by decide) (by decide) (by decide) (by decide)
  obtain ⟨b1, g1⟩ : ∃ z, z = h0.size := ⟨_, rfl⟩
  rw [← g1] at A1 st1
  refine OwnFin.step st1 ?_
  have V1 : Arv Z h1 b1 k1 .byte (1 : Int32) [(.int (0 : Int32))] (.int (0 : Int32)) := (Arv.new A1 (by decide)).pad (pad_rep [] (.int (0 : Int32)) 1)
  show OwnFin p e below _ (T1.setTop (mkF m 3 #[.val (.ref ar), .val (.int (0 : Int32)), .val (.int (1 : Int32)), .unset, .unset, .unset] [(.ref b1)]))
  refine OwnFin.step (fun tT kK => XS.astoreN X1.here hx rfl (hb hby d_jdk_52_method_16_3) rfl rfl (l' := #[.val (.ref ar), .val (.int (0 : Int32)), .val (.int (1 : Int32)), .val (.ref b1), .unset, .unset]) rfl kK) ?_
  show OwnFin p e below _ (T1.setTop (mkF m 4 #[.val (.ref ar), .val (.int (0 : Int32)), .val (.int (1 : Int32)), .val (.ref b1), .unset, .unset] []))
  refine OwnFin.step (fun tT kK => XS.aloadN X1.here hx rfl (hb hby d_jdk_52_method_16_4) rfl rfl kK) ?_
  show OwnFin p e below _ (T1.setTop (mkF m 5 #[.val (.ref ar), .val (.int (0 : Int32)), .val (.int (1 : Int32)), .val (.ref b1), .unset, .unset] [(.ref ar)]))
  refine OwnFin.step (fun tT kK => XS.iloadN X1.here hx rfl (hb hby d_jdk_52_method_16_5) rfl kK) ?_
  show OwnFin p e below _ (T1.setTop (mkF m 6 #[.val (.ref ar), .val (.int (0 : Int32)), .val (.int (1 : Int32)), .val (.ref b1), .unset, .unset] [(.int (0 : Int32)), (.ref ar)]))
  refine OwnFin.step (fun tT kK => XS.aloadN X1.here hx rfl (hb hby d_jdk_52_method_16_6) rfl rfl kK) ?_
  show OwnFin p e below _ (T1.setTop (mkF m 7 #[.val (.ref ar), .val (.int (0 : Int32)), .val (.int (1 : Int32)), .val (.ref b1), .unset, .unset] [(.ref b1), (.int (0 : Int32)), (.ref ar)]))
  refine OwnFin.step (fun tT kK => XS.iconst X1.here hx rfl (hb hby d_jdk_52_method_16_7) kK) ?_
  show OwnFin p e below _ (T1.setTop (mkF m 8 #[.val (.ref ar), .val (.int (0 : Int32)), .val (.int (1 : Int32)), .val (.ref b1), .unset, .unset] [(.int (0 : Int32)), (.ref b1), (.int (0 : Int32)), (.ref ar)]))
  refine OwnFin.step (fun tT kK => XS.iloadN X1.here hx rfl (hb hby d_jdk_52_method_16_8) rfl kK) ?_
  show OwnFin p e below _ (T1.setTop (mkF m 9 #[.val (.ref ar), .val (.int (0 : Int32)), .val (.int (1 : Int32)), .val (.ref b1), .unset, .unset] [(.int (1 : Int32)), (.int (0 : Int32)), (.ref b1), (.int (0 : Int32)), (.ref ar)]))
  have f2 : Arv Z h1 ar k .char (1 : Int32) [(.int c0)] (.int (0 : Int32)) := (hp0.ext E1)
  obtain ⟨_, _, ⟨T3, L3, k3, n3⟩, -, X3, ⟨Lc3, hQ3, l3, y3, z3⟩, st3⟩ := Jvm.LawKit.callS X1 hx (y := (⟨"java/lang/StringUTF16", "compress", "([CI[BII)I"⟩ : MethodName)) hown (mvT hZ (hw _ (List.mem_of_getElem? (i := 24) rfl))) (mvT hZ (hw _ (List.mem_of_getElem? (i := 25) rfl))) (mvT hZ (hw _ (List.mem_of_getElem? (i := 21) rfl))) (mvT hZ (hw _ (List.mem_of_getElem? (i := 26) rfl))) (by decide) (backOf (W := 0) (rm51a l Z a0 hw hEL wS [] ar b1 k k1 c0 h1 n0 (Nat.le_trans Z0 E1.1) f2 V1 (hp1) (Nat.le_trans Z0 (Nat.le_of_eq g1.symm)) (Nat.ne_of_lt (Nat.lt_of_lt_of_le (Nat.lt_of_lt_of_le hp0.lt (Nat.le_refl _)) (Nat.le_of_eq g1.symm)))) hZ (hw _ (List.mem_of_getElem? (i := 26) rfl)) (hw _ (List.mem_of_getElem? (i := 21) rfl)) (by decide) (by decide)) (g := (mkF m 9 #[.val (.ref ar), .val (.int (0 : Int32)), .val (.int (1 : Int32)), .val (.ref b1), .unset, .unset] [(.int (1 : Int32)), (.int (0 : Int32)), (.ref b1), (.int (0 : Int32)), (.ref ar)])) rfl (by rw [hml]; rfl) (argsL := [(.ref ar), (.int (0 : Int32)), (.ref b1), (.int (0 : Int32)), (.int (1 : Int32))]) (rest := []) (lenOf pd_164 rfl) rfl (by show 2 * 0 + _ ≤ _; exact Nat.le_of_eq rfl) (hb hby d_jdk_52_method_16_9) (fun _ _ => ⟨rfl, e1, (by decide : 1 + 0 ≤ _), (by decide : 1 + 0 ≤ _)⟩)
  dsimp only [Pt.U, Pt.locs, Pt.cells, Pt.slots] at X3 l3 y3 z3 st3 hQ3
  subst l3 y3 z3
  obtain ⟨rfl, N3q, K3, P3_0⟩ := hQ3
  have N3 := Fr.app N0 N3q
  refine OwnFin.step st3 ?_
  show OwnFin p e below _ (T3.setTop (mkF m 12 #[.val (.ref ar), .val (.int (0 : Int32)), .val (.int (1 : Int32)), .val (.ref b1), .unset, .unset] [(.int (1 : Int32))]))
  refine OwnFin.step (fun tT kK => XS.istore X3.here hx rfl (hb hby d_jdk_52_method_16_12) rfl (l' := #[.val (.ref ar), .val (.int (0 : Int32)), .val (.int (1 : Int32)), .val (.ref b1), .val (.int (1 : Int32)), .unset]) rfl kK) ?_
  show OwnFin p e below _ (T3.setTop (mkF m 14 #[.val (.ref ar), .val (.int (0 : Int32)), .val (.int (1 : Int32)), .val (.ref b1), .val (.int (1 : Int32)), .unset] []))
  refine OwnFin.step (fun tT kK => XS.iload X3.here hx rfl (hb hby d_jdk_52_method_16_14) rfl kK) ?_
  show OwnFin p e below _ (T3.setTop (mkF m 16 #[.val (.ref ar), .val (.int (0 : Int32)), .val (.int (1 : Int32)), .val (.ref b1), .val (.int (1 : Int32)), .unset] [(.int (1 : Int32))]))
  refine OwnFin.step (fun tT kK => XS.iloadN X3.here hx rfl (hb hby d_jdk_52_method_16_16) rfl kK) ?_
  show OwnFin p e below _ (T3.setTop (mkF m 17 #[.val (.ref ar), .val (.int (0 : Int32)), .val (.int (1 : Int32)), .val (.ref b1), .val (.int (1 : Int32)), .unset] [(.int (1 : Int32)), (.int (1 : Int32))]))
  refine OwnFin.step (fun tT kK => XS.icmpYes X3.here hx rfl (pc0 := 17) (pc' := 57) rfl (hb hby d_jdk_52_method_16_17) rfl (teq (rfl : (1 : Int32) = (1 : Int32))).1 (by decide) (by decide) kK) ?_
  show OwnFin p e below _ (T3.setTop (mkF m 57 #[.val (.ref ar), .val (.int (0 : Int32)), .val (.int (1 : Int32)), .val (.ref b1), .val (.int (1 : Int32)), .unset] []))
  refine OwnFin.step (fun tT kK => XS.aloadN X3.here hx rfl (hb hby d_jdk_52_method_16_57) rfl rfl kK) ?_
  show OwnFin p e below _ (T3.setTop (mkF m 58 #[.val (.ref ar), .val (.int (0 : Int32)), .val (.int (1 : Int32)), .val (.ref b1), .val (.int (1 : Int32)), .unset] [(.ref b1)]))
  obtain ⟨fs4, hr4, hrun4, hended4, hW4, hsame4⟩ := X3.leave (v := (some (.ref b1))) (fun h => by rw [Bd.returns] at h; cases h)
  refine ⟨_, _, retOut X3 hx Bd.returns rfl (Or.inr (Or.inr (Or.inr (Or.inr ⟨rfl, rfl, rfl⟩)))) (hb hby d_jdk_52_method_16_58) hr4, hrun4, hended4, _, _, rfl, ?_, ⟨_, rfl⟩, hW4, hsame4.mono (by decide) (by decide)⟩
  show Q51b Z ar k c0 h0 n0 _ T3.heap _
  exact ⟨b1, k1, rfl, N3, (((Keep.refl h0 []).ext E1).trans K3 (allS (P := fun x => x ∈ [] ∨ h0.size ≤ x) (Or.inr (Nat.le_trans (Nat.le_refl _) (Nat.le_of_eq g1.symm))) all0)), (Nat.le_trans (Nat.le_refl _) (Nat.le_of_eq g1.symm)), P3_0⟩
theorem d_jdk_52_method_15_0 : decode jdk_52_method_15_code 0 = .ok (.iload_n 1, 1) := by decide +kernel
theorem d_jdk_52_method_15_1 : decode jdk_52_method_15_code 1 = .ok (.aload_n 0, 1) := by decide +kernel
theorem d_jdk_52_method_15_2 : decode jdk_52_method_15_code 2 = .ok (.arraylength, 1) := by decide +kernel
theorem d_jdk_52_method_15_3 : decode jdk_52_method_15_code 3 = .ok (.isub, 1) := by decide +kernel
theorem d_jdk_52_method_15_4 : decode jdk_52_method_15_code 4 = .ok (.bipush 31, 2) := by decide +kernel
theorem d_jdk_52_method_15_6 : decode jdk_52_method_15_code 6 = .ok (.iushr, 1) := by decide +kernel
theorem d_jdk_52_method_15_7 : decode jdk_52_method_15_code 7 = .ok (.i2b, 1) := by decide +kernel
theorem d_jdk_52_method_15_8 : decode jdk_52_method_15_code 8 = .ok (.ireturn, 1) := by decide +kernel
theorem ef_51c (m : MethodId) (b : Addr) : entryFrame m #[(.ref b), (.int (1 : Int32))] 2 = mkF m 0 #[.val (.ref b), .val (.int (1 : Int32))] [] := by first | (simp [entryFrame, mkF, argsToLocals, Value.category]; done) | rfl
def Q51c (Z : State) (b : Addr) (kb : ClassId) (c0 : Int32) (h0 : Heap) (n0 : Nat) (vV : Option Value) (hH : Heap) (LL : List Loc) : Prop := vV = some (.int (0 : Int32)) ∧ Fr n0 LL ∧ hH = h0
def R51c (Z : State) (b : Addr) (kb : ClassId) (c0 : Int32) (h0 : Heap) (n0 : Nat) (U : State) (o : Outcome) (U' : State) : Prop := ∃ vV LL, o = .returned vV ∧ Q51c Z b kb c0 h0 n0 vV U'.heap LL ∧ FrameEnd U o U' LL ({ frames := 0, cells := 0, slots := 0, locals := 0 } : Room).cells ({ frames := 0, cells := 0, slots := 0, locals := 0 } : Room).slots
set_option maxRecDepth 65536 in
set_option maxHeartbeats 40000000 in
theorem rm51c (l : Launch) (Z : State) (a0 : Array Value) (hw : ∀ d ∈ tables_1, d.before a0 Z = true) (hEL : EW Z a0 OwnEL) (wS : ∀ a ∈ Bundle.stringAtoms, a.before a0 Z = true) (ws : List Jvm.Cond) (b : Addr) (kb : ClassId) (c0 : Int32) (h0 : Heap) (n0 : Nat) (Z0 : n0 ≤ h0.size) (hp0 : Arv Z h0 b kb .byte (1 : Int32) [(.int (nar .byte (c0.toInt8.toInt32)))] (.int (0 : Int32))) :
    MetFree l (⟨"java/lang/StringUTF16", "coderFromArrayLen", "([BI)B"⟩ : MethodName) (head1 (Jvm.Cond.code (⟨"java/lang/StringUTF16", "coderFromArrayLen", "([BI)B"⟩ : MethodName) jdk_52_method_15_code 2 (some .byte) :: ws) ({ frames := 0, cells := 0, slots := 0, locals := 0 } : Room)) (fun aA U => aA = #[(.ref b), (.int (1 : Int32))] ∧ Z.Warmed39 U.vm ∧ U.heap = h0) (fun _ _ _ _ _ => True) (fun _ U o U' => ∃ vV LL, o = .returned vV ∧ Q51c Z b kb c0 h0 n0 vV U'.heap LL ∧ FrameEnd U o U' LL ({ frames := 0, cells := 0, slots := 0, locals := 0 } : Room).cells ({ frames := 0, cells := 0, slots := 0, locals := 0 } : Room).slots) := by
  refine MetFree.of_bodySF (plainFor_of_name pn_131) hisR ?_
  intro p e s m args below meth cC s₁ Bd hml0 hP hK
  obtain ⟨rfl, hZ, hh⟩ := hP
  have hx := Bd.exec
  have hby := Bd.bytes
  have hml : cC.maxLocals = 2 := hml0
  have hown : s.vm.findClass "java/lang/StringUTF16" = some m.cls := findClass_of_methodNamed Bd.named
  have hnm := (name_of_methodNamed Bd.named Bd.method).1
  have X0 : Stand p l e ({ frames := 0, cells := 0, slots := 0, locals := 0 } : Room) s m #[(.ref b), (.int (1 : Int32))] below meth cC s₁ [] 0 0 := Stand.of_body Bd
  have e0 : s₁.heap = h0 := by rw [← hh, Bd.state]; rfl
  have N0 := Fr.nil n0
  show OwnFin p e below (R51c Z b kb c0 h0 n0 s) (s₁.setTop (entryFrame m #[(.ref b), (.int (1 : Int32))] 2))
  rw [ef_51c m b]
  refine OwnFin.step (fun tT kK => XS.iloadN X0.here hx rfl (hb hby d_jdk_52_method_15_0) rfl kK) ?_
  show OwnFin p e below _ (s₁.setTop (mkF m 1 #[.val (.ref b), .val (.int (1 : Int32))] [(.int (1 : Int32))]))
  refine OwnFin.step (fun tT kK => XS.aloadN X0.here hx rfl (hb hby d_jdk_52_method_15_1) rfl rfl kK) ?_
  show OwnFin p e below _ (s₁.setTop (mkF m 2 #[.val (.ref b), .val (.int (1 : Int32))] [(.ref b), (.int (1 : Int32))]))
  obtain ⟨cl1, Ar1, -, Sz1, Ng1, -, -⟩ := id hp0
  refine OwnFin.step (fun tT kK => own_len X0 hx hZ e0 Ar1 Sz1 Ng1 (g := (mkF m 2 #[.val (.ref b), .val (.int (1 : Int32))] [(.ref b), (.int (1 : Int32))])) rfl rfl (hb hby d_jdk_52_method_15_2) kK) ?_
  show OwnFin p e below _ (s₁.setTop (mkF m 3 #[.val (.ref b), .val (.int (1 : Int32))] [(.int (1 : Int32)), (.int (1 : Int32))]))
  refine OwnFin.step (fun tT kK => XS.isub X0.here hx rfl (hb hby d_jdk_52_method_15_3) rfl kK) ?_
  show OwnFin p e below _ (s₁.setTop (mkF m 4 #[.val (.ref b), .val (.int (1 : Int32))] [(.int (0 : Int32))]))
  refine OwnFin.step (fun tT kK => XS.bipush X0.here hx rfl (hb hby d_jdk_52_method_15_4) kK) ?_
  show OwnFin p e below _ (s₁.setTop (mkF m 6 #[.val (.ref b), .val (.int (1 : Int32))] [(.int (31 : Int32)), (.int (0 : Int32))]))
  refine OwnFin.step (fun tT kK => XS.iushr X0.here hx rfl (hb hby d_jdk_52_method_15_6) rfl kK) ?_
  show OwnFin p e below _ (s₁.setTop (mkF m 7 #[.val (.ref b), .val (.int (1 : Int32))] [(.int (0 : Int32))]))
  refine OwnFin.step (fun tT kK => XS.i2b X0.here hx rfl (hb hby d_jdk_52_method_15_7) rfl kK) ?_
  show OwnFin p e below _ (s₁.setTop (mkF m 8 #[.val (.ref b), .val (.int (1 : Int32))] [(.int (0 : Int32))]))
  obtain ⟨fs2, hr2, hrun2, hended2, hW2, hsame2⟩ := X0.leave (v := (some (.int (0 : Int32)))) (fun h => by rw [Bd.returns] at h; cases h)
  refine ⟨_, _, retN X0 hx (t := .byte) Bd.returns (by simp) (hb hby d_jdk_52_method_15_8) hr2, hrun2, hended2, _, _, rfl, ?_, ⟨_, rfl⟩, hW2, hsame2.mono (by decide) (by decide)⟩
  show Q51c Z b kb c0 h0 n0 _ s₁.heap _
  rw [e0]
  exact ⟨rfl, N0, rfl⟩
theorem d_jdk_42_method_149_27 : decode jdk_42_method_149_code 27 = .ok (.getstatic 38, 3) := by decide +kernel
theorem d_jdk_42_method_149_30 : decode jdk_42_method_149_code 30 = .ok (.ifCond .eq 28, 3) := by decide +kernel
theorem d_jdk_42_method_149_33 : decode jdk_42_method_149_code 33 = .ok (.aload_n 1, 1) := by decide +kernel
theorem d_jdk_42_method_149_34 : decode jdk_42_method_149_code 34 = .ok (.iload_n 2, 1) := by decide +kernel
theorem d_jdk_42_method_149_35 : decode jdk_42_method_149_code 35 = .ok (.iload_n 3, 1) := by decide +kernel
theorem d_jdk_42_method_149_36 : decode jdk_42_method_149_code 36 = .ok (.invokestatic 177, 3) := by decide +kernel
theorem pd_185 : parseMethodDescriptor "([CII)[B" = some ⟨[(.array .char), .int, .int], some (.array .byte)⟩ := by decide +kernel
theorem d_jdk_42_method_149_39 : decode jdk_42_method_149_code 39 = .ok (.astore 5, 2) := by decide +kernel
theorem d_jdk_42_method_149_41 : decode jdk_42_method_149_code 41 = .ok (.aload_n 0, 1) := by decide +kernel
theorem d_jdk_42_method_149_42 : decode jdk_42_method_149_code 42 = .ok (.aload 5, 2) := by decide +kernel
theorem d_jdk_42_method_149_44 : decode jdk_42_method_149_code 44 = .ok (.iload_n 3, 1) := by decide +kernel
theorem d_jdk_42_method_149_45 : decode jdk_42_method_149_code 45 = .ok (.invokestatic 47, 3) := by decide +kernel
theorem pd_191 : parseMethodDescriptor "([BI)B" = some ⟨[(.array .byte), .int], some .byte⟩ := by decide +kernel
theorem d_jdk_42_method_149_48 : decode jdk_42_method_149_code 48 = .ok (.putfield 15, 3) := by decide +kernel
theorem d_jdk_42_method_149_51 : decode jdk_42_method_149_code 51 = .ok (.aload_n 0, 1) := by decide +kernel
theorem d_jdk_42_method_149_52 : decode jdk_42_method_149_code 52 = .ok (.aload 5, 2) := by decide +kernel
theorem d_jdk_42_method_149_54 : decode jdk_42_method_149_code 54 = .ok (.putfield 9, 3) := by decide +kernel
theorem d_jdk_42_method_149_57 : decode jdk_42_method_149_code 57 = .ok (.return_, 1) := by decide +kernel
theorem ef_51d (m : MethodId) (a : Addr) (ar : Addr) : entryFrame m #[(.ref a), (.ref ar), (.int (0 : Int32)), (.int (1 : Int32)), .null] 6 = mkF m 0 #[.val (.ref a), .val (.ref ar), .val (.int (0 : Int32)), .val (.int (1 : Int32)), .val .null, .unset] [] := by first | (simp [entryFrame, mkF, argsToLocals, Value.category]; done) | rfl
def Q51d (Z : State) (a : Addr) (ar : Addr) (k : ClassId) (cs : Int32) (c0 : Int32) (h0 : Heap) (n0 : Nat) (vV : Option Value) (hH : Heap) (LL : List Loc) : Prop := ∃ b : Addr, ∃ kb : ClassId, vV = none ∧ Fr n0 LL ∧ Keep h0 hH [a] ∧ h0.size ≤ b ∧ (Exa Z hH a "java/lang/String") ∧ (Fld Z hH a "java/lang/String" "value" "[B" (.ref b)) ∧ (Fld Z hH a "java/lang/String" "coder" "B" (.int (0 : Int32))) ∧ (Arv Z hH b kb .byte (1 : Int32) [(.int (nar .byte (c0.toInt8.toInt32)))] (.int (0 : Int32)))
def R51d (Z : State) (a : Addr) (ar : Addr) (k : ClassId) (cs : Int32) (c0 : Int32) (h0 : Heap) (n0 : Nat) (U : State) (o : Outcome) (U' : State) : Prop := ∃ vV LL, o = .returned vV ∧ Q51d Z a ar k cs c0 h0 n0 vV U'.heap LL ∧ FrameEnd U o U' LL ({ frames := 2, cells := 1, slots := 1, locals := 35 } : Room).cells ({ frames := 2, cells := 1, slots := 1, locals := 35 } : Room).slots
set_option maxRecDepth 65536 in
set_option maxHeartbeats 40000000 in
theorem rm51d (l : Launch) (Z : State) (a0 : Array Value) (hw : ∀ d ∈ tables_1, d.before a0 Z = true) (hEL : EW Z a0 OwnEL) (wS : ∀ a ∈ Bundle.stringAtoms, a.before a0 Z = true) (ws : List Jvm.Cond) (a : Addr) (ar : Addr) (k : ClassId) (cs : Int32) (c0 : Int32) (h0 : Heap) (n0 : Nat) (Z0 : n0 ≤ h0.size) (hp0 : Exa Z h0 a "java/lang/String") (hp1 : Fld Z h0 a "java/lang/String" "value" "[B" .null) (hp2 : Fld Z h0 a "java/lang/String" "coder" "B" (.int (0 : Int32))) (hp3 : n0 ≤ a) (hp4 : Arv Z h0 ar k .char (1 : Int32) [(.int c0)] (.int (0 : Int32))) (hp5 : Sta Z h0 "java/lang/String" "COMPACT_STRINGS" "Z" (.int cs)) (hp6 : ¬ cs = (0 : Int32)) (hp7 : ¬ (255 : Int32) < c0) :
    MetFree l (⟨"java/lang/String", "<init>", "([CIILjava/lang/Void;)V"⟩ : MethodName) (head1 (Jvm.Cond.code (⟨"java/lang/String", "<init>", "([CIILjava/lang/Void;)V"⟩ : MethodName) jdk_42_method_149_code 6 none :: ws) ({ frames := 2, cells := 1, slots := 1, locals := 35 } : Room)) (fun aA U => aA = #[(.ref a), (.ref ar), (.int (0 : Int32)), (.int (1 : Int32)), .null] ∧ Z.Warmed39 U.vm ∧ U.heap = h0) (fun _ _ _ _ _ => True) (fun _ U o U' => ∃ vV LL, o = .returned vV ∧ Q51d Z a ar k cs c0 h0 n0 vV U'.heap LL ∧ FrameEnd U o U' LL ({ frames := 2, cells := 1, slots := 1, locals := 35 } : Room).cells ({ frames := 2, cells := 1, slots := 1, locals := 35 } : Room).slots) := by
  refine MetFree.of_bodySF (plainFor_of_name pn_108) hisR ?_
  intro p e s m args below meth cC s₁ Bd hml0 hP hK
  obtain ⟨rfl, hZ, hh⟩ := hP
  have hx := Bd.exec
  have hby := Bd.bytes
  have hml : cC.maxLocals = 6 := hml0
  have hown : s.vm.findClass "java/lang/String" = some m.cls := findClass_of_methodNamed Bd.named
  have hnm := (name_of_methodNamed Bd.named Bd.method).1
  have X0 : Stand p l e ({ frames := 2, cells := 1, slots := 1, locals := 35 } : Room) s m #[(.ref a), (.ref ar), (.int (0 : Int32)), (.int (1 : Int32)), .null] below meth cC s₁ [] 0 0 := Stand.of_body Bd
  have e0 : s₁.heap = h0 := by rw [← hh, Bd.state]; rfl
  have N0 := Fr.nil n0
  show OwnFin p e below (R51d Z a ar k cs c0 h0 n0 s) (s₁.setTop (entryFrame m #[(.ref a), (.ref ar), (.int (0 : Int32)), (.int (1 : Int32)), .null] 6))
  rw [ef_51d m a ar]
  refine OwnFin.step (fun tT kK => XS.aloadN X0.here hx rfl (hb hby d_jdk_42_method_149_0) rfl rfl kK) ?_
  show OwnFin p e below _ (s₁.setTop (mkF m 1 #[.val (.ref a), .val (.ref ar), .val (.int (0 : Int32)), .val (.int (1 : Int32)), .val .null, .unset] [(.ref a)]))
  obtain ⟨T1, X1, e1, st1⟩ := initO X0 hx hZ hown (hw _ (List.mem_of_getElem? (i := 15) rfl)) (hw _ (List.mem_of_getElem? (i := 16) rfl)) (hw _ (List.mem_of_getElem? (i := 17) rfl)) e0 (g := (mkF m 1 #[.val (.ref a), .val (.ref ar), .val (.int (0 : Int32)), .val (.int (1 : Int32)), .val .null, .unset] [(.ref a)])) rfl (by rw [hml]; rfl) rfl (hb hby d_jdk_42_method_149_1) (by decide) (W := 0) (by show 2 * 0 + _ ≤ _; exact Nat.le_of_eq rfl) (by decide)
  refine OwnFin.step st1 ?_
  show OwnFin p e below _ (T1.setTop (mkF m 4 #[.val (.ref a), .val (.ref ar), .val (.int (0 : Int32)), .val (.int (1 : Int32)), .val .null, .unset] []))
  refine OwnFin.step (fun tT kK => XS.iloadN X1.here hx rfl (hb hby d_jdk_42_method_149_4) rfl kK) ?_
  show OwnFin p e below _ (T1.setTop (mkF m 5 #[.val (.ref a), .val (.ref ar), .val (.int (0 : Int32)), .val (.int (1 : Int32)), .val .null, .unset] [(.int (1 : Int32))]))
  refine OwnFin.step (fun tT kK => XS.ifYes X1.here hx rfl (pc0 := 5) (pc' := 27) rfl (hb hby d_jdk_42_method_149_5) rfl ((if0 _ _).trans (feq (by decide : ¬ ((1 : Int32) = (0 : Int32)))).2) (by decide) (by decide) kK) ?_
  show OwnFin p e below _ (T1.setTop (mkF m 27 #[.val (.ref a), .val (.ref ar), .val (.int (0 : Int32)), .val (.int (1 : Int32)), .val .null, .unset] []))
  obtain ⟨T2, X2, e2, st2⟩ := getS2 X1 hx hZ hown (host := "") (Or.inl (hw _ (List.mem_of_getElem? (i := 18) rfl))) Via.refl e1 hp5 (g := (mkF m 27 #[.val (.ref a), .val (.ref ar), .val (.int (0 : Int32)), .val (.int (1 : Int32)), .val .null, .unset] [])) rfl (hb hby d_jdk_42_method_149_27)
  refine OwnFin.step st2 ?_
  show OwnFin p e below _ (T2.setTop (mkF m 30 #[.val (.ref a), .val (.ref ar), .val (.int (0 : Int32)), .val (.int (1 : Int32)), .val .null, .unset] [(.int cs)]))
  refine OwnFin.step (fun tT kK => XS.ifNo X2.here hx rfl (hb hby d_jdk_42_method_149_30) rfl ((if0 _ _).trans (feq (hp6 : ¬ (cs = (0 : Int32)))).1) kK) ?_
  show OwnFin p e below _ (T2.setTop (mkF m 33 #[.val (.ref a), .val (.ref ar), .val (.int (0 : Int32)), .val (.int (1 : Int32)), .val .null, .unset] []))
  refine OwnFin.step (fun tT kK => XS.aloadN X2.here hx rfl (hb hby d_jdk_42_method_149_33) rfl rfl kK) ?_
  show OwnFin p e below _ (T2.setTop (mkF m 34 #[.val (.ref a), .val (.ref ar), .val (.int (0 : Int32)), .val (.int (1 : Int32)), .val .null, .unset] [(.ref ar)]))
  refine OwnFin.step (fun tT kK => XS.iloadN X2.here hx rfl (hb hby d_jdk_42_method_149_34) rfl kK) ?_
  show OwnFin p e below _ (T2.setTop (mkF m 35 #[.val (.ref a), .val (.ref ar), .val (.int (0 : Int32)), .val (.int (1 : Int32)), .val .null, .unset] [(.int (0 : Int32)), (.ref ar)]))
  refine OwnFin.step (fun tT kK => XS.iloadN X2.here hx rfl (hb hby d_jdk_42_method_149_35) rfl kK) ?_
  show OwnFin p e below _ (T2.setTop (mkF m 36 #[.val (.ref a), .val (.ref ar), .val (.int (0 : Int32)), .val (.int (1 : Int32)), .val .null, .unset] [(.int (1 : Int32)), (.int (0 : Int32)), (.ref ar)]))
  obtain ⟨_, _, ⟨T3, L3, k3, n3⟩, -, X3, ⟨Lc3, hQ3, l3, y3, z3⟩, st3⟩ := Jvm.LawKit.callS X2 hx (y := (⟨"java/lang/StringUTF16", "compress", "([CII)[B"⟩ : MethodName)) hown (mvT hZ (hw _ (List.mem_of_getElem? (i := 19) rfl))) (mvT hZ (hw _ (List.mem_of_getElem? (i := 20) rfl))) (mvT hZ (hw _ (List.mem_of_getElem? (i := 21) rfl))) (mvT hZ (hw _ (List.mem_of_getElem? (i := 22) rfl))) (by decide) (backOf (W := 0) (rm51b l Z a0 hw hEL wS [] ar k c0 h0 n0 Z0 hp4 (hp7)) hZ (hw _ (List.mem_of_getElem? (i := 22) rfl)) (hw _ (List.mem_of_getElem? (i := 21) rfl)) (by decide) (by decide)) (g := (mkF m 36 #[.val (.ref a), .val (.ref ar), .val (.int (0 : Int32)), .val (.int (1 : Int32)), .val .null, .unset] [(.int (1 : Int32)), (.int (0 : Int32)), (.ref ar)])) rfl (by rw [hml]; rfl) (argsL := [(.ref ar), (.int (0 : Int32)), (.int (1 : Int32))]) (rest := []) (lenOf pd_185 rfl) rfl (by show 2 * 0 + _ ≤ _; exact Nat.le_of_eq rfl) (hb hby d_jdk_42_method_149_36) (fun _ _ => ⟨rfl, e2, (by decide : 0 + 1 ≤ _), (by decide : 0 + 1 ≤ _)⟩)
  dsimp only [Pt.U, Pt.locs, Pt.cells, Pt.slots] at X3 l3 y3 z3 st3 hQ3
  subst l3 y3 z3
  obtain ⟨b4, ⟨kb5, ⟨rfl, N3q, K3, B3_0, P3_0⟩⟩⟩ := hQ3
  have N3 := Fr.app N0 N3q
  refine OwnFin.step st3 ?_
  have E3 : Ext h0 T3.heap := ⟨K3.1, fun x c q => K3.2.1 x c q nin0⟩
  show OwnFin p e below _ (T3.setTop (mkF m 39 #[.val (.ref a), .val (.ref ar), .val (.int (0 : Int32)), .val (.int (1 : Int32)), .val .null, .unset] [(.ref b4)]))
  refine OwnFin.step (fun tT kK => XS.astore X3.here hx rfl (hb hby d_jdk_42_method_149_39) rfl rfl (l' := #[.val (.ref a), .val (.ref ar), .val (.int (0 : Int32)), .val (.int (1 : Int32)), .val .null, .val (.ref b4)]) rfl kK) ?_
  show OwnFin p e below _ (T3.setTop (mkF m 41 #[.val (.ref a), .val (.ref ar), .val (.int (0 : Int32)), .val (.int (1 : Int32)), .val .null, .val (.ref b4)] []))
  refine OwnFin.step (fun tT kK => XS.aloadN X3.here hx rfl (hb hby d_jdk_42_method_149_41) rfl rfl kK) ?_
  show OwnFin p e below _ (T3.setTop (mkF m 42 #[.val (.ref a), .val (.ref ar), .val (.int (0 : Int32)), .val (.int (1 : Int32)), .val .null, .val (.ref b4)] [(.ref a)]))
  refine OwnFin.step (fun tT kK => XS.aload X3.here hx rfl (hb hby d_jdk_42_method_149_42) rfl rfl kK) ?_
  show OwnFin p e below _ (T3.setTop (mkF m 44 #[.val (.ref a), .val (.ref ar), .val (.int (0 : Int32)), .val (.int (1 : Int32)), .val .null, .val (.ref b4)] [(.ref b4), (.ref a)]))
  refine OwnFin.step (fun tT kK => XS.iloadN X3.here hx rfl (hb hby d_jdk_42_method_149_44) rfl kK) ?_
  show OwnFin p e below _ (T3.setTop (mkF m 45 #[.val (.ref a), .val (.ref ar), .val (.int (0 : Int32)), .val (.int (1 : Int32)), .val .null, .val (.ref b4)] [(.int (1 : Int32)), (.ref b4), (.ref a)]))
  obtain ⟨_, _, ⟨T6, L6, k6, n6⟩, -, X6, ⟨Lc6, hQ6, l6, y6, z6⟩, st6⟩ := Jvm.LawKit.callS X3 hx (y := (⟨"java/lang/StringUTF16", "coderFromArrayLen", "([BI)B"⟩ : MethodName)) hown (mvT hZ (hw _ (List.mem_of_getElem? (i := 27) rfl))) (mvT hZ (hw _ (List.mem_of_getElem? (i := 28) rfl))) (mvT hZ (hw _ (List.mem_of_getElem? (i := 21) rfl))) (mvT hZ (hw _ (List.mem_of_getElem? (i := 29) rfl))) (by decide) (backOf (W := 1) (rm51c l Z a0 hw hEL wS [] b4 kb5 c0 T3.heap n0 (Nat.le_trans Z0 E3.1) P3_0) hZ (hw _ (List.mem_of_getElem? (i := 29) rfl)) (hw _ (List.mem_of_getElem? (i := 21) rfl)) (by decide) (by decide)) (g := (mkF m 45 #[.val (.ref a), .val (.ref ar), .val (.int (0 : Int32)), .val (.int (1 : Int32)), .val .null, .val (.ref b4)] [(.int (1 : Int32)), (.ref b4), (.ref a)])) rfl (by rw [hml]; rfl) (argsL := [(.ref b4), (.int (1 : Int32))]) (rest := [(.ref a)]) (lenOf pd_191 rfl) rfl (by show 2 * 0 + _ ≤ _; exact Nat.le_of_eq rfl) (hb hby d_jdk_42_method_149_45) (fun _ _ => ⟨rfl, rfl, (by decide : 1 + 0 ≤ _), (by decide : 1 + 0 ≤ _)⟩)
  dsimp only [Pt.U, Pt.locs, Pt.cells, Pt.slots] at X6 l6 y6 z6 st6 hQ6
  subst l6 y6 z6
  obtain ⟨rfl, N6q, e6⟩ := hQ6
  have N6 := Fr.app N3 N6q
  refine OwnFin.step st6 ?_
  show OwnFin p e below _ (T6.setTop (mkF m 48 #[.val (.ref a), .val (.ref ar), .val (.int (0 : Int32)), .val (.int (1 : Int32)), .val .null, .val (.ref b4)] [(.int (0 : Int32)), (.ref a)]))
  have f7 : Exa Z T3.heap a "java/lang/String" := (hp0.ext E3)
  have f8 : Fld Z T3.heap a "java/lang/String" "coder" "B" (.int (0 : Int32)) := (hp2.ext E3)
  obtain ⟨T9, h9, X9, e9, W9, st9⟩ := putF X6 hx hZ hown (host := "") (Or.inl (hw _ (List.mem_of_getElem? (i := 30) rfl))) Via.refl e6 f8 f7 (Or.inr ⟨(hw _ (List.mem_of_getElem? (i := 31) rfl)), rfl, hnm⟩) (hw _ (List.mem_of_getElem? (i := 6) rfl)) (ty := .byte) (by decide) rfl rfl (g := (mkF m 48 #[.val (.ref a), .val (.ref ar), .val (.int (0 : Int32)), .val (.int (1 : Int32)), .val .null, .val (.ref b4)] [(.int (0 : Int32)), (.ref a)])) rfl rfl (hb hby d_jdk_42_method_149_48)
  refine OwnFin.step st9 ?_
  have N9 := Fr.snoc X9 N6 hp3
  have Fw9 : Fld Z h9 a "java/lang/String" "coder" "B" (.int (0 : Int32)) := f8.same W9
  show OwnFin p e below _ (T9.setTop (mkF m 51 #[.val (.ref a), .val (.ref ar), .val (.int (0 : Int32)), .val (.int (1 : Int32)), .val .null, .val (.ref b4)] []))
  refine OwnFin.step (fun tT kK => XS.aloadN X9.here hx rfl (hb hby d_jdk_42_method_149_51) rfl rfl kK) ?_
  show OwnFin p e below _ (T9.setTop (mkF m 52 #[.val (.ref a), .val (.ref ar), .val (.int (0 : Int32)), .val (.int (1 : Int32)), .val .null, .val (.ref b4)] [(.ref a)]))
  refine OwnFin.step (fun tT kK => XS.aload X9.here hx rfl (hb hby d_jdk_42_method_149_52) rfl rfl kK) ?_
  show OwnFin p e below _ (T9.setTop (mkF m 54 #[.val (.ref a), .val (.ref ar), .val (.int (0 : Int32)), .val (.int (1 : Int32)), .val .null, .val (.ref b4)] [(.ref b4), (.ref a)]))
  have f10 : Exa Z h9 a "java/lang/String" := (f7.wr W9)
  have f11 : Fld Z h9 a "java/lang/String" "value" "[B" .null := ((hp1.ext E3).other W9 (Or.inr (slot_ne (Or.inr (hw _ (List.mem_of_getElem? (i := 33) rfl))) (Or.inr (hw _ (List.mem_of_getElem? (i := 31) rfl))) (by decide) (t := (.array .byte)) (t' := .byte) (by decide) (by decide))))
  obtain ⟨T12, h12, X12, e12, W12, st12⟩ := putF X9 hx hZ hown (host := "") (Or.inl (hw _ (List.mem_of_getElem? (i := 32) rfl))) Via.refl e9 f11 f10 (Or.inr ⟨(hw _ (List.mem_of_getElem? (i := 33) rfl)), rfl, hnm⟩) (hw _ (List.mem_of_getElem? (i := 6) rfl)) (ty := (.array .byte)) (by decide) rfl rfl (g := (mkF m 54 #[.val (.ref a), .val (.ref ar), .val (.int (0 : Int32)), .val (.int (1 : Int32)), .val .null, .val (.ref b4)] [(.ref b4), (.ref a)])) rfl rfl (hb hby d_jdk_42_method_149_54)
  refine OwnFin.step st12 ?_
  have N12 := Fr.snoc X12 N9 hp3
  have Fw12 : Fld Z h12 a "java/lang/String" "value" "[B" (.ref b4) := f11.same W12
  show OwnFin p e below _ (T12.setTop (mkF m 57 #[.val (.ref a), .val (.ref ar), .val (.int (0 : Int32)), .val (.int (1 : Int32)), .val .null, .val (.ref b4)] []))
  have f14 : Exa Z h12 a "java/lang/String" := (f10.wr W12)
  have f15 : Fld Z h12 a "java/lang/String" "coder" "B" (.int (0 : Int32)) := (Fw9.other W12 (Or.inr (slot_ne (Or.inr (hw _ (List.mem_of_getElem? (i := 31) rfl))) (Or.inr (hw _ (List.mem_of_getElem? (i := 33) rfl))) (by decide) (t := .byte) (t' := (.array .byte)) (by decide) (by decide))))
  have f16 : Arv Z h12 b4 kb5 .byte (1 : Int32) [(.int (nar .byte (c0.toInt8.toInt32)))] (.int (0 : Int32)) := ((P3_0.other W9 (Ne.symm (Nat.ne_of_lt (Nat.lt_of_lt_of_le (Nat.lt_of_lt_of_le hp0.lt (Nat.le_refl _)) B3_0)))).other W12 (Ne.symm (Nat.ne_of_lt (Nat.lt_of_lt_of_le (Nat.lt_of_lt_of_le hp0.lt (Nat.le_refl _)) B3_0))))
  obtain ⟨fs13, hr13, hrun13, hended13, hW13, hsame13⟩ := X12.leave (v := none) (fun _ => rfl)
  refine ⟨_, _, X12.returnOut hx Bd.returns (hb hby d_jdk_42_method_149_57) hr13, hrun13, hended13, _, _, rfl, ?_, ⟨_, rfl⟩, hW13, hsame13.mono (by decide) (by decide)⟩
  show Q51d Z a ar k cs c0 h0 n0 _ T12.heap _
  rw [e12]
  exact ⟨b4, kb5, rfl, N12, ((((Keep.refl h0 [a]).ext E3).wr W9 (Or.inl (List.mem_of_getElem? (i := 0) rfl))).wr W12 (Or.inl (List.mem_of_getElem? (i := 0) rfl))), (Nat.le_trans (Nat.le_refl _) B3_0), f14, Fw12, f15, f16⟩
theorem ef_51 (m : MethodId) (a : Addr) (ar : Addr) : entryFrame m #[(.ref a), (.ref ar)] 2 = mkF m 0 #[.val (.ref a), .val (.ref ar)] [] := by first | (simp [entryFrame, mkF, argsToLocals, Value.category]; done) | rfl
def Q51 (Z : State) (a : Addr) (ar : Addr) (k : ClassId) (cs : Int32) (c0 : Int32) (h0 : Heap) (n0 : Nat) (vV : Option Value) (hH : Heap) (LL : List Loc) : Prop := ∃ b : Addr, ∃ kb : ClassId, vV = none ∧ Fr n0 LL ∧ Keep h0 hH [a] ∧ h0.size ≤ b ∧ (Exa Z hH a "java/lang/String") ∧ (Fld Z hH a "java/lang/String" "value" "[B" (.ref b)) ∧ (Fld Z hH a "java/lang/String" "coder" "B" (.int (0 : Int32))) ∧ (Arv Z hH b kb .byte (1 : Int32) [(.int (nar .byte (c0.toInt8.toInt32)))] (.int (0 : Int32)))
def R51 (Z : State) (a : Addr) (ar : Addr) (k : ClassId) (cs : Int32) (c0 : Int32) (h0 : Heap) (n0 : Nat) (U : State) (o : Outcome) (U' : State) : Prop := ∃ vV LL, o = .returned vV ∧ Q51 Z a ar k cs c0 h0 n0 vV U'.heap LL ∧ FrameEnd U o U' LL ({ frames := 3, cells := 1, slots := 1, locals := 52 } : Room).cells ({ frames := 3, cells := 1, slots := 1, locals := 52 } : Room).slots
set_option maxRecDepth 65536 in
set_option maxHeartbeats 40000000 in
theorem rm51 (l : Launch) (Z : State) (a0 : Array Value) (hw : ∀ d ∈ tables_1, d.before a0 Z = true) (hEL : EW Z a0 OwnEL) (wS : ∀ a ∈ Bundle.stringAtoms, a.before a0 Z = true) (ws : List Jvm.Cond) (a : Addr) (ar : Addr) (k : ClassId) (cs : Int32) (c0 : Int32) (h0 : Heap) (n0 : Nat) (Z0 : n0 ≤ h0.size) (hp0 : Exa Z h0 a "java/lang/String") (hp1 : Fld Z h0 a "java/lang/String" "value" "[B" .null) (hp2 : Fld Z h0 a "java/lang/String" "coder" "B" (.int (0 : Int32))) (hp3 : n0 ≤ a) (hp4 : Arv Z h0 ar k .char (1 : Int32) [(.int c0)] (.int (0 : Int32))) (hp5 : Sta Z h0 "java/lang/String" "COMPACT_STRINGS" "Z" (.int cs)) (hp6 : ¬ cs = (0 : Int32)) (hp7 : ¬ (255 : Int32) < c0) :
    MetFree l (⟨"java/lang/String", "<init>", "([C)V"⟩ : MethodName) (head1 (Jvm.Cond.code (⟨"java/lang/String", "<init>", "([C)V"⟩ : MethodName) jdk_42_method_3_code 2 none :: ws) ({ frames := 3, cells := 1, slots := 1, locals := 52 } : Room)) (fun aA U => aA = #[(.ref a), (.ref ar)] ∧ Z.Warmed39 U.vm ∧ U.heap = h0) (fun _ _ _ _ _ => True) (fun _ U o U' => ∃ vV LL, o = .returned vV ∧ Q51 Z a ar k cs c0 h0 n0 vV U'.heap LL ∧ FrameEnd U o U' LL ({ frames := 3, cells := 1, slots := 1, locals := 52 } : Room).cells ({ frames := 3, cells := 1, slots := 1, locals := 52 } : Room).slots) := by
  refine MetFree.of_bodySF (plainFor_of_name pn_108) hisR ?_
  intro p e s m args below meth cC s₁ Bd hml0 hP hK
  obtain ⟨rfl, hZ, hh⟩ := hP
  have hx := Bd.exec
  have hby := Bd.bytes
  have hml : cC.maxLocals = 2 := hml0
  have hown : s.vm.findClass "java/lang/String" = some m.cls := findClass_of_methodNamed Bd.named
  have hnm := (name_of_methodNamed Bd.named Bd.method).1
  have X0 : Stand p l e ({ frames := 3, cells := 1, slots := 1, locals := 52 } : Room) s m #[(.ref a), (.ref ar)] below meth cC s₁ [] 0 0 := Stand.of_body Bd
  have e0 : s₁.heap = h0 := by rw [← hh, Bd.state]; rfl
  have N0 := Fr.nil n0
  show OwnFin p e below (R51 Z a ar k cs c0 h0 n0 s) (s₁.setTop (entryFrame m #[(.ref a), (.ref ar)] 2))
  rw [ef_51 m a ar]
  refine OwnFin.step (fun tT kK => XS.aloadN X0.here hx rfl (hb hby d_jdk_42_method_3_0) rfl rfl kK) ?_
  show OwnFin p e below _ (s₁.setTop (mkF m 1 #[.val (.ref a), .val (.ref ar)] [(.ref a)]))
  refine OwnFin.step (fun tT kK => XS.aloadN X0.here hx rfl (hb hby d_jdk_42_method_3_1) rfl rfl kK) ?_
  show OwnFin p e below _ (s₁.setTop (mkF m 2 #[.val (.ref a), .val (.ref ar)] [(.ref ar), (.ref a)]))
  refine OwnFin.step (fun tT kK => XS.iconst X0.here hx rfl (hb hby d_jdk_42_method_3_2) kK) ?_
  show OwnFin p e below _ (s₁.setTop (mkF m 3 #[.val (.ref a), .val (.ref ar)] [(.int (0 : Int32)), (.ref ar), (.ref a)]))
  refine OwnFin.step (fun tT kK => XS.aloadN X0.here hx rfl (hb hby d_jdk_42_method_3_3) rfl rfl kK) ?_
  show OwnFin p e below _ (s₁.setTop (mkF m 4 #[.val (.ref a), .val (.ref ar)] [(.ref ar), (.int (0 : Int32)), (.ref ar), (.ref a)]))
  obtain ⟨cl1, Ar1, -, Sz1, Ng1, -, -⟩ := id hp4
  refine OwnFin.step (fun tT kK => own_len X0 hx hZ e0 Ar1 Sz1 Ng1 (g := (mkF m 4 #[.val (.ref a), .val (.ref ar)] [(.ref ar), (.int (0 : Int32)), (.ref ar), (.ref a)])) rfl rfl (hb hby d_jdk_42_method_3_4) kK) ?_
  show OwnFin p e below _ (s₁.setTop (mkF m 5 #[.val (.ref a), .val (.ref ar)] [(.int (1 : Int32)), (.int (0 : Int32)), (.ref ar), (.ref a)]))
  refine OwnFin.step (fun tT kK => XS.aconstNull X0.here hx rfl (hb hby d_jdk_42_method_3_5) kK) ?_
  show OwnFin p e below _ (s₁.setTop (mkF m 6 #[.val (.ref a), .val (.ref ar)] [.null, (.int (1 : Int32)), (.int (0 : Int32)), (.ref ar), (.ref a)]))
  obtain ⟨_, _, ⟨T2, L2, k2, n2⟩, -, X2, ⟨Lc2, hQ2, l2, y2, z2⟩, st2⟩ := X0.specialBack hx (y := (⟨"java/lang/String", "<init>", "([CIILjava/lang/Void;)V"⟩ : MethodName)) rfl hown (mvT hZ (hw _ (List.mem_of_getElem? (i := 11) rfl))) (mvT hZ (hw _ (List.mem_of_getElem? (i := 12) rfl))) (mvT hZ (hw _ (List.mem_of_getElem? (i := 14) rfl))) (by decide) (backOf (W := 0) (rm51d l Z a0 hw hEL wS [] a ar k cs c0 h0 n0 Z0 hp0 hp1 hp2 hp3 hp4 hp5 (hp6) (hp7)) hZ (hw _ (List.mem_of_getElem? (i := 14) rfl)) (hw _ (List.mem_of_getElem? (i := 7) rfl)) (by decide) (by decide)) (g := (mkF m 6 #[.val (.ref a), .val (.ref ar)] [.null, (.int (1 : Int32)), (.int (0 : Int32)), (.ref ar), (.ref a)])) rfl (by rw [hml]; rfl) (Steps.refl _) (a := a) (argsL := [(.ref ar), (.int (0 : Int32)), (.int (1 : Int32)), .null]) (rest := []) (lenOf pd_129 rfl) rfl (by show 2 * 0 + _ ≤ _; exact Nat.le_of_eq rfl) (hb hby d_jdk_42_method_3_6) (fun _ _ => ⟨rfl, e0, (by decide : 0 + 1 ≤ _), (by decide : 0 + 1 ≤ _)⟩)
  dsimp only [Pt.U, Pt.locs, Pt.cells, Pt.slots] at X2 l2 y2 z2 st2 hQ2
  subst l2 y2 z2
  obtain ⟨b3, ⟨kb4, ⟨rfl, N2q, K2, B2_0, P2_0, P2_1, P2_2, P2_3⟩⟩⟩ := hQ2
  have N2 := Fr.app N0 N2q
  refine OwnFin.step (fun tT kK => st2.trans kK) ?_
  show OwnFin p e below _ (T2.setTop (mkF m 9 #[.val (.ref a), .val (.ref ar)] []))
  obtain ⟨fs5, hr5, hrun5, hended5, hW5, hsame5⟩ := X2.leave (v := none) (fun _ => rfl)
  refine ⟨_, _, X2.returnOut hx Bd.returns (hb hby d_jdk_42_method_3_9) hr5, hrun5, hended5, _, _, rfl, ?_, ⟨_, rfl⟩, hW5, hsame5.mono (by decide) (by decide)⟩
  show Q51 Z a ar k cs c0 h0 n0 _ T2.heap _
  exact ⟨b3, kb4, rfl, N2, ((Keep.refl h0 [a]).trans K2 (allS (P := fun x => x ∈ [a] ∨ h0.size ≤ x) (Or.inl (List.mem_of_getElem? (i := 0) rfl)) all0)), (Nat.le_trans (Nat.le_refl _) B2_0), P2_0, P2_1, P2_2, P2_3⟩
theorem ef_52a (m : MethodId) (ar : Addr) (yb : Addr) : entryFrame m #[(.ref ar), (.int (0 : Int32)), (.ref yb), (.int (0 : Int32)), (.int (2 : Int32))] 7 = mkF m 0 #[.val (.ref ar), .val (.int (0 : Int32)), .val (.ref yb), .val (.int (0 : Int32)), .val (.int (2 : Int32)), .unset, .unset] [] := by first | (simp [entryFrame, mkF, argsToLocals, Value.category]; done) | rfl
def Q52a (Z : State) (ar : Addr) (yb : Addr) (k : ClassId) (kb : ClassId) (c0 : Int32) (c1 : Int32) (h0 : Heap) (n0 : Nat) (vV : Option Value) (hH : Heap) (LL : List Loc) : Prop := vV = some (.int (2 : Int32)) ∧ Fr n0 LL ∧ Keep h0 hH [yb] ∧ (Arv Z hH yb kb .byte (2 : Int32) [(.int (nar .byte (c0.toInt8.toInt32))), (.int (nar .byte (c1.toInt8.toInt32)))] (.int (0 : Int32)))
def R52a (Z : State) (ar : Addr) (yb : Addr) (k : ClassId) (kb : ClassId) (c0 : Int32) (c1 : Int32) (h0 : Heap) (n0 : Nat) (U : State) (o : Outcome) (U' : State) : Prop := ∃ vV LL, o = .returned vV ∧ Q52a Z ar yb k kb c0 c1 h0 n0 vV U'.heap LL ∧ FrameEnd U o U' LL ({ frames := 0, cells := 0, slots := 0, locals := 0 } : Room).cells ({ frames := 0, cells := 0, slots := 0, locals := 0 } : Room).slots
set_option maxRecDepth 65536 in
set_option maxHeartbeats 40000000 in
theorem rm52a (l : Launch) (Z : State) (a0 : Array Value) (hw : ∀ d ∈ tables_1, d.before a0 Z = true) (hEL : EW Z a0 OwnEL) (wS : ∀ a ∈ Bundle.stringAtoms, a.before a0 Z = true) (ws : List Jvm.Cond) (ar : Addr) (yb : Addr) (k : ClassId) (kb : ClassId) (c0 : Int32) (c1 : Int32) (h0 : Heap) (n0 : Nat) (Z0 : n0 ≤ h0.size) (hp0 : Arv Z h0 ar k .char (2 : Int32) [(.int c0), (.int c1)] (.int (0 : Int32))) (hp1 : Arv Z h0 yb kb .byte (2 : Int32) [(.int (0 : Int32)), (.int (0 : Int32))] (.int (0 : Int32))) (hp2 : ¬ (255 : Int32) < c0) (hp3 : ¬ (255 : Int32) < c1) (hp4 : n0 ≤ yb) (hp5 : ar ≠ yb) :
    MetFree l (⟨"java/lang/StringUTF16", "compress", "([CI[BII)I"⟩ : MethodName) (head1 (Jvm.Cond.code (⟨"java/lang/StringUTF16", "compress", "([CI[BII)I"⟩ : MethodName) jdk_52_method_21_code 7 (some .int) :: ws) ({ frames := 0, cells := 0, slots := 0, locals := 0 } : Room)) (fun aA U => aA = #[(.ref ar), (.int (0 : Int32)), (.ref yb), (.int (0 : Int32)), (.int (2 : Int32))] ∧ Z.Warmed39 U.vm ∧ U.heap = h0) (fun _ _ _ _ _ => True) (fun _ U o U' => ∃ vV LL, o = .returned vV ∧ Q52a Z ar yb k kb c0 c1 h0 n0 vV U'.heap LL ∧ FrameEnd U o U' LL ({ frames := 0, cells := 0, slots := 0, locals := 0 } : Room).cells ({ frames := 0, cells := 0, slots := 0, locals := 0 } : Room).slots) := by
  refine MetFree.of_bodySF (plainFor_of_name pn_131) hisR ?_
  intro p e s m args below meth cC s₁ Bd hml0 hP hK
  obtain ⟨rfl, hZ, hh⟩ := hP
  have hx := Bd.exec
  have hby := Bd.bytes
  have hml : cC.maxLocals = 7 := hml0
  have hown : s.vm.findClass "java/lang/StringUTF16" = some m.cls := findClass_of_methodNamed Bd.named
  have hnm := (name_of_methodNamed Bd.named Bd.method).1
  have X0 : Stand p l e ({ frames := 0, cells := 0, slots := 0, locals := 0 } : Room) s m #[(.ref ar), (.int (0 : Int32)), (.ref yb), (.int (0 : Int32)), (.int (2 : Int32))] below meth cC s₁ [] 0 0 := Stand.of_body Bd
  have e0 : s₁.heap = h0 := by rw [← hh, Bd.state]; rfl
  have N0 := Fr.nil n0
  show OwnFin p e below (R52a Z ar yb k kb c0 c1 h0 n0 s) (s₁.setTop (entryFrame m #[(.ref ar), (.int (0 : Int32)), (.ref yb), (.int (0 : Int32)), (.int (2 : Int32))] 7))
  rw [ef_52a m ar yb]
  refine OwnFin.step (fun tT kK => XS.iconst X0.here hx rfl (hb hby d_jdk_52_method_21_0) kK) ?_
  show OwnFin p e below _ (s₁.setTop (mkF m 1 #[.val (.ref ar), .val (.int (0 : Int32)), .val (.ref yb), .val (.int (0 : Int32)), .val (.int (2 : Int32)), .unset, .unset] [(.int (0 : Int32))]))
  refine OwnFin.step (fun tT kK => XS.istore X0.here hx rfl (hb hby d_jdk_52_method_21_1) rfl (l' := #[.val (.ref ar), .val (.int (0 : Int32)), .val (.ref yb), .val (.int (0 : Int32)), .val (.int (2 : Int32)), .val (.int (0 : Int32)), .unset]) rfl kK) ?_
  show OwnFin p e below _ (s₁.setTop (mkF m 3 #[.val (.ref ar), .val (.int (0 : Int32)), .val (.ref yb), .val (.int (0 : Int32)), .val (.int (2 : Int32)), .val (.int (0 : Int32)), .unset] []))
  refine OwnFin.step (fun tT kK => XS.iload X0.here hx rfl (hb hby d_jdk_52_method_21_3) rfl kK) ?_
  show OwnFin p e below _ (s₁.setTop (mkF m 5 #[.val (.ref ar), .val (.int (0 : Int32)), .val (.ref yb), .val (.int (0 : Int32)), .val (.int (2 : Int32)), .val (.int (0 : Int32)), .unset] [(.int (0 : Int32))]))
  refine OwnFin.step (fun tT kK => XS.iload X0.here hx rfl (hb hby d_jdk_52_method_21_5) rfl kK) ?_
  show OwnFin p e below _ (s₁.setTop (mkF m 7 #[.val (.ref ar), .val (.int (0 : Int32)), .val (.ref yb), .val (.int (0 : Int32)), .val (.int (2 : Int32)), .val (.int (0 : Int32)), .unset] [(.int (2 : Int32)), (.int (0 : Int32))]))
  refine OwnFin.step (fun tT kK => XS.icmpNo X0.here hx rfl (hb hby d_jdk_52_method_21_7) rfl (tlt (by decide : (0 : Int32) < (2 : Int32))).2.1 kK) ?_
  show OwnFin p e below _ (s₁.setTop (mkF m 10 #[.val (.ref ar), .val (.int (0 : Int32)), .val (.ref yb), .val (.int (0 : Int32)), .val (.int (2 : Int32)), .val (.int (0 : Int32)), .unset] []))
  refine OwnFin.step (fun tT kK => XS.aloadN X0.here hx rfl (hb hby d_jdk_52_method_21_10) rfl rfl kK) ?_
  show OwnFin p e below _ (s₁.setTop (mkF m 11 #[.val (.ref ar), .val (.int (0 : Int32)), .val (.ref yb), .val (.int (0 : Int32)), .val (.int (2 : Int32)), .val (.int (0 : Int32)), .unset] [(.ref ar)]))
  refine OwnFin.step (fun tT kK => XS.iloadN X0.here hx rfl (hb hby d_jdk_52_method_21_11) rfl kK) ?_
  show OwnFin p e below _ (s₁.setTop (mkF m 12 #[.val (.ref ar), .val (.int (0 : Int32)), .val (.ref yb), .val (.int (0 : Int32)), .val (.int (2 : Int32)), .val (.int (0 : Int32)), .unset] [(.int (0 : Int32)), (.ref ar)]))
  obtain ⟨cl1, Ar1, q1, Sz1, Ng1, H1, G1⟩ := id hp0
  have hin1 : ¬ ((0 : Int32) < 0 ∨ cl1.slots.size ≤ ((0 : Int32)).toNatClampNeg) := inb_of Sz1 ⟨by decide, by decide⟩
  refine OwnFin.step (fun tT kK => X0.caload hx (j := (0 : Int32)) (v := (.int c0)) (by rw [e0]; exact Ar1.1) (State.isArrayOf_alike hZ.alike Ar1.2.1) Ar1.2.2 hin1 (H1.at hin1 rfl) (g := (mkF m 12 #[.val (.ref ar), .val (.int (0 : Int32)), .val (.ref yb), .val (.int (0 : Int32)), .val (.int (2 : Int32)), .val (.int (0 : Int32)), .unset] [(.int (0 : Int32)), (.ref ar)])) rfl rfl (hb hby d_jdk_52_method_21_12) _ kK) ?_
  show OwnFin p e below _ (s₁.setTop (mkF m 13 #[.val (.ref ar), .val (.int (0 : Int32)), .val (.ref yb), .val (.int (0 : Int32)), .val (.int (2 : Int32)), .val (.int (0 : Int32)), .unset] [(.int c0)]))
  refine OwnFin.step (fun tT kK => XS.istore X0.here hx rfl (hb hby d_jdk_52_method_21_13) rfl (l' := #[.val (.ref ar), .val (.int (0 : Int32)), .val (.ref yb), .val (.int (0 : Int32)), .val (.int (2 : Int32)), .val (.int (0 : Int32)), .val (.int c0)]) rfl kK) ?_
  show OwnFin p e below _ (s₁.setTop (mkF m 15 #[.val (.ref ar), .val (.int (0 : Int32)), .val (.ref yb), .val (.int (0 : Int32)), .val (.int (2 : Int32)), .val (.int (0 : Int32)), .val (.int c0)] []))
  refine OwnFin.step (fun tT kK => XS.iload X0.here hx rfl (hb hby d_jdk_52_method_21_15) rfl kK) ?_
  show OwnFin p e below _ (s₁.setTop (mkF m 17 #[.val (.ref ar), .val (.int (0 : Int32)), .val (.ref yb), .val (.int (0 : Int32)), .val (.int (2 : Int32)), .val (.int (0 : Int32)), .val (.int c0)] [(.int c0)]))
  refine OwnFin.step (fun tT kK => XS.sipush X0.here hx rfl (hb hby d_jdk_52_method_21_17) kK) ?_
  show OwnFin p e below _ (s₁.setTop (mkF m 20 #[.val (.ref ar), .val (.int (0 : Int32)), .val (.ref yb), .val (.int (0 : Int32)), .val (.int (2 : Int32)), .val (.int (0 : Int32)), .val (.int c0)] [(.int (255 : Int32)), (.int c0)]))
  refine OwnFin.step (fun tT kK => XS.icmpYes X0.here hx rfl (pc0 := 20) (pc' := 26) rfl (hb hby d_jdk_52_method_21_20) rfl (flt (hp2 : ¬ ((255 : Int32) < c0))).2.2.2 (by decide) (by decide) kK) ?_
  show OwnFin p e below _ (s₁.setTop (mkF m 26 #[.val (.ref ar), .val (.int (0 : Int32)), .val (.ref yb), .val (.int (0 : Int32)), .val (.int (2 : Int32)), .val (.int (0 : Int32)), .val (.int c0)] []))
  refine OwnFin.step (fun tT kK => XS.aloadN X0.here hx rfl (hb hby d_jdk_52_method_21_26) rfl rfl kK) ?_
  show OwnFin p e below _ (s₁.setTop (mkF m 27 #[.val (.ref ar), .val (.int (0 : Int32)), .val (.ref yb), .val (.int (0 : Int32)), .val (.int (2 : Int32)), .val (.int (0 : Int32)), .val (.int c0)] [(.ref yb)]))
  refine OwnFin.step (fun tT kK => XS.iloadN X0.here hx rfl (hb hby d_jdk_52_method_21_27) rfl kK) ?_
  show OwnFin p e below _ (s₁.setTop (mkF m 28 #[.val (.ref ar), .val (.int (0 : Int32)), .val (.ref yb), .val (.int (0 : Int32)), .val (.int (2 : Int32)), .val (.int (0 : Int32)), .val (.int c0)] [(.int (0 : Int32)), (.ref yb)]))
  refine OwnFin.step (fun tT kK => XS.iload X0.here hx rfl (hb hby d_jdk_52_method_21_28) rfl kK) ?_
  show OwnFin p e below _ (s₁.setTop (mkF m 30 #[.val (.ref ar), .val (.int (0 : Int32)), .val (.ref yb), .val (.int (0 : Int32)), .val (.int (2 : Int32)), .val (.int (0 : Int32)), .val (.int c0)] [(.int c0), (.int (0 : Int32)), (.ref yb)]))
  refine OwnFin.step (fun tT kK => XS.i2b X0.here hx rfl (hb hby d_jdk_52_method_21_30) rfl kK) ?_
  show OwnFin p e below _ (s₁.setTop (mkF m 31 #[.val (.ref ar), .val (.int (0 : Int32)), .val (.ref yb), .val (.int (0 : Int32)), .val (.int (2 : Int32)), .val (.int (0 : Int32)), .val (.int c0)] [(.int (c0.toInt8.toInt32)), (.int (0 : Int32)), (.ref yb)]))
  obtain ⟨cl2, Ar2, q2, Sz2, Ng2, H2, G2⟩ := id hp1
  have hin2 : ¬ ((0 : Int32) < 0 ∨ cl2.slots.size ≤ ((0 : Int32)).toNatClampNeg) := inb_of Sz2 ⟨by decide, by decide⟩
  obtain ⟨T3, h3, X3, e3, W3, st3⟩ := stB X0 hx hZ e0 Ar2 (j := (0 : Int32)) hin2 (g := (mkF m 31 #[.val (.ref ar), .val (.int (0 : Int32)), .val (.ref yb), .val (.int (0 : Int32)), .val (.int (2 : Int32)), .val (.int (0 : Int32)), .val (.int c0)] [(.int (c0.toInt8.toInt32)), (.int (0 : Int32)), (.ref yb)])) rfl rfl (hb hby d_jdk_52_method_21_31)
  refine OwnFin.step st3 ?_
  have N3 := Fr.snoc X3 N0 hp4
  have V3 : Arv Z h3 yb kb .byte (2 : Int32) [(.int (nar .byte (c0.toInt8.toInt32))), (.int (0 : Int32))] (.int (0 : Int32)) := Arv.set Ar2 q2 Sz2 Ng2 H2 G2 (fits_nar_byte _) W3 0 rfl (Nat.le_of_ble_eq_true rfl)
  show OwnFin p e below _ (T3.setTop (mkF m 32 #[.val (.ref ar), .val (.int (0 : Int32)), .val (.ref yb), .val (.int (0 : Int32)), .val (.int (2 : Int32)), .val (.int (0 : Int32)), .val (.int c0)] []))
  refine OwnFin.step (fun tT kK => XS.iinc X3.here hx rfl (hb hby d_jdk_52_method_21_32) rfl (l' := #[.val (.ref ar), .val (.int (1 : Int32)), .val (.ref yb), .val (.int (0 : Int32)), .val (.int (2 : Int32)), .val (.int (0 : Int32)), .val (.int c0)]) rfl kK) ?_
  show OwnFin p e below _ (T3.setTop (mkF m 35 #[.val (.ref ar), .val (.int (1 : Int32)), .val (.ref yb), .val (.int (0 : Int32)), .val (.int (2 : Int32)), .val (.int (0 : Int32)), .val (.int c0)] []))
  refine OwnFin.step (fun tT kK => XS.iinc X3.here hx rfl (hb hby d_jdk_52_method_21_35) rfl (l' := #[.val (.ref ar), .val (.int (1 : Int32)), .val (.ref yb), .val (.int (1 : Int32)), .val (.int (2 : Int32)), .val (.int (0 : Int32)), .val (.int c0)]) rfl kK) ?_
  show OwnFin p e below _ (T3.setTop (mkF m 38 #[.val (.ref ar), .val (.int (1 : Int32)), .val (.ref yb), .val (.int (1 : Int32)), .val (.int (2 : Int32)), .val (.int (0 : Int32)), .val (.int c0)] []))
  refine OwnFin.step (fun tT kK => XS.iinc X3.here hx rfl (hb hby d_jdk_52_method_21_38) rfl (l' := #[.val (.ref ar), .val (.int (1 : Int32)), .val (.ref yb), .val (.int (1 : Int32)), .val (.int (2 : Int32)), .val (.int (1 : Int32)), .val (.int c0)]) rfl kK) ?_
  show OwnFin p e below _ (T3.setTop (mkF m 41 #[.val (.ref ar), .val (.int (1 : Int32)), .val (.ref yb), .val (.int (1 : Int32)), .val (.int (2 : Int32)), .val (.int (1 : Int32)), .val (.int c0)] []))
  refine OwnFin.step (fun tT kK => XS.goto X3.here hx rfl (pc0 := 41) (pc' := 3) rfl (hb hby d_jdk_52_method_21_41) (by decide) (by decide) kK) ?_
  show OwnFin p e below _ (T3.setTop (mkF m 3 #[.val (.ref ar), .val (.int (1 : Int32)), .val (.ref yb), .val (.int (1 : Int32)), .val (.int (2 : Int32)), .val (.int (1 : Int32)), .val (.int c0)] []))
  refine OwnFin.step (fun tT kK => XS.iload X3.here hx rfl (hb hby d_jdk_52_method_21_3) rfl kK) ?_
  show OwnFin p e below _ (T3.setTop (mkF m 5 #[.val (.ref ar), .val (.int (1 : Int32)), .val (.ref yb), .val (.int (1 : Int32)), .val (.int (2 : Int32)), .val (.int (1 : Int32)), .val (.int c0)] [(.int (1 : Int32))]))
  refine OwnFin.step (fun tT kK => XS.iload X3.here hx rfl (hb hby d_jdk_52_method_21_5) rfl kK) ?_
  show OwnFin p e below _ (T3.setTop (mkF m 7 #[.val (.ref ar), .val (.int (1 : Int32)), .val (.ref yb), .val (.int (1 : Int32)), .val (.int (2 : Int32)), .val (.int (1 : Int32)), .val (.int c0)] [(.int (2 : Int32)), (.int (1 : Int32))]))
  refine OwnFin.step (fun tT kK => XS.icmpNo X3.here hx rfl (hb hby d_jdk_52_method_21_7) rfl (tlt (by decide : (1 : Int32) < (2 : Int32))).2.1 kK) ?_
  show OwnFin p e below _ (T3.setTop (mkF m 10 #[.val (.ref ar), .val (.int (1 : Int32)), .val (.ref yb), .val (.int (1 : Int32)), .val (.int (2 : Int32)), .val (.int (1 : Int32)), .val (.int c0)] []))
  refine OwnFin.step (fun tT kK => XS.aloadN X3.here hx rfl (hb hby d_jdk_52_method_21_10) rfl rfl kK) ?_
  show OwnFin p e below _ (T3.setTop (mkF m 11 #[.val (.ref ar), .val (.int (1 : Int32)), .val (.ref yb), .val (.int (1 : Int32)), .val (.int (2 : Int32)), .val (.int (1 : Int32)), .val (.int c0)] [(.ref ar)]))
  refine OwnFin.step (fun tT kK => XS.iloadN X3.here hx rfl (hb hby d_jdk_52_method_21_11) rfl kK) ?_
  show OwnFin p e below _ (T3.setTop (mkF m 12 #[.val (.ref ar), .val (.int (1 : Int32)), .val (.ref yb), .val (.int (1 : Int32)), .val (.int (2 : Int32)), .val (.int (1 : Int32)), .val (.int c0)] [(.int (1 : Int32)), (.ref ar)]))
  have f4 : Arv Z h3 ar k .char (2 : Int32) [(.int c0), (.int c1)] (.int (0 : Int32)) := (hp0.other W3 hp5)
  obtain ⟨cl5, Ar5, q5, Sz5, Ng5, H5, G5⟩ := id f4
  have hin5 : ¬ ((1 : Int32) < 0 ∨ cl5.slots.size ≤ ((1 : Int32)).toNatClampNeg) := inb_of Sz5 ⟨by decide, by decide⟩
  refine OwnFin.step (fun tT kK => X3.caload hx (j := (1 : Int32)) (v := (.int c1)) (by rw [e3]; exact Ar5.1) (State.isArrayOf_alike hZ.alike Ar5.2.1) Ar5.2.2 hin5 (H5.at hin5 rfl) (g := (mkF m 12 #[.val (.ref ar), .val (.int (1 : Int32)), .val (.ref yb), .val (.int (1 : Int32)), .val (.int (2 : Int32)), .val (.int (1 : Int32)), .val (.int c0)] [(.int (1 : Int32)), (.ref ar)])) rfl rfl (hb hby d_jdk_52_method_21_12) _ kK) ?_
  show OwnFin p e below _ (T3.setTop (mkF m 13 #[.val (.ref ar), .val (.int (1 : Int32)), .val (.ref yb), .val (.int (1 : Int32)), .val (.int (2 : Int32)), .val (.int (1 : Int32)), .val (.int c0)] [(.int c1)]))
  refine OwnFin.step (fun tT kK => XS.istore X3.here hx rfl (hb hby d_jdk_52_method_21_13) rfl (l' := #[.val (.ref ar), .val (.int (1 : Int32)), .val (.ref yb), .val (.int (1 : Int32)), .val (.int (2 : Int32)), .val (.int (1 : Int32)), .val (.int c1)]) rfl kK) ?_
  show OwnFin p e below _ (T3.setTop (mkF m 15 #[.val (.ref ar), .val (.int (1 : Int32)), .val (.ref yb), .val (.int (1 : Int32)), .val (.int (2 : Int32)), .val (.int (1 : Int32)), .val (.int c1)] []))
  refine OwnFin.step (fun tT kK => XS.iload X3.here hx rfl (hb hby d_jdk_52_method_21_15) rfl kK) ?_
  show OwnFin p e below _ (T3.setTop (mkF m 17 #[.val (.ref ar), .val (.int (1 : Int32)), .val (.ref yb), .val (.int (1 : Int32)), .val (.int (2 : Int32)), .val (.int (1 : Int32)), .val (.int c1)] [(.int c1)]))
  refine OwnFin.step (fun tT kK => XS.sipush X3.here hx rfl (hb hby d_jdk_52_method_21_17) kK) ?_
  show OwnFin p e below _ (T3.setTop (mkF m 20 #[.val (.ref ar), .val (.int (1 : Int32)), .val (.ref yb), .val (.int (1 : Int32)), .val (.int (2 : Int32)), .val (.int (1 : Int32)), .val (.int c1)] [(.int (255 : Int32)), (.int c1)]))
  refine OwnFin.step (fun tT kK => XS.icmpYes X3.here hx rfl (pc0 := 20) (pc' := 26) rfl (hb hby d_jdk_52_method_21_20) rfl (flt (hp3 : ¬ ((255 : Int32) < c1))).2.2.2 (by decide) (by decide) kK) ?_
  show OwnFin p e below _ (T3.setTop (mkF m 26 #[.val (.ref ar), .val (.int (1 : Int32)), .val (.ref yb), .val (.int (1 : Int32)), .val (.int (2 : Int32)), .val (.int (1 : Int32)), .val (.int c1)] []))
  refine OwnFin.step (fun tT kK => XS.aloadN X3.here hx rfl (hb hby d_jdk_52_method_21_26) rfl rfl kK) ?_
  show OwnFin p e below _ (T3.setTop (mkF m 27 #[.val (.ref ar), .val (.int (1 : Int32)), .val (.ref yb), .val (.int (1 : Int32)), .val (.int (2 : Int32)), .val (.int (1 : Int32)), .val (.int c1)] [(.ref yb)]))
  refine OwnFin.step (fun tT kK => XS.iloadN X3.here hx rfl (hb hby d_jdk_52_method_21_27) rfl kK) ?_
  show OwnFin p e below _ (T3.setTop (mkF m 28 #[.val (.ref ar), .val (.int (1 : Int32)), .val (.ref yb), .val (.int (1 : Int32)), .val (.int (2 : Int32)), .val (.int (1 : Int32)), .val (.int c1)] [(.int (1 : Int32)), (.ref yb)]))
  refine OwnFin.step (fun tT kK => XS.iload X3.here hx rfl (hb hby d_jdk_52_method_21_28) rfl kK) ?_
  show OwnFin p e below _ (T3.setTop (mkF m 30 #[.val (.ref ar), .val (.int (1 : Int32)), .val (.ref yb), .val (.int (1 : Int32)), .val (.int (2 : Int32)), .val (.int (1 : Int32)), .val (.int c1)] [(.int c1), (.int (1 : Int32)), (.ref yb)]))
  refine OwnFin.step (fun tT kK => XS.i2b X3.here hx rfl (hb hby d_jdk_52_method_21_30) rfl kK) ?_
  show OwnFin p e below _ (T3.setTop (mkF m 31 #[.val (.ref ar), .val (.int (1 : Int32)), .val (.ref yb), .val (.int (1 : Int32)), .val (.int (2 : Int32)), .val (.int (1 : Int32)), .val (.int c1)] [(.int (c1.toInt8.toInt32)), (.int (1 : Int32)), (.ref yb)]))
  obtain ⟨cl6, Ar6, q6, Sz6, Ng6, H6, G6⟩ := id V3
  have hin6 : ¬ ((1 : Int32) < 0 ∨ cl6.slots.size ≤ ((1 : Int32)).toNatClampNeg) := inb_of Sz6 ⟨by decide, by decide⟩
  obtain ⟨T7, h7, X7, e7, W7, st7⟩ := stB X3 hx hZ e3 Ar6 (j := (1 : Int32)) hin6 (g := (mkF m 31 #[.val (.ref ar), .val (.int (1 : Int32)), .val (.ref yb), .val (.int (1 : Int32)), .val (.int (2 : Int32)), .val (.int (1 : Int32)), .val (.int c1)] [(.int (c1.toInt8.toInt32)), (.int (1 : Int32)), (.ref yb)])) rfl rfl (hb hby d_jdk_52_method_21_31)
  refine OwnFin.step st7 ?_
  have N7 := Fr.snoc X7 N3 hp4
  have V7 : Arv Z h7 yb kb .byte (2 : Int32) [(.int (nar .byte (c0.toInt8.toInt32))), (.int (nar .byte (c1.toInt8.toInt32)))] (.int (0 : Int32)) := Arv.set Ar6 q6 Sz6 Ng6 H6 G6 (fits_nar_byte _) W7 1 rfl (Nat.le_of_ble_eq_true rfl)
  show OwnFin p e below _ (T7.setTop (mkF m 32 #[.val (.ref ar), .val (.int (1 : Int32)), .val (.ref yb), .val (.int (1 : Int32)), .val (.int (2 : Int32)), .val (.int (1 : Int32)), .val (.int c1)] []))
  refine OwnFin.step (fun tT kK => XS.iinc X7.here hx rfl (hb hby d_jdk_52_method_21_32) rfl (l' := #[.val (.ref ar), .val (.int (2 : Int32)), .val (.ref yb), .val (.int (1 : Int32)), .val (.int (2 : Int32)), .val (.int (1 : Int32)), .val (.int c1)]) rfl kK) ?_
  show OwnFin p e below _ (T7.setTop (mkF m 35 #[.val (.ref ar), .val (.int (2 : Int32)), .val (.ref yb), .val (.int (1 : Int32)), .val (.int (2 : Int32)), .val (.int (1 : Int32)), .val (.int c1)] []))
  refine OwnFin.step (fun tT kK => XS.iinc X7.here hx rfl (hb hby d_jdk_52_method_21_35) rfl (l' := #[.val (.ref ar), .val (.int (2 : Int32)), .val (.ref yb), .val (.int (2 : Int32)), .val (.int (2 : Int32)), .val (.int (1 : Int32)), .val (.int c1)]) rfl kK) ?_
  show OwnFin p e below _ (T7.setTop (mkF m 38 #[.val (.ref ar), .val (.int (2 : Int32)), .val (.ref yb), .val (.int (2 : Int32)), .val (.int (2 : Int32)), .val (.int (1 : Int32)), .val (.int c1)] []))
  refine OwnFin.step (fun tT kK => XS.iinc X7.here hx rfl (hb hby d_jdk_52_method_21_38) rfl (l' := #[.val (.ref ar), .val (.int (2 : Int32)), .val (.ref yb), .val (.int (2 : Int32)), .val (.int (2 : Int32)), .val (.int (2 : Int32)), .val (.int c1)]) rfl kK) ?_
  show OwnFin p e below _ (T7.setTop (mkF m 41 #[.val (.ref ar), .val (.int (2 : Int32)), .val (.ref yb), .val (.int (2 : Int32)), .val (.int (2 : Int32)), .val (.int (2 : Int32)), .val (.int c1)] []))
  refine OwnFin.step (fun tT kK => XS.goto X7.here hx rfl (pc0 := 41) (pc' := 3) rfl (hb hby d_jdk_52_method_21_41) (by decide) (by decide) kK) ?_
  show OwnFin p e below _ (T7.setTop (mkF m 3 #[.val (.ref ar), .val (.int (2 : Int32)), .val (.ref yb), .val (.int (2 : Int32)), .val (.int (2 : Int32)), .val (.int (2 : Int32)), .val (.int c1)] []))
  refine OwnFin.step (fun tT kK => XS.iload X7.here hx rfl (hb hby d_jdk_52_method_21_3) rfl kK) ?_
  show OwnFin p e below _ (T7.setTop (mkF m 5 #[.val (.ref ar), .val (.int (2 : Int32)), .val (.ref yb), .val (.int (2 : Int32)), .val (.int (2 : Int32)), .val (.int (2 : Int32)), .val (.int c1)] [(.int (2 : Int32))]))
  refine OwnFin.step (fun tT kK => XS.iload X7.here hx rfl (hb hby d_jdk_52_method_21_5) rfl kK) ?_
  show OwnFin p e below _ (T7.setTop (mkF m 7 #[.val (.ref ar), .val (.int (2 : Int32)), .val (.ref yb), .val (.int (2 : Int32)), .val (.int (2 : Int32)), .val (.int (2 : Int32)), .val (.int c1)] [(.int (2 : Int32)), (.int (2 : Int32))]))
  refine OwnFin.step (fun tT kK => XS.icmpYes X7.here hx rfl (pc0 := 7) (pc' := 44) rfl (hb hby d_jdk_52_method_21_7) rfl (flt (by decide : ¬ ((2 : Int32) < (2 : Int32)))).2.1 (by decide) (by decide) kK) ?_
  show OwnFin p e below _ (T7.setTop (mkF m 44 #[.val (.ref ar), .val (.int (2 : Int32)), .val (.ref yb), .val (.int (2 : Int32)), .val (.int (2 : Int32)), .val (.int (2 : Int32)), .val (.int c1)] []))
  refine OwnFin.step (fun tT kK => XS.iload X7.here hx rfl (hb hby d_jdk_52_method_21_44) rfl kK) ?_
  show OwnFin p e below _ (T7.setTop (mkF m 46 #[.val (.ref ar), .val (.int (2 : Int32)), .val (.ref yb), .val (.int (2 : Int32)), .val (.int (2 : Int32)), .val (.int (2 : Int32)), .val (.int c1)] [(.int (2 : Int32))]))
  obtain ⟨fs8, hr8, hrun8, hended8, hW8, hsame8⟩ := X7.leave (v := (some (.int (2 : Int32)))) (fun h => by rw [Bd.returns] at h; cases h)
  refine ⟨_, _, retOut X7 hx Bd.returns rfl (Or.inl ⟨rfl, Or.inl rfl, _, rfl⟩) (hb hby d_jdk_52_method_21_46) hr8, hrun8, hended8, _, _, rfl, ?_, ⟨_, rfl⟩, hW8, hsame8.mono (by decide) (by decide)⟩
  show Q52a Z ar yb k kb c0 c1 h0 n0 _ T7.heap _
  rw [e7]
  exact ⟨rfl, N7, (((Keep.refl h0 [yb]).wr W3 (Or.inl (List.mem_of_getElem? (i := 0) rfl))).wr W7 (Or.inl (List.mem_of_getElem? (i := 0) rfl))), V7⟩
theorem ef_52b (m : MethodId) (ar : Addr) : entryFrame m #[(.ref ar), (.int (0 : Int32)), (.int (2 : Int32))] 6 = mkF m 0 #[.val (.ref ar), .val (.int (0 : Int32)), .val (.int (2 : Int32)), .unset, .unset, .unset] [] := by first | (simp [entryFrame, mkF, argsToLocals, Value.category]; done) | rfl
def Q52b (Z : State) (ar : Addr) (k : ClassId) (c0 : Int32) (c1 : Int32) (h0 : Heap) (n0 : Nat) (vV : Option Value) (hH : Heap) (LL : List Loc) : Prop := ∃ b : Addr, ∃ kb : ClassId, vV = some (.ref b) ∧ Fr n0 LL ∧ Keep h0 hH [] ∧ h0.size ≤ b ∧ (Arv Z hH b kb .byte (2 : Int32) [(.int (nar .byte (c0.toInt8.toInt32))), (.int (nar .byte (c1.toInt8.toInt32)))] (.int (0 : Int32)))
def R52b (Z : State) (ar : Addr) (k : ClassId) (c0 : Int32) (c1 : Int32) (h0 : Heap) (n0 : Nat) (U : State) (o : Outcome) (U' : State) : Prop := ∃ vV LL, o = .returned vV ∧ Q52b Z ar k c0 c1 h0 n0 vV U'.heap LL ∧ FrameEnd U o U' LL ({ frames := 1, cells := 1, slots := 2, locals := 18 } : Room).cells ({ frames := 1, cells := 1, slots := 2, locals := 18 } : Room).slots
set_option maxRecDepth 65536 in
set_option maxHeartbeats 40000000 in
theorem rm52b (l : Launch) (Z : State) (a0 : Array Value) (hw : ∀ d ∈ tables_1, d.before a0 Z = true) (hEL : EW Z a0 OwnEL) (wS : ∀ a ∈ Bundle.stringAtoms, a.before a0 Z = true) (ws : List Jvm.Cond) (ar : Addr) (k : ClassId) (c0 : Int32) (c1 : Int32) (h0 : Heap) (n0 : Nat) (Z0 : n0 ≤ h0.size) (hp0 : Arv Z h0 ar k .char (2 : Int32) [(.int c0), (.int c1)] (.int (0 : Int32))) (hp1 : ¬ (255 : Int32) < c0) (hp2 : ¬ (255 : Int32) < c1) :
    MetFree l (⟨"java/lang/StringUTF16", "compress", "([CII)[B"⟩ : MethodName) (head1 (Jvm.Cond.code (⟨"java/lang/StringUTF16", "compress", "([CII)[B"⟩ : MethodName) jdk_52_method_16_code 6 (some (.array .byte)) :: ws) ({ frames := 1, cells := 1, slots := 2, locals := 18 } : Room)) (fun aA U => aA = #[(.ref ar), (.int (0 : Int32)), (.int (2 : Int32))] ∧ Z.Warmed39 U.vm ∧ U.heap = h0) (fun _ _ _ _ _ => True) (fun _ U o U' => ∃ vV LL, o = .returned vV ∧ Q52b Z ar k c0 c1 h0 n0 vV U'.heap LL ∧ FrameEnd U o U' LL ({ frames := 1, cells := 1, slots := 2, locals := 18 } : Room).cells ({ frames := 1, cells := 1, slots := 2, locals := 18 } : Room).slots) := by
  refine MetFree.of_bodySF (plainFor_of_name pn_131) hisR ?_
  intro p e s m args below meth cC s₁ Bd hml0 hP hK
  obtain ⟨rfl, hZ, hh⟩ := hP
  have hx := Bd.exec
  have hby := Bd.bytes
  have hml : cC.maxLocals = 6 := hml0
  have hown : s.vm.findClass "java/lang/StringUTF16" = some m.cls := findClass_of_methodNamed Bd.named
  have hnm := (name_of_methodNamed Bd.named Bd.method).1
  have X0 : Stand p l e ({ frames := 1, cells := 1, slots := 2, locals := 18 } : Room) s m #[(.ref ar), (.int (0 : Int32)), (.int (2 : Int32))] below meth cC s₁ [] 0 0 := Stand.of_body Bd
  have e0 : s₁.heap = h0 := by rw [← hh, Bd.state]; rfl
  have N0 := Fr.nil n0
  show OwnFin p e below (R52b Z ar k c0 c1 h0 n0 s) (s₁.setTop (entryFrame m #[(.ref ar), (.int (0 : Int32)), (.int (2 : Int32))] 6))
  rw [ef_52b m ar]
  refine OwnFin.step (fun tT kK => XS.iloadN X0.here hx rfl (hb hby d_jdk_52_method_16_0) rfl kK) ?_
  show OwnFin p e below _ (s₁.setTop (mkF m 1 #[.val (.ref ar), .val (.int (0 : Int32)), .val (.int (2 : Int32)), .unset, .unset, .unset] [(.int (2 : Int32))]))
  obtain ⟨T1, h1, k1, X1, e1, E1, A1, st1⟩ := newP X0 hx hZ (hw _ (List.mem_of_getElem? (i := 23) rfl)) e0 (g := (mkF m 1 #[.val (.ref ar), .val (.int (0 : Int32)), .val (.int (2 : Int32)), .unset, .unset, .unset] [(.int (2 : Int32))])) rfl (hb hby d_jdk_52_method_16_1) rfl (by decide) (cap := 2) (by decide) (by decide) (by decide) (by decide)
  obtain ⟨b1, g1⟩ : ∃ z, z = h0.size := ⟨_, rfl⟩
  rw [← g1] at A1 st1
  refine OwnFin.step st1 ?_
  have V1 : Arv Z h1 b1 k1 .byte (2 : Int32) [(.int (0 : Int32)), (.int (0 : Int32))] (.int (0 : Int32)) := (Arv.new A1 (by decide)).pad (pad_rep [] (.int (0 : Int32)) 2)
  show OwnFin p e below _ (T1.setTop (mkF m 3 #[.val (.ref ar), .val (.int (0 : Int32)), .val (.int (2 : Int32)), .unset, .unset, .unset] [(.ref b1)]))
  refine OwnFin.step (fun tT kK => XS.astoreN X1.here hx rfl (hb hby d_jdk_52_method_16_3) rfl rfl (l' := #[.val (.ref ar), .val (.int (0 : Int32)), .val (.int (2 : Int32)), .val (.ref b1), .unset, .unset]) rfl kK) ?_
  show OwnFin p e below _ (T1.setTop (mkF m 4 #[.val (.ref ar), .val (.int (0 : Int32)), .val (.int (2 : Int32)), .val (.ref b1), .unset, .unset] []))
  refine OwnFin.step (fun tT kK => XS.aloadN X1.here hx rfl (hb hby d_jdk_52_method_16_4) rfl rfl kK) ?_
  show OwnFin p e below _ (T1.setTop (mkF m 5 #[.val (.ref ar), .val (.int (0 : Int32)), .val (.int (2 : Int32)), .val (.ref b1), .unset, .unset] [(.ref ar)]))
  refine OwnFin.step (fun tT kK => XS.iloadN X1.here hx rfl (hb hby d_jdk_52_method_16_5) rfl kK) ?_
  show OwnFin p e below _ (T1.setTop (mkF m 6 #[.val (.ref ar), .val (.int (0 : Int32)), .val (.int (2 : Int32)), .val (.ref b1), .unset, .unset] [(.int (0 : Int32)), (.ref ar)]))
  refine OwnFin.step (fun tT kK => XS.aloadN X1.here hx rfl (hb hby d_jdk_52_method_16_6) rfl rfl kK) ?_
  show OwnFin p e below _ (T1.setTop (mkF m 7 #[.val (.ref ar), .val (.int (0 : Int32)), .val (.int (2 : Int32)), .val (.ref b1), .unset, .unset] [(.ref b1), (.int (0 : Int32)), (.ref ar)]))
  refine OwnFin.step (fun tT kK => XS.iconst X1.here hx rfl (hb hby d_jdk_52_method_16_7) kK) ?_
  show OwnFin p e below _ (T1.setTop (mkF m 8 #[.val (.ref ar), .val (.int (0 : Int32)), .val (.int (2 : Int32)), .val (.ref b1), .unset, .unset] [(.int (0 : Int32)), (.ref b1), (.int (0 : Int32)), (.ref ar)]))
  refine OwnFin.step (fun tT kK => XS.iloadN X1.here hx rfl (hb hby d_jdk_52_method_16_8) rfl kK) ?_
  show OwnFin p e below _ (T1.setTop (mkF m 9 #[.val (.ref ar), .val (.int (0 : Int32)), .val (.int (2 : Int32)), .val (.ref b1), .unset, .unset] [(.int (2 : Int32)), (.int (0 : Int32)), (.ref b1), (.int (0 : Int32)), (.ref ar)]))
  have f2 : Arv Z h1 ar k .char (2 : Int32) [(.int c0), (.int c1)] (.int (0 : Int32)) := (hp0.ext E1)
  obtain ⟨_, _, ⟨T3, L3, k3, n3⟩, -, X3, ⟨Lc3, hQ3, l3, y3, z3⟩, st3⟩ := Jvm.LawKit.callS X1 hx (y := (⟨"java/lang/StringUTF16", "compress", "([CI[BII)I"⟩ : MethodName)) hown (mvT hZ (hw _ (List.mem_of_getElem? (i := 24) rfl))) (mvT hZ (hw _ (List.mem_of_getElem? (i := 25) rfl))) (mvT hZ (hw _ (List.mem_of_getElem? (i := 21) rfl))) (mvT hZ (hw _ (List.mem_of_getElem? (i := 26) rfl))) (by decide) (backOf (W := 0) (rm52a l Z a0 hw hEL wS [] ar b1 k k1 c0 c1 h1 n0 (Nat.le_trans Z0 E1.1) f2 V1 (hp1) (hp2) (Nat.le_trans Z0 (Nat.le_of_eq g1.symm)) (Nat.ne_of_lt (Nat.lt_of_lt_of_le (Nat.lt_of_lt_of_le hp0.lt (Nat.le_refl _)) (Nat.le_of_eq g1.symm)))) hZ (hw _ (List.mem_of_getElem? (i := 26) rfl)) (hw _ (List.mem_of_getElem? (i := 21) rfl)) (by decide) (by decide)) (g := (mkF m 9 #[.val (.ref ar), .val (.int (0 : Int32)), .val (.int (2 : Int32)), .val (.ref b1), .unset, .unset] [(.int (2 : Int32)), (.int (0 : Int32)), (.ref b1), (.int (0 : Int32)), (.ref ar)])) rfl (by rw [hml]; rfl) (argsL := [(.ref ar), (.int (0 : Int32)), (.ref b1), (.int (0 : Int32)), (.int (2 : Int32))]) (rest := []) (lenOf pd_164 rfl) rfl (by show 2 * 0 + _ ≤ _; exact Nat.le_of_eq rfl) (hb hby d_jdk_52_method_16_9) (fun _ _ => ⟨rfl, e1, (by decide : 1 + 0 ≤ _), (by decide : 2 + 0 ≤ _)⟩)
  dsimp only [Pt.U, Pt.locs, Pt.cells, Pt.slots] at X3 l3 y3 z3 st3 hQ3
  subst l3 y3 z3
  obtain ⟨rfl, N3q, K3, P3_0⟩ := hQ3
  have N3 := Fr.app N0 N3q
  refine OwnFin.step st3 ?_
  show OwnFin p e below _ (T3.setTop (mkF m 12 #[.val (.ref ar), .val (.int (0 : Int32)), .val (.int (2 : Int32)), .val (.ref b1), .unset, .unset] [(.int (2 : Int32))]))
  refine OwnFin.step (fun tT kK => XS.istore X3.here hx rfl (hb hby d_jdk_52_method_16_12) rfl (l' := #[.val (.ref ar), .val (.int (0 : Int32)), .val (.int (2 : Int32)), .val (.ref b1), .val (.int (2 : Int32)), .unset]) rfl kK) ?_
  show OwnFin p e below _ (T3.setTop (mkF m 14 #[.val (.ref ar), .val (.int (0 : Int32)), .val (.int (2 : Int32)), .val (.ref b1), .val (.int (2 : Int32)), .unset] []))
  refine OwnFin.step (fun tT kK => XS.iload X3.here hx rfl (hb hby d_jdk_52_method_16_14) rfl kK) ?_
  show OwnFin p e below _ (T3.setTop (mkF m 16 #[.val (.ref ar), .val (.int (0 : Int32)), .val (.int (2 : Int32)), .val (.ref b1), .val (.int (2 : Int32)), .unset] [(.int (2 : Int32))]))
  refine OwnFin.step (fun tT kK => XS.iloadN X3.here hx rfl (hb hby d_jdk_52_method_16_16) rfl kK) ?_
  show OwnFin p e below _ (T3.setTop (mkF m 17 #[.val (.ref ar), .val (.int (0 : Int32)), .val (.int (2 : Int32)), .val (.ref b1), .val (.int (2 : Int32)), .unset] [(.int (2 : Int32)), (.int (2 : Int32))]))
  refine OwnFin.step (fun tT kK => XS.icmpYes X3.here hx rfl (pc0 := 17) (pc' := 57) rfl (hb hby d_jdk_52_method_16_17) rfl (teq (rfl : (2 : Int32) = (2 : Int32))).1 (by decide) (by decide) kK) ?_
  show OwnFin p e below _ (T3.setTop (mkF m 57 #[.val (.ref ar), .val (.int (0 : Int32)), .val (.int (2 : Int32)), .val (.ref b1), .val (.int (2 : Int32)), .unset] []))
  refine OwnFin.step (fun tT kK => XS.aloadN X3.here hx rfl (hb hby d_jdk_52_method_16_57) rfl rfl kK) ?_
  show OwnFin p e below _ (T3.setTop (mkF m 58 #[.val (.ref ar), .val (.int (0 : Int32)), .val (.int (2 : Int32)), .val (.ref b1), .val (.int (2 : Int32)), .unset] [(.ref b1)]))
  obtain ⟨fs4, hr4, hrun4, hended4, hW4, hsame4⟩ := X3.leave (v := (some (.ref b1))) (fun h => by rw [Bd.returns] at h; cases h)
  refine ⟨_, _, retOut X3 hx Bd.returns rfl (Or.inr (Or.inr (Or.inr (Or.inr ⟨rfl, rfl, rfl⟩)))) (hb hby d_jdk_52_method_16_58) hr4, hrun4, hended4, _, _, rfl, ?_, ⟨_, rfl⟩, hW4, hsame4.mono (by decide) (by decide)⟩
  show Q52b Z ar k c0 c1 h0 n0 _ T3.heap _
  exact ⟨b1, k1, rfl, N3, (((Keep.refl h0 []).ext E1).trans K3 (allS (P := fun x => x ∈ [] ∨ h0.size ≤ x) (Or.inr (Nat.le_trans (Nat.le_refl _) (Nat.le_of_eq g1.symm))) all0)), (Nat.le_trans (Nat.le_refl _) (Nat.le_of_eq g1.symm)), P3_0⟩
theorem ef_52c (m : MethodId) (b : Addr) : entryFrame m #[(.ref b), (.int (2 : Int32))] 2 = mkF m 0 #[.val (.ref b), .val (.int (2 : Int32))] [] := by first | (simp [entryFrame, mkF, argsToLocals, Value.category]; done) | rfl
def Q52c (Z : State) (b : Addr) (kb : ClassId) (c0 : Int32) (c1 : Int32) (h0 : Heap) (n0 : Nat) (vV : Option Value) (hH : Heap) (LL : List Loc) : Prop := vV = some (.int (0 : Int32)) ∧ Fr n0 LL ∧ hH = h0
def R52c (Z : State) (b : Addr) (kb : ClassId) (c0 : Int32) (c1 : Int32) (h0 : Heap) (n0 : Nat) (U : State) (o : Outcome) (U' : State) : Prop := ∃ vV LL, o = .returned vV ∧ Q52c Z b kb c0 c1 h0 n0 vV U'.heap LL ∧ FrameEnd U o U' LL ({ frames := 0, cells := 0, slots := 0, locals := 0 } : Room).cells ({ frames := 0, cells := 0, slots := 0, locals := 0 } : Room).slots
set_option maxRecDepth 65536 in
set_option maxHeartbeats 40000000 in
theorem rm52c (l : Launch) (Z : State) (a0 : Array Value) (hw : ∀ d ∈ tables_1, d.before a0 Z = true) (hEL : EW Z a0 OwnEL) (wS : ∀ a ∈ Bundle.stringAtoms, a.before a0 Z = true) (ws : List Jvm.Cond) (b : Addr) (kb : ClassId) (c0 : Int32) (c1 : Int32) (h0 : Heap) (n0 : Nat) (Z0 : n0 ≤ h0.size) (hp0 : Arv Z h0 b kb .byte (2 : Int32) [(.int (nar .byte (c0.toInt8.toInt32))), (.int (nar .byte (c1.toInt8.toInt32)))] (.int (0 : Int32))) :
    MetFree l (⟨"java/lang/StringUTF16", "coderFromArrayLen", "([BI)B"⟩ : MethodName) (head1 (Jvm.Cond.code (⟨"java/lang/StringUTF16", "coderFromArrayLen", "([BI)B"⟩ : MethodName) jdk_52_method_15_code 2 (some .byte) :: ws) ({ frames := 0, cells := 0, slots := 0, locals := 0 } : Room)) (fun aA U => aA = #[(.ref b), (.int (2 : Int32))] ∧ Z.Warmed39 U.vm ∧ U.heap = h0) (fun _ _ _ _ _ => True) (fun _ U o U' => ∃ vV LL, o = .returned vV ∧ Q52c Z b kb c0 c1 h0 n0 vV U'.heap LL ∧ FrameEnd U o U' LL ({ frames := 0, cells := 0, slots := 0, locals := 0 } : Room).cells ({ frames := 0, cells := 0, slots := 0, locals := 0 } : Room).slots) := by
  refine MetFree.of_bodySF (plainFor_of_name pn_131) hisR ?_
  intro p e s m args below meth cC s₁ Bd hml0 hP hK
  obtain ⟨rfl, hZ, hh⟩ := hP
  have hx := Bd.exec
  have hby := Bd.bytes
  have hml : cC.maxLocals = 2 := hml0
  have hown : s.vm.findClass "java/lang/StringUTF16" = some m.cls := findClass_of_methodNamed Bd.named
  have hnm := (name_of_methodNamed Bd.named Bd.method).1
  have X0 : Stand p l e ({ frames := 0, cells := 0, slots := 0, locals := 0 } : Room) s m #[(.ref b), (.int (2 : Int32))] below meth cC s₁ [] 0 0 := Stand.of_body Bd
  have e0 : s₁.heap = h0 := by rw [← hh, Bd.state]; rfl
  have N0 := Fr.nil n0
  show OwnFin p e below (R52c Z b kb c0 c1 h0 n0 s) (s₁.setTop (entryFrame m #[(.ref b), (.int (2 : Int32))] 2))
  rw [ef_52c m b]
  refine OwnFin.step (fun tT kK => XS.iloadN X0.here hx rfl (hb hby d_jdk_52_method_15_0) rfl kK) ?_
  show OwnFin p e below _ (s₁.setTop (mkF m 1 #[.val (.ref b), .val (.int (2 : Int32))] [(.int (2 : Int32))]))
  refine OwnFin.step (fun tT kK => XS.aloadN X0.here hx rfl (hb hby d_jdk_52_method_15_1) rfl rfl kK) ?_
  show OwnFin p e below _ (s₁.setTop (mkF m 2 #[.val (.ref b), .val (.int (2 : Int32))] [(.ref b), (.int (2 : Int32))]))
  obtain ⟨cl1, Ar1, -, Sz1, Ng1, -, -⟩ := id hp0
  refine OwnFin.step (fun tT kK => own_len X0 hx hZ e0 Ar1 Sz1 Ng1 (g := (mkF m 2 #[.val (.ref b), .val (.int (2 : Int32))] [(.ref b), (.int (2 : Int32))])) rfl rfl (hb hby d_jdk_52_method_15_2) kK) ?_
  show OwnFin p e below _ (s₁.setTop (mkF m 3 #[.val (.ref b), .val (.int (2 : Int32))] [(.int (2 : Int32)), (.int (2 : Int32))]))
  refine OwnFin.step (fun tT kK => XS.isub X0.here hx rfl (hb hby d_jdk_52_method_15_3) rfl kK) ?_
  show OwnFin p e below _ (s₁.setTop (mkF m 4 #[.val (.ref b), .val (.int (2 : Int32))] [(.int (0 : Int32))]))
  refine OwnFin.step (fun tT kK => XS.bipush X0.here hx rfl (hb hby d_jdk_52_method_15_4) kK) ?_
  show OwnFin p e below _ (s₁.setTop (mkF m 6 #[.val (.ref b), .val (.int (2 : Int32))] [(.int (31 : Int32)), (.int (0 : Int32))]))
  refine OwnFin.step (fun tT kK => XS.iushr X0.here hx rfl (hb hby d_jdk_52_method_15_6) rfl kK) ?_
  show OwnFin p e below _ (s₁.setTop (mkF m 7 #[.val (.ref b), .val (.int (2 : Int32))] [(.int (0 : Int32))]))
  refine OwnFin.step (fun tT kK => XS.i2b X0.here hx rfl (hb hby d_jdk_52_method_15_7) rfl kK) ?_
  show OwnFin p e below _ (s₁.setTop (mkF m 8 #[.val (.ref b), .val (.int (2 : Int32))] [(.int (0 : Int32))]))
  obtain ⟨fs2, hr2, hrun2, hended2, hW2, hsame2⟩ := X0.leave (v := (some (.int (0 : Int32)))) (fun h => by rw [Bd.returns] at h; cases h)
  refine ⟨_, _, retN X0 hx (t := .byte) Bd.returns (by simp) (hb hby d_jdk_52_method_15_8) hr2, hrun2, hended2, _, _, rfl, ?_, ⟨_, rfl⟩, hW2, hsame2.mono (by decide) (by decide)⟩
  show Q52c Z b kb c0 c1 h0 n0 _ s₁.heap _
  rw [e0]
  exact ⟨rfl, N0, rfl⟩
theorem ef_52d (m : MethodId) (a : Addr) (ar : Addr) : entryFrame m #[(.ref a), (.ref ar), (.int (0 : Int32)), (.int (2 : Int32)), .null] 6 = mkF m 0 #[.val (.ref a), .val (.ref ar), .val (.int (0 : Int32)), .val (.int (2 : Int32)), .val .null, .unset] [] := by first | (simp [entryFrame, mkF, argsToLocals, Value.category]; done) | rfl
def Q52d (Z : State) (a : Addr) (ar : Addr) (k : ClassId) (cs : Int32) (c0 : Int32) (c1 : Int32) (h0 : Heap) (n0 : Nat) (vV : Option Value) (hH : Heap) (LL : List Loc) : Prop := ∃ b : Addr, ∃ kb : ClassId, vV = none ∧ Fr n0 LL ∧ Keep h0 hH [a] ∧ h0.size ≤ b ∧ (Exa Z hH a "java/lang/String") ∧ (Fld Z hH a "java/lang/String" "value" "[B" (.ref b)) ∧ (Fld Z hH a "java/lang/String" "coder" "B" (.int (0 : Int32))) ∧ (Arv Z hH b kb .byte (2 : Int32) [(.int (nar .byte (c0.toInt8.toInt32))), (.int (nar .byte (c1.toInt8.toInt32)))] (.int (0 : Int32)))
def R52d (Z : State) (a : Addr) (ar : Addr) (k : ClassId) (cs : Int32) (c0 : Int32) (c1 : Int32) (h0 : Heap) (n0 : Nat) (U : State) (o : Outcome) (U' : State) : Prop := ∃ vV LL, o = .returned vV ∧ Q52d Z a ar k cs c0 c1 h0 n0 vV U'.heap LL ∧ FrameEnd U o U' LL ({ frames := 2, cells := 1, slots := 2, locals := 35 } : Room).cells ({ frames := 2, cells := 1, slots := 2, locals := 35 } : Room).slots
set_option maxRecDepth 65536 in
set_option maxHeartbeats 40000000 in
theorem rm52d (l : Launch) (Z : State) (a0 : Array Value) (hw : ∀ d ∈ tables_1, d.before a0 Z = true) (hEL : EW Z a0 OwnEL) (wS : ∀ a ∈ Bundle.stringAtoms, a.before a0 Z = true) (ws : List Jvm.Cond) (a : Addr) (ar : Addr) (k : ClassId) (cs : Int32) (c0 : Int32) (c1 : Int32) (h0 : Heap) (n0 : Nat) (Z0 : n0 ≤ h0.size) (hp0 : Exa Z h0 a "java/lang/String") (hp1 : Fld Z h0 a "java/lang/String" "value" "[B" .null) (hp2 : Fld Z h0 a "java/lang/String" "coder" "B" (.int (0 : Int32))) (hp3 : n0 ≤ a) (hp4 : Arv Z h0 ar k .char (2 : Int32) [(.int c0), (.int c1)] (.int (0 : Int32))) (hp5 : Sta Z h0 "java/lang/String" "COMPACT_STRINGS" "Z" (.int cs)) (hp6 : ¬ cs = (0 : Int32)) (hp7 : ¬ (255 : Int32) < c0) (hp8 : ¬ (255 : Int32) < c1) :
    MetFree l (⟨"java/lang/String", "<init>", "([CIILjava/lang/Void;)V"⟩ : MethodName) (head1 (Jvm.Cond.code (⟨"java/lang/String", "<init>", "([CIILjava/lang/Void;)V"⟩ : MethodName) jdk_42_method_149_code 6 none :: ws) ({ frames := 2, cells := 1, slots := 2, locals := 35 } : Room)) (fun aA U => aA = #[(.ref a), (.ref ar), (.int (0 : Int32)), (.int (2 : Int32)), .null] ∧ Z.Warmed39 U.vm ∧ U.heap = h0) (fun _ _ _ _ _ => True) (fun _ U o U' => ∃ vV LL, o = .returned vV ∧ Q52d Z a ar k cs c0 c1 h0 n0 vV U'.heap LL ∧ FrameEnd U o U' LL ({ frames := 2, cells := 1, slots := 2, locals := 35 } : Room).cells ({ frames := 2, cells := 1, slots := 2, locals := 35 } : Room).slots) := by
  refine MetFree.of_bodySF (plainFor_of_name pn_108) hisR ?_
  intro p e s m args below meth cC s₁ Bd hml0 hP hK
  obtain ⟨rfl, hZ, hh⟩ := hP
  have hx := Bd.exec
  have hby := Bd.bytes
  have hml : cC.maxLocals = 6 := hml0
  have hown : s.vm.findClass "java/lang/String" = some m.cls := findClass_of_methodNamed Bd.named
  have hnm := (name_of_methodNamed Bd.named Bd.method).1
  have X0 : Stand p l e ({ frames := 2, cells := 1, slots := 2, locals := 35 } : Room) s m #[(.ref a), (.ref ar), (.int (0 : Int32)), (.int (2 : Int32)), .null] below meth cC s₁ [] 0 0 := Stand.of_body Bd
  have e0 : s₁.heap = h0 := by rw [← hh, Bd.state]; rfl
  have N0 := Fr.nil n0
  show OwnFin p e below (R52d Z a ar k cs c0 c1 h0 n0 s) (s₁.setTop (entryFrame m #[(.ref a), (.ref ar), (.int (0 : Int32)), (.int (2 : Int32)), .null] 6))
  rw [ef_52d m a ar]
  refine OwnFin.step (fun tT kK => XS.aloadN X0.here hx rfl (hb hby d_jdk_42_method_149_0) rfl rfl kK) ?_
  show OwnFin p e below _ (s₁.setTop (mkF m 1 #[.val (.ref a), .val (.ref ar), .val (.int (0 : Int32)), .val (.int (2 : Int32)), .val .null, .unset] [(.ref a)]))
  obtain ⟨T1, X1, e1, st1⟩ := initO X0 hx hZ hown (hw _ (List.mem_of_getElem? (i := 15) rfl)) (hw _ (List.mem_of_getElem? (i := 16) rfl)) (hw _ (List.mem_of_getElem? (i := 17) rfl)) e0 (g := (mkF m 1 #[.val (.ref a), .val (.ref ar), .val (.int (0 : Int32)), .val (.int (2 : Int32)), .val .null, .unset] [(.ref a)])) rfl (by rw [hml]; rfl) rfl (hb hby d_jdk_42_method_149_1) (by decide) (W := 0) (by show 2 * 0 + _ ≤ _; exact Nat.le_of_eq rfl) (by decide)
  refine OwnFin.step st1 ?_
  show OwnFin p e below _ (T1.setTop (mkF m 4 #[.val (.ref a), .val (.ref ar), .val (.int (0 : Int32)), .val (.int (2 : Int32)), .val .null, .unset] []))
  refine OwnFin.step (fun tT kK => XS.iloadN X1.here hx rfl (hb hby d_jdk_42_method_149_4) rfl kK) ?_
  show OwnFin p e below _ (T1.setTop (mkF m 5 #[.val (.ref a), .val (.ref ar), .val (.int (0 : Int32)), .val (.int (2 : Int32)), .val .null, .unset] [(.int (2 : Int32))]))
  refine OwnFin.step (fun tT kK => XS.ifYes X1.here hx rfl (pc0 := 5) (pc' := 27) rfl (hb hby d_jdk_42_method_149_5) rfl ((if0 _ _).trans (feq (by decide : ¬ ((2 : Int32) = (0 : Int32)))).2) (by decide) (by decide) kK) ?_
  show OwnFin p e below _ (T1.setTop (mkF m 27 #[.val (.ref a), .val (.ref ar), .val (.int (0 : Int32)), .val (.int (2 : Int32)), .val .null, .unset] []))
  obtain ⟨T2, X2, e2, st2⟩ := getS2 X1 hx hZ hown (host := "") (Or.inl (hw _ (List.mem_of_getElem? (i := 18) rfl))) Via.refl e1 hp5 (g := (mkF m 27 #[.val (.ref a), .val (.ref ar), .val (.int (0 : Int32)), .val (.int (2 : Int32)), .val .null, .unset] [])) rfl (hb hby d_jdk_42_method_149_27)
  refine OwnFin.step st2 ?_
  show OwnFin p e below _ (T2.setTop (mkF m 30 #[.val (.ref a), .val (.ref ar), .val (.int (0 : Int32)), .val (.int (2 : Int32)), .val .null, .unset] [(.int cs)]))
  refine OwnFin.step (fun tT kK => XS.ifNo X2.here hx rfl (hb hby d_jdk_42_method_149_30) rfl ((if0 _ _).trans (feq (hp6 : ¬ (cs = (0 : Int32)))).1) kK) ?_
  show OwnFin p e below _ (T2.setTop (mkF m 33 #[.val (.ref a), .val (.ref ar), .val (.int (0 : Int32)), .val (.int (2 : Int32)), .val .null, .unset] []))
  refine OwnFin.step (fun tT kK => XS.aloadN X2.here hx rfl (hb hby d_jdk_42_method_149_33) rfl rfl kK) ?_
  show OwnFin p e below _ (T2.setTop (mkF m 34 #[.val (.ref a), .val (.ref ar), .val (.int (0 : Int32)), .val (.int (2 : Int32)), .val .null, .unset] [(.ref ar)]))
  refine OwnFin.step (fun tT kK => XS.iloadN X2.here hx rfl (hb hby d_jdk_42_method_149_34) rfl kK) ?_
  show OwnFin p e below _ (T2.setTop (mkF m 35 #[.val (.ref a), .val (.ref ar), .val (.int (0 : Int32)), .val (.int (2 : Int32)), .val .null, .unset] [(.int (0 : Int32)), (.ref ar)]))
  refine OwnFin.step (fun tT kK => XS.iloadN X2.here hx rfl (hb hby d_jdk_42_method_149_35) rfl kK) ?_
  show OwnFin p e below _ (T2.setTop (mkF m 36 #[.val (.ref a), .val (.ref ar), .val (.int (0 : Int32)), .val (.int (2 : Int32)), .val .null, .unset] [(.int (2 : Int32)), (.int (0 : Int32)), (.ref ar)]))
  obtain ⟨_, _, ⟨T3, L3, k3, n3⟩, -, X3, ⟨Lc3, hQ3, l3, y3, z3⟩, st3⟩ := Jvm.LawKit.callS X2 hx (y := (⟨"java/lang/StringUTF16", "compress", "([CII)[B"⟩ : MethodName)) hown (mvT hZ (hw _ (List.mem_of_getElem? (i := 19) rfl))) (mvT hZ (hw _ (List.mem_of_getElem? (i := 20) rfl))) (mvT hZ (hw _ (List.mem_of_getElem? (i := 21) rfl))) (mvT hZ (hw _ (List.mem_of_getElem? (i := 22) rfl))) (by decide) (backOf (W := 0) (rm52b l Z a0 hw hEL wS [] ar k c0 c1 h0 n0 Z0 hp4 (hp7) (hp8)) hZ (hw _ (List.mem_of_getElem? (i := 22) rfl)) (hw _ (List.mem_of_getElem? (i := 21) rfl)) (by decide) (by decide)) (g := (mkF m 36 #[.val (.ref a), .val (.ref ar), .val (.int (0 : Int32)), .val (.int (2 : Int32)), .val .null, .unset] [(.int (2 : Int32)), (.int (0 : Int32)), (.ref ar)])) rfl (by rw [hml]; rfl) (argsL := [(.ref ar), (.int (0 : Int32)), (.int (2 : Int32))]) (rest := []) (lenOf pd_185 rfl) rfl (by show 2 * 0 + _ ≤ _; exact Nat.le_of_eq rfl) (hb hby d_jdk_42_method_149_36) (fun _ _ => ⟨rfl, e2, (by decide : 0 + 1 ≤ _), (by decide : 0 + 2 ≤ _)⟩)
  dsimp only [Pt.U, Pt.locs, Pt.cells, Pt.slots] at X3 l3 y3 z3 st3 hQ3
  subst l3 y3 z3
  obtain ⟨b4, ⟨kb5, ⟨rfl, N3q, K3, B3_0, P3_0⟩⟩⟩ := hQ3
  have N3 := Fr.app N0 N3q
  refine OwnFin.step st3 ?_
  have E3 : Ext h0 T3.heap := ⟨K3.1, fun x c q => K3.2.1 x c q nin0⟩
  show OwnFin p e below _ (T3.setTop (mkF m 39 #[.val (.ref a), .val (.ref ar), .val (.int (0 : Int32)), .val (.int (2 : Int32)), .val .null, .unset] [(.ref b4)]))
  refine OwnFin.step (fun tT kK => XS.astore X3.here hx rfl (hb hby d_jdk_42_method_149_39) rfl rfl (l' := #[.val (.ref a), .val (.ref ar), .val (.int (0 : Int32)), .val (.int (2 : Int32)), .val .null, .val (.ref b4)]) rfl kK) ?_
  show OwnFin p e below _ (T3.setTop (mkF m 41 #[.val (.ref a), .val (.ref ar), .val (.int (0 : Int32)), .val (.int (2 : Int32)), .val .null, .val (.ref b4)] []))
  refine OwnFin.step (fun tT kK => XS.aloadN X3.here hx rfl (hb hby d_jdk_42_method_149_41) rfl rfl kK) ?_
  show OwnFin p e below _ (T3.setTop (mkF m 42 #[.val (.ref a), .val (.ref ar), .val (.int (0 : Int32)), .val (.int (2 : Int32)), .val .null, .val (.ref b4)] [(.ref a)]))
  refine OwnFin.step (fun tT kK => XS.aload X3.here hx rfl (hb hby d_jdk_42_method_149_42) rfl rfl kK) ?_
  show OwnFin p e below _ (T3.setTop (mkF m 44 #[.val (.ref a), .val (.ref ar), .val (.int (0 : Int32)), .val (.int (2 : Int32)), .val .null, .val (.ref b4)] [(.ref b4), (.ref a)]))
  refine OwnFin.step (fun tT kK => XS.iloadN X3.here hx rfl (hb hby d_jdk_42_method_149_44) rfl kK) ?_
  show OwnFin p e below _ (T3.setTop (mkF m 45 #[.val (.ref a), .val (.ref ar), .val (.int (0 : Int32)), .val (.int (2 : Int32)), .val .null, .val (.ref b4)] [(.int (2 : Int32)), (.ref b4), (.ref a)]))
  obtain ⟨_, _, ⟨T6, L6, k6, n6⟩, -, X6, ⟨Lc6, hQ6, l6, y6, z6⟩, st6⟩ := Jvm.LawKit.callS X3 hx (y := (⟨"java/lang/StringUTF16", "coderFromArrayLen", "([BI)B"⟩ : MethodName)) hown (mvT hZ (hw _ (List.mem_of_getElem? (i := 27) rfl))) (mvT hZ (hw _ (List.mem_of_getElem? (i := 28) rfl))) (mvT hZ (hw _ (List.mem_of_getElem? (i := 21) rfl))) (mvT hZ (hw _ (List.mem_of_getElem? (i := 29) rfl))) (by decide) (backOf (W := 1) (rm52c l Z a0 hw hEL wS [] b4 kb5 c0 c1 T3.heap n0 (Nat.le_trans Z0 E3.1) P3_0) hZ (hw _ (List.mem_of_getElem? (i := 29) rfl)) (hw _ (List.mem_of_getElem? (i := 21) rfl)) (by decide) (by decide)) (g := (mkF m 45 #[.val (.ref a), .val (.ref ar), .val (.int (0 : Int32)), .val (.int (2 : Int32)), .val .null, .val (.ref b4)] [(.int (2 : Int32)), (.ref b4), (.ref a)])) rfl (by rw [hml]; rfl) (argsL := [(.ref b4), (.int (2 : Int32))]) (rest := [(.ref a)]) (lenOf pd_191 rfl) rfl (by show 2 * 0 + _ ≤ _; exact Nat.le_of_eq rfl) (hb hby d_jdk_42_method_149_45) (fun _ _ => ⟨rfl, rfl, (by decide : 1 + 0 ≤ _), (by decide : 2 + 0 ≤ _)⟩)
  dsimp only [Pt.U, Pt.locs, Pt.cells, Pt.slots] at X6 l6 y6 z6 st6 hQ6
  subst l6 y6 z6
  obtain ⟨rfl, N6q, e6⟩ := hQ6
  have N6 := Fr.app N3 N6q
  refine OwnFin.step st6 ?_
  show OwnFin p e below _ (T6.setTop (mkF m 48 #[.val (.ref a), .val (.ref ar), .val (.int (0 : Int32)), .val (.int (2 : Int32)), .val .null, .val (.ref b4)] [(.int (0 : Int32)), (.ref a)]))
  have f7 : Exa Z T3.heap a "java/lang/String" := (hp0.ext E3)
  have f8 : Fld Z T3.heap a "java/lang/String" "coder" "B" (.int (0 : Int32)) := (hp2.ext E3)
  obtain ⟨T9, h9, X9, e9, W9, st9⟩ := putF X6 hx hZ hown (host := "") (Or.inl (hw _ (List.mem_of_getElem? (i := 30) rfl))) Via.refl e6 f8 f7 (Or.inr ⟨(hw _ (List.mem_of_getElem? (i := 31) rfl)), rfl, hnm⟩) (hw _ (List.mem_of_getElem? (i := 6) rfl)) (ty := .byte) (by decide) rfl rfl (g := (mkF m 48 #[.val (.ref a), .val (.ref ar), .val (.int (0 : Int32)), .val (.int (2 : Int32)), .val .null, .val (.ref b4)] [(.int (0 : Int32)), (.ref a)])) rfl rfl (hb hby d_jdk_42_method_149_48)
  refine OwnFin.step st9 ?_
  have N9 := Fr.snoc X9 N6 hp3
  have Fw9 : Fld Z h9 a "java/lang/String" "coder" "B" (.int (0 : Int32)) := f8.same W9
  show OwnFin p e below _ (T9.setTop (mkF m 51 #[.val (.ref a), .val (.ref ar), .val (.int (0 : Int32)), .val (.int (2 : Int32)), .val .null, .val (.ref b4)] []))
  refine OwnFin.step (fun tT kK => XS.aloadN X9.here hx rfl (hb hby d_jdk_42_method_149_51) rfl rfl kK) ?_
  show OwnFin p e below _ (T9.setTop (mkF m 52 #[.val (.ref a), .val (.ref ar), .val (.int (0 : Int32)), .val (.int (2 : Int32)), .val .null, .val (.ref b4)] [(.ref a)]))
  refine OwnFin.step (fun tT kK => XS.aload X9.here hx rfl (hb hby d_jdk_42_method_149_52) rfl rfl kK) ?_
  show OwnFin p e below _ (T9.setTop (mkF m 54 #[.val (.ref a), .val (.ref ar), .val (.int (0 : Int32)), .val (.int (2 : Int32)), .val .null, .val (.ref b4)] [(.ref b4), (.ref a)]))
  have f10 : Exa Z h9 a "java/lang/String" := (f7.wr W9)
  have f11 : Fld Z h9 a "java/lang/String" "value" "[B" .null := ((hp1.ext E3).other W9 (Or.inr (slot_ne (Or.inr (hw _ (List.mem_of_getElem? (i := 33) rfl))) (Or.inr (hw _ (List.mem_of_getElem? (i := 31) rfl))) (by decide) (t := (.array .byte)) (t' := .byte) (by decide) (by decide))))
  obtain ⟨T12, h12, X12, e12, W12, st12⟩ := putF X9 hx hZ hown (host := "") (Or.inl (hw _ (List.mem_of_getElem? (i := 32) rfl))) Via.refl e9 f11 f10 (Or.inr ⟨(hw _ (List.mem_of_getElem? (i := 33) rfl)), rfl, hnm⟩) (hw _ (List.mem_of_getElem? (i := 6) rfl)) (ty := (.array .byte)) (by decide) rfl rfl (g := (mkF m 54 #[.val (.ref a), .val (.ref ar), .val (.int (0 : Int32)), .val (.int (2 : Int32)), .val .null, .val (.ref b4)] [(.ref b4), (.ref a)])) rfl rfl (hb hby d_jdk_42_method_149_54)
  refine OwnFin.step st12 ?_
  have N12 := Fr.snoc X12 N9 hp3
  have Fw12 : Fld Z h12 a "java/lang/String" "value" "[B" (.ref b4) := f11.same W12
  show OwnFin p e below _ (T12.setTop (mkF m 57 #[.val (.ref a), .val (.ref ar), .val (.int (0 : Int32)), .val (.int (2 : Int32)), .val .null, .val (.ref b4)] []))
  have f14 : Exa Z h12 a "java/lang/String" := (f10.wr W12)
  have f15 : Fld Z h12 a "java/lang/String" "coder" "B" (.int (0 : Int32)) := (Fw9.other W12 (Or.inr (slot_ne (Or.inr (hw _ (List.mem_of_getElem? (i := 31) rfl))) (Or.inr (hw _ (List.mem_of_getElem? (i := 33) rfl))) (by decide) (t := .byte) (t' := (.array .byte)) (by decide) (by decide))))
  have f16 : Arv Z h12 b4 kb5 .byte (2 : Int32) [(.int (nar .byte (c0.toInt8.toInt32))), (.int (nar .byte (c1.toInt8.toInt32)))] (.int (0 : Int32)) := ((P3_0.other W9 (Ne.symm (Nat.ne_of_lt (Nat.lt_of_lt_of_le (Nat.lt_of_lt_of_le hp0.lt (Nat.le_refl _)) B3_0)))).other W12 (Ne.symm (Nat.ne_of_lt (Nat.lt_of_lt_of_le (Nat.lt_of_lt_of_le hp0.lt (Nat.le_refl _)) B3_0))))
  obtain ⟨fs13, hr13, hrun13, hended13, hW13, hsame13⟩ := X12.leave (v := none) (fun _ => rfl)
  refine ⟨_, _, X12.returnOut hx Bd.returns (hb hby d_jdk_42_method_149_57) hr13, hrun13, hended13, _, _, rfl, ?_, ⟨_, rfl⟩, hW13, hsame13.mono (by decide) (by decide)⟩
  show Q52d Z a ar k cs c0 c1 h0 n0 _ T12.heap _
  rw [e12]
  exact ⟨b4, kb5, rfl, N12, ((((Keep.refl h0 [a]).ext E3).wr W9 (Or.inl (List.mem_of_getElem? (i := 0) rfl))).wr W12 (Or.inl (List.mem_of_getElem? (i := 0) rfl))), (Nat.le_trans (Nat.le_refl _) B3_0), f14, Fw12, f15, f16⟩
theorem ef_52 (m : MethodId) (a : Addr) (ar : Addr) : entryFrame m #[(.ref a), (.ref ar)] 2 = mkF m 0 #[.val (.ref a), .val (.ref ar)] [] := by first | (simp [entryFrame, mkF, argsToLocals, Value.category]; done) | rfl
def Q52 (Z : State) (a : Addr) (ar : Addr) (k : ClassId) (cs : Int32) (c0 : Int32) (c1 : Int32) (h0 : Heap) (n0 : Nat) (vV : Option Value) (hH : Heap) (LL : List Loc) : Prop := ∃ b : Addr, ∃ kb : ClassId, vV = none ∧ Fr n0 LL ∧ Keep h0 hH [a] ∧ h0.size ≤ b ∧ (Exa Z hH a "java/lang/String") ∧ (Fld Z hH a "java/lang/String" "value" "[B" (.ref b)) ∧ (Fld Z hH a "java/lang/String" "coder" "B" (.int (0 : Int32))) ∧ (Arv Z hH b kb .byte (2 : Int32) [(.int (nar .byte (c0.toInt8.toInt32))), (.int (nar .byte (c1.toInt8.toInt32)))] (.int (0 : Int32)))
def R52 (Z : State) (a : Addr) (ar : Addr) (k : ClassId) (cs : Int32) (c0 : Int32) (c1 : Int32) (h0 : Heap) (n0 : Nat) (U : State) (o : Outcome) (U' : State) : Prop := ∃ vV LL, o = .returned vV ∧ Q52 Z a ar k cs c0 c1 h0 n0 vV U'.heap LL ∧ FrameEnd U o U' LL ({ frames := 3, cells := 1, slots := 2, locals := 52 } : Room).cells ({ frames := 3, cells := 1, slots := 2, locals := 52 } : Room).slots
set_option maxRecDepth 65536 in
set_option maxHeartbeats 40000000 in
theorem rm52 (l : Launch) (Z : State) (a0 : Array Value) (hw : ∀ d ∈ tables_1, d.before a0 Z = true) (hEL : EW Z a0 OwnEL) (wS : ∀ a ∈ Bundle.stringAtoms, a.before a0 Z = true) (ws : List Jvm.Cond) (a : Addr) (ar : Addr) (k : ClassId) (cs : Int32) (c0 : Int32) (c1 : Int32) (h0 : Heap) (n0 : Nat) (Z0 : n0 ≤ h0.size) (hp0 : Exa Z h0 a "java/lang/String") (hp1 : Fld Z h0 a "java/lang/String" "value" "[B" .null) (hp2 : Fld Z h0 a "java/lang/String" "coder" "B" (.int (0 : Int32))) (hp3 : n0 ≤ a) (hp4 : Arv Z h0 ar k .char (2 : Int32) [(.int c0), (.int c1)] (.int (0 : Int32))) (hp5 : Sta Z h0 "java/lang/String" "COMPACT_STRINGS" "Z" (.int cs)) (hp6 : ¬ cs = (0 : Int32)) (hp7 : ¬ (255 : Int32) < c0) (hp8 : ¬ (255 : Int32) < c1) :
    MetFree l (⟨"java/lang/String", "<init>", "([C)V"⟩ : MethodName) (head1 (Jvm.Cond.code (⟨"java/lang/String", "<init>", "([C)V"⟩ : MethodName) jdk_42_method_3_code 2 none :: ws) ({ frames := 3, cells := 1, slots := 2, locals := 52 } : Room)) (fun aA U => aA = #[(.ref a), (.ref ar)] ∧ Z.Warmed39 U.vm ∧ U.heap = h0) (fun _ _ _ _ _ => True) (fun _ U o U' => ∃ vV LL, o = .returned vV ∧ Q52 Z a ar k cs c0 c1 h0 n0 vV U'.heap LL ∧ FrameEnd U o U' LL ({ frames := 3, cells := 1, slots := 2, locals := 52 } : Room).cells ({ frames := 3, cells := 1, slots := 2, locals := 52 } : Room).slots) := by
  refine MetFree.of_bodySF (plainFor_of_name pn_108) hisR ?_
  intro p e s m args below meth cC s₁ Bd hml0 hP hK
  obtain ⟨rfl, hZ, hh⟩ := hP
  have hx := Bd.exec
  have hby := Bd.bytes
  have hml : cC.maxLocals = 2 := hml0
  have hown : s.vm.findClass "java/lang/String" = some m.cls := findClass_of_methodNamed Bd.named
  have hnm := (name_of_methodNamed Bd.named Bd.method).1
  have X0 : Stand p l e ({ frames := 3, cells := 1, slots := 2, locals := 52 } : Room) s m #[(.ref a), (.ref ar)] below meth cC s₁ [] 0 0 := Stand.of_body Bd
  have e0 : s₁.heap = h0 := by rw [← hh, Bd.state]; rfl
  have N0 := Fr.nil n0
  show OwnFin p e below (R52 Z a ar k cs c0 c1 h0 n0 s) (s₁.setTop (entryFrame m #[(.ref a), (.ref ar)] 2))
  rw [ef_52 m a ar]
  refine OwnFin.step (fun tT kK => XS.aloadN X0.here hx rfl (hb hby d_jdk_42_method_3_0) rfl rfl kK) ?_
  show OwnFin p e below _ (s₁.setTop (mkF m 1 #[.val (.ref a), .val (.ref ar)] [(.ref a)]))
  refine OwnFin.step (fun tT kK => XS.aloadN X0.here hx rfl (hb hby d_jdk_42_method_3_1) rfl rfl kK) ?_
  show OwnFin p e below _ (s₁.setTop (mkF m 2 #[.val (.ref a), .val (.ref ar)] [(.ref ar), (.ref a)]))
  refine OwnFin.step (fun tT kK => XS.iconst X0.here hx rfl (hb hby d_jdk_42_method_3_2) kK) ?_
  show OwnFin p e below _ (s₁.setTop (mkF m 3 #[.val (.ref a), .val (.ref ar)] [(.int (0 : Int32)), (.ref ar), (.ref a)]))
  refine OwnFin.step (fun tT kK => XS.aloadN X0.here hx rfl (hb hby d_jdk_42_method_3_3) rfl rfl kK) ?_
  show OwnFin p e below _ (s₁.setTop (mkF m 4 #[.val (.ref a), .val (.ref ar)] [(.ref ar), (.int (0 : Int32)), (.ref ar), (.ref a)]))
  obtain ⟨cl1, Ar1, -, Sz1, Ng1, -, -⟩ := id hp4
  refine OwnFin.step (fun tT kK => own_len X0 hx hZ e0 Ar1 Sz1 Ng1 (g := (mkF m 4 #[.val (.ref a), .val (.ref ar)] [(.ref ar), (.int (0 : Int32)), (.ref ar), (.ref a)])) rfl rfl (hb hby d_jdk_42_method_3_4) kK) ?_
  show OwnFin p e below _ (s₁.setTop (mkF m 5 #[.val (.ref a), .val (.ref ar)] [(.int (2 : Int32)), (.int (0 : Int32)), (.ref ar), (.ref a)]))
  refine OwnFin.step (fun tT kK => XS.aconstNull X0.here hx rfl (hb hby d_jdk_42_method_3_5) kK) ?_
  show OwnFin p e below _ (s₁.setTop (mkF m 6 #[.val (.ref a), .val (.ref ar)] [.null, (.int (2 : Int32)), (.int (0 : Int32)), (.ref ar), (.ref a)]))
  obtain ⟨_, _, ⟨T2, L2, k2, n2⟩, -, X2, ⟨Lc2, hQ2, l2, y2, z2⟩, st2⟩ := X0.specialBack hx (y := (⟨"java/lang/String", "<init>", "([CIILjava/lang/Void;)V"⟩ : MethodName)) rfl hown (mvT hZ (hw _ (List.mem_of_getElem? (i := 11) rfl))) (mvT hZ (hw _ (List.mem_of_getElem? (i := 12) rfl))) (mvT hZ (hw _ (List.mem_of_getElem? (i := 14) rfl))) (by decide) (backOf (W := 0) (rm52d l Z a0 hw hEL wS [] a ar k cs c0 c1 h0 n0 Z0 hp0 hp1 hp2 hp3 hp4 hp5 (hp6) (hp7) (hp8)) hZ (hw _ (List.mem_of_getElem? (i := 14) rfl)) (hw _ (List.mem_of_getElem? (i := 7) rfl)) (by decide) (by decide)) (g := (mkF m 6 #[.val (.ref a), .val (.ref ar)] [.null, (.int (2 : Int32)), (.int (0 : Int32)), (.ref ar), (.ref a)])) rfl (by rw [hml]; rfl) (Steps.refl _) (a := a) (argsL := [(.ref ar), (.int (0 : Int32)), (.int (2 : Int32)), .null]) (rest := []) (lenOf pd_129 rfl) rfl (by show 2 * 0 + _ ≤ _; exact Nat.le_of_eq rfl) (hb hby d_jdk_42_method_3_6) (fun _ _ => ⟨rfl, e0, (by decide : 0 + 1 ≤ _), (by decide : 0 + 2 ≤ _)⟩)
  dsimp only [Pt.U, Pt.locs, Pt.cells, Pt.slots] at X2 l2 y2 z2 st2 hQ2
  subst l2 y2 z2
  obtain ⟨b3, ⟨kb4, ⟨rfl, N2q, K2, B2_0, P2_0, P2_1, P2_2, P2_3⟩⟩⟩ := hQ2
  have N2 := Fr.app N0 N2q
  refine OwnFin.step (fun tT kK => st2.trans kK) ?_
  show OwnFin p e below _ (T2.setTop (mkF m 9 #[.val (.ref a), .val (.ref ar)] []))
  obtain ⟨fs5, hr5, hrun5, hended5, hW5, hsame5⟩ := X2.leave (v := none) (fun _ => rfl)
  refine ⟨_, _, X2.returnOut hx Bd.returns (hb hby d_jdk_42_method_3_9) hr5, hrun5, hended5, _, _, rfl, ?_, ⟨_, rfl⟩, hW5, hsame5.mono (by decide) (by decide)⟩
  show Q52 Z a ar k cs c0 c1 h0 n0 _ T2.heap _
  exact ⟨b3, kb4, rfl, N2, ((Keep.refl h0 [a]).trans K2 (allS (P := fun x => x ∈ [a] ∨ h0.size ≤ x) (Or.inl (List.mem_of_getElem? (i := 0) rfl)) all0)), (Nat.le_trans (Nat.le_refl _) B2_0), P2_0, P2_1, P2_2, P2_3⟩
theorem ef_53a (m : MethodId) (ar : Addr) (yb : Addr) : entryFrame m #[(.ref ar), (.int (0 : Int32)), (.ref yb), (.int (0 : Int32)), (.int (3 : Int32))] 7 = mkF m 0 #[.val (.ref ar), .val (.int (0 : Int32)), .val (.ref yb), .val (.int (0 : Int32)), .val (.int (3 : Int32)), .unset, .unset] [] := by first | (simp [entryFrame, mkF, argsToLocals, Value.category]; done) | rfl
def Q53a (Z : State) (ar : Addr) (yb : Addr) (k : ClassId) (kb : ClassId) (c0 : Int32) (c1 : Int32) (c2 : Int32) (h0 : Heap) (n0 : Nat) (vV : Option Value) (hH : Heap) (LL : List Loc) : Prop := vV = some (.int (3 : Int32)) ∧ Fr n0 LL ∧ Keep h0 hH [yb] ∧ (Arv Z hH yb kb .byte (3 : Int32) [(.int (nar .byte (c0.toInt8.toInt32))), (.int (nar .byte (c1.toInt8.toInt32))), (.int (nar .byte (c2.toInt8.toInt32)))] (.int (0 : Int32)))
def R53a (Z : State) (ar : Addr) (yb : Addr) (k : ClassId) (kb : ClassId) (c0 : Int32) (c1 : Int32) (c2 : Int32) (h0 : Heap) (n0 : Nat) (U : State) (o : Outcome) (U' : State) : Prop := ∃ vV LL, o = .returned vV ∧ Q53a Z ar yb k kb c0 c1 c2 h0 n0 vV U'.heap LL ∧ FrameEnd U o U' LL ({ frames := 0, cells := 0, slots := 0, locals := 0 } : Room).cells ({ frames := 0, cells := 0, slots := 0, locals := 0 } : Room).slots
set_option maxRecDepth 65536 in
set_option maxHeartbeats 40000000 in
theorem rm53a (l : Launch) (Z : State) (a0 : Array Value) (hw : ∀ d ∈ tables_1, d.before a0 Z = true) (hEL : EW Z a0 OwnEL) (wS : ∀ a ∈ Bundle.stringAtoms, a.before a0 Z = true) (ws : List Jvm.Cond) (ar : Addr) (yb : Addr) (k : ClassId) (kb : ClassId) (c0 : Int32) (c1 : Int32) (c2 : Int32) (h0 : Heap) (n0 : Nat) (Z0 : n0 ≤ h0.size) (hp0 : Arv Z h0 ar k .char (3 : Int32) [(.int c0), (.int c1), (.int c2)] (.int (0 : Int32))) (hp1 : Arv Z h0 yb kb .byte (3 : Int32) [(.int (0 : Int32)), (.int (0 : Int32)), (.int (0 : Int32))] (.int (0 : Int32))) (hp2 : ¬ (255 : Int32) < c0) (hp3 : ¬ (255 : Int32) < c1) (hp4 : ¬ (255 : Int32) < c2) (hp5 : n0 ≤ yb) (hp6 : ar ≠ yb) :
    MetFree l (⟨"java/lang/StringUTF16", "compress", "([CI[BII)I"⟩ : MethodName) (head1 (Jvm.Cond.code (⟨"java/lang/StringUTF16", "compress", "([CI[BII)I"⟩ : MethodName) jdk_52_method_21_code 7 (some .int) :: ws) ({ frames := 0, cells := 0, slots := 0, locals := 0 } : Room)) (fun aA U => aA = #[(.ref ar), (.int (0 : Int32)), (.ref yb), (.int (0 : Int32)), (.int (3 : Int32))] ∧ Z.Warmed39 U.vm ∧ U.heap = h0) (fun _ _ _ _ _ => True) (fun _ U o U' => ∃ vV LL, o = .returned vV ∧ Q53a Z ar yb k kb c0 c1 c2 h0 n0 vV U'.heap LL ∧ FrameEnd U o U' LL ({ frames := 0, cells := 0, slots := 0, locals := 0 } : Room).cells ({ frames := 0, cells := 0, slots := 0, locals := 0 } : Room).slots) := by
  refine MetFree.of_bodySF (plainFor_of_name pn_131) hisR ?_
  intro p e s m args below meth cC s₁ Bd hml0 hP hK
  obtain ⟨rfl, hZ, hh⟩ := hP
  have hx := Bd.exec
  have hby := Bd.bytes
  have hml : cC.maxLocals = 7 := hml0
  have hown : s.vm.findClass "java/lang/StringUTF16" = some m.cls := findClass_of_methodNamed Bd.named
  have hnm := (name_of_methodNamed Bd.named Bd.method).1
  have X0 : Stand p l e ({ frames := 0, cells := 0, slots := 0, locals := 0 } : Room) s m #[(.ref ar), (.int (0 : Int32)), (.ref yb), (.int (0 : Int32)), (.int (3 : Int32))] below meth cC s₁ [] 0 0 := Stand.of_body Bd
  have e0 : s₁.heap = h0 := by rw [← hh, Bd.state]; rfl
  have N0 := Fr.nil n0
  show OwnFin p e below (R53a Z ar yb k kb c0 c1 c2 h0 n0 s) (s₁.setTop (entryFrame m #[(.ref ar), (.int (0 : Int32)), (.ref yb), (.int (0 : Int32)), (.int (3 : Int32))] 7))
  rw [ef_53a m ar yb]
  refine OwnFin.step (fun tT kK => XS.iconst X0.here hx rfl (hb hby d_jdk_52_method_21_0) kK) ?_
  show OwnFin p e below _ (s₁.setTop (mkF m 1 #[.val (.ref ar), .val (.int (0 : Int32)), .val (.ref yb), .val (.int (0 : Int32)), .val (.int (3 : Int32)), .unset, .unset] [(.int (0 : Int32))]))
  refine OwnFin.step (fun tT kK => XS.istore X0.here hx rfl (hb hby d_jdk_52_method_21_1) rfl (l' := #[.val (.ref ar), .val (.int (0 : Int32)), .val (.ref yb), .val (.int (0 : Int32)), .val (.int (3 : Int32)), .val (.int (0 : Int32)), .unset]) rfl kK) ?_
  show OwnFin p e below _ (s₁.setTop (mkF m 3 #[.val (.ref ar), .val (.int (0 : Int32)), .val (.ref yb), .val (.int (0 : Int32)), .val (.int (3 : Int32)), .val (.int (0 : Int32)), .unset] []))
  refine OwnFin.step (fun tT kK => XS.iload X0.here hx rfl (hb hby d_jdk_52_method_21_3) rfl kK) ?_
  show OwnFin p e below _ (s₁.setTop (mkF m 5 #[.val (.ref ar), .val (.int (0 : Int32)), .val (.ref yb), .val (.int (0 : Int32)), .val (.int (3 : Int32)), .val (.int (0 : Int32)), .unset] [(.int (0 : Int32))]))
  refine OwnFin.step (fun tT kK => XS.iload X0.here hx rfl (hb hby d_jdk_52_method_21_5) rfl kK) ?_
  show OwnFin p e below _ (s₁.setTop (mkF m 7 #[.val (.ref ar), .val (.int (0 : Int32)), .val (.ref yb), .val (.int (0 : Int32)), .val (.int (3 : Int32)), .val (.int (0 : Int32)), .unset] [(.int (3 : Int32)), (.int (0 : Int32))]))
  refine OwnFin.step (fun tT kK => XS.icmpNo X0.here hx rfl (hb hby d_jdk_52_method_21_7) rfl (tlt (by decide : (0 : Int32) < (3 : Int32))).2.1 kK) ?_
  show OwnFin p e below _ (s₁.setTop (mkF m 10 #[.val (.ref ar), .val (.int (0 : Int32)), .val (.ref yb), .val (.int (0 : Int32)), .val (.int (3 : Int32)), .val (.int (0 : Int32)), .unset] []))
  refine OwnFin.step (fun tT kK => XS.aloadN X0.here hx rfl (hb hby d_jdk_52_method_21_10) rfl rfl kK) ?_
  show OwnFin p e below _ (s₁.setTop (mkF m 11 #[.val (.ref ar), .val (.int (0 : Int32)), .val (.ref yb), .val (.int (0 : Int32)), .val (.int (3 : Int32)), .val (.int (0 : Int32)), .unset] [(.ref ar)]))
  refine OwnFin.step (fun tT kK => XS.iloadN X0.here hx rfl (hb hby d_jdk_52_method_21_11) rfl kK) ?_
  show OwnFin p e below _ (s₁.setTop (mkF m 12 #[.val (.ref ar), .val (.int (0 : Int32)), .val (.ref yb), .val (.int (0 : Int32)), .val (.int (3 : Int32)), .val (.int (0 : Int32)), .unset] [(.int (0 : Int32)), (.ref ar)]))
  obtain ⟨cl1, Ar1, q1, Sz1, Ng1, H1, G1⟩ := id hp0
  have hin1 : ¬ ((0 : Int32) < 0 ∨ cl1.slots.size ≤ ((0 : Int32)).toNatClampNeg) := inb_of Sz1 ⟨by decide, by decide⟩
  refine OwnFin.step (fun tT kK => X0.caload hx (j := (0 : Int32)) (v := (.int c0)) (by rw [e0]; exact Ar1.1) (State.isArrayOf_alike hZ.alike Ar1.2.1) Ar1.2.2 hin1 (H1.at hin1 rfl) (g := (mkF m 12 #[.val (.ref ar), .val (.int (0 : Int32)), .val (.ref yb), .val (.int (0 : Int32)), .val (.int (3 : Int32)), .val (.int (0 : Int32)), .unset] [(.int (0 : Int32)), (.ref ar)])) rfl rfl (hb hby d_jdk_52_method_21_12) _ kK) ?_
  show OwnFin p e below _ (s₁.setTop (mkF m 13 #[.val (.ref ar), .val (.int (0 : Int32)), .val (.ref yb), .val (.int (0 : Int32)), .val (.int (3 : Int32)), .val (.int (0 : Int32)), .unset] [(.int c0)]))
  refine OwnFin.step (fun tT kK => XS.istore X0.here hx rfl (hb hby d_jdk_52_method_21_13) rfl (l' := #[.val (.ref ar), .val (.int (0 : Int32)), .val (.ref yb), .val (.int (0 : Int32)), .val (.int (3 : Int32)), .val (.int (0 : Int32)), .val (.int c0)]) rfl kK) ?_
  show OwnFin p e below _ (s₁.setTop (mkF m 15 #[.val (.ref ar), .val (.int (0 : Int32)), .val (.ref yb), .val (.int (0 : Int32)), .val (.int (3 : Int32)), .val (.int (0 : Int32)), .val (.int c0)] []))
  refine OwnFin.step (fun tT kK => XS.iload X0.here hx rfl (hb hby d_jdk_52_method_21_15) rfl kK) ?_
  show OwnFin p e below _ (s₁.setTop (mkF m 17 #[.val (.ref ar), .val (.int (0 : Int32)), .val (.ref yb), .val (.int (0 : Int32)), .val (.int (3 : Int32)), .val (.int (0 : Int32)), .val (.int c0)] [(.int c0)]))
  refine OwnFin.step (fun tT kK => XS.sipush X0.here hx rfl (hb hby d_jdk_52_method_21_17) kK) ?_
  show OwnFin p e below _ (s₁.setTop (mkF m 20 #[.val (.ref ar), .val (.int (0 : Int32)), .val (.ref yb), .val (.int (0 : Int32)), .val (.int (3 : Int32)), .val (.int (0 : Int32)), .val (.int c0)] [(.int (255 : Int32)), (.int c0)]))
  refine OwnFin.step (fun tT kK => XS.icmpYes X0.here hx rfl (pc0 := 20) (pc' := 26) rfl (hb hby d_jdk_52_method_21_20) rfl (flt (hp2 : ¬ ((255 : Int32) < c0))).2.2.2 (by decide) (by decide) kK) ?_
  show OwnFin p e below _ (s₁.setTop (mkF m 26 #[.val (.ref ar), .val (.int (0 : Int32)), .val (.ref yb), .val (.int (0 : Int32)), .val (.int (3 : Int32)), .val (.int (0 : Int32)), .val (.int c0)] []))
  refine OwnFin.step (fun tT kK => XS.aloadN X0.here hx rfl (hb hby d_jdk_52_method_21_26) rfl rfl kK) ?_
  show OwnFin p e below _ (s₁.setTop (mkF m 27 #[.val (.ref ar), .val (.int (0 : Int32)), .val (.ref yb), .val (.int (0 : Int32)), .val (.int (3 : Int32)), .val (.int (0 : Int32)), .val (.int c0)] [(.ref yb)]))
  refine OwnFin.step (fun tT kK => XS.iloadN X0.here hx rfl (hb hby d_jdk_52_method_21_27) rfl kK) ?_
  show OwnFin p e below _ (s₁.setTop (mkF m 28 #[.val (.ref ar), .val (.int (0 : Int32)), .val (.ref yb), .val (.int (0 : Int32)), .val (.int (3 : Int32)), .val (.int (0 : Int32)), .val (.int c0)] [(.int (0 : Int32)), (.ref yb)]))
  refine OwnFin.step (fun tT kK => XS.iload X0.here hx rfl (hb hby d_jdk_52_method_21_28) rfl kK) ?_
  show OwnFin p e below _ (s₁.setTop (mkF m 30 #[.val (.ref ar), .val (.int (0 : Int32)), .val (.ref yb), .val (.int (0 : Int32)), .val (.int (3 : Int32)), .val (.int (0 : Int32)), .val (.int c0)] [(.int c0), (.int (0 : Int32)), (.ref yb)]))
  refine OwnFin.step (fun tT kK => XS.i2b X0.here hx rfl (hb hby d_jdk_52_method_21_30) rfl kK) ?_
  show OwnFin p e below _ (s₁.setTop (mkF m 31 #[.val (.ref ar), .val (.int (0 : Int32)), .val (.ref yb), .val (.int (0 : Int32)), .val (.int (3 : Int32)), .val (.int (0 : Int32)), .val (.int c0)] [(.int (c0.toInt8.toInt32)), (.int (0 : Int32)), (.ref yb)]))
  obtain ⟨cl2, Ar2, q2, Sz2, Ng2, H2, G2⟩ := id hp1
  have hin2 : ¬ ((0 : Int32) < 0 ∨ cl2.slots.size ≤ ((0 : Int32)).toNatClampNeg) := inb_of Sz2 ⟨by decide, by decide⟩
  obtain ⟨T3, h3, X3, e3, W3, st3⟩ := stB X0 hx hZ e0 Ar2 (j := (0 : Int32)) hin2 (g := (mkF m 31 #[.val (.ref ar), .val (.int (0 : Int32)), .val (.ref yb), .val (.int (0 : Int32)), .val (.int (3 : Int32)), .val (.int (0 : Int32)), .val (.int c0)] [(.int (c0.toInt8.toInt32)), (.int (0 : Int32)), (.ref yb)])) rfl rfl (hb hby d_jdk_52_method_21_31)
  refine OwnFin.step st3 ?_
  have N3 := Fr.snoc X3 N0 hp5
  have V3 : Arv Z h3 yb kb .byte (3 : Int32) [(.int (nar .byte (c0.toInt8.toInt32))), (.int (0 : Int32)), (.int (0 : Int32))] (.int (0 : Int32)) := Arv.set Ar2 q2 Sz2 Ng2 H2 G2 (fits_nar_byte _) W3 0 rfl (Nat.le_of_ble_eq_true rfl)
  show OwnFin p e below _ (T3.setTop (mkF m 32 #[.val (.ref ar), .val (.int (0 : Int32)), .val (.ref yb), .val (.int (0 : Int32)), .val (.int (3 : Int32)), .val (.int (0 : Int32)), .val (.int c0)] []))
  refine OwnFin.step (fun tT kK => XS.iinc X3.here hx rfl (hb hby d_jdk_52_method_21_32) rfl (l' := #[.val (.ref ar), .val (.int (1 : Int32)), .val (.ref yb), .val (.int (0 : Int32)), .val (.int (3 : Int32)), .val (.int (0 : Int32)), .val (.int c0)]) rfl kK) ?_
  show OwnFin p e below _ (T3.setTop (mkF m 35 #[.val (.ref ar), .val (.int (1 : Int32)), .val (.ref yb), .val (.int (0 : Int32)), .val (.int (3 : Int32)), .val (.int (0 : Int32)), .val (.int c0)] []))
  refine OwnFin.step (fun tT kK => XS.iinc X3.here hx rfl (hb hby d_jdk_52_method_21_35) rfl (l' := #[.val (.ref ar), .val (.int (1 : Int32)), .val (.ref yb), .val (.int (1 : Int32)), .val (.int (3 : Int32)), .val (.int (0 : Int32)), .val (.int c0)]) rfl kK) ?_
  show OwnFin p e below _ (T3.setTop (mkF m 38 #[.val (.ref ar), .val (.int (1 : Int32)), .val (.ref yb), .val (.int (1 : Int32)), .val (.int (3 : Int32)), .val (.int (0 : Int32)), .val (.int c0)] []))
  refine OwnFin.step (fun tT kK => XS.iinc X3.here hx rfl (hb hby d_jdk_52_method_21_38) rfl (l' := #[.val (.ref ar), .val (.int (1 : Int32)), .val (.ref yb), .val (.int (1 : Int32)), .val (.int (3 : Int32)), .val (.int (1 : Int32)), .val (.int c0)]) rfl kK) ?_
  show OwnFin p e below _ (T3.setTop (mkF m 41 #[.val (.ref ar), .val (.int (1 : Int32)), .val (.ref yb), .val (.int (1 : Int32)), .val (.int (3 : Int32)), .val (.int (1 : Int32)), .val (.int c0)] []))
  refine OwnFin.step (fun tT kK => XS.goto X3.here hx rfl (pc0 := 41) (pc' := 3) rfl (hb hby d_jdk_52_method_21_41) (by decide) (by decide) kK) ?_
  show OwnFin p e below _ (T3.setTop (mkF m 3 #[.val (.ref ar), .val (.int (1 : Int32)), .val (.ref yb), .val (.int (1 : Int32)), .val (.int (3 : Int32)), .val (.int (1 : Int32)), .val (.int c0)] []))
  refine OwnFin.step (fun tT kK => XS.iload X3.here hx rfl (hb hby d_jdk_52_method_21_3) rfl kK) ?_
  show OwnFin p e below _ (T3.setTop (mkF m 5 #[.val (.ref ar), .val (.int (1 : Int32)), .val (.ref yb), .val (.int (1 : Int32)), .val (.int (3 : Int32)), .val (.int (1 : Int32)), .val (.int c0)] [(.int (1 : Int32))]))
  refine OwnFin.step (fun tT kK => XS.iload X3.here hx rfl (hb hby d_jdk_52_method_21_5) rfl kK) ?_
  show OwnFin p e below _ (T3.setTop (mkF m 7 #[.val (.ref ar), .val (.int (1 : Int32)), .val (.ref yb), .val (.int (1 : Int32)), .val (.int (3 : Int32)), .val (.int (1 : Int32)), .val (.int c0)] [(.int (3 : Int32)), (.int (1 : Int32))]))
  refine OwnFin.step (fun tT kK => XS.icmpNo X3.here hx rfl (hb hby d_jdk_52_method_21_7) rfl (tlt (by decide : (1 : Int32) < (3 : Int32))).2.1 kK) ?_
  show OwnFin p e below _ (T3.setTop (mkF m 10 #[.val (.ref ar), .val (.int (1 : Int32)), .val (.ref yb), .val (.int (1 : Int32)), .val (.int (3 : Int32)), .val (.int (1 : Int32)), .val (.int c0)] []))
  refine OwnFin.step (fun tT kK => XS.aloadN X3.here hx rfl (hb hby d_jdk_52_method_21_10) rfl rfl kK) ?_
  show OwnFin p e below _ (T3.setTop (mkF m 11 #[.val (.ref ar), .val (.int (1 : Int32)), .val (.ref yb), .val (.int (1 : Int32)), .val (.int (3 : Int32)), .val (.int (1 : Int32)), .val (.int c0)] [(.ref ar)]))
  refine OwnFin.step (fun tT kK => XS.iloadN X3.here hx rfl (hb hby d_jdk_52_method_21_11) rfl kK) ?_
  show OwnFin p e below _ (T3.setTop (mkF m 12 #[.val (.ref ar), .val (.int (1 : Int32)), .val (.ref yb), .val (.int (1 : Int32)), .val (.int (3 : Int32)), .val (.int (1 : Int32)), .val (.int c0)] [(.int (1 : Int32)), (.ref ar)]))
  have f4 : Arv Z h3 ar k .char (3 : Int32) [(.int c0), (.int c1), (.int c2)] (.int (0 : Int32)) := (hp0.other W3 hp6)
  obtain ⟨cl5, Ar5, q5, Sz5, Ng5, H5, G5⟩ := id f4
  have hin5 : ¬ ((1 : Int32) < 0 ∨ cl5.slots.size ≤ ((1 : Int32)).toNatClampNeg) := inb_of Sz5 ⟨by decide, by decide⟩
  refine OwnFin.step (fun tT kK => X3.caload hx (j := (1 : Int32)) (v := (.int c1)) (by rw [e3]; exact Ar5.1) (State.isArrayOf_alike hZ.alike Ar5.2.1) Ar5.2.2 hin5 (H5.at hin5 rfl) (g := (mkF m 12 #[.val (.ref ar), .val (.int (1 : Int32)), .val (.ref yb), .val (.int (1 : Int32)), .val (.int (3 : Int32)), .val (.int (1 : Int32)), .val (.int c0)] [(.int (1 : Int32)), (.ref ar)])) rfl rfl (hb hby d_jdk_52_method_21_12) _ kK) ?_
  show OwnFin p e below _ (T3.setTop (mkF m 13 #[.val (.ref ar), .val (.int (1 : Int32)), .val (.ref yb), .val (.int (1 : Int32)), .val (.int (3 : Int32)), .val (.int (1 : Int32)), .val (.int c0)] [(.int c1)]))
  refine OwnFin.step (fun tT kK => XS.istore X3.here hx rfl (hb hby d_jdk_52_method_21_13) rfl (l' := #[.val (.ref ar), .val (.int (1 : Int32)), .val (.ref yb), .val (.int (1 : Int32)), .val (.int (3 : Int32)), .val (.int (1 : Int32)), .val (.int c1)]) rfl kK) ?_
  show OwnFin p e below _ (T3.setTop (mkF m 15 #[.val (.ref ar), .val (.int (1 : Int32)), .val (.ref yb), .val (.int (1 : Int32)), .val (.int (3 : Int32)), .val (.int (1 : Int32)), .val (.int c1)] []))
  refine OwnFin.step (fun tT kK => XS.iload X3.here hx rfl (hb hby d_jdk_52_method_21_15) rfl kK) ?_
  show OwnFin p e below _ (T3.setTop (mkF m 17 #[.val (.ref ar), .val (.int (1 : Int32)), .val (.ref yb), .val (.int (1 : Int32)), .val (.int (3 : Int32)), .val (.int (1 : Int32)), .val (.int c1)] [(.int c1)]))
  refine OwnFin.step (fun tT kK => XS.sipush X3.here hx rfl (hb hby d_jdk_52_method_21_17) kK) ?_
  show OwnFin p e below _ (T3.setTop (mkF m 20 #[.val (.ref ar), .val (.int (1 : Int32)), .val (.ref yb), .val (.int (1 : Int32)), .val (.int (3 : Int32)), .val (.int (1 : Int32)), .val (.int c1)] [(.int (255 : Int32)), (.int c1)]))
  refine OwnFin.step (fun tT kK => XS.icmpYes X3.here hx rfl (pc0 := 20) (pc' := 26) rfl (hb hby d_jdk_52_method_21_20) rfl (flt (hp3 : ¬ ((255 : Int32) < c1))).2.2.2 (by decide) (by decide) kK) ?_
  show OwnFin p e below _ (T3.setTop (mkF m 26 #[.val (.ref ar), .val (.int (1 : Int32)), .val (.ref yb), .val (.int (1 : Int32)), .val (.int (3 : Int32)), .val (.int (1 : Int32)), .val (.int c1)] []))
  refine OwnFin.step (fun tT kK => XS.aloadN X3.here hx rfl (hb hby d_jdk_52_method_21_26) rfl rfl kK) ?_
  show OwnFin p e below _ (T3.setTop (mkF m 27 #[.val (.ref ar), .val (.int (1 : Int32)), .val (.ref yb), .val (.int (1 : Int32)), .val (.int (3 : Int32)), .val (.int (1 : Int32)), .val (.int c1)] [(.ref yb)]))
  refine OwnFin.step (fun tT kK => XS.iloadN X3.here hx rfl (hb hby d_jdk_52_method_21_27) rfl kK) ?_
  show OwnFin p e below _ (T3.setTop (mkF m 28 #[.val (.ref ar), .val (.int (1 : Int32)), .val (.ref yb), .val (.int (1 : Int32)), .val (.int (3 : Int32)), .val (.int (1 : Int32)), .val (.int c1)] [(.int (1 : Int32)), (.ref yb)]))
  refine OwnFin.step (fun tT kK => XS.iload X3.here hx rfl (hb hby d_jdk_52_method_21_28) rfl kK) ?_
  show OwnFin p e below _ (T3.setTop (mkF m 30 #[.val (.ref ar), .val (.int (1 : Int32)), .val (.ref yb), .val (.int (1 : Int32)), .val (.int (3 : Int32)), .val (.int (1 : Int32)), .val (.int c1)] [(.int c1), (.int (1 : Int32)), (.ref yb)]))
  refine OwnFin.step (fun tT kK => XS.i2b X3.here hx rfl (hb hby d_jdk_52_method_21_30) rfl kK) ?_
  show OwnFin p e below _ (T3.setTop (mkF m 31 #[.val (.ref ar), .val (.int (1 : Int32)), .val (.ref yb), .val (.int (1 : Int32)), .val (.int (3 : Int32)), .val (.int (1 : Int32)), .val (.int c1)] [(.int (c1.toInt8.toInt32)), (.int (1 : Int32)), (.ref yb)]))
  obtain ⟨cl6, Ar6, q6, Sz6, Ng6, H6, G6⟩ := id V3
  have hin6 : ¬ ((1 : Int32) < 0 ∨ cl6.slots.size ≤ ((1 : Int32)).toNatClampNeg) := inb_of Sz6 ⟨by decide, by decide⟩
  obtain ⟨T7, h7, X7, e7, W7, st7⟩ := stB X3 hx hZ e3 Ar6 (j := (1 : Int32)) hin6 (g := (mkF m 31 #[.val (.ref ar), .val (.int (1 : Int32)), .val (.ref yb), .val (.int (1 : Int32)), .val (.int (3 : Int32)), .val (.int (1 : Int32)), .val (.int c1)] [(.int (c1.toInt8.toInt32)), (.int (1 : Int32)), (.ref yb)])) rfl rfl (hb hby d_jdk_52_method_21_31)
  refine OwnFin.step st7 ?_
  have N7 := Fr.snoc X7 N3 hp5
  have V7 : Arv Z h7 yb kb .byte (3 : Int32) [(.int (nar .byte (c0.toInt8.toInt32))), (.int (nar .byte (c1.toInt8.toInt32))), (.int (0 : Int32))] (.int (0 : Int32)) := Arv.set Ar6 q6 Sz6 Ng6 H6 G6 (fits_nar_byte _) W7 1 rfl (Nat.le_of_ble_eq_true rfl)
  show OwnFin p e below _ (T7.setTop (mkF m 32 #[.val (.ref ar), .val (.int (1 : Int32)), .val (.ref yb), .val (.int (1 : Int32)), .val (.int (3 : Int32)), .val (.int (1 : Int32)), .val (.int c1)] []))
  refine OwnFin.step (fun tT kK => XS.iinc X7.here hx rfl (hb hby d_jdk_52_method_21_32) rfl (l' := #[.val (.ref ar), .val (.int (2 : Int32)), .val (.ref yb), .val (.int (1 : Int32)), .val (.int (3 : Int32)), .val (.int (1 : Int32)), .val (.int c1)]) rfl kK) ?_
  show OwnFin p e below _ (T7.setTop (mkF m 35 #[.val (.ref ar), .val (.int (2 : Int32)), .val (.ref yb), .val (.int (1 : Int32)), .val (.int (3 : Int32)), .val (.int (1 : Int32)), .val (.int c1)] []))
  refine OwnFin.step (fun tT kK => XS.iinc X7.here hx rfl (hb hby d_jdk_52_method_21_35) rfl (l' := #[.val (.ref ar), .val (.int (2 : Int32)), .val (.ref yb), .val (.int (2 : Int32)), .val (.int (3 : Int32)), .val (.int (1 : Int32)), .val (.int c1)]) rfl kK) ?_
  show OwnFin p e below _ (T7.setTop (mkF m 38 #[.val (.ref ar), .val (.int (2 : Int32)), .val (.ref yb), .val (.int (2 : Int32)), .val (.int (3 : Int32)), .val (.int (1 : Int32)), .val (.int c1)] []))
  refine OwnFin.step (fun tT kK => XS.iinc X7.here hx rfl (hb hby d_jdk_52_method_21_38) rfl (l' := #[.val (.ref ar), .val (.int (2 : Int32)), .val (.ref yb), .val (.int (2 : Int32)), .val (.int (3 : Int32)), .val (.int (2 : Int32)), .val (.int c1)]) rfl kK) ?_
  show OwnFin p e below _ (T7.setTop (mkF m 41 #[.val (.ref ar), .val (.int (2 : Int32)), .val (.ref yb), .val (.int (2 : Int32)), .val (.int (3 : Int32)), .val (.int (2 : Int32)), .val (.int c1)] []))
  refine OwnFin.step (fun tT kK => XS.goto X7.here hx rfl (pc0 := 41) (pc' := 3) rfl (hb hby d_jdk_52_method_21_41) (by decide) (by decide) kK) ?_
  show OwnFin p e below _ (T7.setTop (mkF m 3 #[.val (.ref ar), .val (.int (2 : Int32)), .val (.ref yb), .val (.int (2 : Int32)), .val (.int (3 : Int32)), .val (.int (2 : Int32)), .val (.int c1)] []))
  refine OwnFin.step (fun tT kK => XS.iload X7.here hx rfl (hb hby d_jdk_52_method_21_3) rfl kK) ?_
  show OwnFin p e below _ (T7.setTop (mkF m 5 #[.val (.ref ar), .val (.int (2 : Int32)), .val (.ref yb), .val (.int (2 : Int32)), .val (.int (3 : Int32)), .val (.int (2 : Int32)), .val (.int c1)] [(.int (2 : Int32))]))
  refine OwnFin.step (fun tT kK => XS.iload X7.here hx rfl (hb hby d_jdk_52_method_21_5) rfl kK) ?_
  show OwnFin p e below _ (T7.setTop (mkF m 7 #[.val (.ref ar), .val (.int (2 : Int32)), .val (.ref yb), .val (.int (2 : Int32)), .val (.int (3 : Int32)), .val (.int (2 : Int32)), .val (.int c1)] [(.int (3 : Int32)), (.int (2 : Int32))]))
  refine OwnFin.step (fun tT kK => XS.icmpNo X7.here hx rfl (hb hby d_jdk_52_method_21_7) rfl (tlt (by decide : (2 : Int32) < (3 : Int32))).2.1 kK) ?_
  show OwnFin p e below _ (T7.setTop (mkF m 10 #[.val (.ref ar), .val (.int (2 : Int32)), .val (.ref yb), .val (.int (2 : Int32)), .val (.int (3 : Int32)), .val (.int (2 : Int32)), .val (.int c1)] []))
  refine OwnFin.step (fun tT kK => XS.aloadN X7.here hx rfl (hb hby d_jdk_52_method_21_10) rfl rfl kK) ?_
  show OwnFin p e below _ (T7.setTop (mkF m 11 #[.val (.ref ar), .val (.int (2 : Int32)), .val (.ref yb), .val (.int (2 : Int32)), .val (.int (3 : Int32)), .val (.int (2 : Int32)), .val (.int c1)] [(.ref ar)]))
  refine OwnFin.step (fun tT kK => XS.iloadN X7.here hx rfl (hb hby d_jdk_52_method_21_11) rfl kK) ?_
  show OwnFin p e below _ (T7.setTop (mkF m 12 #[.val (.ref ar), .val (.int (2 : Int32)), .val (.ref yb), .val (.int (2 : Int32)), .val (.int (3 : Int32)), .val (.int (2 : Int32)), .val (.int c1)] [(.int (2 : Int32)), (.ref ar)]))
  have f8 : Arv Z h7 ar k .char (3 : Int32) [(.int c0), (.int c1), (.int c2)] (.int (0 : Int32)) := (f4.other W7 hp6)
  obtain ⟨cl9, Ar9, q9, Sz9, Ng9, H9, G9⟩ := id f8
  have hin9 : ¬ ((2 : Int32) < 0 ∨ cl9.slots.size ≤ ((2 : Int32)).toNatClampNeg) := inb_of Sz9 ⟨by decide, by decide⟩
  refine OwnFin.step (fun tT kK => X7.caload hx (j := (2 : Int32)) (v := (.int c2)) (by rw [e7]; exact Ar9.1) (State.isArrayOf_alike hZ.alike Ar9.2.1) Ar9.2.2 hin9 (H9.at hin9 rfl) (g := (mkF m 12 #[.val (.ref ar), .val (.int (2 : Int32)), .val (.ref yb), .val (.int (2 : Int32)), .val (.int (3 : Int32)), .val (.int (2 : Int32)), .val (.int c1)] [(.int (2 : Int32)), (.ref ar)])) rfl rfl (hb hby d_jdk_52_method_21_12) _ kK) ?_
  show OwnFin p e below _ (T7.setTop (mkF m 13 #[.val (.ref ar), .val (.int (2 : Int32)), .val (.ref yb), .val (.int (2 : Int32)), .val (.int (3 : Int32)), .val (.int (2 : Int32)), .val (.int c1)] [(.int c2)]))
  refine OwnFin.step (fun tT kK => XS.istore X7.here hx rfl (hb hby d_jdk_52_method_21_13) rfl (l' := #[.val (.ref ar), .val (.int (2 : Int32)), .val (.ref yb), .val (.int (2 : Int32)), .val (.int (3 : Int32)), .val (.int (2 : Int32)), .val (.int c2)]) rfl kK) ?_
  show OwnFin p e below _ (T7.setTop (mkF m 15 #[.val (.ref ar), .val (.int (2 : Int32)), .val (.ref yb), .val (.int (2 : Int32)), .val (.int (3 : Int32)), .val (.int (2 : Int32)), .val (.int c2)] []))
  refine OwnFin.step (fun tT kK => XS.iload X7.here hx rfl (hb hby d_jdk_52_method_21_15) rfl kK) ?_
  show OwnFin p e below _ (T7.setTop (mkF m 17 #[.val (.ref ar), .val (.int (2 : Int32)), .val (.ref yb), .val (.int (2 : Int32)), .val (.int (3 : Int32)), .val (.int (2 : Int32)), .val (.int c2)] [(.int c2)]))
  refine OwnFin.step (fun tT kK => XS.sipush X7.here hx rfl (hb hby d_jdk_52_method_21_17) kK) ?_
  show OwnFin p e below _ (T7.setTop (mkF m 20 #[.val (.ref ar), .val (.int (2 : Int32)), .val (.ref yb), .val (.int (2 : Int32)), .val (.int (3 : Int32)), .val (.int (2 : Int32)), .val (.int c2)] [(.int (255 : Int32)), (.int c2)]))
  refine OwnFin.step (fun tT kK => XS.icmpYes X7.here hx rfl (pc0 := 20) (pc' := 26) rfl (hb hby d_jdk_52_method_21_20) rfl (flt (hp4 : ¬ ((255 : Int32) < c2))).2.2.2 (by decide) (by decide) kK) ?_
  show OwnFin p e below _ (T7.setTop (mkF m 26 #[.val (.ref ar), .val (.int (2 : Int32)), .val (.ref yb), .val (.int (2 : Int32)), .val (.int (3 : Int32)), .val (.int (2 : Int32)), .val (.int c2)] []))
  refine OwnFin.step (fun tT kK => XS.aloadN X7.here hx rfl (hb hby d_jdk_52_method_21_26) rfl rfl kK) ?_
  show OwnFin p e below _ (T7.setTop (mkF m 27 #[.val (.ref ar), .val (.int (2 : Int32)), .val (.ref yb), .val (.int (2 : Int32)), .val (.int (3 : Int32)), .val (.int (2 : Int32)), .val (.int c2)] [(.ref yb)]))
  refine OwnFin.step (fun tT kK => XS.iloadN X7.here hx rfl (hb hby d_jdk_52_method_21_27) rfl kK) ?_
  show OwnFin p e below _ (T7.setTop (mkF m 28 #[.val (.ref ar), .val (.int (2 : Int32)), .val (.ref yb), .val (.int (2 : Int32)), .val (.int (3 : Int32)), .val (.int (2 : Int32)), .val (.int c2)] [(.int (2 : Int32)), (.ref yb)]))
  refine OwnFin.step (fun tT kK => XS.iload X7.here hx rfl (hb hby d_jdk_52_method_21_28) rfl kK) ?_
  show OwnFin p e below _ (T7.setTop (mkF m 30 #[.val (.ref ar), .val (.int (2 : Int32)), .val (.ref yb), .val (.int (2 : Int32)), .val (.int (3 : Int32)), .val (.int (2 : Int32)), .val (.int c2)] [(.int c2), (.int (2 : Int32)), (.ref yb)]))
  refine OwnFin.step (fun tT kK => XS.i2b X7.here hx rfl (hb hby d_jdk_52_method_21_30) rfl kK) ?_
  show OwnFin p e below _ (T7.setTop (mkF m 31 #[.val (.ref ar), .val (.int (2 : Int32)), .val (.ref yb), .val (.int (2 : Int32)), .val (.int (3 : Int32)), .val (.int (2 : Int32)), .val (.int c2)] [(.int (c2.toInt8.toInt32)), (.int (2 : Int32)), (.ref yb)]))
  obtain ⟨cl10, Ar10, q10, Sz10, Ng10, H10, G10⟩ := id V7
  have hin10 : ¬ ((2 : Int32) < 0 ∨ cl10.slots.size ≤ ((2 : Int32)).toNatClampNeg) := inb_of Sz10 ⟨by decide, by decide⟩
  obtain ⟨T11, h11, X11, e11, W11, st11⟩ := stB X7 hx hZ e7 Ar10 (j := (2 : Int32)) hin10 (g := (mkF m 31 #[.val (.ref ar), .val (.int (2 : Int32)), .val (.ref yb), .val (.int (2 : Int32)), .val (.int (3 : Int32)), .val (.int (2 : Int32)), .val (.int c2)] [(.int (c2.toInt8.toInt32)), (.int (2 : Int32)), (.ref yb)])) rfl rfl (hb hby d_jdk_52_method_21_31)
  refine OwnFin.step st11 ?_
  have N11 := Fr.snoc X11 N7 hp5
  have V11 : Arv Z h11 yb kb .byte (3 : Int32) [(.int (nar .byte (c0.toInt8.toInt32))), (.int (nar .byte (c1.toInt8.toInt32))), (.int (nar .byte (c2.toInt8.toInt32)))] (.int (0 : Int32)) := Arv.set Ar10 q10 Sz10 Ng10 H10 G10 (fits_nar_byte _) W11 2 rfl (Nat.le_of_ble_eq_true rfl)
  show OwnFin p e below _ (T11.setTop (mkF m 32 #[.val (.ref ar), .val (.int (2 : Int32)), .val (.ref yb), .val (.int (2 : Int32)), .val (.int (3 : Int32)), .val (.int (2 : Int32)), .val (.int c2)] []))
  refine OwnFin.step (fun tT kK => XS.iinc X11.here hx rfl (hb hby d_jdk_52_method_21_32) rfl (l' := #[.val (.ref ar), .val (.int (3 : Int32)), .val (.ref yb), .val (.int (2 : Int32)), .val (.int (3 : Int32)), .val (.int (2 : Int32)), .val (.int c2)]) rfl kK) ?_
  show OwnFin p e below _ (T11.setTop (mkF m 35 #[.val (.ref ar), .val (.int (3 : Int32)), .val (.ref yb), .val (.int (2 : Int32)), .val (.int (3 : Int32)), .val (.int (2 : Int32)), .val (.int c2)] []))
  refine OwnFin.step (fun tT kK => XS.iinc X11.here hx rfl (hb hby d_jdk_52_method_21_35) rfl (l' := #[.val (.ref ar), .val (.int (3 : Int32)), .val (.ref yb), .val (.int (3 : Int32)), .val (.int (3 : Int32)), .val (.int (2 : Int32)), .val (.int c2)]) rfl kK) ?_
  show OwnFin p e below _ (T11.setTop (mkF m 38 #[.val (.ref ar), .val (.int (3 : Int32)), .val (.ref yb), .val (.int (3 : Int32)), .val (.int (3 : Int32)), .val (.int (2 : Int32)), .val (.int c2)] []))
  refine OwnFin.step (fun tT kK => XS.iinc X11.here hx rfl (hb hby d_jdk_52_method_21_38) rfl (l' := #[.val (.ref ar), .val (.int (3 : Int32)), .val (.ref yb), .val (.int (3 : Int32)), .val (.int (3 : Int32)), .val (.int (3 : Int32)), .val (.int c2)]) rfl kK) ?_
  show OwnFin p e below _ (T11.setTop (mkF m 41 #[.val (.ref ar), .val (.int (3 : Int32)), .val (.ref yb), .val (.int (3 : Int32)), .val (.int (3 : Int32)), .val (.int (3 : Int32)), .val (.int c2)] []))
  refine OwnFin.step (fun tT kK => XS.goto X11.here hx rfl (pc0 := 41) (pc' := 3) rfl (hb hby d_jdk_52_method_21_41) (by decide) (by decide) kK) ?_
  show OwnFin p e below _ (T11.setTop (mkF m 3 #[.val (.ref ar), .val (.int (3 : Int32)), .val (.ref yb), .val (.int (3 : Int32)), .val (.int (3 : Int32)), .val (.int (3 : Int32)), .val (.int c2)] []))
  refine OwnFin.step (fun tT kK => XS.iload X11.here hx rfl (hb hby d_jdk_52_method_21_3) rfl kK) ?_
  show OwnFin p e below _ (T11.setTop (mkF m 5 #[.val (.ref ar), .val (.int (3 : Int32)), .val (.ref yb), .val (.int (3 : Int32)), .val (.int (3 : Int32)), .val (.int (3 : Int32)), .val (.int c2)] [(.int (3 : Int32))]))
  refine OwnFin.step (fun tT kK => XS.iload X11.here hx rfl (hb hby d_jdk_52_method_21_5) rfl kK) ?_
  show OwnFin p e below _ (T11.setTop (mkF m 7 #[.val (.ref ar), .val (.int (3 : Int32)), .val (.ref yb), .val (.int (3 : Int32)), .val (.int (3 : Int32)), .val (.int (3 : Int32)), .val (.int c2)] [(.int (3 : Int32)), (.int (3 : Int32))]))
  refine OwnFin.step (fun tT kK => XS.icmpYes X11.here hx rfl (pc0 := 7) (pc' := 44) rfl (hb hby d_jdk_52_method_21_7) rfl (flt (by decide : ¬ ((3 : Int32) < (3 : Int32)))).2.1 (by decide) (by decide) kK) ?_
  show OwnFin p e below _ (T11.setTop (mkF m 44 #[.val (.ref ar), .val (.int (3 : Int32)), .val (.ref yb), .val (.int (3 : Int32)), .val (.int (3 : Int32)), .val (.int (3 : Int32)), .val (.int c2)] []))
  refine OwnFin.step (fun tT kK => XS.iload X11.here hx rfl (hb hby d_jdk_52_method_21_44) rfl kK) ?_
  show OwnFin p e below _ (T11.setTop (mkF m 46 #[.val (.ref ar), .val (.int (3 : Int32)), .val (.ref yb), .val (.int (3 : Int32)), .val (.int (3 : Int32)), .val (.int (3 : Int32)), .val (.int c2)] [(.int (3 : Int32))]))
  obtain ⟨fs12, hr12, hrun12, hended12, hW12, hsame12⟩ := X11.leave (v := (some (.int (3 : Int32)))) (fun h => by rw [Bd.returns] at h; cases h)
  refine ⟨_, _, retOut X11 hx Bd.returns rfl (Or.inl ⟨rfl, Or.inl rfl, _, rfl⟩) (hb hby d_jdk_52_method_21_46) hr12, hrun12, hended12, _, _, rfl, ?_, ⟨_, rfl⟩, hW12, hsame12.mono (by decide) (by decide)⟩
  show Q53a Z ar yb k kb c0 c1 c2 h0 n0 _ T11.heap _
  rw [e11]
  exact ⟨rfl, N11, ((((Keep.refl h0 [yb]).wr W3 (Or.inl (List.mem_of_getElem? (i := 0) rfl))).wr W7 (Or.inl (List.mem_of_getElem? (i := 0) rfl))).wr W11 (Or.inl (List.mem_of_getElem? (i := 0) rfl))), V11⟩
theorem ef_53b (m : MethodId) (ar : Addr) : entryFrame m #[(.ref ar), (.int (0 : Int32)), (.int (3 : Int32))] 6 = mkF m 0 #[.val (.ref ar), .val (.int (0 : Int32)), .val (.int (3 : Int32)), .unset, .unset, .unset] [] := by first | (simp [entryFrame, mkF, argsToLocals, Value.category]; done) | rfl
def Q53b (Z : State) (ar : Addr) (k : ClassId) (c0 : Int32) (c1 : Int32) (c2 : Int32) (h0 : Heap) (n0 : Nat) (vV : Option Value) (hH : Heap) (LL : List Loc) : Prop := ∃ b : Addr, ∃ kb : ClassId, vV = some (.ref b) ∧ Fr n0 LL ∧ Keep h0 hH [] ∧ h0.size ≤ b ∧ (Arv Z hH b kb .byte (3 : Int32) [(.int (nar .byte (c0.toInt8.toInt32))), (.int (nar .byte (c1.toInt8.toInt32))), (.int (nar .byte (c2.toInt8.toInt32)))] (.int (0 : Int32)))
def R53b (Z : State) (ar : Addr) (k : ClassId) (c0 : Int32) (c1 : Int32) (c2 : Int32) (h0 : Heap) (n0 : Nat) (U : State) (o : Outcome) (U' : State) : Prop := ∃ vV LL, o = .returned vV ∧ Q53b Z ar k c0 c1 c2 h0 n0 vV U'.heap LL ∧ FrameEnd U o U' LL ({ frames := 1, cells := 1, slots := 3, locals := 18 } : Room).cells ({ frames := 1, cells := 1, slots := 3, locals := 18 } : Room).slots
set_option maxRecDepth 65536 in
set_option maxHeartbeats 40000000 in
theorem rm53b (l : Launch) (Z : State) (a0 : Array Value) (hw : ∀ d ∈ tables_1, d.before a0 Z = true) (hEL : EW Z a0 OwnEL) (wS : ∀ a ∈ Bundle.stringAtoms, a.before a0 Z = true) (ws : List Jvm.Cond) (ar : Addr) (k : ClassId) (c0 : Int32) (c1 : Int32) (c2 : Int32) (h0 : Heap) (n0 : Nat) (Z0 : n0 ≤ h0.size) (hp0 : Arv Z h0 ar k .char (3 : Int32) [(.int c0), (.int c1), (.int c2)] (.int (0 : Int32))) (hp1 : ¬ (255 : Int32) < c0) (hp2 : ¬ (255 : Int32) < c1) (hp3 : ¬ (255 : Int32) < c2) :
    MetFree l (⟨"java/lang/StringUTF16", "compress", "([CII)[B"⟩ : MethodName) (head1 (Jvm.Cond.code (⟨"java/lang/StringUTF16", "compress", "([CII)[B"⟩ : MethodName) jdk_52_method_16_code 6 (some (.array .byte)) :: ws) ({ frames := 1, cells := 1, slots := 3, locals := 18 } : Room)) (fun aA U => aA = #[(.ref ar), (.int (0 : Int32)), (.int (3 : Int32))] ∧ Z.Warmed39 U.vm ∧ U.heap = h0) (fun _ _ _ _ _ => True) (fun _ U o U' => ∃ vV LL, o = .returned vV ∧ Q53b Z ar k c0 c1 c2 h0 n0 vV U'.heap LL ∧ FrameEnd U o U' LL ({ frames := 1, cells := 1, slots := 3, locals := 18 } : Room).cells ({ frames := 1, cells := 1, slots := 3, locals := 18 } : Room).slots) := by
  refine MetFree.of_bodySF (plainFor_of_name pn_131) hisR ?_
  intro p e s m args below meth cC s₁ Bd hml0 hP hK
  obtain ⟨rfl, hZ, hh⟩ := hP
  have hx := Bd.exec
  have hby := Bd.bytes
  have hml : cC.maxLocals = 6 := hml0
  have hown : s.vm.findClass "java/lang/StringUTF16" = some m.cls := findClass_of_methodNamed Bd.named
  have hnm := (name_of_methodNamed Bd.named Bd.method).1
  have X0 : Stand p l e ({ frames := 1, cells := 1, slots := 3, locals := 18 } : Room) s m #[(.ref ar), (.int (0 : Int32)), (.int (3 : Int32))] below meth cC s₁ [] 0 0 := Stand.of_body Bd
  have e0 : s₁.heap = h0 := by rw [← hh, Bd.state]; rfl
  have N0 := Fr.nil n0
  show OwnFin p e below (R53b Z ar k c0 c1 c2 h0 n0 s) (s₁.setTop (entryFrame m #[(.ref ar), (.int (0 : Int32)), (.int (3 : Int32))] 6))
  rw [ef_53b m ar]
  refine OwnFin.step (fun tT kK => XS.iloadN X0.here hx rfl (hb hby d_jdk_52_method_16_0) rfl kK) ?_
  show OwnFin p e below _ (s₁.setTop (mkF m 1 #[.val (.ref ar), .val (.int (0 : Int32)), .val (.int (3 : Int32)), .unset, .unset, .unset] [(.int (3 : Int32))]))
  obtain ⟨T1, h1, k1, X1, e1, E1, A1, st1⟩ := newP X0 hx hZ (hw _ (List.mem_of_getElem? (i := 23) rfl)) e0 (g := (mkF m 1 #[.val (.ref ar), .val (.int (0 : Int32)), .val (.int (3 : Int32)), .unset, .unset, .unset] [(.int (3 : Int32))])) rfl (hb hby d_jdk_52_method_16_1) rfl (by decide) (cap := 3) (by decide) (by decide) (by decide) (by decide)
  obtain ⟨b1, g1⟩ : ∃ z, z = h0.size := ⟨_, rfl⟩
  rw [← g1] at A1 st1
  refine OwnFin.step st1 ?_
  have V1 : Arv Z h1 b1 k1 .byte (3 : Int32) [(.int (0 : Int32)), (.int (0 : Int32)), (.int (0 : Int32))] (.int (0 : Int32)) := (Arv.new A1 (by decide)).pad (pad_rep [] (.int (0 : Int32)) 3)
  show OwnFin p e below _ (T1.setTop (mkF m 3 #[.val (.ref ar), .val (.int (0 : Int32)), .val (.int (3 : Int32)), .unset, .unset, .unset] [(.ref b1)]))
  refine OwnFin.step (fun tT kK => XS.astoreN X1.here hx rfl (hb hby d_jdk_52_method_16_3) rfl rfl (l' := #[.val (.ref ar), .val (.int (0 : Int32)), .val (.int (3 : Int32)), .val (.ref b1), .unset, .unset]) rfl kK) ?_
  show OwnFin p e below _ (T1.setTop (mkF m 4 #[.val (.ref ar), .val (.int (0 : Int32)), .val (.int (3 : Int32)), .val (.ref b1), .unset, .unset] []))
  refine OwnFin.step (fun tT kK => XS.aloadN X1.here hx rfl (hb hby d_jdk_52_method_16_4) rfl rfl kK) ?_
  show OwnFin p e below _ (T1.setTop (mkF m 5 #[.val (.ref ar), .val (.int (0 : Int32)), .val (.int (3 : Int32)), .val (.ref b1), .unset, .unset] [(.ref ar)]))
  refine OwnFin.step (fun tT kK => XS.iloadN X1.here hx rfl (hb hby d_jdk_52_method_16_5) rfl kK) ?_
  show OwnFin p e below _ (T1.setTop (mkF m 6 #[.val (.ref ar), .val (.int (0 : Int32)), .val (.int (3 : Int32)), .val (.ref b1), .unset, .unset] [(.int (0 : Int32)), (.ref ar)]))
  refine OwnFin.step (fun tT kK => XS.aloadN X1.here hx rfl (hb hby d_jdk_52_method_16_6) rfl rfl kK) ?_
  show OwnFin p e below _ (T1.setTop (mkF m 7 #[.val (.ref ar), .val (.int (0 : Int32)), .val (.int (3 : Int32)), .val (.ref b1), .unset, .unset] [(.ref b1), (.int (0 : Int32)), (.ref ar)]))
  refine OwnFin.step (fun tT kK => XS.iconst X1.here hx rfl (hb hby d_jdk_52_method_16_7) kK) ?_
  show OwnFin p e below _ (T1.setTop (mkF m 8 #[.val (.ref ar), .val (.int (0 : Int32)), .val (.int (3 : Int32)), .val (.ref b1), .unset, .unset] [(.int (0 : Int32)), (.ref b1), (.int (0 : Int32)), (.ref ar)]))
  refine OwnFin.step (fun tT kK => XS.iloadN X1.here hx rfl (hb hby d_jdk_52_method_16_8) rfl kK) ?_
  show OwnFin p e below _ (T1.setTop (mkF m 9 #[.val (.ref ar), .val (.int (0 : Int32)), .val (.int (3 : Int32)), .val (.ref b1), .unset, .unset] [(.int (3 : Int32)), (.int (0 : Int32)), (.ref b1), (.int (0 : Int32)), (.ref ar)]))
  have f2 : Arv Z h1 ar k .char (3 : Int32) [(.int c0), (.int c1), (.int c2)] (.int (0 : Int32)) := (hp0.ext E1)
  obtain ⟨_, _, ⟨T3, L3, k3, n3⟩, -, X3, ⟨Lc3, hQ3, l3, y3, z3⟩, st3⟩ := Jvm.LawKit.callS X1 hx (y := (⟨"java/lang/StringUTF16", "compress", "([CI[BII)I"⟩ : MethodName)) hown (mvT hZ (hw _ (List.mem_of_getElem? (i := 24) rfl))) (mvT hZ (hw _ (List.mem_of_getElem? (i := 25) rfl))) (mvT hZ (hw _ (List.mem_of_getElem? (i := 21) rfl))) (mvT hZ (hw _ (List.mem_of_getElem? (i := 26) rfl))) (by decide) (backOf (W := 0) (rm53a l Z a0 hw hEL wS [] ar b1 k k1 c0 c1 c2 h1 n0 (Nat.le_trans Z0 E1.1) f2 V1 (hp1) (hp2) (hp3) (Nat.le_trans Z0 (Nat.le_of_eq g1.symm)) (Nat.ne_of_lt (Nat.lt_of_lt_of_le (Nat.lt_of_lt_of_le hp0.lt (Nat.le_refl _)) (Nat.le_of_eq g1.symm)))) hZ (hw _ (List.mem_of_getElem? (i := 26) rfl)) (hw _ (List.mem_of_getElem? (i := 21) rfl)) (by decide) (by decide)) (g := (mkF m 9 #[.val (.ref ar), .val (.int (0 : Int32)), .val (.int (3 : Int32)), .val (.ref b1), .unset, .unset] [(.int (3 : Int32)), (.int (0 : Int32)), (.ref b1), (.int (0 : Int32)), (.ref ar)])) rfl (by rw [hml]; rfl) (argsL := [(.ref ar), (.int (0 : Int32)), (.ref b1), (.int (0 : Int32)), (.int (3 : Int32))]) (rest := []) (lenOf pd_164 rfl) rfl (by show 2 * 0 + _ ≤ _; exact Nat.le_of_eq rfl) (hb hby d_jdk_52_method_16_9) (fun _ _ => ⟨rfl, e1, (by decide : 1 + 0 ≤ _), (by decide : 3 + 0 ≤ _)⟩)
  dsimp only [Pt.U, Pt.locs, Pt.cells, Pt.slots] at X3 l3 y3 z3 st3 hQ3
  subst l3 y3 z3
  obtain ⟨rfl, N3q, K3, P3_0⟩ := hQ3
  have N3 := Fr.app N0 N3q
  refine OwnFin.step st3 ?_
  show OwnFin p e below _ (T3.setTop (mkF m 12 #[.val (.ref ar), .val (.int (0 : Int32)), .val (.int (3 : Int32)), .val (.ref b1), .unset, .unset] [(.int (3 : Int32))]))
  refine OwnFin.step (fun tT kK => XS.istore X3.here hx rfl (hb hby d_jdk_52_method_16_12) rfl (l' := #[.val (.ref ar), .val (.int (0 : Int32)), .val (.int (3 : Int32)), .val (.ref b1), .val (.int (3 : Int32)), .unset]) rfl kK) ?_
  show OwnFin p e below _ (T3.setTop (mkF m 14 #[.val (.ref ar), .val (.int (0 : Int32)), .val (.int (3 : Int32)), .val (.ref b1), .val (.int (3 : Int32)), .unset] []))
  refine OwnFin.step (fun tT kK => XS.iload X3.here hx rfl (hb hby d_jdk_52_method_16_14) rfl kK) ?_
  show OwnFin p e below _ (T3.setTop (mkF m 16 #[.val (.ref ar), .val (.int (0 : Int32)), .val (.int (3 : Int32)), .val (.ref b1), .val (.int (3 : Int32)), .unset] [(.int (3 : Int32))]))
  refine OwnFin.step (fun tT kK => XS.iloadN X3.here hx rfl (hb hby d_jdk_52_method_16_16) rfl kK) ?_
  show OwnFin p e below _ (T3.setTop (mkF m 17 #[.val (.ref ar), .val (.int (0 : Int32)), .val (.int (3 : Int32)), .val (.ref b1), .val (.int (3 : Int32)), .unset] [(.int (3 : Int32)), (.int (3 : Int32))]))
  refine OwnFin.step (fun tT kK => XS.icmpYes X3.here hx rfl (pc0 := 17) (pc' := 57) rfl (hb hby d_jdk_52_method_16_17) rfl (teq (rfl : (3 : Int32) = (3 : Int32))).1 (by decide) (by decide) kK) ?_
  show OwnFin p e below _ (T3.setTop (mkF m 57 #[.val (.ref ar), .val (.int (0 : Int32)), .val (.int (3 : Int32)), .val (.ref b1), .val (.int (3 : Int32)), .unset] []))
  refine OwnFin.step (fun tT kK => XS.aloadN X3.here hx rfl (hb hby d_jdk_52_method_16_57) rfl rfl kK) ?_
  show OwnFin p e below _ (T3.setTop (mkF m 58 #[.val (.ref ar), .val (.int (0 : Int32)), .val (.int (3 : Int32)), .val (.ref b1), .val (.int (3 : Int32)), .unset] [(.ref b1)]))
  obtain ⟨fs4, hr4, hrun4, hended4, hW4, hsame4⟩ := X3.leave (v := (some (.ref b1))) (fun h => by rw [Bd.returns] at h; cases h)
  refine ⟨_, _, retOut X3 hx Bd.returns rfl (Or.inr (Or.inr (Or.inr (Or.inr ⟨rfl, rfl, rfl⟩)))) (hb hby d_jdk_52_method_16_58) hr4, hrun4, hended4, _, _, rfl, ?_, ⟨_, rfl⟩, hW4, hsame4.mono (by decide) (by decide)⟩
  show Q53b Z ar k c0 c1 c2 h0 n0 _ T3.heap _
  exact ⟨b1, k1, rfl, N3, (((Keep.refl h0 []).ext E1).trans K3 (allS (P := fun x => x ∈ [] ∨ h0.size ≤ x) (Or.inr (Nat.le_trans (Nat.le_refl _) (Nat.le_of_eq g1.symm))) all0)), (Nat.le_trans (Nat.le_refl _) (Nat.le_of_eq g1.symm)), P3_0⟩
theorem ef_53c (m : MethodId) (b : Addr) : entryFrame m #[(.ref b), (.int (3 : Int32))] 2 = mkF m 0 #[.val (.ref b), .val (.int (3 : Int32))] [] := by first | (simp [entryFrame, mkF, argsToLocals, Value.category]; done) | rfl
def Q53c (Z : State) (b : Addr) (kb : ClassId) (c0 : Int32) (c1 : Int32) (c2 : Int32) (h0 : Heap) (n0 : Nat) (vV : Option Value) (hH : Heap) (LL : List Loc) : Prop := vV = some (.int (0 : Int32)) ∧ Fr n0 LL ∧ hH = h0
def R53c (Z : State) (b : Addr) (kb : ClassId) (c0 : Int32) (c1 : Int32) (c2 : Int32) (h0 : Heap) (n0 : Nat) (U : State) (o : Outcome) (U' : State) : Prop := ∃ vV LL, o = .returned vV ∧ Q53c Z b kb c0 c1 c2 h0 n0 vV U'.heap LL ∧ FrameEnd U o U' LL ({ frames := 0, cells := 0, slots := 0, locals := 0 } : Room).cells ({ frames := 0, cells := 0, slots := 0, locals := 0 } : Room).slots
set_option maxRecDepth 65536 in
set_option maxHeartbeats 40000000 in
theorem rm53c (l : Launch) (Z : State) (a0 : Array Value) (hw : ∀ d ∈ tables_1, d.before a0 Z = true) (hEL : EW Z a0 OwnEL) (wS : ∀ a ∈ Bundle.stringAtoms, a.before a0 Z = true) (ws : List Jvm.Cond) (b : Addr) (kb : ClassId) (c0 : Int32) (c1 : Int32) (c2 : Int32) (h0 : Heap) (n0 : Nat) (Z0 : n0 ≤ h0.size) (hp0 : Arv Z h0 b kb .byte (3 : Int32) [(.int (nar .byte (c0.toInt8.toInt32))), (.int (nar .byte (c1.toInt8.toInt32))), (.int (nar .byte (c2.toInt8.toInt32)))] (.int (0 : Int32))) :
    MetFree l (⟨"java/lang/StringUTF16", "coderFromArrayLen", "([BI)B"⟩ : MethodName) (head1 (Jvm.Cond.code (⟨"java/lang/StringUTF16", "coderFromArrayLen", "([BI)B"⟩ : MethodName) jdk_52_method_15_code 2 (some .byte) :: ws) ({ frames := 0, cells := 0, slots := 0, locals := 0 } : Room)) (fun aA U => aA = #[(.ref b), (.int (3 : Int32))] ∧ Z.Warmed39 U.vm ∧ U.heap = h0) (fun _ _ _ _ _ => True) (fun _ U o U' => ∃ vV LL, o = .returned vV ∧ Q53c Z b kb c0 c1 c2 h0 n0 vV U'.heap LL ∧ FrameEnd U o U' LL ({ frames := 0, cells := 0, slots := 0, locals := 0 } : Room).cells ({ frames := 0, cells := 0, slots := 0, locals := 0 } : Room).slots) := by
  refine MetFree.of_bodySF (plainFor_of_name pn_131) hisR ?_
  intro p e s m args below meth cC s₁ Bd hml0 hP hK
  obtain ⟨rfl, hZ, hh⟩ := hP
  have hx := Bd.exec
  have hby := Bd.bytes
  have hml : cC.maxLocals = 2 := hml0
  have hown : s.vm.findClass "java/lang/StringUTF16" = some m.cls := findClass_of_methodNamed Bd.named
  have hnm := (name_of_methodNamed Bd.named Bd.method).1
  have X0 : Stand p l e ({ frames := 0, cells := 0, slots := 0, locals := 0 } : Room) s m #[(.ref b), (.int (3 : Int32))] below meth cC s₁ [] 0 0 := Stand.of_body Bd
  have e0 : s₁.heap = h0 := by rw [← hh, Bd.state]; rfl
  have N0 := Fr.nil n0
  show OwnFin p e below (R53c Z b kb c0 c1 c2 h0 n0 s) (s₁.setTop (entryFrame m #[(.ref b), (.int (3 : Int32))] 2))
  rw [ef_53c m b]
  refine OwnFin.step (fun tT kK => XS.iloadN X0.here hx rfl (hb hby d_jdk_52_method_15_0) rfl kK) ?_
  show OwnFin p e below _ (s₁.setTop (mkF m 1 #[.val (.ref b), .val (.int (3 : Int32))] [(.int (3 : Int32))]))
  refine OwnFin.step (fun tT kK => XS.aloadN X0.here hx rfl (hb hby d_jdk_52_method_15_1) rfl rfl kK) ?_
  show OwnFin p e below _ (s₁.setTop (mkF m 2 #[.val (.ref b), .val (.int (3 : Int32))] [(.ref b), (.int (3 : Int32))]))
  obtain ⟨cl1, Ar1, -, Sz1, Ng1, -, -⟩ := id hp0
  refine OwnFin.step (fun tT kK => own_len X0 hx hZ e0 Ar1 Sz1 Ng1 (g := (mkF m 2 #[.val (.ref b), .val (.int (3 : Int32))] [(.ref b), (.int (3 : Int32))])) rfl rfl (hb hby d_jdk_52_method_15_2) kK) ?_
  show OwnFin p e below _ (s₁.setTop (mkF m 3 #[.val (.ref b), .val (.int (3 : Int32))] [(.int (3 : Int32)), (.int (3 : Int32))]))
  refine OwnFin.step (fun tT kK => XS.isub X0.here hx rfl (hb hby d_jdk_52_method_15_3) rfl kK) ?_
  show OwnFin p e below _ (s₁.setTop (mkF m 4 #[.val (.ref b), .val (.int (3 : Int32))] [(.int (0 : Int32))]))
  refine OwnFin.step (fun tT kK => XS.bipush X0.here hx rfl (hb hby d_jdk_52_method_15_4) kK) ?_
  show OwnFin p e below _ (s₁.setTop (mkF m 6 #[.val (.ref b), .val (.int (3 : Int32))] [(.int (31 : Int32)), (.int (0 : Int32))]))
  refine OwnFin.step (fun tT kK => XS.iushr X0.here hx rfl (hb hby d_jdk_52_method_15_6) rfl kK) ?_
  show OwnFin p e below _ (s₁.setTop (mkF m 7 #[.val (.ref b), .val (.int (3 : Int32))] [(.int (0 : Int32))]))
  refine OwnFin.step (fun tT kK => XS.i2b X0.here hx rfl (hb hby d_jdk_52_method_15_7) rfl kK) ?_
  show OwnFin p e below _ (s₁.setTop (mkF m 8 #[.val (.ref b), .val (.int (3 : Int32))] [(.int (0 : Int32))]))
  obtain ⟨fs2, hr2, hrun2, hended2, hW2, hsame2⟩ := X0.leave (v := (some (.int (0 : Int32)))) (fun h => by rw [Bd.returns] at h; cases h)
  refine ⟨_, _, retN X0 hx (t := .byte) Bd.returns (by simp) (hb hby d_jdk_52_method_15_8) hr2, hrun2, hended2, _, _, rfl, ?_, ⟨_, rfl⟩, hW2, hsame2.mono (by decide) (by decide)⟩
  show Q53c Z b kb c0 c1 c2 h0 n0 _ s₁.heap _
  rw [e0]
  exact ⟨rfl, N0, rfl⟩
theorem ef_53d (m : MethodId) (a : Addr) (ar : Addr) : entryFrame m #[(.ref a), (.ref ar), (.int (0 : Int32)), (.int (3 : Int32)), .null] 6 = mkF m 0 #[.val (.ref a), .val (.ref ar), .val (.int (0 : Int32)), .val (.int (3 : Int32)), .val .null, .unset] [] := by first | (simp [entryFrame, mkF, argsToLocals, Value.category]; done) | rfl
def Q53d (Z : State) (a : Addr) (ar : Addr) (k : ClassId) (cs : Int32) (c0 : Int32) (c1 : Int32) (c2 : Int32) (h0 : Heap) (n0 : Nat) (vV : Option Value) (hH : Heap) (LL : List Loc) : Prop := ∃ b : Addr, ∃ kb : ClassId, vV = none ∧ Fr n0 LL ∧ Keep h0 hH [a] ∧ h0.size ≤ b ∧ (Exa Z hH a "java/lang/String") ∧ (Fld Z hH a "java/lang/String" "value" "[B" (.ref b)) ∧ (Fld Z hH a "java/lang/String" "coder" "B" (.int (0 : Int32))) ∧ (Arv Z hH b kb .byte (3 : Int32) [(.int (nar .byte (c0.toInt8.toInt32))), (.int (nar .byte (c1.toInt8.toInt32))), (.int (nar .byte (c2.toInt8.toInt32)))] (.int (0 : Int32)))
def R53d (Z : State) (a : Addr) (ar : Addr) (k : ClassId) (cs : Int32) (c0 : Int32) (c1 : Int32) (c2 : Int32) (h0 : Heap) (n0 : Nat) (U : State) (o : Outcome) (U' : State) : Prop := ∃ vV LL, o = .returned vV ∧ Q53d Z a ar k cs c0 c1 c2 h0 n0 vV U'.heap LL ∧ FrameEnd U o U' LL ({ frames := 2, cells := 1, slots := 3, locals := 35 } : Room).cells ({ frames := 2, cells := 1, slots := 3, locals := 35 } : Room).slots
set_option maxRecDepth 65536 in
set_option maxHeartbeats 40000000 in
theorem rm53d (l : Launch) (Z : State) (a0 : Array Value) (hw : ∀ d ∈ tables_1, d.before a0 Z = true) (hEL : EW Z a0 OwnEL) (wS : ∀ a ∈ Bundle.stringAtoms, a.before a0 Z = true) (ws : List Jvm.Cond) (a : Addr) (ar : Addr) (k : ClassId) (cs : Int32) (c0 : Int32) (c1 : Int32) (c2 : Int32) (h0 : Heap) (n0 : Nat) (Z0 : n0 ≤ h0.size) (hp0 : Exa Z h0 a "java/lang/String") (hp1 : Fld Z h0 a "java/lang/String" "value" "[B" .null) (hp2 : Fld Z h0 a "java/lang/String" "coder" "B" (.int (0 : Int32))) (hp3 : n0 ≤ a) (hp4 : Arv Z h0 ar k .char (3 : Int32) [(.int c0), (.int c1), (.int c2)] (.int (0 : Int32))) (hp5 : Sta Z h0 "java/lang/String" "COMPACT_STRINGS" "Z" (.int cs)) (hp6 : ¬ cs = (0 : Int32)) (hp7 : ¬ (255 : Int32) < c0) (hp8 : ¬ (255 : Int32) < c1) (hp9 : ¬ (255 : Int32) < c2) :
    MetFree l (⟨"java/lang/String", "<init>", "([CIILjava/lang/Void;)V"⟩ : MethodName) (head1 (Jvm.Cond.code (⟨"java/lang/String", "<init>", "([CIILjava/lang/Void;)V"⟩ : MethodName) jdk_42_method_149_code 6 none :: ws) ({ frames := 2, cells := 1, slots := 3, locals := 35 } : Room)) (fun aA U => aA = #[(.ref a), (.ref ar), (.int (0 : Int32)), (.int (3 : Int32)), .null] ∧ Z.Warmed39 U.vm ∧ U.heap = h0) (fun _ _ _ _ _ => True) (fun _ U o U' => ∃ vV LL, o = .returned vV ∧ Q53d Z a ar k cs c0 c1 c2 h0 n0 vV U'.heap LL ∧ FrameEnd U o U' LL ({ frames := 2, cells := 1, slots := 3, locals := 35 } : Room).cells ({ frames := 2, cells := 1, slots := 3, locals := 35 } : Room).slots) := by
  refine MetFree.of_bodySF (plainFor_of_name pn_108) hisR ?_
  intro p e s m args below meth cC s₁ Bd hml0 hP hK
  obtain ⟨rfl, hZ, hh⟩ := hP
  have hx := Bd.exec
  have hby := Bd.bytes
  have hml : cC.maxLocals = 6 := hml0
  have hown : s.vm.findClass "java/lang/String" = some m.cls := findClass_of_methodNamed Bd.named
  have hnm := (name_of_methodNamed Bd.named Bd.method).1
  have X0 : Stand p l e ({ frames := 2, cells := 1, slots := 3, locals := 35 } : Room) s m #[(.ref a), (.ref ar), (.int (0 : Int32)), (.int (3 : Int32)), .null] below meth cC s₁ [] 0 0 := Stand.of_body Bd
  have e0 : s₁.heap = h0 := by rw [← hh, Bd.state]; rfl
  have N0 := Fr.nil n0
  show OwnFin p e below (R53d Z a ar k cs c0 c1 c2 h0 n0 s) (s₁.setTop (entryFrame m #[(.ref a), (.ref ar), (.int (0 : Int32)), (.int (3 : Int32)), .null] 6))
  rw [ef_53d m a ar]
  refine OwnFin.step (fun tT kK => XS.aloadN X0.here hx rfl (hb hby d_jdk_42_method_149_0) rfl rfl kK) ?_
  show OwnFin p e below _ (s₁.setTop (mkF m 1 #[.val (.ref a), .val (.ref ar), .val (.int (0 : Int32)), .val (.int (3 : Int32)), .val .null, .unset] [(.ref a)]))
  obtain ⟨T1, X1, e1, st1⟩ := initO X0 hx hZ hown (hw _ (List.mem_of_getElem? (i := 15) rfl)) (hw _ (List.mem_of_getElem? (i := 16) rfl)) (hw _ (List.mem_of_getElem? (i := 17) rfl)) e0 (g := (mkF m 1 #[.val (.ref a), .val (.ref ar), .val (.int (0 : Int32)), .val (.int (3 : Int32)), .val .null, .unset] [(.ref a)])) rfl (by rw [hml]; rfl) rfl (hb hby d_jdk_42_method_149_1) (by decide) (W := 0) (by show 2 * 0 + _ ≤ _; exact Nat.le_of_eq rfl) (by decide)
  refine OwnFin.step st1 ?_
  show OwnFin p e below _ (T1.setTop (mkF m 4 #[.val (.ref a), .val (.ref ar), .val (.int (0 : Int32)), .val (.int (3 : Int32)), .val .null, .unset] []))
  refine OwnFin.step (fun tT kK => XS.iloadN X1.here hx rfl (hb hby d_jdk_42_method_149_4) rfl kK) ?_
  show OwnFin p e below _ (T1.setTop (mkF m 5 #[.val (.ref a), .val (.ref ar), .val (.int (0 : Int32)), .val (.int (3 : Int32)), .val .null, .unset] [(.int (3 : Int32))]))
  refine OwnFin.step (fun tT kK => XS.ifYes X1.here hx rfl (pc0 := 5) (pc' := 27) rfl (hb hby d_jdk_42_method_149_5) rfl ((if0 _ _).trans (feq (by decide : ¬ ((3 : Int32) = (0 : Int32)))).2) (by decide) (by decide) kK) ?_
  show OwnFin p e below _ (T1.setTop (mkF m 27 #[.val (.ref a), .val (.ref ar), .val (.int (0 : Int32)), .val (.int (3 : Int32)), .val .null, .unset] []))
  obtain ⟨T2, X2, e2, st2⟩ := getS2 X1 hx hZ hown (host := "") (Or.inl (hw _ (List.mem_of_getElem? (i := 18) rfl))) Via.refl e1 hp5 (g := (mkF m 27 #[.val (.ref a), .val (.ref ar), .val (.int (0 : Int32)), .val (.int (3 : Int32)), .val .null, .unset] [])) rfl (hb hby d_jdk_42_method_149_27)
  refine OwnFin.step st2 ?_
  show OwnFin p e below _ (T2.setTop (mkF m 30 #[.val (.ref a), .val (.ref ar), .val (.int (0 : Int32)), .val (.int (3 : Int32)), .val .null, .unset] [(.int cs)]))
  refine OwnFin.step (fun tT kK => XS.ifNo X2.here hx rfl (hb hby d_jdk_42_method_149_30) rfl ((if0 _ _).trans (feq (hp6 : ¬ (cs = (0 : Int32)))).1) kK) ?_
  show OwnFin p e below _ (T2.setTop (mkF m 33 #[.val (.ref a), .val (.ref ar), .val (.int (0 : Int32)), .val (.int (3 : Int32)), .val .null, .unset] []))
  refine OwnFin.step (fun tT kK => XS.aloadN X2.here hx rfl (hb hby d_jdk_42_method_149_33) rfl rfl kK) ?_
  show OwnFin p e below _ (T2.setTop (mkF m 34 #[.val (.ref a), .val (.ref ar), .val (.int (0 : Int32)), .val (.int (3 : Int32)), .val .null, .unset] [(.ref ar)]))
  refine OwnFin.step (fun tT kK => XS.iloadN X2.here hx rfl (hb hby d_jdk_42_method_149_34) rfl kK) ?_
  show OwnFin p e below _ (T2.setTop (mkF m 35 #[.val (.ref a), .val (.ref ar), .val (.int (0 : Int32)), .val (.int (3 : Int32)), .val .null, .unset] [(.int (0 : Int32)), (.ref ar)]))
  refine OwnFin.step (fun tT kK => XS.iloadN X2.here hx rfl (hb hby d_jdk_42_method_149_35) rfl kK) ?_
  show OwnFin p e below _ (T2.setTop (mkF m 36 #[.val (.ref a), .val (.ref ar), .val (.int (0 : Int32)), .val (.int (3 : Int32)), .val .null, .unset] [(.int (3 : Int32)), (.int (0 : Int32)), (.ref ar)]))
  obtain ⟨_, _, ⟨T3, L3, k3, n3⟩, -, X3, ⟨Lc3, hQ3, l3, y3, z3⟩, st3⟩ := Jvm.LawKit.callS X2 hx (y := (⟨"java/lang/StringUTF16", "compress", "([CII)[B"⟩ : MethodName)) hown (mvT hZ (hw _ (List.mem_of_getElem? (i := 19) rfl))) (mvT hZ (hw _ (List.mem_of_getElem? (i := 20) rfl))) (mvT hZ (hw _ (List.mem_of_getElem? (i := 21) rfl))) (mvT hZ (hw _ (List.mem_of_getElem? (i := 22) rfl))) (by decide) (backOf (W := 0) (rm53b l Z a0 hw hEL wS [] ar k c0 c1 c2 h0 n0 Z0 hp4 (hp7) (hp8) (hp9)) hZ (hw _ (List.mem_of_getElem? (i := 22) rfl)) (hw _ (List.mem_of_getElem? (i := 21) rfl)) (by decide) (by decide)) (g := (mkF m 36 #[.val (.ref a), .val (.ref ar), .val (.int (0 : Int32)), .val (.int (3 : Int32)), .val .null, .unset] [(.int (3 : Int32)), (.int (0 : Int32)), (.ref ar)])) rfl (by rw [hml]; rfl) (argsL := [(.ref ar), (.int (0 : Int32)), (.int (3 : Int32))]) (rest := []) (lenOf pd_185 rfl) rfl (by show 2 * 0 + _ ≤ _; exact Nat.le_of_eq rfl) (hb hby d_jdk_42_method_149_36) (fun _ _ => ⟨rfl, e2, (by decide : 0 + 1 ≤ _), (by decide : 0 + 3 ≤ _)⟩)
  dsimp only [Pt.U, Pt.locs, Pt.cells, Pt.slots] at X3 l3 y3 z3 st3 hQ3
  subst l3 y3 z3
  obtain ⟨b4, ⟨kb5, ⟨rfl, N3q, K3, B3_0, P3_0⟩⟩⟩ := hQ3
  have N3 := Fr.app N0 N3q
  refine OwnFin.step st3 ?_
  have E3 : Ext h0 T3.heap := ⟨K3.1, fun x c q => K3.2.1 x c q nin0⟩
  show OwnFin p e below _ (T3.setTop (mkF m 39 #[.val (.ref a), .val (.ref ar), .val (.int (0 : Int32)), .val (.int (3 : Int32)), .val .null, .unset] [(.ref b4)]))
  refine OwnFin.step (fun tT kK => XS.astore X3.here hx rfl (hb hby d_jdk_42_method_149_39) rfl rfl (l' := #[.val (.ref a), .val (.ref ar), .val (.int (0 : Int32)), .val (.int (3 : Int32)), .val .null, .val (.ref b4)]) rfl kK) ?_
  show OwnFin p e below _ (T3.setTop (mkF m 41 #[.val (.ref a), .val (.ref ar), .val (.int (0 : Int32)), .val (.int (3 : Int32)), .val .null, .val (.ref b4)] []))
  refine OwnFin.step (fun tT kK => XS.aloadN X3.here hx rfl (hb hby d_jdk_42_method_149_41) rfl rfl kK) ?_
  show OwnFin p e below _ (T3.setTop (mkF m 42 #[.val (.ref a), .val (.ref ar), .val (.int (0 : Int32)), .val (.int (3 : Int32)), .val .null, .val (.ref b4)] [(.ref a)]))
  refine OwnFin.step (fun tT kK => XS.aload X3.here hx rfl (hb hby d_jdk_42_method_149_42) rfl rfl kK) ?_
  show OwnFin p e below _ (T3.setTop (mkF m 44 #[.val (.ref a), .val (.ref ar), .val (.int (0 : Int32)), .val (.int (3 : Int32)), .val .null, .val (.ref b4)] [(.ref b4), (.ref a)]))
  refine OwnFin.step (fun tT kK => XS.iloadN X3.here hx rfl (hb hby d_jdk_42_method_149_44) rfl kK) ?_
  show OwnFin p e below _ (T3.setTop (mkF m 45 #[.val (.ref a), .val (.ref ar), .val (.int (0 : Int32)), .val (.int (3 : Int32)), .val .null, .val (.ref b4)] [(.int (3 : Int32)), (.ref b4), (.ref a)]))
  obtain ⟨_, _, ⟨T6, L6, k6, n6⟩, -, X6, ⟨Lc6, hQ6, l6, y6, z6⟩, st6⟩ := Jvm.LawKit.callS X3 hx (y := (⟨"java/lang/StringUTF16", "coderFromArrayLen", "([BI)B"⟩ : MethodName)) hown (mvT hZ (hw _ (List.mem_of_getElem? (i := 27) rfl))) (mvT hZ (hw _ (List.mem_of_getElem? (i := 28) rfl))) (mvT hZ (hw _ (List.mem_of_getElem? (i := 21) rfl))) (mvT hZ (hw _ (List.mem_of_getElem? (i := 29) rfl))) (by decide) (backOf (W := 1) (rm53c l Z a0 hw hEL wS [] b4 kb5 c0 c1 c2 T3.heap n0 (Nat.le_trans Z0 E3.1) P3_0) hZ (hw _ (List.mem_of_getElem? (i := 29) rfl)) (hw _ (List.mem_of_getElem? (i := 21) rfl)) (by decide) (by decide)) (g := (mkF m 45 #[.val (.ref a), .val (.ref ar), .val (.int (0 : Int32)), .val (.int (3 : Int32)), .val .null, .val (.ref b4)] [(.int (3 : Int32)), (.ref b4), (.ref a)])) rfl (by rw [hml]; rfl) (argsL := [(.ref b4), (.int (3 : Int32))]) (rest := [(.ref a)]) (lenOf pd_191 rfl) rfl (by show 2 * 0 + _ ≤ _; exact Nat.le_of_eq rfl) (hb hby d_jdk_42_method_149_45) (fun _ _ => ⟨rfl, rfl, (by decide : 1 + 0 ≤ _), (by decide : 3 + 0 ≤ _)⟩)
  dsimp only [Pt.U, Pt.locs, Pt.cells, Pt.slots] at X6 l6 y6 z6 st6 hQ6
  subst l6 y6 z6
  obtain ⟨rfl, N6q, e6⟩ := hQ6
  have N6 := Fr.app N3 N6q
  refine OwnFin.step st6 ?_
  show OwnFin p e below _ (T6.setTop (mkF m 48 #[.val (.ref a), .val (.ref ar), .val (.int (0 : Int32)), .val (.int (3 : Int32)), .val .null, .val (.ref b4)] [(.int (0 : Int32)), (.ref a)]))
  have f7 : Exa Z T3.heap a "java/lang/String" := (hp0.ext E3)
  have f8 : Fld Z T3.heap a "java/lang/String" "coder" "B" (.int (0 : Int32)) := (hp2.ext E3)
  obtain ⟨T9, h9, X9, e9, W9, st9⟩ := putF X6 hx hZ hown (host := "") (Or.inl (hw _ (List.mem_of_getElem? (i := 30) rfl))) Via.refl e6 f8 f7 (Or.inr ⟨(hw _ (List.mem_of_getElem? (i := 31) rfl)), rfl, hnm⟩) (hw _ (List.mem_of_getElem? (i := 6) rfl)) (ty := .byte) (by decide) rfl rfl (g := (mkF m 48 #[.val (.ref a), .val (.ref ar), .val (.int (0 : Int32)), .val (.int (3 : Int32)), .val .null, .val (.ref b4)] [(.int (0 : Int32)), (.ref a)])) rfl rfl (hb hby d_jdk_42_method_149_48)
  refine OwnFin.step st9 ?_
  have N9 := Fr.snoc X9 N6 hp3
  have Fw9 : Fld Z h9 a "java/lang/String" "coder" "B" (.int (0 : Int32)) := f8.same W9
  show OwnFin p e below _ (T9.setTop (mkF m 51 #[.val (.ref a), .val (.ref ar), .val (.int (0 : Int32)), .val (.int (3 : Int32)), .val .null, .val (.ref b4)] []))
  refine OwnFin.step (fun tT kK => XS.aloadN X9.here hx rfl (hb hby d_jdk_42_method_149_51) rfl rfl kK) ?_
  show OwnFin p e below _ (T9.setTop (mkF m 52 #[.val (.ref a), .val (.ref ar), .val (.int (0 : Int32)), .val (.int (3 : Int32)), .val .null, .val (.ref b4)] [(.ref a)]))
  refine OwnFin.step (fun tT kK => XS.aload X9.here hx rfl (hb hby d_jdk_42_method_149_52) rfl rfl kK) ?_
  show OwnFin p e below _ (T9.setTop (mkF m 54 #[.val (.ref a), .val (.ref ar), .val (.int (0 : Int32)), .val (.int (3 : Int32)), .val .null, .val (.ref b4)] [(.ref b4), (.ref a)]))
  have f10 : Exa Z h9 a "java/lang/String" := (f7.wr W9)
  have f11 : Fld Z h9 a "java/lang/String" "value" "[B" .null := ((hp1.ext E3).other W9 (Or.inr (slot_ne (Or.inr (hw _ (List.mem_of_getElem? (i := 33) rfl))) (Or.inr (hw _ (List.mem_of_getElem? (i := 31) rfl))) (by decide) (t := (.array .byte)) (t' := .byte) (by decide) (by decide))))
  obtain ⟨T12, h12, X12, e12, W12, st12⟩ := putF X9 hx hZ hown (host := "") (Or.inl (hw _ (List.mem_of_getElem? (i := 32) rfl))) Via.refl e9 f11 f10 (Or.inr ⟨(hw _ (List.mem_of_getElem? (i := 33) rfl)), rfl, hnm⟩) (hw _ (List.mem_of_getElem? (i := 6) rfl)) (ty := (.array .byte)) (by decide) rfl rfl (g := (mkF m 54 #[.val (.ref a), .val (.ref ar), .val (.int (0 : Int32)), .val (.int (3 : Int32)), .val .null, .val (.ref b4)] [(.ref b4), (.ref a)])) rfl rfl (hb hby d_jdk_42_method_149_54)
  refine OwnFin.step st12 ?_
  have N12 := Fr.snoc X12 N9 hp3
  have Fw12 : Fld Z h12 a "java/lang/String" "value" "[B" (.ref b4) := f11.same W12
  show OwnFin p e below _ (T12.setTop (mkF m 57 #[.val (.ref a), .val (.ref ar), .val (.int (0 : Int32)), .val (.int (3 : Int32)), .val .null, .val (.ref b4)] []))
  have f14 : Exa Z h12 a "java/lang/String" := (f10.wr W12)
  have f15 : Fld Z h12 a "java/lang/String" "coder" "B" (.int (0 : Int32)) := (Fw9.other W12 (Or.inr (slot_ne (Or.inr (hw _ (List.mem_of_getElem? (i := 31) rfl))) (Or.inr (hw _ (List.mem_of_getElem? (i := 33) rfl))) (by decide) (t := .byte) (t' := (.array .byte)) (by decide) (by decide))))
  have f16 : Arv Z h12 b4 kb5 .byte (3 : Int32) [(.int (nar .byte (c0.toInt8.toInt32))), (.int (nar .byte (c1.toInt8.toInt32))), (.int (nar .byte (c2.toInt8.toInt32)))] (.int (0 : Int32)) := ((P3_0.other W9 (Ne.symm (Nat.ne_of_lt (Nat.lt_of_lt_of_le (Nat.lt_of_lt_of_le hp0.lt (Nat.le_refl _)) B3_0)))).other W12 (Ne.symm (Nat.ne_of_lt (Nat.lt_of_lt_of_le (Nat.lt_of_lt_of_le hp0.lt (Nat.le_refl _)) B3_0))))
  obtain ⟨fs13, hr13, hrun13, hended13, hW13, hsame13⟩ := X12.leave (v := none) (fun _ => rfl)
  refine ⟨_, _, X12.returnOut hx Bd.returns (hb hby d_jdk_42_method_149_57) hr13, hrun13, hended13, _, _, rfl, ?_, ⟨_, rfl⟩, hW13, hsame13.mono (by decide) (by decide)⟩
  show Q53d Z a ar k cs c0 c1 c2 h0 n0 _ T12.heap _
  rw [e12]
  exact ⟨b4, kb5, rfl, N12, ((((Keep.refl h0 [a]).ext E3).wr W9 (Or.inl (List.mem_of_getElem? (i := 0) rfl))).wr W12 (Or.inl (List.mem_of_getElem? (i := 0) rfl))), (Nat.le_trans (Nat.le_refl _) B3_0), f14, Fw12, f15, f16⟩
theorem ef_53 (m : MethodId) (a : Addr) (ar : Addr) : entryFrame m #[(.ref a), (.ref ar)] 2 = mkF m 0 #[.val (.ref a), .val (.ref ar)] [] := by first | (simp [entryFrame, mkF, argsToLocals, Value.category]; done) | rfl
def Q53 (Z : State) (a : Addr) (ar : Addr) (k : ClassId) (cs : Int32) (c0 : Int32) (c1 : Int32) (c2 : Int32) (h0 : Heap) (n0 : Nat) (vV : Option Value) (hH : Heap) (LL : List Loc) : Prop := ∃ b : Addr, ∃ kb : ClassId, vV = none ∧ Fr n0 LL ∧ Keep h0 hH [a] ∧ h0.size ≤ b ∧ (Exa Z hH a "java/lang/String") ∧ (Fld Z hH a "java/lang/String" "value" "[B" (.ref b)) ∧ (Fld Z hH a "java/lang/String" "coder" "B" (.int (0 : Int32))) ∧ (Arv Z hH b kb .byte (3 : Int32) [(.int (nar .byte (c0.toInt8.toInt32))), (.int (nar .byte (c1.toInt8.toInt32))), (.int (nar .byte (c2.toInt8.toInt32)))] (.int (0 : Int32)))
def R53 (Z : State) (a : Addr) (ar : Addr) (k : ClassId) (cs : Int32) (c0 : Int32) (c1 : Int32) (c2 : Int32) (h0 : Heap) (n0 : Nat) (U : State) (o : Outcome) (U' : State) : Prop := ∃ vV LL, o = .returned vV ∧ Q53 Z a ar k cs c0 c1 c2 h0 n0 vV U'.heap LL ∧ FrameEnd U o U' LL ({ frames := 3, cells := 1, slots := 3, locals := 52 } : Room).cells ({ frames := 3, cells := 1, slots := 3, locals := 52 } : Room).slots
set_option maxRecDepth 65536 in
set_option maxHeartbeats 40000000 in
theorem rm53 (l : Launch) (Z : State) (a0 : Array Value) (hw : ∀ d ∈ tables_1, d.before a0 Z = true) (hEL : EW Z a0 OwnEL) (wS : ∀ a ∈ Bundle.stringAtoms, a.before a0 Z = true) (ws : List Jvm.Cond) (a : Addr) (ar : Addr) (k : ClassId) (cs : Int32) (c0 : Int32) (c1 : Int32) (c2 : Int32) (h0 : Heap) (n0 : Nat) (Z0 : n0 ≤ h0.size) (hp0 : Exa Z h0 a "java/lang/String") (hp1 : Fld Z h0 a "java/lang/String" "value" "[B" .null) (hp2 : Fld Z h0 a "java/lang/String" "coder" "B" (.int (0 : Int32))) (hp3 : n0 ≤ a) (hp4 : Arv Z h0 ar k .char (3 : Int32) [(.int c0), (.int c1), (.int c2)] (.int (0 : Int32))) (hp5 : Sta Z h0 "java/lang/String" "COMPACT_STRINGS" "Z" (.int cs)) (hp6 : ¬ cs = (0 : Int32)) (hp7 : ¬ (255 : Int32) < c0) (hp8 : ¬ (255 : Int32) < c1) (hp9 : ¬ (255 : Int32) < c2) :
    MetFree l (⟨"java/lang/String", "<init>", "([C)V"⟩ : MethodName) (head1 (Jvm.Cond.code (⟨"java/lang/String", "<init>", "([C)V"⟩ : MethodName) jdk_42_method_3_code 2 none :: ws) ({ frames := 3, cells := 1, slots := 3, locals := 52 } : Room)) (fun aA U => aA = #[(.ref a), (.ref ar)] ∧ Z.Warmed39 U.vm ∧ U.heap = h0) (fun _ _ _ _ _ => True) (fun _ U o U' => ∃ vV LL, o = .returned vV ∧ Q53 Z a ar k cs c0 c1 c2 h0 n0 vV U'.heap LL ∧ FrameEnd U o U' LL ({ frames := 3, cells := 1, slots := 3, locals := 52 } : Room).cells ({ frames := 3, cells := 1, slots := 3, locals := 52 } : Room).slots) := by
  refine MetFree.of_bodySF (plainFor_of_name pn_108) hisR ?_
  intro p e s m args below meth cC s₁ Bd hml0 hP hK
  obtain ⟨rfl, hZ, hh⟩ := hP
  have hx := Bd.exec
  have hby := Bd.bytes
  have hml : cC.maxLocals = 2 := hml0
  have hown : s.vm.findClass "java/lang/String" = some m.cls := findClass_of_methodNamed Bd.named
  have hnm := (name_of_methodNamed Bd.named Bd.method).1
  have X0 : Stand p l e ({ frames := 3, cells := 1, slots := 3, locals := 52 } : Room) s m #[(.ref a), (.ref ar)] below meth cC s₁ [] 0 0 := Stand.of_body Bd
  have e0 : s₁.heap = h0 := by rw [← hh, Bd.state]; rfl
  have N0 := Fr.nil n0
  show OwnFin p e below (R53 Z a ar k cs c0 c1 c2 h0 n0 s) (s₁.setTop (entryFrame m #[(.ref a), (.ref ar)] 2))
  rw [ef_53 m a ar]
  refine OwnFin.step (fun tT kK => XS.aloadN X0.here hx rfl (hb hby d_jdk_42_method_3_0) rfl rfl kK) ?_
  show OwnFin p e below _ (s₁.setTop (mkF m 1 #[.val (.ref a), .val (.ref ar)] [(.ref a)]))
  refine OwnFin.step (fun tT kK => XS.aloadN X0.here hx rfl (hb hby d_jdk_42_method_3_1) rfl rfl kK) ?_
  show OwnFin p e below _ (s₁.setTop (mkF m 2 #[.val (.ref a), .val (.ref ar)] [(.ref ar), (.ref a)]))
  refine OwnFin.step (fun tT kK => XS.iconst X0.here hx rfl (hb hby d_jdk_42_method_3_2) kK) ?_
  show OwnFin p e below _ (s₁.setTop (mkF m 3 #[.val (.ref a), .val (.ref ar)] [(.int (0 : Int32)), (.ref ar), (.ref a)]))
  refine OwnFin.step (fun tT kK => XS.aloadN X0.here hx rfl (hb hby d_jdk_42_method_3_3) rfl rfl kK) ?_
  show OwnFin p e below _ (s₁.setTop (mkF m 4 #[.val (.ref a), .val (.ref ar)] [(.ref ar), (.int (0 : Int32)), (.ref ar), (.ref a)]))
  obtain ⟨cl1, Ar1, -, Sz1, Ng1, -, -⟩ := id hp4
  refine OwnFin.step (fun tT kK => own_len X0 hx hZ e0 Ar1 Sz1 Ng1 (g := (mkF m 4 #[.val (.ref a), .val (.ref ar)] [(.ref ar), (.int (0 : Int32)), (.ref ar), (.ref a)])) rfl rfl (hb hby d_jdk_42_method_3_4) kK) ?_
  show OwnFin p e below _ (s₁.setTop (mkF m 5 #[.val (.ref a), .val (.ref ar)] [(.int (3 : Int32)), (.int (0 : Int32)), (.ref ar), (.ref a)]))
  refine OwnFin.step (fun tT kK => XS.aconstNull X0.here hx rfl (hb hby d_jdk_42_method_3_5) kK) ?_
  show OwnFin p e below _ (s₁.setTop (mkF m 6 #[.val (.ref a), .val (.ref ar)] [.null, (.int (3 : Int32)), (.int (0 : Int32)), (.ref ar), (.ref a)]))
  obtain ⟨_, _, ⟨T2, L2, k2, n2⟩, -, X2, ⟨Lc2, hQ2, l2, y2, z2⟩, st2⟩ := X0.specialBack hx (y := (⟨"java/lang/String", "<init>", "([CIILjava/lang/Void;)V"⟩ : MethodName)) rfl hown (mvT hZ (hw _ (List.mem_of_getElem? (i := 11) rfl))) (mvT hZ (hw _ (List.mem_of_getElem? (i := 12) rfl))) (mvT hZ (hw _ (List.mem_of_getElem? (i := 14) rfl))) (by decide) (backOf (W := 0) (rm53d l Z a0 hw hEL wS [] a ar k cs c0 c1 c2 h0 n0 Z0 hp0 hp1 hp2 hp3 hp4 hp5 (hp6) (hp7) (hp8) (hp9)) hZ (hw _ (List.mem_of_getElem? (i := 14) rfl)) (hw _ (List.mem_of_getElem? (i := 7) rfl)) (by decide) (by decide)) (g := (mkF m 6 #[.val (.ref a), .val (.ref ar)] [.null, (.int (3 : Int32)), (.int (0 : Int32)), (.ref ar), (.ref a)])) rfl (by rw [hml]; rfl) (Steps.refl _) (a := a) (argsL := [(.ref ar), (.int (0 : Int32)), (.int (3 : Int32)), .null]) (rest := []) (lenOf pd_129 rfl) rfl (by show 2 * 0 + _ ≤ _; exact Nat.le_of_eq rfl) (hb hby d_jdk_42_method_3_6) (fun _ _ => ⟨rfl, e0, (by decide : 0 + 1 ≤ _), (by decide : 0 + 3 ≤ _)⟩)
  dsimp only [Pt.U, Pt.locs, Pt.cells, Pt.slots] at X2 l2 y2 z2 st2 hQ2
  subst l2 y2 z2
  obtain ⟨b3, ⟨kb4, ⟨rfl, N2q, K2, B2_0, P2_0, P2_1, P2_2, P2_3⟩⟩⟩ := hQ2
  have N2 := Fr.app N0 N2q
  refine OwnFin.step (fun tT kK => st2.trans kK) ?_
  show OwnFin p e below _ (T2.setTop (mkF m 9 #[.val (.ref a), .val (.ref ar)] []))
  obtain ⟨fs5, hr5, hrun5, hended5, hW5, hsame5⟩ := X2.leave (v := none) (fun _ => rfl)
  refine ⟨_, _, X2.returnOut hx Bd.returns (hb hby d_jdk_42_method_3_9) hr5, hrun5, hended5, _, _, rfl, ?_, ⟨_, rfl⟩, hW5, hsame5.mono (by decide) (by decide)⟩
  show Q53 Z a ar k cs c0 c1 c2 h0 n0 _ T2.heap _
  exact ⟨b3, kb4, rfl, N2, ((Keep.refl h0 [a]).trans K2 (allS (P := fun x => x ∈ [a] ∨ h0.size ≤ x) (Or.inl (List.mem_of_getElem? (i := 0) rfl)) all0)), (Nat.le_trans (Nat.le_refl _) B2_0), P2_0, P2_1, P2_2, P2_3⟩
theorem own_nar255 {c : Int32} (h : ¬ (255 : Int32) < c) (h0 : 0 ≤ c.toInt) : ¬ (255 : Int32) < nar .char c := by
  have h2 := c_i2c c
  show ¬ (255 : Int32) < c.toUInt32.toUInt16.toUInt32.toInt32
  rw [Int32.lt_iff_toInt_lt] at h ⊢
  have h3 : ((255 : Int32)).toInt = 255 := rfl
  omega
theorem own_c8 (x : Int32) : ¬ (255 : Int32) < (x &&& (255 : Int32)).toUInt32.toUInt16.toUInt32.toInt32 ∧ 0 ≤ (x &&& (255 : Int32)).toUInt32.toUInt16.toUInt32.toInt32.toInt := by
  have h1 := c_mask x (255 : Int32) 8 (by decide) (by decide)
  have h3 := c_i2c (x &&& (255 : Int32))
  rw [Int32.lt_iff_toInt_lt]
  have h4 : ((255 : Int32)).toInt = 255 := rfl
  omega
theorem d_method_2_0 : decode method_2_code 0 = .ok (.iconst 0, 1) := by decide +kernel
theorem d_method_2_1 : decode method_2_code 1 = .ok (.newarray .char, 2) := by decide +kernel
theorem d_method_2_3 : decode method_2_code 3 = .ok (.astore 4, 2) := by decide +kernel
theorem d_method_2_5 : decode method_2_code 5 = .ok (.iconst 1, 1) := by decide +kernel
theorem d_method_2_6 : decode method_2_code 6 = .ok (.newarray .char, 2) := by decide +kernel
theorem d_method_2_8 : decode method_2_code 8 = .ok (.dup, 1) := by decide +kernel
theorem d_method_2_9 : decode method_2_code 9 = .ok (.iconst 0, 1) := by decide +kernel
theorem d_method_2_10 : decode method_2_code 10 = .ok (.iload_n 1, 1) := by decide +kernel
theorem d_method_2_11 : decode method_2_code 11 = .ok (.castore, 1) := by decide +kernel
theorem d_method_2_12 : decode method_2_code 12 = .ok (.astore 5, 2) := by decide +kernel
theorem d_method_2_14 : decode method_2_code 14 = .ok (.iconst 2, 1) := by decide +kernel
theorem d_method_2_15 : decode method_2_code 15 = .ok (.newarray .char, 2) := by decide +kernel
theorem d_method_2_17 : decode method_2_code 17 = .ok (.dup, 1) := by decide +kernel
theorem d_method_2_18 : decode method_2_code 18 = .ok (.iconst 0, 1) := by decide +kernel
theorem d_method_2_19 : decode method_2_code 19 = .ok (.iload_n 1, 1) := by decide +kernel
theorem d_method_2_20 : decode method_2_code 20 = .ok (.castore, 1) := by decide +kernel
theorem d_method_2_21 : decode method_2_code 21 = .ok (.dup, 1) := by decide +kernel
theorem d_method_2_22 : decode method_2_code 22 = .ok (.iconst 1, 1) := by decide +kernel
theorem d_method_2_23 : decode method_2_code 23 = .ok (.iload_n 2, 1) := by decide +kernel
theorem d_method_2_24 : decode method_2_code 24 = .ok (.castore, 1) := by decide +kernel
theorem d_method_2_25 : decode method_2_code 25 = .ok (.astore 6, 2) := by decide +kernel
theorem d_method_2_27 : decode method_2_code 27 = .ok (.iconst 3, 1) := by decide +kernel
theorem d_method_2_28 : decode method_2_code 28 = .ok (.newarray .char, 2) := by decide +kernel
theorem d_method_2_30 : decode method_2_code 30 = .ok (.dup, 1) := by decide +kernel
theorem d_method_2_31 : decode method_2_code 31 = .ok (.iconst 0, 1) := by decide +kernel
theorem d_method_2_32 : decode method_2_code 32 = .ok (.iload_n 1, 1) := by decide +kernel
theorem d_method_2_33 : decode method_2_code 33 = .ok (.castore, 1) := by decide +kernel
theorem d_method_2_34 : decode method_2_code 34 = .ok (.dup, 1) := by decide +kernel
theorem d_method_2_35 : decode method_2_code 35 = .ok (.iconst 1, 1) := by decide +kernel
theorem d_method_2_36 : decode method_2_code 36 = .ok (.iload_n 2, 1) := by decide +kernel
theorem d_method_2_37 : decode method_2_code 37 = .ok (.castore, 1) := by decide +kernel
theorem d_method_2_38 : decode method_2_code 38 = .ok (.dup, 1) := by decide +kernel
theorem d_method_2_39 : decode method_2_code 39 = .ok (.iconst 2, 1) := by decide +kernel
theorem d_method_2_40 : decode method_2_code 40 = .ok (.iload_n 3, 1) := by decide +kernel
theorem d_method_2_41 : decode method_2_code 41 = .ok (.castore, 1) := by decide +kernel
theorem d_method_2_42 : decode method_2_code 42 = .ok (.astore 7, 2) := by decide +kernel
theorem d_method_2_44 : decode method_2_code 44 = .ok (.iload_n 0, 1) := by decide +kernel
theorem d_method_2_45 : decode method_2_code 45 = .ok (.ifCond .ne 13, 3) := by decide +kernel
theorem d_method_2_48 : decode method_2_code 48 = .ok (.new 7, 3) := by decide +kernel
theorem d_method_2_51 : decode method_2_code 51 = .ok (.dup, 1) := by decide +kernel
theorem d_method_2_52 : decode method_2_code 52 = .ok (.aload 4, 2) := by decide +kernel
theorem d_method_2_54 : decode method_2_code 54 = .ok (.invokespecial 9, 3) := by decide +kernel
theorem pd_239 : parseMethodDescriptor "([C)V" = some ⟨[(.array .char)], none⟩ := by decide +kernel
theorem d_method_2_57 : decode method_2_code 57 = .ok (.areturn, 1) := by decide +kernel
theorem d_method_2_58 : decode method_2_code 58 = .ok (.iload_n 0, 1) := by decide +kernel
theorem d_method_2_59 : decode method_2_code 59 = .ok (.iconst 1, 1) := by decide +kernel
theorem d_method_2_60 : decode method_2_code 60 = .ok (.if_icmp .ne 13, 3) := by decide +kernel
theorem d_method_2_63 : decode method_2_code 63 = .ok (.new 7, 3) := by decide +kernel
theorem d_method_2_66 : decode method_2_code 66 = .ok (.dup, 1) := by decide +kernel
theorem d_method_2_67 : decode method_2_code 67 = .ok (.aload 5, 2) := by decide +kernel
theorem d_method_2_69 : decode method_2_code 69 = .ok (.invokespecial 9, 3) := by decide +kernel
theorem d_method_2_72 : decode method_2_code 72 = .ok (.areturn, 1) := by decide +kernel
theorem d_method_2_73 : decode method_2_code 73 = .ok (.iload_n 0, 1) := by decide +kernel
theorem d_method_2_74 : decode method_2_code 74 = .ok (.iconst 2, 1) := by decide +kernel
theorem d_method_2_75 : decode method_2_code 75 = .ok (.if_icmp .ne 13, 3) := by decide +kernel
theorem d_method_2_78 : decode method_2_code 78 = .ok (.new 7, 3) := by decide +kernel
theorem d_method_2_81 : decode method_2_code 81 = .ok (.dup, 1) := by decide +kernel
theorem d_method_2_82 : decode method_2_code 82 = .ok (.aload 6, 2) := by decide +kernel
theorem d_method_2_84 : decode method_2_code 84 = .ok (.invokespecial 9, 3) := by decide +kernel
theorem d_method_2_87 : decode method_2_code 87 = .ok (.areturn, 1) := by decide +kernel
theorem d_method_2_88 : decode method_2_code 88 = .ok (.new 7, 3) := by decide +kernel
theorem d_method_2_91 : decode method_2_code 91 = .ok (.dup, 1) := by decide +kernel
theorem d_method_2_92 : decode method_2_code 92 = .ok (.aload 7, 2) := by decide +kernel
theorem d_method_2_94 : decode method_2_code 94 = .ok (.invokespecial 9, 3) := by decide +kernel
theorem d_method_2_97 : decode method_2_code 97 = .ok (.areturn, 1) := by decide +kernel
theorem ef_6 (m : MethodId) (le : Int32) (x : Int32) (y : Int32) (z : Int32) : entryFrame m #[(.int le), (.int x), (.int y), (.int z)] 8 = mkF m 0 #[.val (.int le), .val (.int x), .val (.int y), .val (.int z), .unset, .unset, .unset, .unset] [] := by first | (simp [entryFrame, mkF, argsToLocals, Value.category]; done) | rfl
def Q6 (Z : State) (le : Int32) (x : Int32) (y : Int32) (z : Int32) (cs : Int32) (h0 : Heap) (n0 : Nat) (vV : Option Value) (hH : Heap) (LL : List Loc) : Prop := ∃ b : Addr, vV = some (.ref b) ∧ Fr n0 LL ∧ Keep h0 hH [] ∧ h0.size ≤ b ∧ (Exa Z hH b "java/lang/String")
def R6 (Z : State) (le : Int32) (x : Int32) (y : Int32) (z : Int32) (cs : Int32) (h0 : Heap) (n0 : Nat) (U : State) (o : Outcome) (U' : State) : Prop := ∃ vV LL, o = .returned vV ∧ Q6 Z le x y z cs h0 n0 vV U'.heap LL ∧ CHr Z OwnEL U.vm U.heap U'.vm U'.heap ∧ ReturnedEndW U o U' LL ({ frames := 4, cells := 9, slots := 18, locals := 66 } : Room).cells ({ frames := 4, cells := 9, slots := 18, locals := 66 } : Room).slots
set_option maxRecDepth 65536 in
set_option maxHeartbeats 40000000 in
theorem rm6 (l : Launch) (Z : State) (a0 : Array Value) (hw : ∀ d ∈ tables_1, d.before a0 Z = true) (hEL : EW Z a0 OwnEL) (wS : ∀ a ∈ Bundle.stringAtoms, a.before a0 Z = true) (ws : List Jvm.Cond) (le : Int32) (x : Int32) (y : Int32) (z : Int32) (cs : Int32) (h0 : Heap) (n0 : Nat) (Z0 : n0 ≤ h0.size) (hp0 : Sta Z h0 "java/lang/String" "COMPACT_STRINGS" "Z" (.int cs)) (hp1 : ¬ cs = (0 : Int32)) (hp2 : ¬ (255 : Int32) < x) (hp3 : ¬ (255 : Int32) < y) (hp4 : ¬ (255 : Int32) < z) (hp5 : 0 ≤ x.toInt) (hp6 : 0 ≤ y.toInt) (hp7 : 0 ≤ z.toInt) :
    MetFree l (⟨"com/example/identifier_grammars/identifiergrammars/NodeRulePinLaw", "pick", "(ICCC)Ljava/lang/String;"⟩ : MethodName) (head1 (Jvm.Cond.code (⟨"com/example/identifier_grammars/identifiergrammars/NodeRulePinLaw", "pick", "(ICCC)Ljava/lang/String;"⟩ : MethodName) method_2_code 8 (some (.object "java/lang/String")) :: ws) ({ frames := 4, cells := 9, slots := 18, locals := 66 } : Room)) (fun aA U => aA = #[(.int le), (.int x), (.int y), (.int z)] ∧ Z.Warmed39 U.vm ∧ U.heap = h0 ∧ CHv Z OwnEL U.vm h0) (fun _ _ _ _ _ => True) (fun _ U o U' => ∃ vV LL, o = .returned vV ∧ Q6 Z le x y z cs h0 n0 vV U'.heap LL ∧ CHr Z OwnEL U.vm U.heap U'.vm U'.heap ∧ ReturnedEndW U o U' LL ({ frames := 4, cells := 9, slots := 18, locals := 66 } : Room).cells ({ frames := 4, cells := 9, slots := 18, locals := 66 } : Room).slots) := by
  refine MetFree.of_bodySF (plainFor_of_name pn_46) hisR ?_
  intro p e s m args below meth cC s₁ Bd hml0 hP hK
  obtain ⟨rfl, hZ, hh, hCH⟩ := hP
  have hx := Bd.exec
  have hby := Bd.bytes
  have hml : cC.maxLocals = 8 := hml0
  have hown : s.vm.findClass "com/example/identifier_grammars/identifiergrammars/NodeRulePinLaw" = some m.cls := findClass_of_methodNamed Bd.named
  have hnm := (name_of_methodNamed Bd.named Bd.method).1
  have X0 : Stand p l e ({ frames := 4, cells := 9, slots := 18, locals := 66 } : Room) (s.setVm s.vm) m #[(.int le), (.int x), (.int y), (.int z)] below meth cC s₁ [] 0 0 := Stand.of_body Bd
  have e0 : s₁.heap = h0 := by rw [← hh, Bd.state]; rfl
  have N0 := Fr.nil n0
  have C0 : CHr Z OwnEL s.vm h0 s.vm h0 := CHr.refl hCH
  have hS0 : s.Since s.vm h0.size := (State.WarmedH.refl s).since _
  have hk0 : h0.size ≤ h0.size := Nat.le_refl _
  show OwnFin p e below (R6 Z le x y z cs h0 n0 s) (s₁.setTop (entryFrame m #[(.int le), (.int x), (.int y), (.int z)] 8))
  rw [ef_6 m le x y z]
  refine OwnFin.step (fun tT kK => XS.iconst X0.here hx rfl (hb hby d_method_2_0) kK) ?_
  show OwnFin p e below _ (s₁.setTop (mkF m 1 #[.val (.int le), .val (.int x), .val (.int y), .val (.int z), .unset, .unset, .unset, .unset] [(.int (0 : Int32))]))
  obtain ⟨T1, h1, k1, X1, e1, E1, A1, st1⟩ := newP X0 hx hZ (hw _ (List.mem_of_getElem? (i := 4) rfl)) e0 (g := (mkF m 1 #[.val (.int le), .val (.int x), .val (.int y), .val (.int z), .unset, .unset, .unset, .unset] [(.int (0 : Int32))])) rfl (hb hby d_method_2_1) rfl (by decide) (cap := 0) (by decide) (by decide) (by decide) (by decide)
  obtain ⟨b1, g1⟩ : ∃ z, z = h0.size := ⟨_, rfl⟩
  rw [← g1] at A1 st1
  refine OwnFin.step st1 ?_
  have cp2 := (CHr.ext E1 C0.1)
  have C2 := C0.trans cp2
  have sf_b1 := (Safe.new (Nat.le_of_eq g1.symm)).ext E1 C0.1
  have V1 : Arv Z h1 b1 k1 .char (0 : Int32) [] (.int (0 : Int32)) := (Arv.new A1 (by decide)).pad (pad_rep [] (.int (0 : Int32)) 0)
  show OwnFin p e below _ (T1.setTop (mkF m 3 #[.val (.int le), .val (.int x), .val (.int y), .val (.int z), .unset, .unset, .unset, .unset] [(.ref b1)]))
  refine OwnFin.step (fun tT kK => XS.astore X1.here hx rfl (hb hby d_method_2_3) rfl rfl (l' := #[.val (.int le), .val (.int x), .val (.int y), .val (.int z), .val (.ref b1), .unset, .unset, .unset]) rfl kK) ?_
  show OwnFin p e below _ (T1.setTop (mkF m 5 #[.val (.int le), .val (.int x), .val (.int y), .val (.int z), .val (.ref b1), .unset, .unset, .unset] []))
  refine OwnFin.step (fun tT kK => XS.iconst X1.here hx rfl (hb hby d_method_2_5) kK) ?_
  show OwnFin p e below _ (T1.setTop (mkF m 6 #[.val (.int le), .val (.int x), .val (.int y), .val (.int z), .val (.ref b1), .unset, .unset, .unset] [(.int (1 : Int32))]))
  obtain ⟨T3, h3, k3, X3, e3, E3, A3, st3⟩ := newP X1 hx hZ (hw _ (List.mem_of_getElem? (i := 4) rfl)) e1 (g := (mkF m 6 #[.val (.int le), .val (.int x), .val (.int y), .val (.int z), .val (.ref b1), .unset, .unset, .unset] [(.int (1 : Int32))])) rfl (hb hby d_method_2_6) rfl (by decide) (cap := 1) (by decide) (by decide) (by decide) (by decide)
  obtain ⟨b3, g3⟩ : ∃ z, z = h1.size := ⟨_, rfl⟩
  rw [← g3] at A3 st3
  refine OwnFin.step st3 ?_
  have cp4 := (CHr.ext E3 C2.1)
  have C4 := C2.trans cp4
  have sf_b3 := (Safe.new (Nat.le_of_eq g3.symm)).ext E3 C2.1
  have V3 : Arv Z h3 b3 k3 .char (1 : Int32) [(.int (0 : Int32))] (.int (0 : Int32)) := (Arv.new A3 (by decide)).pad (pad_rep [] (.int (0 : Int32)) 1)
  show OwnFin p e below _ (T3.setTop (mkF m 8 #[.val (.int le), .val (.int x), .val (.int y), .val (.int z), .val (.ref b1), .unset, .unset, .unset] [(.ref b3)]))
  refine OwnFin.step (fun tT kK => XS.dup X3.here hx rfl (hb hby d_method_2_8) rfl rfl kK) ?_
  show OwnFin p e below _ (T3.setTop (mkF m 9 #[.val (.int le), .val (.int x), .val (.int y), .val (.int z), .val (.ref b1), .unset, .unset, .unset] [(.ref b3), (.ref b3)]))
  refine OwnFin.step (fun tT kK => XS.iconst X3.here hx rfl (hb hby d_method_2_9) kK) ?_
  show OwnFin p e below _ (T3.setTop (mkF m 10 #[.val (.int le), .val (.int x), .val (.int y), .val (.int z), .val (.ref b1), .unset, .unset, .unset] [(.int (0 : Int32)), (.ref b3), (.ref b3)]))
  refine OwnFin.step (fun tT kK => XS.iloadN X3.here hx rfl (hb hby d_method_2_10) rfl kK) ?_
  show OwnFin p e below _ (T3.setTop (mkF m 11 #[.val (.int le), .val (.int x), .val (.int y), .val (.int z), .val (.ref b1), .unset, .unset, .unset] [(.int x), (.int (0 : Int32)), (.ref b3), (.ref b3)]))
  obtain ⟨cl5, Ar5, q5, Sz5, Ng5, H5, G5⟩ := id V3
  have hin5 : ¬ ((0 : Int32) < 0 ∨ cl5.slots.size ≤ ((0 : Int32)).toNatClampNeg) := inb_of Sz5 ⟨by decide, by decide⟩
  obtain ⟨T6, h6, X6, e6, W6, st6⟩ := stC X3 hx hZ e3 Ar5 (j := (0 : Int32)) hin5 (g := (mkF m 11 #[.val (.int le), .val (.int x), .val (.int y), .val (.int z), .val (.ref b1), .unset, .unset, .unset] [(.int x), (.int (0 : Int32)), (.ref b3), (.ref b3)])) rfl rfl (hb hby d_method_2_11)
  refine OwnFin.step st6 ?_
  have N6 := Fr.snoc X6 N0 (Nat.le_trans (Nat.le_trans Z0 E1.1) (Nat.le_of_eq g3.symm))
  have cp7 := (CHr.wr W6 (Safe.arv hZ.alike V3 (by decide)) C4.1)
  have C7 := C4.trans cp7
  have V6 : Arv Z h6 b3 k3 .char (1 : Int32) [(.int (nar .char x))] (.int (0 : Int32)) := Arv.set Ar5 q5 Sz5 Ng5 H5 G5 (fits_nar_char _) W6 0 rfl (Nat.le_of_ble_eq_true rfl)
  show OwnFin p e below _ (T6.setTop (mkF m 12 #[.val (.int le), .val (.int x), .val (.int y), .val (.int z), .val (.ref b1), .unset, .unset, .unset] [(.ref b3)]))
  refine OwnFin.step (fun tT kK => XS.astore X6.here hx rfl (hb hby d_method_2_12) rfl rfl (l' := #[.val (.int le), .val (.int x), .val (.int y), .val (.int z), .val (.ref b1), .val (.ref b3), .unset, .unset]) rfl kK) ?_
  show OwnFin p e below _ (T6.setTop (mkF m 14 #[.val (.int le), .val (.int x), .val (.int y), .val (.int z), .val (.ref b1), .val (.ref b3), .unset, .unset] []))
  refine OwnFin.step (fun tT kK => XS.iconst X6.here hx rfl (hb hby d_method_2_14) kK) ?_
  show OwnFin p e below _ (T6.setTop (mkF m 15 #[.val (.int le), .val (.int x), .val (.int y), .val (.int z), .val (.ref b1), .val (.ref b3), .unset, .unset] [(.int (2 : Int32))]))
  obtain ⟨T8, h8, k8, X8, e8, E8, A8, st8⟩ := newP X6 hx hZ (hw _ (List.mem_of_getElem? (i := 4) rfl)) e6 (g := (mkF m 15 #[.val (.int le), .val (.int x), .val (.int y), .val (.int z), .val (.ref b1), .val (.ref b3), .unset, .unset] [(.int (2 : Int32))])) rfl (hb hby d_method_2_15) rfl (by decide) (cap := 2) (by decide) (by decide) (by decide) (by decide)
  obtain ⟨b8, g8⟩ : ∃ z, z = h6.size := ⟨_, rfl⟩
  rw [← g8] at A8 st8
  refine OwnFin.step st8 ?_
  have cp9 := (CHr.ext E8 C7.1)
  have C9 := C7.trans cp9
  have sf_b8 := (Safe.new (Nat.le_of_eq g8.symm)).ext E8 C7.1
  have V8 : Arv Z h8 b8 k8 .char (2 : Int32) [(.int (0 : Int32)), (.int (0 : Int32))] (.int (0 : Int32)) := (Arv.new A8 (by decide)).pad (pad_rep [] (.int (0 : Int32)) 2)
  show OwnFin p e below _ (T8.setTop (mkF m 17 #[.val (.int le), .val (.int x), .val (.int y), .val (.int z), .val (.ref b1), .val (.ref b3), .unset, .unset] [(.ref b8)]))
  refine OwnFin.step (fun tT kK => XS.dup X8.here hx rfl (hb hby d_method_2_17) rfl rfl kK) ?_
  show OwnFin p e below _ (T8.setTop (mkF m 18 #[.val (.int le), .val (.int x), .val (.int y), .val (.int z), .val (.ref b1), .val (.ref b3), .unset, .unset] [(.ref b8), (.ref b8)]))
  refine OwnFin.step (fun tT kK => XS.iconst X8.here hx rfl (hb hby d_method_2_18) kK) ?_
  show OwnFin p e below _ (T8.setTop (mkF m 19 #[.val (.int le), .val (.int x), .val (.int y), .val (.int z), .val (.ref b1), .val (.ref b3), .unset, .unset] [(.int (0 : Int32)), (.ref b8), (.ref b8)]))
  refine OwnFin.step (fun tT kK => XS.iloadN X8.here hx rfl (hb hby d_method_2_19) rfl kK) ?_
  show OwnFin p e below _ (T8.setTop (mkF m 20 #[.val (.int le), .val (.int x), .val (.int y), .val (.int z), .val (.ref b1), .val (.ref b3), .unset, .unset] [(.int x), (.int (0 : Int32)), (.ref b8), (.ref b8)]))
  obtain ⟨cl10, Ar10, q10, Sz10, Ng10, H10, G10⟩ := id V8
  have hin10 : ¬ ((0 : Int32) < 0 ∨ cl10.slots.size ≤ ((0 : Int32)).toNatClampNeg) := inb_of Sz10 ⟨by decide, by decide⟩
  obtain ⟨T11, h11, X11, e11, W11, st11⟩ := stC X8 hx hZ e8 Ar10 (j := (0 : Int32)) hin10 (g := (mkF m 20 #[.val (.int le), .val (.int x), .val (.int y), .val (.int z), .val (.ref b1), .val (.ref b3), .unset, .unset] [(.int x), (.int (0 : Int32)), (.ref b8), (.ref b8)])) rfl rfl (hb hby d_method_2_20)
  refine OwnFin.step st11 ?_
  have N11 := Fr.snoc X11 N6 (Nat.le_trans (Nat.le_trans (Nat.le_trans (Nat.le_trans Z0 E1.1) E3.1) (Keep.of_wr W6).1) (Nat.le_of_eq g8.symm))
  have cp12 := (CHr.wr W11 (Safe.arv hZ.alike V8 (by decide)) C9.1)
  have C12 := C9.trans cp12
  have V11 : Arv Z h11 b8 k8 .char (2 : Int32) [(.int (nar .char x)), (.int (0 : Int32))] (.int (0 : Int32)) := Arv.set Ar10 q10 Sz10 Ng10 H10 G10 (fits_nar_char _) W11 0 rfl (Nat.le_of_ble_eq_true rfl)
  show OwnFin p e below _ (T11.setTop (mkF m 21 #[.val (.int le), .val (.int x), .val (.int y), .val (.int z), .val (.ref b1), .val (.ref b3), .unset, .unset] [(.ref b8)]))
  refine OwnFin.step (fun tT kK => XS.dup X11.here hx rfl (hb hby d_method_2_21) rfl rfl kK) ?_
  show OwnFin p e below _ (T11.setTop (mkF m 22 #[.val (.int le), .val (.int x), .val (.int y), .val (.int z), .val (.ref b1), .val (.ref b3), .unset, .unset] [(.ref b8), (.ref b8)]))
  refine OwnFin.step (fun tT kK => XS.iconst X11.here hx rfl (hb hby d_method_2_22) kK) ?_
  show OwnFin p e below _ (T11.setTop (mkF m 23 #[.val (.int le), .val (.int x), .val (.int y), .val (.int z), .val (.ref b1), .val (.ref b3), .unset, .unset] [(.int (1 : Int32)), (.ref b8), (.ref b8)]))
  refine OwnFin.step (fun tT kK => XS.iloadN X11.here hx rfl (hb hby d_method_2_23) rfl kK) ?_
  show OwnFin p e below _ (T11.setTop (mkF m 24 #[.val (.int le), .val (.int x), .val (.int y), .val (.int z), .val (.ref b1), .val (.ref b3), .unset, .unset] [(.int y), (.int (1 : Int32)), (.ref b8), (.ref b8)]))
  obtain ⟨cl13, Ar13, q13, Sz13, Ng13, H13, G13⟩ := id V11
  have hin13 : ¬ ((1 : Int32) < 0 ∨ cl13.slots.size ≤ ((1 : Int32)).toNatClampNeg) := inb_of Sz13 ⟨by decide, by decide⟩
  obtain ⟨T14, h14, X14, e14, W14, st14⟩ := stC X11 hx hZ e11 Ar13 (j := (1 : Int32)) hin13 (g := (mkF m 24 #[.val (.int le), .val (.int x), .val (.int y), .val (.int z), .val (.ref b1), .val (.ref b3), .unset, .unset] [(.int y), (.int (1 : Int32)), (.ref b8), (.ref b8)])) rfl rfl (hb hby d_method_2_24)
  refine OwnFin.step st14 ?_
  have N14 := Fr.snoc X14 N11 (Nat.le_trans (Nat.le_trans (Nat.le_trans (Nat.le_trans Z0 E1.1) E3.1) (Keep.of_wr W6).1) (Nat.le_of_eq g8.symm))
  have cp15 := (CHr.wr W14 (Safe.arv hZ.alike V11 (by decide)) C12.1)
  have C15 := C12.trans cp15
  have V14 : Arv Z h14 b8 k8 .char (2 : Int32) [(.int (nar .char x)), (.int (nar .char y))] (.int (0 : Int32)) := Arv.set Ar13 q13 Sz13 Ng13 H13 G13 (fits_nar_char _) W14 1 rfl (Nat.le_of_ble_eq_true rfl)
  show OwnFin p e below _ (T14.setTop (mkF m 25 #[.val (.int le), .val (.int x), .val (.int y), .val (.int z), .val (.ref b1), .val (.ref b3), .unset, .unset] [(.ref b8)]))
  refine OwnFin.step (fun tT kK => XS.astore X14.here hx rfl (hb hby d_method_2_25) rfl rfl (l' := #[.val (.int le), .val (.int x), .val (.int y), .val (.int z), .val (.ref b1), .val (.ref b3), .val (.ref b8), .unset]) rfl kK) ?_
  show OwnFin p e below _ (T14.setTop (mkF m 27 #[.val (.int le), .val (.int x), .val (.int y), .val (.int z), .val (.ref b1), .val (.ref b3), .val (.ref b8), .unset] []))
  refine OwnFin.step (fun tT kK => XS.iconst X14.here hx rfl (hb hby d_method_2_27) kK) ?_
  show OwnFin p e below _ (T14.setTop (mkF m 28 #[.val (.int le), .val (.int x), .val (.int y), .val (.int z), .val (.ref b1), .val (.ref b3), .val (.ref b8), .unset] [(.int (3 : Int32))]))
  obtain ⟨T16, h16, k16, X16, e16, E16, A16, st16⟩ := newP X14 hx hZ (hw _ (List.mem_of_getElem? (i := 4) rfl)) e14 (g := (mkF m 28 #[.val (.int le), .val (.int x), .val (.int y), .val (.int z), .val (.ref b1), .val (.ref b3), .val (.ref b8), .unset] [(.int (3 : Int32))])) rfl (hb hby d_method_2_28) rfl (by decide) (cap := 3) (by decide) (by decide) (by decide) (by decide)
  obtain ⟨b16, g16⟩ : ∃ z, z = h14.size := ⟨_, rfl⟩
  rw [← g16] at A16 st16
  refine OwnFin.step st16 ?_
  have cp17 := (CHr.ext E16 C15.1)
  have C17 := C15.trans cp17
  have sf_b16 := (Safe.new (Nat.le_of_eq g16.symm)).ext E16 C15.1
  have V16 : Arv Z h16 b16 k16 .char (3 : Int32) [(.int (0 : Int32)), (.int (0 : Int32)), (.int (0 : Int32))] (.int (0 : Int32)) := (Arv.new A16 (by decide)).pad (pad_rep [] (.int (0 : Int32)) 3)
  show OwnFin p e below _ (T16.setTop (mkF m 30 #[.val (.int le), .val (.int x), .val (.int y), .val (.int z), .val (.ref b1), .val (.ref b3), .val (.ref b8), .unset] [(.ref b16)]))
  refine OwnFin.step (fun tT kK => XS.dup X16.here hx rfl (hb hby d_method_2_30) rfl rfl kK) ?_
  show OwnFin p e below _ (T16.setTop (mkF m 31 #[.val (.int le), .val (.int x), .val (.int y), .val (.int z), .val (.ref b1), .val (.ref b3), .val (.ref b8), .unset] [(.ref b16), (.ref b16)]))
  refine OwnFin.step (fun tT kK => XS.iconst X16.here hx rfl (hb hby d_method_2_31) kK) ?_
  show OwnFin p e below _ (T16.setTop (mkF m 32 #[.val (.int le), .val (.int x), .val (.int y), .val (.int z), .val (.ref b1), .val (.ref b3), .val (.ref b8), .unset] [(.int (0 : Int32)), (.ref b16), (.ref b16)]))
  refine OwnFin.step (fun tT kK => XS.iloadN X16.here hx rfl (hb hby d_method_2_32) rfl kK) ?_
  show OwnFin p e below _ (T16.setTop (mkF m 33 #[.val (.int le), .val (.int x), .val (.int y), .val (.int z), .val (.ref b1), .val (.ref b3), .val (.ref b8), .unset] [(.int x), (.int (0 : Int32)), (.ref b16), (.ref b16)]))
  obtain ⟨cl18, Ar18, q18, Sz18, Ng18, H18, G18⟩ := id V16
  have hin18 : ¬ ((0 : Int32) < 0 ∨ cl18.slots.size ≤ ((0 : Int32)).toNatClampNeg) := inb_of Sz18 ⟨by decide, by decide⟩
  obtain ⟨T19, h19, X19, e19, W19, st19⟩ := stC X16 hx hZ e16 Ar18 (j := (0 : Int32)) hin18 (g := (mkF m 33 #[.val (.int le), .val (.int x), .val (.int y), .val (.int z), .val (.ref b1), .val (.ref b3), .val (.ref b8), .unset] [(.int x), (.int (0 : Int32)), (.ref b16), (.ref b16)])) rfl rfl (hb hby d_method_2_33)
  refine OwnFin.step st19 ?_
  have N19 := Fr.snoc X19 N14 (Nat.le_trans (Nat.le_trans (Nat.le_trans (Nat.le_trans (Nat.le_trans (Nat.le_trans (Nat.le_trans Z0 E1.1) E3.1) (Keep.of_wr W6).1) E8.1) (Keep.of_wr W11).1) (Keep.of_wr W14).1) (Nat.le_of_eq g16.symm))
  have cp20 := (CHr.wr W19 (Safe.arv hZ.alike V16 (by decide)) C17.1)
  have C20 := C17.trans cp20
  have V19 : Arv Z h19 b16 k16 .char (3 : Int32) [(.int (nar .char x)), (.int (0 : Int32)), (.int (0 : Int32))] (.int (0 : Int32)) := Arv.set Ar18 q18 Sz18 Ng18 H18 G18 (fits_nar_char _) W19 0 rfl (Nat.le_of_ble_eq_true rfl)
  show OwnFin p e below _ (T19.setTop (mkF m 34 #[.val (.int le), .val (.int x), .val (.int y), .val (.int z), .val (.ref b1), .val (.ref b3), .val (.ref b8), .unset] [(.ref b16)]))
  refine OwnFin.step (fun tT kK => XS.dup X19.here hx rfl (hb hby d_method_2_34) rfl rfl kK) ?_
  show OwnFin p e below _ (T19.setTop (mkF m 35 #[.val (.int le), .val (.int x), .val (.int y), .val (.int z), .val (.ref b1), .val (.ref b3), .val (.ref b8), .unset] [(.ref b16), (.ref b16)]))
  refine OwnFin.step (fun tT kK => XS.iconst X19.here hx rfl (hb hby d_method_2_35) kK) ?_
  show OwnFin p e below _ (T19.setTop (mkF m 36 #[.val (.int le), .val (.int x), .val (.int y), .val (.int z), .val (.ref b1), .val (.ref b3), .val (.ref b8), .unset] [(.int (1 : Int32)), (.ref b16), (.ref b16)]))
  refine OwnFin.step (fun tT kK => XS.iloadN X19.here hx rfl (hb hby d_method_2_36) rfl kK) ?_
  show OwnFin p e below _ (T19.setTop (mkF m 37 #[.val (.int le), .val (.int x), .val (.int y), .val (.int z), .val (.ref b1), .val (.ref b3), .val (.ref b8), .unset] [(.int y), (.int (1 : Int32)), (.ref b16), (.ref b16)]))
  obtain ⟨cl21, Ar21, q21, Sz21, Ng21, H21, G21⟩ := id V19
  have hin21 : ¬ ((1 : Int32) < 0 ∨ cl21.slots.size ≤ ((1 : Int32)).toNatClampNeg) := inb_of Sz21 ⟨by decide, by decide⟩
  obtain ⟨T22, h22, X22, e22, W22, st22⟩ := stC X19 hx hZ e19 Ar21 (j := (1 : Int32)) hin21 (g := (mkF m 37 #[.val (.int le), .val (.int x), .val (.int y), .val (.int z), .val (.ref b1), .val (.ref b3), .val (.ref b8), .unset] [(.int y), (.int (1 : Int32)), (.ref b16), (.ref b16)])) rfl rfl (hb hby d_method_2_37)
  refine OwnFin.step st22 ?_
  have N22 := Fr.snoc X22 N19 (Nat.le_trans (Nat.le_trans (Nat.le_trans (Nat.le_trans (Nat.le_trans (Nat.le_trans (Nat.le_trans Z0 E1.1) E3.1) (Keep.of_wr W6).1) E8.1) (Keep.of_wr W11).1) (Keep.of_wr W14).1) (Nat.le_of_eq g16.symm))
  have cp23 := (CHr.wr W22 (Safe.arv hZ.alike V19 (by decide)) C20.1)
  have C23 := C20.trans cp23
  have V22 : Arv Z h22 b16 k16 .char (3 : Int32) [(.int (nar .char x)), (.int (nar .char y)), (.int (0 : Int32))] (.int (0 : Int32)) := Arv.set Ar21 q21 Sz21 Ng21 H21 G21 (fits_nar_char _) W22 1 rfl (Nat.le_of_ble_eq_true rfl)
  show OwnFin p e below _ (T22.setTop (mkF m 38 #[.val (.int le), .val (.int x), .val (.int y), .val (.int z), .val (.ref b1), .val (.ref b3), .val (.ref b8), .unset] [(.ref b16)]))
  refine OwnFin.step (fun tT kK => XS.dup X22.here hx rfl (hb hby d_method_2_38) rfl rfl kK) ?_
  show OwnFin p e below _ (T22.setTop (mkF m 39 #[.val (.int le), .val (.int x), .val (.int y), .val (.int z), .val (.ref b1), .val (.ref b3), .val (.ref b8), .unset] [(.ref b16), (.ref b16)]))
  refine OwnFin.step (fun tT kK => XS.iconst X22.here hx rfl (hb hby d_method_2_39) kK) ?_
  show OwnFin p e below _ (T22.setTop (mkF m 40 #[.val (.int le), .val (.int x), .val (.int y), .val (.int z), .val (.ref b1), .val (.ref b3), .val (.ref b8), .unset] [(.int (2 : Int32)), (.ref b16), (.ref b16)]))
  refine OwnFin.step (fun tT kK => XS.iloadN X22.here hx rfl (hb hby d_method_2_40) rfl kK) ?_
  show OwnFin p e below _ (T22.setTop (mkF m 41 #[.val (.int le), .val (.int x), .val (.int y), .val (.int z), .val (.ref b1), .val (.ref b3), .val (.ref b8), .unset] [(.int z), (.int (2 : Int32)), (.ref b16), (.ref b16)]))
  obtain ⟨cl24, Ar24, q24, Sz24, Ng24, H24, G24⟩ := id V22
  have hin24 : ¬ ((2 : Int32) < 0 ∨ cl24.slots.size ≤ ((2 : Int32)).toNatClampNeg) := inb_of Sz24 ⟨by decide, by decide⟩
  obtain ⟨T25, h25, X25, e25, W25, st25⟩ := stC X22 hx hZ e22 Ar24 (j := (2 : Int32)) hin24 (g := (mkF m 41 #[.val (.int le), .val (.int x), .val (.int y), .val (.int z), .val (.ref b1), .val (.ref b3), .val (.ref b8), .unset] [(.int z), (.int (2 : Int32)), (.ref b16), (.ref b16)])) rfl rfl (hb hby d_method_2_41)
  refine OwnFin.step st25 ?_
  have N25 := Fr.snoc X25 N22 (Nat.le_trans (Nat.le_trans (Nat.le_trans (Nat.le_trans (Nat.le_trans (Nat.le_trans (Nat.le_trans Z0 E1.1) E3.1) (Keep.of_wr W6).1) E8.1) (Keep.of_wr W11).1) (Keep.of_wr W14).1) (Nat.le_of_eq g16.symm))
  have cp26 := (CHr.wr W25 (Safe.arv hZ.alike V22 (by decide)) C23.1)
  have C26 := C23.trans cp26
  have V25 : Arv Z h25 b16 k16 .char (3 : Int32) [(.int (nar .char x)), (.int (nar .char y)), (.int (nar .char z))] (.int (0 : Int32)) := Arv.set Ar24 q24 Sz24 Ng24 H24 G24 (fits_nar_char _) W25 2 rfl (Nat.le_of_ble_eq_true rfl)
  show OwnFin p e below _ (T25.setTop (mkF m 42 #[.val (.int le), .val (.int x), .val (.int y), .val (.int z), .val (.ref b1), .val (.ref b3), .val (.ref b8), .unset] [(.ref b16)]))
  refine OwnFin.step (fun tT kK => XS.astore X25.here hx rfl (hb hby d_method_2_42) rfl rfl (l' := #[.val (.int le), .val (.int x), .val (.int y), .val (.int z), .val (.ref b1), .val (.ref b3), .val (.ref b8), .val (.ref b16)]) rfl kK) ?_
  show OwnFin p e below _ (T25.setTop (mkF m 44 #[.val (.int le), .val (.int x), .val (.int y), .val (.int z), .val (.ref b1), .val (.ref b3), .val (.ref b8), .val (.ref b16)] []))
  refine OwnFin.step (fun tT kK => XS.iloadN X25.here hx rfl (hb hby d_method_2_44) rfl kK) ?_
  show OwnFin p e below _ (T25.setTop (mkF m 45 #[.val (.int le), .val (.int x), .val (.int y), .val (.int z), .val (.ref b1), .val (.ref b3), .val (.ref b8), .val (.ref b16)] [(.int le)]))
  by_cases hc27 : le = (0 : Int32)
  · skip
    refine OwnFin.step (fun tT kK => XS.ifNo X25.here hx rfl (hb hby d_method_2_45) rfl ((if0 _ _).trans (teq (hc27 : le = (0 : Int32))).2) kK) ?_
    show OwnFin p e below _ (T25.setTop (mkF m 48 #[.val (.int le), .val (.int x), .val (.int y), .val (.int z), .val (.ref b1), .val (.ref b3), .val (.ref b8), .val (.ref b16)] []))
    obtain ⟨T28, h28, X28, e28, E28, A28, D28, -, st28⟩ := newO X25 hx hZ hown (hw _ (List.mem_of_getElem? (i := 5) rfl)) (hw _ (List.mem_of_getElem? (i := 6) rfl)) (hw _ (List.mem_of_getElem? (i := 7) rfl)) e25 (g := (mkF m 48 #[.val (.int le), .val (.int x), .val (.int y), .val (.int z), .val (.ref b1), .val (.ref b3), .val (.ref b8), .val (.ref b16)] [])) rfl (hb hby d_method_2_48) (by decide) (by decide)
    obtain ⟨b28, g28⟩ : ∃ z, z = h25.size := ⟨_, rfl⟩
    rw [← g28] at A28 D28 st28
    refine OwnFin.step st28 ?_
    have cp29 := (CHr.ext E28 C26.1)
    have C29 := C26.trans cp29
    have sf_b28 := (Safe.new (Nat.le_of_eq g28.symm)).ext E28 C26.1
    have Fz30 : Fld Z h28 b28 "java/lang/String" "coder" "B" (.int (0 : Int32)) := D28 (Or.inr (hw _ (List.mem_of_getElem? (i := 31) rfl))) (ty := .byte) (by decide)
    have Fz31 : Fld Z h28 b28 "java/lang/String" "value" "[B" .null := D28 (Or.inr (hw _ (List.mem_of_getElem? (i := 33) rfl))) (ty := (.array .byte)) (by decide)
    show OwnFin p e below _ (T28.setTop (mkF m 51 #[.val (.int le), .val (.int x), .val (.int y), .val (.int z), .val (.ref b1), .val (.ref b3), .val (.ref b8), .val (.ref b16)] [(.ref b28)]))
    refine OwnFin.step (fun tT kK => XS.dup X28.here hx rfl (hb hby d_method_2_51) rfl rfl kK) ?_
    show OwnFin p e below _ (T28.setTop (mkF m 52 #[.val (.int le), .val (.int x), .val (.int y), .val (.int z), .val (.ref b1), .val (.ref b3), .val (.ref b8), .val (.ref b16)] [(.ref b28), (.ref b28)]))
    refine OwnFin.step (fun tT kK => XS.aload X28.here hx rfl (hb hby d_method_2_52) rfl rfl kK) ?_
    show OwnFin p e below _ (T28.setTop (mkF m 54 #[.val (.int le), .val (.int x), .val (.int y), .val (.int z), .val (.ref b1), .val (.ref b3), .val (.ref b8), .val (.ref b16)] [(.ref b1), (.ref b28), (.ref b28)]))
    have f32 : Arv Z h28 b1 k1 .char (0 : Int32) [] (.int (0 : Int32)) := ((((((((((V1.ext E3).other W6 (Nat.ne_of_lt (Nat.lt_of_lt_of_le (Nat.lt_of_lt_of_le V1.lt (Nat.le_refl _)) (Nat.le_of_eq g3.symm)))).ext E8).other W11 (Nat.ne_of_lt (Nat.lt_of_lt_of_le (Nat.lt_of_lt_of_le V1.lt (Nat.le_trans (Nat.le_trans (Nat.le_refl _) E3.1) (Keep.of_wr W6).1)) (Nat.le_of_eq g8.symm)))).other W14 (Nat.ne_of_lt (Nat.lt_of_lt_of_le (Nat.lt_of_lt_of_le V1.lt (Nat.le_trans (Nat.le_trans (Nat.le_refl _) E3.1) (Keep.of_wr W6).1)) (Nat.le_of_eq g8.symm)))).ext E16).other W19 (Nat.ne_of_lt (Nat.lt_of_lt_of_le (Nat.lt_of_lt_of_le V1.lt (Nat.le_trans (Nat.le_trans (Nat.le_trans (Nat.le_trans (Nat.le_trans (Nat.le_refl _) E3.1) (Keep.of_wr W6).1) E8.1) (Keep.of_wr W11).1) (Keep.of_wr W14).1)) (Nat.le_of_eq g16.symm)))).other W22 (Nat.ne_of_lt (Nat.lt_of_lt_of_le (Nat.lt_of_lt_of_le V1.lt (Nat.le_trans (Nat.le_trans (Nat.le_trans (Nat.le_trans (Nat.le_trans (Nat.le_refl _) E3.1) (Keep.of_wr W6).1) E8.1) (Keep.of_wr W11).1) (Keep.of_wr W14).1)) (Nat.le_of_eq g16.symm)))).other W25 (Nat.ne_of_lt (Nat.lt_of_lt_of_le (Nat.lt_of_lt_of_le V1.lt (Nat.le_trans (Nat.le_trans (Nat.le_trans (Nat.le_trans (Nat.le_trans (Nat.le_refl _) E3.1) (Keep.of_wr W6).1) E8.1) (Keep.of_wr W11).1) (Keep.of_wr W14).1)) (Nat.le_of_eq g16.symm)))).ext E28)
    obtain ⟨_, _, ⟨T33, L33, k33, n33⟩, -, X33', hs33, hg33, ⟨Lc33, hQ33, l33, y33, z33, cq33⟩, st33⟩ := X28.specialBackS hx (y := (⟨"java/lang/String", "<init>", "([C)V"⟩ : MethodName)) rfl hown (mvT hZ (hw _ (List.mem_of_getElem? (i := 8) rfl))) (mvT hZ (hw _ (List.mem_of_getElem? (i := 9) rfl))) (mvT hZ (hw _ (List.mem_of_getElem? (i := 10) rfl))) (by decide) (backOfSH (W := 1) (rm50 l Z a0 hw hEL wS [] b28 b1 k1 h28 n0 (Nat.le_trans (Nat.le_trans (Nat.le_trans (Nat.le_trans (Nat.le_trans (Nat.le_trans (Nat.le_trans (Nat.le_trans (Nat.le_trans (Nat.le_trans (Nat.le_trans Z0 E1.1) E3.1) (Keep.of_wr W6).1) E8.1) (Keep.of_wr W11).1) (Keep.of_wr W14).1) E16.1) (Keep.of_wr W19).1) (Keep.of_wr W22).1) (Keep.of_wr W25).1) E28.1) A28 Fz31 Fz30 (Nat.le_trans (Nat.le_trans (Nat.le_trans (Nat.le_trans (Nat.le_trans (Nat.le_trans (Nat.le_trans (Nat.le_trans (Nat.le_trans (Nat.le_trans (Nat.le_trans Z0 E1.1) E3.1) (Keep.of_wr W6).1) E8.1) (Keep.of_wr W11).1) (Keep.of_wr W14).1) E16.1) (Keep.of_wr W19).1) (Keep.of_wr W22).1) (Keep.of_wr W25).1) (Nat.le_of_eq g28.symm)) f32) hZ (hw _ (List.mem_of_getElem? (i := 10) rfl)) (hw _ (List.mem_of_getElem? (i := 7) rfl)) (by decide) (by decide) hEL C29.1) (g := (mkF m 54 #[.val (.int le), .val (.int x), .val (.int y), .val (.int z), .val (.ref b1), .val (.ref b3), .val (.ref b8), .val (.ref b16)] [(.ref b1), (.ref b28), (.ref b28)])) rfl (by rw [hml]; rfl) (Steps.refl _) (a := b28) (argsL := [(.ref b1)]) (rest := [(.ref b28)]) (lenOf pd_239 rfl) rfl (by show 2 * 0 + _ ≤ _; exact Nat.le_of_eq rfl) (hb hby d_method_2_54) (fun _ _ => ⟨rfl, e28, (by decide : 5 + 4 ≤ _), (by decide : 10 + 8 ≤ _)⟩)
    dsimp only [Pt.U, Pt.locs, Pt.cells, Pt.slots] at X33' hs33 hg33 l33 y33 z33 st33 hQ33 cq33
    subst l33 y33 z33
    obtain ⟨X33, hS33, hZ, hown⟩ := rebS hS0 (by rw [e28]; exact (Nat.le_trans hk0 (Nat.le_trans (Nat.le_trans (Nat.le_trans (Nat.le_trans (Nat.le_trans (Nat.le_trans (Nat.le_trans (Nat.le_trans (Nat.le_trans (Nat.le_trans (Nat.le_trans (Nat.le_refl _) E1.1) E3.1) (Keep.of_wr W6).1) E8.1) (Keep.of_wr W11).1) (Keep.of_wr W14).1) E16.1) (Keep.of_wr W19).1) (Keep.of_wr W22).1) (Keep.of_wr W25).1) E28.1))) X33' hs33 hg33 hZ hown
    obtain ⟨b34, ⟨kb35, ⟨rfl, N33q, K33, P33_0, P33_1, P33_2, P33_3⟩⟩⟩ := hQ33
    have N33 := Fr.app N25 N33q
    refine OwnFin.step (fun tT kK => st33.trans kK) ?_
    have cp36 := cq33
    have C36 := C29.trans cp36
    show OwnFin p e below _ (T33.setTop (mkF m 57 #[.val (.int le), .val (.int x), .val (.int y), .val (.int z), .val (.ref b1), .val (.ref b3), .val (.ref b8), .val (.ref b16)] [(.ref b28)]))
    obtain ⟨fs37, hr37, hrun37, hended37, hW37⟩ := X33.leaveW (s := s) hS33 (Nat.le_trans (Nat.le_refl T33.heap.size) (Nat.le_refl _)) (v := (some (.ref b28))) (fun h => by rw [Bd.returns] at h; cases h)
    refine ⟨_, _, retOut X33 hx Bd.returns rfl (Or.inr (Or.inr (Or.inr (Or.inr ⟨rfl, rfl, rfl⟩)))) (hb hby d_method_2_57) hr37, hrun37, hended37, _, _, rfl, ?_, (by show CHr Z OwnEL s.vm s.heap T33.vm T33.heap; rw [hh]; exact C36.trans (CHv.at X33 hZ hEL C36.1)), hW37.1, hW37.2.1, hW37.2.2.1, hW37.2.2.2.mono (by decide) (by decide)⟩
    show Q6 Z le x y z cs h0 n0 _ T33.heap _
    exact ⟨b28, rfl, N33, (((((((((((((Keep.refl h0 []).ext E1).ext E3).wr W6 (Or.inr (Nat.le_trans (Nat.le_trans (Nat.le_refl _) E1.1) (Nat.le_of_eq g3.symm)))).ext E8).wr W11 (Or.inr (Nat.le_trans (Nat.le_trans (Nat.le_trans (Nat.le_trans (Nat.le_refl _) E1.1) E3.1) (Keep.of_wr W6).1) (Nat.le_of_eq g8.symm)))).wr W14 (Or.inr (Nat.le_trans (Nat.le_trans (Nat.le_trans (Nat.le_trans (Nat.le_refl _) E1.1) E3.1) (Keep.of_wr W6).1) (Nat.le_of_eq g8.symm)))).ext E16).wr W19 (Or.inr (Nat.le_trans (Nat.le_trans (Nat.le_trans (Nat.le_trans (Nat.le_trans (Nat.le_trans (Nat.le_trans (Nat.le_refl _) E1.1) E3.1) (Keep.of_wr W6).1) E8.1) (Keep.of_wr W11).1) (Keep.of_wr W14).1) (Nat.le_of_eq g16.symm)))).wr W22 (Or.inr (Nat.le_trans (Nat.le_trans (Nat.le_trans (Nat.le_trans (Nat.le_trans (Nat.le_trans (Nat.le_trans (Nat.le_refl _) E1.1) E3.1) (Keep.of_wr W6).1) E8.1) (Keep.of_wr W11).1) (Keep.of_wr W14).1) (Nat.le_of_eq g16.symm)))).wr W25 (Or.inr (Nat.le_trans (Nat.le_trans (Nat.le_trans (Nat.le_trans (Nat.le_trans (Nat.le_trans (Nat.le_trans (Nat.le_refl _) E1.1) E3.1) (Keep.of_wr W6).1) E8.1) (Keep.of_wr W11).1) (Keep.of_wr W14).1) (Nat.le_of_eq g16.symm)))).ext E28).trans K33 (allS (P := fun x => x ∈ [] ∨ h0.size ≤ x) (Or.inr (Nat.le_trans (Nat.le_trans (Nat.le_trans (Nat.le_trans (Nat.le_trans (Nat.le_trans (Nat.le_trans (Nat.le_trans (Nat.le_trans (Nat.le_trans (Nat.le_trans (Nat.le_refl _) E1.1) E3.1) (Keep.of_wr W6).1) E8.1) (Keep.of_wr W11).1) (Keep.of_wr W14).1) E16.1) (Keep.of_wr W19).1) (Keep.of_wr W22).1) (Keep.of_wr W25).1) (Nat.le_of_eq g28.symm))) all0)), (Nat.le_trans (Nat.le_trans (Nat.le_trans (Nat.le_trans (Nat.le_trans (Nat.le_trans (Nat.le_trans (Nat.le_trans (Nat.le_trans (Nat.le_trans (Nat.le_trans (Nat.le_refl _) E1.1) E3.1) (Keep.of_wr W6).1) E8.1) (Keep.of_wr W11).1) (Keep.of_wr W14).1) E16.1) (Keep.of_wr W19).1) (Keep.of_wr W22).1) (Keep.of_wr W25).1) (Nat.le_of_eq g28.symm)), P33_0⟩
  · skip
    refine OwnFin.step (fun tT kK => XS.ifYes X25.here hx rfl (pc0 := 45) (pc' := 58) rfl (hb hby d_method_2_45) rfl ((if0 _ _).trans (feq (hc27 : ¬ (le = (0 : Int32)))).2) (by decide) (by decide) kK) ?_
    show OwnFin p e below _ (T25.setTop (mkF m 58 #[.val (.int le), .val (.int x), .val (.int y), .val (.int z), .val (.ref b1), .val (.ref b3), .val (.ref b8), .val (.ref b16)] []))
    refine OwnFin.step (fun tT kK => XS.iloadN X25.here hx rfl (hb hby d_method_2_58) rfl kK) ?_
    show OwnFin p e below _ (T25.setTop (mkF m 59 #[.val (.int le), .val (.int x), .val (.int y), .val (.int z), .val (.ref b1), .val (.ref b3), .val (.ref b8), .val (.ref b16)] [(.int le)]))
    refine OwnFin.step (fun tT kK => XS.iconst X25.here hx rfl (hb hby d_method_2_59) kK) ?_
    show OwnFin p e below _ (T25.setTop (mkF m 60 #[.val (.int le), .val (.int x), .val (.int y), .val (.int z), .val (.ref b1), .val (.ref b3), .val (.ref b8), .val (.ref b16)] [(.int (1 : Int32)), (.int le)]))
    by_cases hc38 : le = (1 : Int32)
    · skip
      refine OwnFin.step (fun tT kK => XS.icmpNo X25.here hx rfl (hb hby d_method_2_60) rfl (teq (hc38 : le = (1 : Int32))).2 kK) ?_
      show OwnFin p e below _ (T25.setTop (mkF m 63 #[.val (.int le), .val (.int x), .val (.int y), .val (.int z), .val (.ref b1), .val (.ref b3), .val (.ref b8), .val (.ref b16)] []))
      obtain ⟨T39, h39, X39, e39, E39, A39, D39, -, st39⟩ := newO X25 hx hZ hown (hw _ (List.mem_of_getElem? (i := 5) rfl)) (hw _ (List.mem_of_getElem? (i := 6) rfl)) (hw _ (List.mem_of_getElem? (i := 7) rfl)) e25 (g := (mkF m 63 #[.val (.int le), .val (.int x), .val (.int y), .val (.int z), .val (.ref b1), .val (.ref b3), .val (.ref b8), .val (.ref b16)] [])) rfl (hb hby d_method_2_63) (by decide) (by decide)
      obtain ⟨b39, g39⟩ : ∃ z, z = h25.size := ⟨_, rfl⟩
      rw [← g39] at A39 D39 st39
      refine OwnFin.step st39 ?_
      have cp40 := (CHr.ext E39 C26.1)
      have C40 := C26.trans cp40
      have sf_b39 := (Safe.new (Nat.le_of_eq g39.symm)).ext E39 C26.1
      have Fz41 : Fld Z h39 b39 "java/lang/String" "coder" "B" (.int (0 : Int32)) := D39 (Or.inr (hw _ (List.mem_of_getElem? (i := 31) rfl))) (ty := .byte) (by decide)
      have Fz42 : Fld Z h39 b39 "java/lang/String" "value" "[B" .null := D39 (Or.inr (hw _ (List.mem_of_getElem? (i := 33) rfl))) (ty := (.array .byte)) (by decide)
      show OwnFin p e below _ (T39.setTop (mkF m 66 #[.val (.int le), .val (.int x), .val (.int y), .val (.int z), .val (.ref b1), .val (.ref b3), .val (.ref b8), .val (.ref b16)] [(.ref b39)]))
      refine OwnFin.step (fun tT kK => XS.dup X39.here hx rfl (hb hby d_method_2_66) rfl rfl kK) ?_
      show OwnFin p e below _ (T39.setTop (mkF m 67 #[.val (.int le), .val (.int x), .val (.int y), .val (.int z), .val (.ref b1), .val (.ref b3), .val (.ref b8), .val (.ref b16)] [(.ref b39), (.ref b39)]))
      refine OwnFin.step (fun tT kK => XS.aload X39.here hx rfl (hb hby d_method_2_67) rfl rfl kK) ?_
      show OwnFin p e below _ (T39.setTop (mkF m 69 #[.val (.int le), .val (.int x), .val (.int y), .val (.int z), .val (.ref b1), .val (.ref b3), .val (.ref b8), .val (.ref b16)] [(.ref b3), (.ref b39), (.ref b39)]))
      have f43 : Arv Z h39 b3 k3 .char (1 : Int32) [(.int (nar .char x))] (.int (0 : Int32)) := ((((((((V6.ext E8).other W11 (Nat.ne_of_lt (Nat.lt_of_lt_of_le (Nat.lt_of_lt_of_le V6.lt (Nat.le_refl _)) (Nat.le_of_eq g8.symm)))).other W14 (Nat.ne_of_lt (Nat.lt_of_lt_of_le (Nat.lt_of_lt_of_le V6.lt (Nat.le_refl _)) (Nat.le_of_eq g8.symm)))).ext E16).other W19 (Nat.ne_of_lt (Nat.lt_of_lt_of_le (Nat.lt_of_lt_of_le V6.lt (Nat.le_trans (Nat.le_trans (Nat.le_trans (Nat.le_refl _) E8.1) (Keep.of_wr W11).1) (Keep.of_wr W14).1)) (Nat.le_of_eq g16.symm)))).other W22 (Nat.ne_of_lt (Nat.lt_of_lt_of_le (Nat.lt_of_lt_of_le V6.lt (Nat.le_trans (Nat.le_trans (Nat.le_trans (Nat.le_refl _) E8.1) (Keep.of_wr W11).1) (Keep.of_wr W14).1)) (Nat.le_of_eq g16.symm)))).other W25 (Nat.ne_of_lt (Nat.lt_of_lt_of_le (Nat.lt_of_lt_of_le V6.lt (Nat.le_trans (Nat.le_trans (Nat.le_trans (Nat.le_refl _) E8.1) (Keep.of_wr W11).1) (Keep.of_wr W14).1)) (Nat.le_of_eq g16.symm)))).ext E39)
      have f44 : Sta Z h39 "java/lang/String" "COMPACT_STRINGS" "Z" (.int cs) := (((((((((((hp0.ext E1).ext E3).wr W6).ext E8).wr W11).wr W14).ext E16).wr W19).wr W22).wr W25).ext E39)
      obtain ⟨_, _, ⟨T45, L45, k45, n45⟩, -, X45, ⟨Lc45, hQ45, l45, y45, z45⟩, st45⟩ := X39.specialBack hx (y := (⟨"java/lang/String", "<init>", "([C)V"⟩ : MethodName)) rfl hown (mvT hZ (hw _ (List.mem_of_getElem? (i := 8) rfl))) (mvT hZ (hw _ (List.mem_of_getElem? (i := 9) rfl))) (mvT hZ (hw _ (List.mem_of_getElem? (i := 10) rfl))) (by decide) (backOf (W := 1) (rm51 l Z a0 hw hEL wS [] b39 b3 k3 cs (nar .char x) h39 n0 (Nat.le_trans (Nat.le_trans (Nat.le_trans (Nat.le_trans (Nat.le_trans (Nat.le_trans (Nat.le_trans (Nat.le_trans (Nat.le_trans (Nat.le_trans (Nat.le_trans Z0 E1.1) E3.1) (Keep.of_wr W6).1) E8.1) (Keep.of_wr W11).1) (Keep.of_wr W14).1) E16.1) (Keep.of_wr W19).1) (Keep.of_wr W22).1) (Keep.of_wr W25).1) E39.1) A39 Fz42 Fz41 (Nat.le_trans (Nat.le_trans (Nat.le_trans (Nat.le_trans (Nat.le_trans (Nat.le_trans (Nat.le_trans (Nat.le_trans (Nat.le_trans (Nat.le_trans (Nat.le_trans Z0 E1.1) E3.1) (Keep.of_wr W6).1) E8.1) (Keep.of_wr W11).1) (Keep.of_wr W14).1) E16.1) (Keep.of_wr W19).1) (Keep.of_wr W22).1) (Keep.of_wr W25).1) (Nat.le_of_eq g39.symm)) f43 f44 (hp1) (own_nar255 hp2 hp5)) hZ (hw _ (List.mem_of_getElem? (i := 10) rfl)) (hw _ (List.mem_of_getElem? (i := 7) rfl)) (by decide) (by decide)) (g := (mkF m 69 #[.val (.int le), .val (.int x), .val (.int y), .val (.int z), .val (.ref b1), .val (.ref b3), .val (.ref b8), .val (.ref b16)] [(.ref b3), (.ref b39), (.ref b39)])) rfl (by rw [hml]; rfl) (Steps.refl _) (a := b39) (argsL := [(.ref b3)]) (rest := [(.ref b39)]) (lenOf pd_239 rfl) rfl (by show 2 * 0 + _ ≤ _; exact Nat.le_of_eq rfl) (hb hby d_method_2_69) (fun _ _ => ⟨rfl, e39, (by decide : 5 + 1 ≤ _), (by decide : 10 + 1 ≤ _)⟩)
      dsimp only [Pt.U, Pt.locs, Pt.cells, Pt.slots] at X45 l45 y45 z45 st45 hQ45
      subst l45 y45 z45
      obtain ⟨b46, ⟨kb47, ⟨rfl, N45q, K45, B45_0, P45_0, P45_1, P45_2, P45_3⟩⟩⟩ := hQ45
      have N45 := Fr.app N25 N45q
      refine OwnFin.step (fun tT kK => st45.trans kK) ?_
      have cp48 := (CHr.keep K45 (sfS sf_b39 sf0) C40.1)
      have C48 := C40.trans cp48
      show OwnFin p e below _ (T45.setTop (mkF m 72 #[.val (.int le), .val (.int x), .val (.int y), .val (.int z), .val (.ref b1), .val (.ref b3), .val (.ref b8), .val (.ref b16)] [(.ref b39)]))
      obtain ⟨fs49, hr49, hrun49, hended49, hW49⟩ := X45.leaveW (s := s) hS0 (Nat.le_trans hk0 (Nat.le_trans (Nat.le_trans (Nat.le_trans (Nat.le_trans (Nat.le_trans (Nat.le_trans (Nat.le_trans (Nat.le_trans (Nat.le_trans (Nat.le_trans (Nat.le_trans (Nat.le_trans (Nat.le_refl _) E1.1) E3.1) (Keep.of_wr W6).1) E8.1) (Keep.of_wr W11).1) (Keep.of_wr W14).1) E16.1) (Keep.of_wr W19).1) (Keep.of_wr W22).1) (Keep.of_wr W25).1) E39.1) K45.1)) (v := (some (.ref b39))) (fun h => by rw [Bd.returns] at h; cases h)
      refine ⟨_, _, retOut X45 hx Bd.returns rfl (Or.inr (Or.inr (Or.inr (Or.inr ⟨rfl, rfl, rfl⟩)))) (hb hby d_method_2_72) hr49, hrun49, hended49, _, _, rfl, ?_, (by show CHr Z OwnEL s.vm s.heap T45.vm T45.heap; rw [hh]; exact C48.trans (CHv.at X45 hZ hEL C48.1)), hW49.1, hW49.2.1, hW49.2.2.1, hW49.2.2.2.mono (by decide) (by decide)⟩
      show Q6 Z le x y z cs h0 n0 _ T45.heap _
      exact ⟨b39, rfl, N45, (((((((((((((Keep.refl h0 []).ext E1).ext E3).wr W6 (Or.inr (Nat.le_trans (Nat.le_trans (Nat.le_refl _) E1.1) (Nat.le_of_eq g3.symm)))).ext E8).wr W11 (Or.inr (Nat.le_trans (Nat.le_trans (Nat.le_trans (Nat.le_trans (Nat.le_refl _) E1.1) E3.1) (Keep.of_wr W6).1) (Nat.le_of_eq g8.symm)))).wr W14 (Or.inr (Nat.le_trans (Nat.le_trans (Nat.le_trans (Nat.le_trans (Nat.le_refl _) E1.1) E3.1) (Keep.of_wr W6).1) (Nat.le_of_eq g8.symm)))).ext E16).wr W19 (Or.inr (Nat.le_trans (Nat.le_trans (Nat.le_trans (Nat.le_trans (Nat.le_trans (Nat.le_trans (Nat.le_trans (Nat.le_refl _) E1.1) E3.1) (Keep.of_wr W6).1) E8.1) (Keep.of_wr W11).1) (Keep.of_wr W14).1) (Nat.le_of_eq g16.symm)))).wr W22 (Or.inr (Nat.le_trans (Nat.le_trans (Nat.le_trans (Nat.le_trans (Nat.le_trans (Nat.le_trans (Nat.le_trans (Nat.le_refl _) E1.1) E3.1) (Keep.of_wr W6).1) E8.1) (Keep.of_wr W11).1) (Keep.of_wr W14).1) (Nat.le_of_eq g16.symm)))).wr W25 (Or.inr (Nat.le_trans (Nat.le_trans (Nat.le_trans (Nat.le_trans (Nat.le_trans (Nat.le_trans (Nat.le_trans (Nat.le_refl _) E1.1) E3.1) (Keep.of_wr W6).1) E8.1) (Keep.of_wr W11).1) (Keep.of_wr W14).1) (Nat.le_of_eq g16.symm)))).ext E39).trans K45 (allS (P := fun x => x ∈ [] ∨ h0.size ≤ x) (Or.inr (Nat.le_trans (Nat.le_trans (Nat.le_trans (Nat.le_trans (Nat.le_trans (Nat.le_trans (Nat.le_trans (Nat.le_trans (Nat.le_trans (Nat.le_trans (Nat.le_trans (Nat.le_refl _) E1.1) E3.1) (Keep.of_wr W6).1) E8.1) (Keep.of_wr W11).1) (Keep.of_wr W14).1) E16.1) (Keep.of_wr W19).1) (Keep.of_wr W22).1) (Keep.of_wr W25).1) (Nat.le_of_eq g39.symm))) all0)), (Nat.le_trans (Nat.le_trans (Nat.le_trans (Nat.le_trans (Nat.le_trans (Nat.le_trans (Nat.le_trans (Nat.le_trans (Nat.le_trans (Nat.le_trans (Nat.le_trans (Nat.le_refl _) E1.1) E3.1) (Keep.of_wr W6).1) E8.1) (Keep.of_wr W11).1) (Keep.of_wr W14).1) E16.1) (Keep.of_wr W19).1) (Keep.of_wr W22).1) (Keep.of_wr W25).1) (Nat.le_of_eq g39.symm)), P45_0⟩
    · skip
      refine OwnFin.step (fun tT kK => XS.icmpYes X25.here hx rfl (pc0 := 60) (pc' := 73) rfl (hb hby d_method_2_60) rfl (feq (hc38 : ¬ (le = (1 : Int32)))).2 (by decide) (by decide) kK) ?_
      show OwnFin p e below _ (T25.setTop (mkF m 73 #[.val (.int le), .val (.int x), .val (.int y), .val (.int z), .val (.ref b1), .val (.ref b3), .val (.ref b8), .val (.ref b16)] []))
      refine OwnFin.step (fun tT kK => XS.iloadN X25.here hx rfl (hb hby d_method_2_73) rfl kK) ?_
      show OwnFin p e below _ (T25.setTop (mkF m 74 #[.val (.int le), .val (.int x), .val (.int y), .val (.int z), .val (.ref b1), .val (.ref b3), .val (.ref b8), .val (.ref b16)] [(.int le)]))
      refine OwnFin.step (fun tT kK => XS.iconst X25.here hx rfl (hb hby d_method_2_74) kK) ?_
      show OwnFin p e below _ (T25.setTop (mkF m 75 #[.val (.int le), .val (.int x), .val (.int y), .val (.int z), .val (.ref b1), .val (.ref b3), .val (.ref b8), .val (.ref b16)] [(.int (2 : Int32)), (.int le)]))
      by_cases hc50 : le = (2 : Int32)
      · skip
        refine OwnFin.step (fun tT kK => XS.icmpNo X25.here hx rfl (hb hby d_method_2_75) rfl (teq (hc50 : le = (2 : Int32))).2 kK) ?_
        show OwnFin p e below _ (T25.setTop (mkF m 78 #[.val (.int le), .val (.int x), .val (.int y), .val (.int z), .val (.ref b1), .val (.ref b3), .val (.ref b8), .val (.ref b16)] []))
        obtain ⟨T51, h51, X51, e51, E51, A51, D51, -, st51⟩ := newO X25 hx hZ hown (hw _ (List.mem_of_getElem? (i := 5) rfl)) (hw _ (List.mem_of_getElem? (i := 6) rfl)) (hw _ (List.mem_of_getElem? (i := 7) rfl)) e25 (g := (mkF m 78 #[.val (.int le), .val (.int x), .val (.int y), .val (.int z), .val (.ref b1), .val (.ref b3), .val (.ref b8), .val (.ref b16)] [])) rfl (hb hby d_method_2_78) (by decide) (by decide)
        obtain ⟨b51, g51⟩ : ∃ z, z = h25.size := ⟨_, rfl⟩
        rw [← g51] at A51 D51 st51
        refine OwnFin.step st51 ?_
        have cp52 := (CHr.ext E51 C26.1)
        have C52 := C26.trans cp52
        have sf_b51 := (Safe.new (Nat.le_of_eq g51.symm)).ext E51 C26.1
        have Fz53 : Fld Z h51 b51 "java/lang/String" "coder" "B" (.int (0 : Int32)) := D51 (Or.inr (hw _ (List.mem_of_getElem? (i := 31) rfl))) (ty := .byte) (by decide)
        have Fz54 : Fld Z h51 b51 "java/lang/String" "value" "[B" .null := D51 (Or.inr (hw _ (List.mem_of_getElem? (i := 33) rfl))) (ty := (.array .byte)) (by decide)
        show OwnFin p e below _ (T51.setTop (mkF m 81 #[.val (.int le), .val (.int x), .val (.int y), .val (.int z), .val (.ref b1), .val (.ref b3), .val (.ref b8), .val (.ref b16)] [(.ref b51)]))
        refine OwnFin.step (fun tT kK => XS.dup X51.here hx rfl (hb hby d_method_2_81) rfl rfl kK) ?_
        show OwnFin p e below _ (T51.setTop (mkF m 82 #[.val (.int le), .val (.int x), .val (.int y), .val (.int z), .val (.ref b1), .val (.ref b3), .val (.ref b8), .val (.ref b16)] [(.ref b51), (.ref b51)]))
        refine OwnFin.step (fun tT kK => XS.aload X51.here hx rfl (hb hby d_method_2_82) rfl rfl kK) ?_
        show OwnFin p e below _ (T51.setTop (mkF m 84 #[.val (.int le), .val (.int x), .val (.int y), .val (.int z), .val (.ref b1), .val (.ref b3), .val (.ref b8), .val (.ref b16)] [(.ref b8), (.ref b51), (.ref b51)]))
        have f55 : Arv Z h51 b8 k8 .char (2 : Int32) [(.int (nar .char x)), (.int (nar .char y))] (.int (0 : Int32)) := (((((V14.ext E16).other W19 (Nat.ne_of_lt (Nat.lt_of_lt_of_le (Nat.lt_of_lt_of_le V14.lt (Nat.le_refl _)) (Nat.le_of_eq g16.symm)))).other W22 (Nat.ne_of_lt (Nat.lt_of_lt_of_le (Nat.lt_of_lt_of_le V14.lt (Nat.le_refl _)) (Nat.le_of_eq g16.symm)))).other W25 (Nat.ne_of_lt (Nat.lt_of_lt_of_le (Nat.lt_of_lt_of_le V14.lt (Nat.le_refl _)) (Nat.le_of_eq g16.symm)))).ext E51)
        have f56 : Sta Z h51 "java/lang/String" "COMPACT_STRINGS" "Z" (.int cs) := (((((((((((hp0.ext E1).ext E3).wr W6).ext E8).wr W11).wr W14).ext E16).wr W19).wr W22).wr W25).ext E51)
        obtain ⟨_, _, ⟨T57, L57, k57, n57⟩, -, X57, ⟨Lc57, hQ57, l57, y57, z57⟩, st57⟩ := X51.specialBack hx (y := (⟨"java/lang/String", "<init>", "([C)V"⟩ : MethodName)) rfl hown (mvT hZ (hw _ (List.mem_of_getElem? (i := 8) rfl))) (mvT hZ (hw _ (List.mem_of_getElem? (i := 9) rfl))) (mvT hZ (hw _ (List.mem_of_getElem? (i := 10) rfl))) (by decide) (backOf (W := 1) (rm52 l Z a0 hw hEL wS [] b51 b8 k8 cs (nar .char x) (nar .char y) h51 n0 (Nat.le_trans (Nat.le_trans (Nat.le_trans (Nat.le_trans (Nat.le_trans (Nat.le_trans (Nat.le_trans (Nat.le_trans (Nat.le_trans (Nat.le_trans (Nat.le_trans Z0 E1.1) E3.1) (Keep.of_wr W6).1) E8.1) (Keep.of_wr W11).1) (Keep.of_wr W14).1) E16.1) (Keep.of_wr W19).1) (Keep.of_wr W22).1) (Keep.of_wr W25).1) E51.1) A51 Fz54 Fz53 (Nat.le_trans (Nat.le_trans (Nat.le_trans (Nat.le_trans (Nat.le_trans (Nat.le_trans (Nat.le_trans (Nat.le_trans (Nat.le_trans (Nat.le_trans (Nat.le_trans Z0 E1.1) E3.1) (Keep.of_wr W6).1) E8.1) (Keep.of_wr W11).1) (Keep.of_wr W14).1) E16.1) (Keep.of_wr W19).1) (Keep.of_wr W22).1) (Keep.of_wr W25).1) (Nat.le_of_eq g51.symm)) f55 f56 (hp1) (own_nar255 hp2 hp5) (own_nar255 hp3 hp6)) hZ (hw _ (List.mem_of_getElem? (i := 10) rfl)) (hw _ (List.mem_of_getElem? (i := 7) rfl)) (by decide) (by decide)) (g := (mkF m 84 #[.val (.int le), .val (.int x), .val (.int y), .val (.int z), .val (.ref b1), .val (.ref b3), .val (.ref b8), .val (.ref b16)] [(.ref b8), (.ref b51), (.ref b51)])) rfl (by rw [hml]; rfl) (Steps.refl _) (a := b51) (argsL := [(.ref b8)]) (rest := [(.ref b51)]) (lenOf pd_239 rfl) rfl (by show 2 * 0 + _ ≤ _; exact Nat.le_of_eq rfl) (hb hby d_method_2_84) (fun _ _ => ⟨rfl, e51, (by decide : 5 + 1 ≤ _), (by decide : 10 + 2 ≤ _)⟩)
        dsimp only [Pt.U, Pt.locs, Pt.cells, Pt.slots] at X57 l57 y57 z57 st57 hQ57
        subst l57 y57 z57
        obtain ⟨b58, ⟨kb59, ⟨rfl, N57q, K57, B57_0, P57_0, P57_1, P57_2, P57_3⟩⟩⟩ := hQ57
        have N57 := Fr.app N25 N57q
        refine OwnFin.step (fun tT kK => st57.trans kK) ?_
        have cp60 := (CHr.keep K57 (sfS sf_b51 sf0) C52.1)
        have C60 := C52.trans cp60
        show OwnFin p e below _ (T57.setTop (mkF m 87 #[.val (.int le), .val (.int x), .val (.int y), .val (.int z), .val (.ref b1), .val (.ref b3), .val (.ref b8), .val (.ref b16)] [(.ref b51)]))
        obtain ⟨fs61, hr61, hrun61, hended61, hW61⟩ := X57.leaveW (s := s) hS0 (Nat.le_trans hk0 (Nat.le_trans (Nat.le_trans (Nat.le_trans (Nat.le_trans (Nat.le_trans (Nat.le_trans (Nat.le_trans (Nat.le_trans (Nat.le_trans (Nat.le_trans (Nat.le_trans (Nat.le_trans (Nat.le_refl _) E1.1) E3.1) (Keep.of_wr W6).1) E8.1) (Keep.of_wr W11).1) (Keep.of_wr W14).1) E16.1) (Keep.of_wr W19).1) (Keep.of_wr W22).1) (Keep.of_wr W25).1) E51.1) K57.1)) (v := (some (.ref b51))) (fun h => by rw [Bd.returns] at h; cases h)
        refine ⟨_, _, retOut X57 hx Bd.returns rfl (Or.inr (Or.inr (Or.inr (Or.inr ⟨rfl, rfl, rfl⟩)))) (hb hby d_method_2_87) hr61, hrun61, hended61, _, _, rfl, ?_, (by show CHr Z OwnEL s.vm s.heap T57.vm T57.heap; rw [hh]; exact C60.trans (CHv.at X57 hZ hEL C60.1)), hW61.1, hW61.2.1, hW61.2.2.1, hW61.2.2.2.mono (by decide) (by decide)⟩
        show Q6 Z le x y z cs h0 n0 _ T57.heap _
        exact ⟨b51, rfl, N57, (((((((((((((Keep.refl h0 []).ext E1).ext E3).wr W6 (Or.inr (Nat.le_trans (Nat.le_trans (Nat.le_refl _) E1.1) (Nat.le_of_eq g3.symm)))).ext E8).wr W11 (Or.inr (Nat.le_trans (Nat.le_trans (Nat.le_trans (Nat.le_trans (Nat.le_refl _) E1.1) E3.1) (Keep.of_wr W6).1) (Nat.le_of_eq g8.symm)))).wr W14 (Or.inr (Nat.le_trans (Nat.le_trans (Nat.le_trans (Nat.le_trans (Nat.le_refl _) E1.1) E3.1) (Keep.of_wr W6).1) (Nat.le_of_eq g8.symm)))).ext E16).wr W19 (Or.inr (Nat.le_trans (Nat.le_trans (Nat.le_trans (Nat.le_trans (Nat.le_trans (Nat.le_trans (Nat.le_trans (Nat.le_refl _) E1.1) E3.1) (Keep.of_wr W6).1) E8.1) (Keep.of_wr W11).1) (Keep.of_wr W14).1) (Nat.le_of_eq g16.symm)))).wr W22 (Or.inr (Nat.le_trans (Nat.le_trans (Nat.le_trans (Nat.le_trans (Nat.le_trans (Nat.le_trans (Nat.le_trans (Nat.le_refl _) E1.1) E3.1) (Keep.of_wr W6).1) E8.1) (Keep.of_wr W11).1) (Keep.of_wr W14).1) (Nat.le_of_eq g16.symm)))).wr W25 (Or.inr (Nat.le_trans (Nat.le_trans (Nat.le_trans (Nat.le_trans (Nat.le_trans (Nat.le_trans (Nat.le_trans (Nat.le_refl _) E1.1) E3.1) (Keep.of_wr W6).1) E8.1) (Keep.of_wr W11).1) (Keep.of_wr W14).1) (Nat.le_of_eq g16.symm)))).ext E51).trans K57 (allS (P := fun x => x ∈ [] ∨ h0.size ≤ x) (Or.inr (Nat.le_trans (Nat.le_trans (Nat.le_trans (Nat.le_trans (Nat.le_trans (Nat.le_trans (Nat.le_trans (Nat.le_trans (Nat.le_trans (Nat.le_trans (Nat.le_trans (Nat.le_refl _) E1.1) E3.1) (Keep.of_wr W6).1) E8.1) (Keep.of_wr W11).1) (Keep.of_wr W14).1) E16.1) (Keep.of_wr W19).1) (Keep.of_wr W22).1) (Keep.of_wr W25).1) (Nat.le_of_eq g51.symm))) all0)), (Nat.le_trans (Nat.le_trans (Nat.le_trans (Nat.le_trans (Nat.le_trans (Nat.le_trans (Nat.le_trans (Nat.le_trans (Nat.le_trans (Nat.le_trans (Nat.le_trans (Nat.le_refl _) E1.1) E3.1) (Keep.of_wr W6).1) E8.1) (Keep.of_wr W11).1) (Keep.of_wr W14).1) E16.1) (Keep.of_wr W19).1) (Keep.of_wr W22).1) (Keep.of_wr W25).1) (Nat.le_of_eq g51.symm)), P57_0⟩
      · skip
        refine OwnFin.step (fun tT kK => XS.icmpYes X25.here hx rfl (pc0 := 75) (pc' := 88) rfl (hb hby d_method_2_75) rfl (feq (hc50 : ¬ (le = (2 : Int32)))).2 (by decide) (by decide) kK) ?_
        show OwnFin p e below _ (T25.setTop (mkF m 88 #[.val (.int le), .val (.int x), .val (.int y), .val (.int z), .val (.ref b1), .val (.ref b3), .val (.ref b8), .val (.ref b16)] []))
        obtain ⟨T62, h62, X62, e62, E62, A62, D62, -, st62⟩ := newO X25 hx hZ hown (hw _ (List.mem_of_getElem? (i := 5) rfl)) (hw _ (List.mem_of_getElem? (i := 6) rfl)) (hw _ (List.mem_of_getElem? (i := 7) rfl)) e25 (g := (mkF m 88 #[.val (.int le), .val (.int x), .val (.int y), .val (.int z), .val (.ref b1), .val (.ref b3), .val (.ref b8), .val (.ref b16)] [])) rfl (hb hby d_method_2_88) (by decide) (by decide)
        obtain ⟨b62, g62⟩ : ∃ z, z = h25.size := ⟨_, rfl⟩
        rw [← g62] at A62 D62 st62
        refine OwnFin.step st62 ?_
        have cp63 := (CHr.ext E62 C26.1)
        have C63 := C26.trans cp63
        have sf_b62 := (Safe.new (Nat.le_of_eq g62.symm)).ext E62 C26.1
        have Fz64 : Fld Z h62 b62 "java/lang/String" "coder" "B" (.int (0 : Int32)) := D62 (Or.inr (hw _ (List.mem_of_getElem? (i := 31) rfl))) (ty := .byte) (by decide)
        have Fz65 : Fld Z h62 b62 "java/lang/String" "value" "[B" .null := D62 (Or.inr (hw _ (List.mem_of_getElem? (i := 33) rfl))) (ty := (.array .byte)) (by decide)
        show OwnFin p e below _ (T62.setTop (mkF m 91 #[.val (.int le), .val (.int x), .val (.int y), .val (.int z), .val (.ref b1), .val (.ref b3), .val (.ref b8), .val (.ref b16)] [(.ref b62)]))
        refine OwnFin.step (fun tT kK => XS.dup X62.here hx rfl (hb hby d_method_2_91) rfl rfl kK) ?_
        show OwnFin p e below _ (T62.setTop (mkF m 92 #[.val (.int le), .val (.int x), .val (.int y), .val (.int z), .val (.ref b1), .val (.ref b3), .val (.ref b8), .val (.ref b16)] [(.ref b62), (.ref b62)]))
        refine OwnFin.step (fun tT kK => XS.aload X62.here hx rfl (hb hby d_method_2_92) rfl rfl kK) ?_
        show OwnFin p e below _ (T62.setTop (mkF m 94 #[.val (.int le), .val (.int x), .val (.int y), .val (.int z), .val (.ref b1), .val (.ref b3), .val (.ref b8), .val (.ref b16)] [(.ref b16), (.ref b62), (.ref b62)]))
        have f66 : Arv Z h62 b16 k16 .char (3 : Int32) [(.int (nar .char x)), (.int (nar .char y)), (.int (nar .char z))] (.int (0 : Int32)) := (V25.ext E62)
        have f67 : Sta Z h62 "java/lang/String" "COMPACT_STRINGS" "Z" (.int cs) := (((((((((((hp0.ext E1).ext E3).wr W6).ext E8).wr W11).wr W14).ext E16).wr W19).wr W22).wr W25).ext E62)
        obtain ⟨_, _, ⟨T68, L68, k68, n68⟩, -, X68, ⟨Lc68, hQ68, l68, y68, z68⟩, st68⟩ := X62.specialBack hx (y := (⟨"java/lang/String", "<init>", "([C)V"⟩ : MethodName)) rfl hown (mvT hZ (hw _ (List.mem_of_getElem? (i := 8) rfl))) (mvT hZ (hw _ (List.mem_of_getElem? (i := 9) rfl))) (mvT hZ (hw _ (List.mem_of_getElem? (i := 10) rfl))) (by decide) (backOf (W := 1) (rm53 l Z a0 hw hEL wS [] b62 b16 k16 cs (nar .char x) (nar .char y) (nar .char z) h62 n0 (Nat.le_trans (Nat.le_trans (Nat.le_trans (Nat.le_trans (Nat.le_trans (Nat.le_trans (Nat.le_trans (Nat.le_trans (Nat.le_trans (Nat.le_trans (Nat.le_trans Z0 E1.1) E3.1) (Keep.of_wr W6).1) E8.1) (Keep.of_wr W11).1) (Keep.of_wr W14).1) E16.1) (Keep.of_wr W19).1) (Keep.of_wr W22).1) (Keep.of_wr W25).1) E62.1) A62 Fz65 Fz64 (Nat.le_trans (Nat.le_trans (Nat.le_trans (Nat.le_trans (Nat.le_trans (Nat.le_trans (Nat.le_trans (Nat.le_trans (Nat.le_trans (Nat.le_trans (Nat.le_trans Z0 E1.1) E3.1) (Keep.of_wr W6).1) E8.1) (Keep.of_wr W11).1) (Keep.of_wr W14).1) E16.1) (Keep.of_wr W19).1) (Keep.of_wr W22).1) (Keep.of_wr W25).1) (Nat.le_of_eq g62.symm)) f66 f67 (hp1) (own_nar255 hp2 hp5) (own_nar255 hp3 hp6) (own_nar255 hp4 hp7)) hZ (hw _ (List.mem_of_getElem? (i := 10) rfl)) (hw _ (List.mem_of_getElem? (i := 7) rfl)) (by decide) (by decide)) (g := (mkF m 94 #[.val (.int le), .val (.int x), .val (.int y), .val (.int z), .val (.ref b1), .val (.ref b3), .val (.ref b8), .val (.ref b16)] [(.ref b16), (.ref b62), (.ref b62)])) rfl (by rw [hml]; rfl) (Steps.refl _) (a := b62) (argsL := [(.ref b16)]) (rest := [(.ref b62)]) (lenOf pd_239 rfl) rfl (by show 2 * 0 + _ ≤ _; exact Nat.le_of_eq rfl) (hb hby d_method_2_94) (fun _ _ => ⟨rfl, e62, (by decide : 5 + 1 ≤ _), (by decide : 10 + 3 ≤ _)⟩)
        dsimp only [Pt.U, Pt.locs, Pt.cells, Pt.slots] at X68 l68 y68 z68 st68 hQ68
        subst l68 y68 z68
        obtain ⟨b69, ⟨kb70, ⟨rfl, N68q, K68, B68_0, P68_0, P68_1, P68_2, P68_3⟩⟩⟩ := hQ68
        have N68 := Fr.app N25 N68q
        refine OwnFin.step (fun tT kK => st68.trans kK) ?_
        have cp71 := (CHr.keep K68 (sfS sf_b62 sf0) C63.1)
        have C71 := C63.trans cp71
        show OwnFin p e below _ (T68.setTop (mkF m 97 #[.val (.int le), .val (.int x), .val (.int y), .val (.int z), .val (.ref b1), .val (.ref b3), .val (.ref b8), .val (.ref b16)] [(.ref b62)]))
        obtain ⟨fs72, hr72, hrun72, hended72, hW72⟩ := X68.leaveW (s := s) hS0 (Nat.le_trans hk0 (Nat.le_trans (Nat.le_trans (Nat.le_trans (Nat.le_trans (Nat.le_trans (Nat.le_trans (Nat.le_trans (Nat.le_trans (Nat.le_trans (Nat.le_trans (Nat.le_trans (Nat.le_trans (Nat.le_refl _) E1.1) E3.1) (Keep.of_wr W6).1) E8.1) (Keep.of_wr W11).1) (Keep.of_wr W14).1) E16.1) (Keep.of_wr W19).1) (Keep.of_wr W22).1) (Keep.of_wr W25).1) E62.1) K68.1)) (v := (some (.ref b62))) (fun h => by rw [Bd.returns] at h; cases h)
        refine ⟨_, _, retOut X68 hx Bd.returns rfl (Or.inr (Or.inr (Or.inr (Or.inr ⟨rfl, rfl, rfl⟩)))) (hb hby d_method_2_97) hr72, hrun72, hended72, _, _, rfl, ?_, (by show CHr Z OwnEL s.vm s.heap T68.vm T68.heap; rw [hh]; exact C71.trans (CHv.at X68 hZ hEL C71.1)), hW72.1, hW72.2.1, hW72.2.2.1, hW72.2.2.2.mono (by decide) (by decide)⟩
        show Q6 Z le x y z cs h0 n0 _ T68.heap _
        exact ⟨b62, rfl, N68, (((((((((((((Keep.refl h0 []).ext E1).ext E3).wr W6 (Or.inr (Nat.le_trans (Nat.le_trans (Nat.le_refl _) E1.1) (Nat.le_of_eq g3.symm)))).ext E8).wr W11 (Or.inr (Nat.le_trans (Nat.le_trans (Nat.le_trans (Nat.le_trans (Nat.le_refl _) E1.1) E3.1) (Keep.of_wr W6).1) (Nat.le_of_eq g8.symm)))).wr W14 (Or.inr (Nat.le_trans (Nat.le_trans (Nat.le_trans (Nat.le_trans (Nat.le_refl _) E1.1) E3.1) (Keep.of_wr W6).1) (Nat.le_of_eq g8.symm)))).ext E16).wr W19 (Or.inr (Nat.le_trans (Nat.le_trans (Nat.le_trans (Nat.le_trans (Nat.le_trans (Nat.le_trans (Nat.le_trans (Nat.le_refl _) E1.1) E3.1) (Keep.of_wr W6).1) E8.1) (Keep.of_wr W11).1) (Keep.of_wr W14).1) (Nat.le_of_eq g16.symm)))).wr W22 (Or.inr (Nat.le_trans (Nat.le_trans (Nat.le_trans (Nat.le_trans (Nat.le_trans (Nat.le_trans (Nat.le_trans (Nat.le_refl _) E1.1) E3.1) (Keep.of_wr W6).1) E8.1) (Keep.of_wr W11).1) (Keep.of_wr W14).1) (Nat.le_of_eq g16.symm)))).wr W25 (Or.inr (Nat.le_trans (Nat.le_trans (Nat.le_trans (Nat.le_trans (Nat.le_trans (Nat.le_trans (Nat.le_trans (Nat.le_refl _) E1.1) E3.1) (Keep.of_wr W6).1) E8.1) (Keep.of_wr W11).1) (Keep.of_wr W14).1) (Nat.le_of_eq g16.symm)))).ext E62).trans K68 (allS (P := fun x => x ∈ [] ∨ h0.size ≤ x) (Or.inr (Nat.le_trans (Nat.le_trans (Nat.le_trans (Nat.le_trans (Nat.le_trans (Nat.le_trans (Nat.le_trans (Nat.le_trans (Nat.le_trans (Nat.le_trans (Nat.le_trans (Nat.le_refl _) E1.1) E3.1) (Keep.of_wr W6).1) E8.1) (Keep.of_wr W11).1) (Keep.of_wr W14).1) E16.1) (Keep.of_wr W19).1) (Keep.of_wr W22).1) (Keep.of_wr W25).1) (Nat.le_of_eq g62.symm))) all0)), (Nat.le_trans (Nat.le_trans (Nat.le_trans (Nat.le_trans (Nat.le_trans (Nat.le_trans (Nat.le_trans (Nat.le_trans (Nat.le_trans (Nat.le_trans (Nat.le_trans (Nat.le_refl _) E1.1) E3.1) (Keep.of_wr W6).1) E8.1) (Keep.of_wr W11).1) (Keep.of_wr W14).1) E16.1) (Keep.of_wr W19).1) (Keep.of_wr W22).1) (Keep.of_wr W25).1) (Nat.le_of_eq g62.symm)), P68_0⟩
theorem pd_262 : parseMethodDescriptor "(ICCC)Ljava/lang/String;" = some ⟨[.int, .char, .char, .char], some (.object "java/lang/String")⟩ := by decide +kernel
theorem pd_263 : parseMethodDescriptor "(Ljava/lang/String;I)Lcom/example/identifier_grammars/identifiergrammars/Node;" = some ⟨[(.object "java/lang/String"), .int], some (.object "com/example/identifier_grammars/identifiergrammars/Node")⟩ := by decide +kernel
theorem pd_264 : parseMethodDescriptor "(Lcom/example/identifier_grammars/identifiergrammars/Node;Ljava/lang/String;I)Z" = some ⟨[(.object "com/example/identifier_grammars/identifiergrammars/Node"), (.object "java/lang/String"), .int], some .boolean⟩ := by decide +kernel
theorem pd_265 : parseMethodDescriptor "()Z" = some ⟨[], some .boolean⟩ := by decide +kernel
theorem ef_0 (m : MethodId) (c0 : Int32) (c1 : Int32) (c2 : Int32) (le : Int32) (d1 : Int32) (d2 : Int32) : entryFrame m #[(.int c0), (.int c1), (.int c2), (.int le), (.int d1), (.int d2)] maxLocals = mkF m 0 #[.val (.int c0), .val (.int c1), .val (.int c2), .val (.int le), .val (.int d1), .val (.int d2), .unset, .unset, .unset, .unset, .unset, .unset, .unset] [] := by first | (simp [entryFrame, mkF, argsToLocals, Value.category, maxLocals]; done) | rfl
def Q0 (Z : State) (c0 : Int32) (c1 : Int32) (c2 : Int32) (le : Int32) (d1 : Int32) (d2 : Int32) (kd : Addr) (no : Addr) (kn : ClassId) (cs : Int32) (h0 : Heap) (n0 : Nat) (vV : Option Value) (hH : Heap) (LL : List Loc) : Prop := vV = some (.int (1 : Int32)) ∧ Fr n0 LL ∧ Keep h0 hH []
def R0 (Z : State) (c0 : Int32) (c1 : Int32) (c2 : Int32) (le : Int32) (d1 : Int32) (d2 : Int32) (kd : Addr) (no : Addr) (kn : ClassId) (cs : Int32) (h0 : Heap) (n0 : Nat) (U : State) (o : Outcome) (U' : State) : Prop := ∃ vV LL, o = .returned vV ∧ Q0 Z c0 c1 c2 le d1 d2 kd no kn cs h0 n0 vV U'.heap LL ∧ CHr Z OwnEL U.vm U.heap U'.vm U'.heap ∧ ReturnedEndW U o U' LL room_1.cells room_1.slots
set_option maxRecDepth 65536 in
set_option maxHeartbeats 40000000 in
theorem rm0 (l : Launch) (Z : State) (a0 : Array Value) (hw : ∀ d ∈ tables_1, d.before a0 Z = true) (hEL : EW Z a0 OwnEL) (wS : ∀ a ∈ Bundle.stringAtoms, a.before a0 Z = true) (ws : List Jvm.Cond) (c0 : Int32) (c1 : Int32) (c2 : Int32) (le : Int32) (d1 : Int32) (d2 : Int32) (kd : Addr) (no : Addr) (kn : ClassId) (cs : Int32) (h0 : Heap) (n0 : Nat) (Z0 : n0 ≤ h0.size) (hp0 : Sta Z h0 "com/example/identifier_grammars/identifiergrammars/Node$Kind" "RULE" "Lcom/example/identifier_grammars/identifiergrammars/Node$Kind;" (.ref kd)) (hp1 : Sta Z h0 "com/example/identifier_grammars/identifiergrammars/Node" "NONE" "[I" (.ref no)) (hp2 : Arv Z h0 no kn .int (0 : Int32) [] (.int (0 : Int32))) (hp3 : Sta Z h0 "java/lang/String" "COMPACT_STRINGS" "Z" (.int cs)) (hp4 : ¬ cs = (0 : Int32)) :
    MetFree l x (head1 (Jvm.Cond.code x code maxLocals ret :: ws) room_1) (fun aA U => aA = #[(.int c0), (.int c1), (.int c2), (.int le), (.int d1), (.int d2)] ∧ Z.Warmed39 U.vm ∧ U.heap = h0 ∧ CHv Z OwnEL U.vm h0) (fun _ _ _ _ _ => True) (fun _ U o U' => ∃ vV LL, o = .returned vV ∧ Q0 Z c0 c1 c2 le d1 d2 kd no kn cs h0 n0 vV U'.heap LL ∧ CHr Z OwnEL U.vm U.heap U'.vm U'.heap ∧ ReturnedEndW U o U' LL room_1.cells room_1.slots) := by
  refine MetFree.of_bodySF (plainFor_of_name pn_46) hisR ?_
  intro p e s m args below meth cC s₁ Bd hml0 hP hK
  obtain ⟨rfl, hZ, hh, hCH⟩ := hP
  have hx := Bd.exec
  have hby := Bd.bytes
  have hml : cC.maxLocals = 13 := hml0
  have hown : s.vm.findClass "com/example/identifier_grammars/identifiergrammars/NodeRulePinLaw" = some m.cls := findClass_of_methodNamed Bd.named
  have hnm := (name_of_methodNamed Bd.named Bd.method).1
  have X0 : Stand p l e room_1 (s.setVm s.vm) m #[(.int c0), (.int c1), (.int c2), (.int le), (.int d1), (.int d2)] below meth cC s₁ [] 0 0 := Stand.of_body Bd
  have e0 : s₁.heap = h0 := by rw [← hh, Bd.state]; rfl
  have N0 := Fr.nil n0
  have C0 : CHr Z OwnEL s.vm h0 s.vm h0 := CHr.refl hCH
  have hS0 : s.Since s.vm h0.size := (State.WarmedH.refl s).since _
  have hk0 : h0.size ≤ h0.size := Nat.le_refl _
  show OwnFin p e below (R0 Z c0 c1 c2 le d1 d2 kd no kn cs h0 n0 s) (s₁.setTop (entryFrame m #[(.int c0), (.int c1), (.int c2), (.int le), (.int d1), (.int d2)] maxLocals))
  rw [ef_0 m c0 c1 c2 le d1 d2]
  refine OwnFin.step (fun tT kK => XS.iloadN X0.here hx rfl (hb hby at_0) rfl kK) ?_
  show OwnFin p e below _ (s₁.setTop (mkF m 1 #[.val (.int c0), .val (.int c1), .val (.int c2), .val (.int le), .val (.int d1), .val (.int d2), .unset, .unset, .unset, .unset, .unset, .unset, .unset] [(.int c0)]))
  refine OwnFin.step (fun tT kK => XS.sipush X0.here hx rfl (hb hby at_1) kK) ?_
  show OwnFin p e below _ (s₁.setTop (mkF m 4 #[.val (.int c0), .val (.int c1), .val (.int c2), .val (.int le), .val (.int d1), .val (.int d2), .unset, .unset, .unset, .unset, .unset, .unset, .unset] [(.int (255 : Int32)), (.int c0)]))
  refine OwnFin.step (fun tT kK => XS.iand X0.here hx rfl (hb hby at_4) rfl kK) ?_
  show OwnFin p e below _ (s₁.setTop (mkF m 5 #[.val (.int c0), .val (.int c1), .val (.int c2), .val (.int le), .val (.int d1), .val (.int d2), .unset, .unset, .unset, .unset, .unset, .unset, .unset] [(.int (c0 &&& (255 : Int32)))]))
  refine OwnFin.step (fun tT kK => XS.i2c X0.here hx rfl (hb hby at_5) rfl kK) ?_
  show OwnFin p e below _ (s₁.setTop (mkF m 6 #[.val (.int c0), .val (.int c1), .val (.int c2), .val (.int le), .val (.int d1), .val (.int d2), .unset, .unset, .unset, .unset, .unset, .unset, .unset] [(.int ((c0 &&& (255 : Int32)).toUInt32.toUInt16.toUInt32.toInt32))]))
  refine OwnFin.step (fun tT kK => XS.istore X0.here hx rfl (hb hby at_6) rfl (l' := #[.val (.int c0), .val (.int c1), .val (.int c2), .val (.int le), .val (.int d1), .val (.int d2), .val (.int ((c0 &&& (255 : Int32)).toUInt32.toUInt16.toUInt32.toInt32)), .unset, .unset, .unset, .unset, .unset, .unset]) rfl kK) ?_
  show OwnFin p e below _ (s₁.setTop (mkF m 8 #[.val (.int c0), .val (.int c1), .val (.int c2), .val (.int le), .val (.int d1), .val (.int d2), .val (.int ((c0 &&& (255 : Int32)).toUInt32.toUInt16.toUInt32.toInt32)), .unset, .unset, .unset, .unset, .unset, .unset] []))
  refine OwnFin.step (fun tT kK => XS.iloadN X0.here hx rfl (hb hby at_8) rfl kK) ?_
  show OwnFin p e below _ (s₁.setTop (mkF m 9 #[.val (.int c0), .val (.int c1), .val (.int c2), .val (.int le), .val (.int d1), .val (.int d2), .val (.int ((c0 &&& (255 : Int32)).toUInt32.toUInt16.toUInt32.toInt32)), .unset, .unset, .unset, .unset, .unset, .unset] [(.int c1)]))
  refine OwnFin.step (fun tT kK => XS.sipush X0.here hx rfl (hb hby at_9) kK) ?_
  show OwnFin p e below _ (s₁.setTop (mkF m 12 #[.val (.int c0), .val (.int c1), .val (.int c2), .val (.int le), .val (.int d1), .val (.int d2), .val (.int ((c0 &&& (255 : Int32)).toUInt32.toUInt16.toUInt32.toInt32)), .unset, .unset, .unset, .unset, .unset, .unset] [(.int (255 : Int32)), (.int c1)]))
  refine OwnFin.step (fun tT kK => XS.iand X0.here hx rfl (hb hby at_12) rfl kK) ?_
  show OwnFin p e below _ (s₁.setTop (mkF m 13 #[.val (.int c0), .val (.int c1), .val (.int c2), .val (.int le), .val (.int d1), .val (.int d2), .val (.int ((c0 &&& (255 : Int32)).toUInt32.toUInt16.toUInt32.toInt32)), .unset, .unset, .unset, .unset, .unset, .unset] [(.int (c1 &&& (255 : Int32)))]))
  refine OwnFin.step (fun tT kK => XS.i2c X0.here hx rfl (hb hby at_13) rfl kK) ?_
  show OwnFin p e below _ (s₁.setTop (mkF m 14 #[.val (.int c0), .val (.int c1), .val (.int c2), .val (.int le), .val (.int d1), .val (.int d2), .val (.int ((c0 &&& (255 : Int32)).toUInt32.toUInt16.toUInt32.toInt32)), .unset, .unset, .unset, .unset, .unset, .unset] [(.int ((c1 &&& (255 : Int32)).toUInt32.toUInt16.toUInt32.toInt32))]))
  refine OwnFin.step (fun tT kK => XS.istore X0.here hx rfl (hb hby at_14) rfl (l' := #[.val (.int c0), .val (.int c1), .val (.int c2), .val (.int le), .val (.int d1), .val (.int d2), .val (.int ((c0 &&& (255 : Int32)).toUInt32.toUInt16.toUInt32.toInt32)), .val (.int ((c1 &&& (255 : Int32)).toUInt32.toUInt16.toUInt32.toInt32)), .unset, .unset, .unset, .unset, .unset]) rfl kK) ?_
  show OwnFin p e below _ (s₁.setTop (mkF m 16 #[.val (.int c0), .val (.int c1), .val (.int c2), .val (.int le), .val (.int d1), .val (.int d2), .val (.int ((c0 &&& (255 : Int32)).toUInt32.toUInt16.toUInt32.toInt32)), .val (.int ((c1 &&& (255 : Int32)).toUInt32.toUInt16.toUInt32.toInt32)), .unset, .unset, .unset, .unset, .unset] []))
  refine OwnFin.step (fun tT kK => XS.iloadN X0.here hx rfl (hb hby at_16) rfl kK) ?_
  show OwnFin p e below _ (s₁.setTop (mkF m 17 #[.val (.int c0), .val (.int c1), .val (.int c2), .val (.int le), .val (.int d1), .val (.int d2), .val (.int ((c0 &&& (255 : Int32)).toUInt32.toUInt16.toUInt32.toInt32)), .val (.int ((c1 &&& (255 : Int32)).toUInt32.toUInt16.toUInt32.toInt32)), .unset, .unset, .unset, .unset, .unset] [(.int c2)]))
  refine OwnFin.step (fun tT kK => XS.sipush X0.here hx rfl (hb hby at_17) kK) ?_
  show OwnFin p e below _ (s₁.setTop (mkF m 20 #[.val (.int c0), .val (.int c1), .val (.int c2), .val (.int le), .val (.int d1), .val (.int d2), .val (.int ((c0 &&& (255 : Int32)).toUInt32.toUInt16.toUInt32.toInt32)), .val (.int ((c1 &&& (255 : Int32)).toUInt32.toUInt16.toUInt32.toInt32)), .unset, .unset, .unset, .unset, .unset] [(.int (255 : Int32)), (.int c2)]))
  refine OwnFin.step (fun tT kK => XS.iand X0.here hx rfl (hb hby at_20) rfl kK) ?_
  show OwnFin p e below _ (s₁.setTop (mkF m 21 #[.val (.int c0), .val (.int c1), .val (.int c2), .val (.int le), .val (.int d1), .val (.int d2), .val (.int ((c0 &&& (255 : Int32)).toUInt32.toUInt16.toUInt32.toInt32)), .val (.int ((c1 &&& (255 : Int32)).toUInt32.toUInt16.toUInt32.toInt32)), .unset, .unset, .unset, .unset, .unset] [(.int (c2 &&& (255 : Int32)))]))
  refine OwnFin.step (fun tT kK => XS.i2c X0.here hx rfl (hb hby at_21) rfl kK) ?_
  show OwnFin p e below _ (s₁.setTop (mkF m 22 #[.val (.int c0), .val (.int c1), .val (.int c2), .val (.int le), .val (.int d1), .val (.int d2), .val (.int ((c0 &&& (255 : Int32)).toUInt32.toUInt16.toUInt32.toInt32)), .val (.int ((c1 &&& (255 : Int32)).toUInt32.toUInt16.toUInt32.toInt32)), .unset, .unset, .unset, .unset, .unset] [(.int ((c2 &&& (255 : Int32)).toUInt32.toUInt16.toUInt32.toInt32))]))
  refine OwnFin.step (fun tT kK => XS.istore X0.here hx rfl (hb hby at_22) rfl (l' := #[.val (.int c0), .val (.int c1), .val (.int c2), .val (.int le), .val (.int d1), .val (.int d2), .val (.int ((c0 &&& (255 : Int32)).toUInt32.toUInt16.toUInt32.toInt32)), .val (.int ((c1 &&& (255 : Int32)).toUInt32.toUInt16.toUInt32.toInt32)), .val (.int ((c2 &&& (255 : Int32)).toUInt32.toUInt16.toUInt32.toInt32)), .unset, .unset, .unset, .unset]) rfl kK) ?_
  show OwnFin p e below _ (s₁.setTop (mkF m 24 #[.val (.int c0), .val (.int c1), .val (.int c2), .val (.int le), .val (.int d1), .val (.int d2), .val (.int ((c0 &&& (255 : Int32)).toUInt32.toUInt16.toUInt32.toInt32)), .val (.int ((c1 &&& (255 : Int32)).toUInt32.toUInt16.toUInt32.toInt32)), .val (.int ((c2 &&& (255 : Int32)).toUInt32.toUInt16.toUInt32.toInt32)), .unset, .unset, .unset, .unset] []))
  refine OwnFin.step (fun tT kK => XS.iloadN X0.here hx rfl (hb hby at_24) rfl kK) ?_
  show OwnFin p e below _ (s₁.setTop (mkF m 25 #[.val (.int c0), .val (.int c1), .val (.int c2), .val (.int le), .val (.int d1), .val (.int d2), .val (.int ((c0 &&& (255 : Int32)).toUInt32.toUInt16.toUInt32.toInt32)), .val (.int ((c1 &&& (255 : Int32)).toUInt32.toUInt16.toUInt32.toInt32)), .val (.int ((c2 &&& (255 : Int32)).toUInt32.toUInt16.toUInt32.toInt32)), .unset, .unset, .unset, .unset] [(.int le)]))
  refine OwnFin.step (fun tT kK => XS.iconst X0.here hx rfl (hb hby at_25) kK) ?_
  show OwnFin p e below _ (s₁.setTop (mkF m 26 #[.val (.int c0), .val (.int c1), .val (.int c2), .val (.int le), .val (.int d1), .val (.int d2), .val (.int ((c0 &&& (255 : Int32)).toUInt32.toUInt16.toUInt32.toInt32)), .val (.int ((c1 &&& (255 : Int32)).toUInt32.toUInt16.toUInt32.toInt32)), .val (.int ((c2 &&& (255 : Int32)).toUInt32.toUInt16.toUInt32.toInt32)), .unset, .unset, .unset, .unset] [(.int (3 : Int32)), (.int le)]))
  refine OwnFin.step (fun tT kK => XS.iand X0.here hx rfl (hb hby at_26) rfl kK) ?_
  show OwnFin p e below _ (s₁.setTop (mkF m 27 #[.val (.int c0), .val (.int c1), .val (.int c2), .val (.int le), .val (.int d1), .val (.int d2), .val (.int ((c0 &&& (255 : Int32)).toUInt32.toUInt16.toUInt32.toInt32)), .val (.int ((c1 &&& (255 : Int32)).toUInt32.toUInt16.toUInt32.toInt32)), .val (.int ((c2 &&& (255 : Int32)).toUInt32.toUInt16.toUInt32.toInt32)), .unset, .unset, .unset, .unset] [(.int (le &&& (3 : Int32)))]))
  refine OwnFin.step (fun tT kK => XS.iload X0.here hx rfl (hb hby at_27) rfl kK) ?_
  show OwnFin p e below _ (s₁.setTop (mkF m 29 #[.val (.int c0), .val (.int c1), .val (.int c2), .val (.int le), .val (.int d1), .val (.int d2), .val (.int ((c0 &&& (255 : Int32)).toUInt32.toUInt16.toUInt32.toInt32)), .val (.int ((c1 &&& (255 : Int32)).toUInt32.toUInt16.toUInt32.toInt32)), .val (.int ((c2 &&& (255 : Int32)).toUInt32.toUInt16.toUInt32.toInt32)), .unset, .unset, .unset, .unset] [(.int ((c0 &&& (255 : Int32)).toUInt32.toUInt16.toUInt32.toInt32)), (.int (le &&& (3 : Int32)))]))
  refine OwnFin.step (fun tT kK => XS.iload X0.here hx rfl (hb hby at_29) rfl kK) ?_
  show OwnFin p e below _ (s₁.setTop (mkF m 31 #[.val (.int c0), .val (.int c1), .val (.int c2), .val (.int le), .val (.int d1), .val (.int d2), .val (.int ((c0 &&& (255 : Int32)).toUInt32.toUInt16.toUInt32.toInt32)), .val (.int ((c1 &&& (255 : Int32)).toUInt32.toUInt16.toUInt32.toInt32)), .val (.int ((c2 &&& (255 : Int32)).toUInt32.toUInt16.toUInt32.toInt32)), .unset, .unset, .unset, .unset] [(.int ((c1 &&& (255 : Int32)).toUInt32.toUInt16.toUInt32.toInt32)), (.int ((c0 &&& (255 : Int32)).toUInt32.toUInt16.toUInt32.toInt32)), (.int (le &&& (3 : Int32)))]))
  refine OwnFin.step (fun tT kK => XS.iload X0.here hx rfl (hb hby at_31) rfl kK) ?_
  show OwnFin p e below _ (s₁.setTop (mkF m 33 #[.val (.int c0), .val (.int c1), .val (.int c2), .val (.int le), .val (.int d1), .val (.int d2), .val (.int ((c0 &&& (255 : Int32)).toUInt32.toUInt16.toUInt32.toInt32)), .val (.int ((c1 &&& (255 : Int32)).toUInt32.toUInt16.toUInt32.toInt32)), .val (.int ((c2 &&& (255 : Int32)).toUInt32.toUInt16.toUInt32.toInt32)), .unset, .unset, .unset, .unset] [(.int ((c2 &&& (255 : Int32)).toUInt32.toUInt16.toUInt32.toInt32)), (.int ((c1 &&& (255 : Int32)).toUInt32.toUInt16.toUInt32.toInt32)), (.int ((c0 &&& (255 : Int32)).toUInt32.toUInt16.toUInt32.toInt32)), (.int (le &&& (3 : Int32)))]))
  obtain ⟨_, _, ⟨T1, L1, k1, n1⟩, -, X1', hs1, hg1, ⟨Lc1, hQ1, l1, y1, z1, cq1⟩, st1⟩ := callSS X0 hx (y := (⟨"com/example/identifier_grammars/identifiergrammars/NodeRulePinLaw", "pick", "(ICCC)Ljava/lang/String;"⟩ : MethodName)) hown (mvT hZ (hw _ (List.mem_of_getElem? (i := 0) rfl))) (mvT hZ (hw _ (List.mem_of_getElem? (i := 1) rfl))) (mvT hZ (hw _ (List.mem_of_getElem? (i := 2) rfl))) (mvT hZ (hw _ (List.mem_of_getElem? (i := 3) rfl))) (by decide) (backOfSH (W := 0) (rm6 l Z a0 hw hEL wS [] (le &&& (3 : Int32)) ((c0 &&& (255 : Int32)).toUInt32.toUInt16.toUInt32.toInt32) ((c1 &&& (255 : Int32)).toUInt32.toUInt16.toUInt32.toInt32) ((c2 &&& (255 : Int32)).toUInt32.toUInt16.toUInt32.toInt32) cs h0 n0 Z0 hp3 (hp4) ((own_c8 _).1) ((own_c8 _).1) ((own_c8 _).1) ((own_c8 _).2) ((own_c8 _).2) ((own_c8 _).2)) hZ (hw _ (List.mem_of_getElem? (i := 3) rfl)) (hw _ (List.mem_of_getElem? (i := 2) rfl)) (by decide) (by decide) hEL C0.1) (g := (mkF m 33 #[.val (.int c0), .val (.int c1), .val (.int c2), .val (.int le), .val (.int d1), .val (.int d2), .val (.int ((c0 &&& (255 : Int32)).toUInt32.toUInt16.toUInt32.toInt32)), .val (.int ((c1 &&& (255 : Int32)).toUInt32.toUInt16.toUInt32.toInt32)), .val (.int ((c2 &&& (255 : Int32)).toUInt32.toUInt16.toUInt32.toInt32)), .unset, .unset, .unset, .unset] [(.int ((c2 &&& (255 : Int32)).toUInt32.toUInt16.toUInt32.toInt32)), (.int ((c1 &&& (255 : Int32)).toUInt32.toUInt16.toUInt32.toInt32)), (.int ((c0 &&& (255 : Int32)).toUInt32.toUInt16.toUInt32.toInt32)), (.int (le &&& (3 : Int32)))])) rfl (by rw [hml]; rfl) (argsL := [(.int (le &&& (3 : Int32))), (.int ((c0 &&& (255 : Int32)).toUInt32.toUInt16.toUInt32.toInt32)), (.int ((c1 &&& (255 : Int32)).toUInt32.toUInt16.toUInt32.toInt32)), (.int ((c2 &&& (255 : Int32)).toUInt32.toUInt16.toUInt32.toInt32))]) (rest := []) (lenOf pd_262 rfl) rfl (by show 2 * 0 + _ ≤ _; exact Nat.le_of_eq rfl) (hb hby at_33) (fun _ _ => ⟨rfl, e0, (by decide : 0 + 9 ≤ _), (by decide : 0 + 18 ≤ _)⟩)
  dsimp only [Pt.U, Pt.locs, Pt.cells, Pt.slots] at X1' hs1 hg1 l1 y1 z1 st1 hQ1 cq1
  subst l1 y1 z1
  obtain ⟨X1, hS1, hZ, hown⟩ := rebS hS0 (by rw [e0]; exact (Nat.le_trans hk0 (Nat.le_refl _))) X1' hs1 hg1 hZ hown
  obtain ⟨b2, ⟨rfl, N1q, K1, B1_0, P1_0⟩⟩ := hQ1
  have N1 := Fr.app N0 N1q
  refine OwnFin.step (fun tT kK => st1.trans kK) ?_
  have E1 : Ext h0 T1.heap := ⟨K1.1, fun x c q => K1.2.1 x c q nin0⟩
  have cp3 := cq1
  have C3 := C0.trans cp3
  show OwnFin p e below _ (T1.setTop (mkF m 36 #[.val (.int c0), .val (.int c1), .val (.int c2), .val (.int le), .val (.int d1), .val (.int d2), .val (.int ((c0 &&& (255 : Int32)).toUInt32.toUInt16.toUInt32.toInt32)), .val (.int ((c1 &&& (255 : Int32)).toUInt32.toUInt16.toUInt32.toInt32)), .val (.int ((c2 &&& (255 : Int32)).toUInt32.toUInt16.toUInt32.toInt32)), .unset, .unset, .unset, .unset] [(.ref b2)]))
  refine OwnFin.step (fun tT kK => XS.astore X1.here hx rfl (hb hby at_36) rfl rfl (l' := #[.val (.int c0), .val (.int c1), .val (.int c2), .val (.int le), .val (.int d1), .val (.int d2), .val (.int ((c0 &&& (255 : Int32)).toUInt32.toUInt16.toUInt32.toInt32)), .val (.int ((c1 &&& (255 : Int32)).toUInt32.toUInt16.toUInt32.toInt32)), .val (.int ((c2 &&& (255 : Int32)).toUInt32.toUInt16.toUInt32.toInt32)), .val (.ref b2), .unset, .unset, .unset]) rfl kK) ?_
  show OwnFin p e below _ (T1.setTop (mkF m 38 #[.val (.int c0), .val (.int c1), .val (.int c2), .val (.int le), .val (.int d1), .val (.int d2), .val (.int ((c0 &&& (255 : Int32)).toUInt32.toUInt16.toUInt32.toInt32)), .val (.int ((c1 &&& (255 : Int32)).toUInt32.toUInt16.toUInt32.toInt32)), .val (.int ((c2 &&& (255 : Int32)).toUInt32.toUInt16.toUInt32.toInt32)), .val (.ref b2), .unset, .unset, .unset] []))
  refine OwnFin.step (fun tT kK => XS.iloadN X1.here hx rfl (hb hby at_38) rfl kK) ?_
  show OwnFin p e below _ (T1.setTop (mkF m 39 #[.val (.int c0), .val (.int c1), .val (.int c2), .val (.int le), .val (.int d1), .val (.int d2), .val (.int ((c0 &&& (255 : Int32)).toUInt32.toUInt16.toUInt32.toInt32)), .val (.int ((c1 &&& (255 : Int32)).toUInt32.toUInt16.toUInt32.toInt32)), .val (.int ((c2 &&& (255 : Int32)).toUInt32.toUInt16.toUInt32.toInt32)), .val (.ref b2), .unset, .unset, .unset] [(.int le)]))
  refine OwnFin.step (fun tT kK => XS.iconst X1.here hx rfl (hb hby at_39) kK) ?_
  show OwnFin p e below _ (T1.setTop (mkF m 40 #[.val (.int c0), .val (.int c1), .val (.int c2), .val (.int le), .val (.int d1), .val (.int d2), .val (.int ((c0 &&& (255 : Int32)).toUInt32.toUInt16.toUInt32.toInt32)), .val (.int ((c1 &&& (255 : Int32)).toUInt32.toUInt16.toUInt32.toInt32)), .val (.int ((c2 &&& (255 : Int32)).toUInt32.toUInt16.toUInt32.toInt32)), .val (.ref b2), .unset, .unset, .unset] [(.int (2 : Int32)), (.int le)]))
  refine OwnFin.step (fun tT kK => XS.iushr X1.here hx rfl (hb hby at_40) rfl kK) ?_
  show OwnFin p e below _ (T1.setTop (mkF m 41 #[.val (.int c0), .val (.int c1), .val (.int c2), .val (.int le), .val (.int d1), .val (.int d2), .val (.int ((c0 &&& (255 : Int32)).toUInt32.toUInt16.toUInt32.toInt32)), .val (.int ((c1 &&& (255 : Int32)).toUInt32.toUInt16.toUInt32.toInt32)), .val (.int ((c2 &&& (255 : Int32)).toUInt32.toUInt16.toUInt32.toInt32)), .val (.ref b2), .unset, .unset, .unset] [(.int ((le.toUInt32 >>> ((2 : Int32) &&& 31).toUInt32).toInt32))]))
  refine OwnFin.step (fun tT kK => XS.iconst X1.here hx rfl (hb hby at_41) kK) ?_
  show OwnFin p e below _ (T1.setTop (mkF m 42 #[.val (.int c0), .val (.int c1), .val (.int c2), .val (.int le), .val (.int d1), .val (.int d2), .val (.int ((c0 &&& (255 : Int32)).toUInt32.toUInt16.toUInt32.toInt32)), .val (.int ((c1 &&& (255 : Int32)).toUInt32.toUInt16.toUInt32.toInt32)), .val (.int ((c2 &&& (255 : Int32)).toUInt32.toUInt16.toUInt32.toInt32)), .val (.ref b2), .unset, .unset, .unset] [(.int (3 : Int32)), (.int ((le.toUInt32 >>> ((2 : Int32) &&& 31).toUInt32).toInt32))]))
  refine OwnFin.step (fun tT kK => XS.iand X1.here hx rfl (hb hby at_42) rfl kK) ?_
  show OwnFin p e below _ (T1.setTop (mkF m 43 #[.val (.int c0), .val (.int c1), .val (.int c2), .val (.int le), .val (.int d1), .val (.int d2), .val (.int ((c0 &&& (255 : Int32)).toUInt32.toUInt16.toUInt32.toInt32)), .val (.int ((c1 &&& (255 : Int32)).toUInt32.toUInt16.toUInt32.toInt32)), .val (.int ((c2 &&& (255 : Int32)).toUInt32.toUInt16.toUInt32.toInt32)), .val (.ref b2), .unset, .unset, .unset] [(.int (((le.toUInt32 >>> ((2 : Int32) &&& 31).toUInt32).toInt32) &&& (3 : Int32)))]))
  refine OwnFin.step (fun tT kK => XS.iload X1.here hx rfl (hb hby at_43) rfl kK) ?_
  show OwnFin p e below _ (T1.setTop (mkF m 45 #[.val (.int c0), .val (.int c1), .val (.int c2), .val (.int le), .val (.int d1), .val (.int d2), .val (.int ((c0 &&& (255 : Int32)).toUInt32.toUInt16.toUInt32.toInt32)), .val (.int ((c1 &&& (255 : Int32)).toUInt32.toUInt16.toUInt32.toInt32)), .val (.int ((c2 &&& (255 : Int32)).toUInt32.toUInt16.toUInt32.toInt32)), .val (.ref b2), .unset, .unset, .unset] [(.int ((c2 &&& (255 : Int32)).toUInt32.toUInt16.toUInt32.toInt32)), (.int (((le.toUInt32 >>> ((2 : Int32) &&& 31).toUInt32).toInt32) &&& (3 : Int32)))]))
  refine OwnFin.step (fun tT kK => XS.iload X1.here hx rfl (hb hby at_45) rfl kK) ?_
  show OwnFin p e below _ (T1.setTop (mkF m 47 #[.val (.int c0), .val (.int c1), .val (.int c2), .val (.int le), .val (.int d1), .val (.int d2), .val (.int ((c0 &&& (255 : Int32)).toUInt32.toUInt16.toUInt32.toInt32)), .val (.int ((c1 &&& (255 : Int32)).toUInt32.toUInt16.toUInt32.toInt32)), .val (.int ((c2 &&& (255 : Int32)).toUInt32.toUInt16.toUInt32.toInt32)), .val (.ref b2), .unset, .unset, .unset] [(.int ((c0 &&& (255 : Int32)).toUInt32.toUInt16.toUInt32.toInt32)), (.int ((c2 &&& (255 : Int32)).toUInt32.toUInt16.toUInt32.toInt32)), (.int (((le.toUInt32 >>> ((2 : Int32) &&& 31).toUInt32).toInt32) &&& (3 : Int32)))]))
  refine OwnFin.step (fun tT kK => XS.iload X1.here hx rfl (hb hby at_47) rfl kK) ?_
  show OwnFin p e below _ (T1.setTop (mkF m 49 #[.val (.int c0), .val (.int c1), .val (.int c2), .val (.int le), .val (.int d1), .val (.int d2), .val (.int ((c0 &&& (255 : Int32)).toUInt32.toUInt16.toUInt32.toInt32)), .val (.int ((c1 &&& (255 : Int32)).toUInt32.toUInt16.toUInt32.toInt32)), .val (.int ((c2 &&& (255 : Int32)).toUInt32.toUInt16.toUInt32.toInt32)), .val (.ref b2), .unset, .unset, .unset] [(.int ((c1 &&& (255 : Int32)).toUInt32.toUInt16.toUInt32.toInt32)), (.int ((c0 &&& (255 : Int32)).toUInt32.toUInt16.toUInt32.toInt32)), (.int ((c2 &&& (255 : Int32)).toUInt32.toUInt16.toUInt32.toInt32)), (.int (((le.toUInt32 >>> ((2 : Int32) &&& 31).toUInt32).toInt32) &&& (3 : Int32)))]))
  have f4 : Sta Z T1.heap "java/lang/String" "COMPACT_STRINGS" "Z" (.int cs) := (hp3.ext E1)
  obtain ⟨_, _, ⟨T5, L5, k5, n5⟩, -, X5', hs5, hg5, ⟨Lc5, hQ5, l5, y5, z5, cq5⟩, st5⟩ := callSS X1 hx (y := (⟨"com/example/identifier_grammars/identifiergrammars/NodeRulePinLaw", "pick", "(ICCC)Ljava/lang/String;"⟩ : MethodName)) hown (mvT hZ (hw _ (List.mem_of_getElem? (i := 0) rfl))) (mvT hZ (hw _ (List.mem_of_getElem? (i := 1) rfl))) (mvT hZ (hw _ (List.mem_of_getElem? (i := 2) rfl))) (mvT hZ (hw _ (List.mem_of_getElem? (i := 3) rfl))) (by decide) (backOfSH (W := 0) (rm6 l Z a0 hw hEL wS [] (((le.toUInt32 >>> ((2 : Int32) &&& 31).toUInt32).toInt32) &&& (3 : Int32)) ((c2 &&& (255 : Int32)).toUInt32.toUInt16.toUInt32.toInt32) ((c0 &&& (255 : Int32)).toUInt32.toUInt16.toUInt32.toInt32) ((c1 &&& (255 : Int32)).toUInt32.toUInt16.toUInt32.toInt32) cs T1.heap n0 (Nat.le_trans Z0 E1.1) f4 (hp4) ((own_c8 _).1) ((own_c8 _).1) ((own_c8 _).1) ((own_c8 _).2) ((own_c8 _).2) ((own_c8 _).2)) hZ (hw _ (List.mem_of_getElem? (i := 3) rfl)) (hw _ (List.mem_of_getElem? (i := 2) rfl)) (by decide) (by decide) hEL C3.1) (g := (mkF m 49 #[.val (.int c0), .val (.int c1), .val (.int c2), .val (.int le), .val (.int d1), .val (.int d2), .val (.int ((c0 &&& (255 : Int32)).toUInt32.toUInt16.toUInt32.toInt32)), .val (.int ((c1 &&& (255 : Int32)).toUInt32.toUInt16.toUInt32.toInt32)), .val (.int ((c2 &&& (255 : Int32)).toUInt32.toUInt16.toUInt32.toInt32)), .val (.ref b2), .unset, .unset, .unset] [(.int ((c1 &&& (255 : Int32)).toUInt32.toUInt16.toUInt32.toInt32)), (.int ((c0 &&& (255 : Int32)).toUInt32.toUInt16.toUInt32.toInt32)), (.int ((c2 &&& (255 : Int32)).toUInt32.toUInt16.toUInt32.toInt32)), (.int (((le.toUInt32 >>> ((2 : Int32) &&& 31).toUInt32).toInt32) &&& (3 : Int32)))])) rfl (by rw [hml]; rfl) (argsL := [(.int (((le.toUInt32 >>> ((2 : Int32) &&& 31).toUInt32).toInt32) &&& (3 : Int32))), (.int ((c2 &&& (255 : Int32)).toUInt32.toUInt16.toUInt32.toInt32)), (.int ((c0 &&& (255 : Int32)).toUInt32.toUInt16.toUInt32.toInt32)), (.int ((c1 &&& (255 : Int32)).toUInt32.toUInt16.toUInt32.toInt32))]) (rest := []) (lenOf pd_262 rfl) rfl (by show 2 * 0 + _ ≤ _; exact Nat.le_of_eq rfl) (hb hby at_49) (fun _ _ => ⟨rfl, rfl, (by decide : 9 + 9 ≤ _), (by decide : 18 + 18 ≤ _)⟩)
  dsimp only [Pt.U, Pt.locs, Pt.cells, Pt.slots] at X5' hs5 hg5 l5 y5 z5 st5 hQ5 cq5
  subst l5 y5 z5
  obtain ⟨X5, hS5, hZ, hown⟩ := rebS hS1 (Nat.le_trans (Nat.le_refl T1.heap.size) (Nat.le_refl _)) X5' hs5 hg5 hZ hown
  obtain ⟨b6, ⟨rfl, N5q, K5, B5_0, P5_0⟩⟩ := hQ5
  have N5 := Fr.app N1 N5q
  refine OwnFin.step (fun tT kK => st5.trans kK) ?_
  have E5 : Ext T1.heap T5.heap := ⟨K5.1, fun x c q => K5.2.1 x c q nin0⟩
  have cp7 := cq5
  have C7 := C3.trans cp7
  show OwnFin p e below _ (T5.setTop (mkF m 52 #[.val (.int c0), .val (.int c1), .val (.int c2), .val (.int le), .val (.int d1), .val (.int d2), .val (.int ((c0 &&& (255 : Int32)).toUInt32.toUInt16.toUInt32.toInt32)), .val (.int ((c1 &&& (255 : Int32)).toUInt32.toUInt16.toUInt32.toInt32)), .val (.int ((c2 &&& (255 : Int32)).toUInt32.toUInt16.toUInt32.toInt32)), .val (.ref b2), .unset, .unset, .unset] [(.ref b6)]))
  refine OwnFin.step (fun tT kK => XS.astore X5.here hx rfl (hb hby at_52) rfl rfl (l' := #[.val (.int c0), .val (.int c1), .val (.int c2), .val (.int le), .val (.int d1), .val (.int d2), .val (.int ((c0 &&& (255 : Int32)).toUInt32.toUInt16.toUInt32.toInt32)), .val (.int ((c1 &&& (255 : Int32)).toUInt32.toUInt16.toUInt32.toInt32)), .val (.int ((c2 &&& (255 : Int32)).toUInt32.toUInt16.toUInt32.toInt32)), .val (.ref b2), .val (.ref b6), .unset, .unset]) rfl kK) ?_
  show OwnFin p e below _ (T5.setTop (mkF m 54 #[.val (.int c0), .val (.int c1), .val (.int c2), .val (.int le), .val (.int d1), .val (.int d2), .val (.int ((c0 &&& (255 : Int32)).toUInt32.toUInt16.toUInt32.toInt32)), .val (.int ((c1 &&& (255 : Int32)).toUInt32.toUInt16.toUInt32.toInt32)), .val (.int ((c2 &&& (255 : Int32)).toUInt32.toUInt16.toUInt32.toInt32)), .val (.ref b2), .val (.ref b6), .unset, .unset] []))
  refine OwnFin.step (fun tT kK => XS.aload X5.here hx rfl (hb hby at_54) rfl rfl kK) ?_
  show OwnFin p e below _ (T5.setTop (mkF m 56 #[.val (.int c0), .val (.int c1), .val (.int c2), .val (.int le), .val (.int d1), .val (.int d2), .val (.int ((c0 &&& (255 : Int32)).toUInt32.toUInt16.toUInt32.toInt32)), .val (.int ((c1 &&& (255 : Int32)).toUInt32.toUInt16.toUInt32.toInt32)), .val (.int ((c2 &&& (255 : Int32)).toUInt32.toUInt16.toUInt32.toInt32)), .val (.ref b2), .val (.ref b6), .unset, .unset] [(.ref b2)]))
  refine OwnFin.step (fun tT kK => XS.iload X5.here hx rfl (hb hby at_56) rfl kK) ?_
  show OwnFin p e below _ (T5.setTop (mkF m 58 #[.val (.int c0), .val (.int c1), .val (.int c2), .val (.int le), .val (.int d1), .val (.int d2), .val (.int ((c0 &&& (255 : Int32)).toUInt32.toUInt16.toUInt32.toInt32)), .val (.int ((c1 &&& (255 : Int32)).toUInt32.toUInt16.toUInt32.toInt32)), .val (.int ((c2 &&& (255 : Int32)).toUInt32.toUInt16.toUInt32.toInt32)), .val (.ref b2), .val (.ref b6), .unset, .unset] [(.int d1), (.ref b2)]))
  have f8 : Sta Z T5.heap "com/example/identifier_grammars/identifiergrammars/Node$Kind" "RULE" "Lcom/example/identifier_grammars/identifiergrammars/Node$Kind;" (.ref kd) := ((hp0.ext E1).ext E5)
  have f9 : Sta Z T5.heap "com/example/identifier_grammars/identifiergrammars/Node" "NONE" "[I" (.ref no) := ((hp1.ext E1).ext E5)
  obtain ⟨_, _, ⟨T10, L10, k10, n10⟩, -, X10, ⟨Lc10, hQ10, l10, y10, z10⟩, st10⟩ := Jvm.LawKit.callS X5 hx (y := (⟨"com/example/identifier_grammars/identifiergrammars/Node", "rule", "(Ljava/lang/String;I)Lcom/example/identifier_grammars/identifiergrammars/Node;"⟩ : MethodName)) hown (mvT hZ (hw _ (List.mem_of_getElem? (i := 37) rfl))) (mvT hZ (hw _ (List.mem_of_getElem? (i := 38) rfl))) (mvT hZ (hw _ (List.mem_of_getElem? (i := 39) rfl))) (mvT hZ (hw _ (List.mem_of_getElem? (i := 40) rfl))) (by decide) (backOf (W := 0) (rm2 l Z a0 hw hEL wS [] b2 d1 kd no T5.heap n0 (Nat.le_trans (Nat.le_trans Z0 E1.1) E5.1) f8 f9) hZ (hw _ (List.mem_of_getElem? (i := 40) rfl)) (hw _ (List.mem_of_getElem? (i := 39) rfl)) (by decide) (by decide)) (g := (mkF m 58 #[.val (.int c0), .val (.int c1), .val (.int c2), .val (.int le), .val (.int d1), .val (.int d2), .val (.int ((c0 &&& (255 : Int32)).toUInt32.toUInt16.toUInt32.toInt32)), .val (.int ((c1 &&& (255 : Int32)).toUInt32.toUInt16.toUInt32.toInt32)), .val (.int ((c2 &&& (255 : Int32)).toUInt32.toUInt16.toUInt32.toInt32)), .val (.ref b2), .val (.ref b6), .unset, .unset] [(.int d1), (.ref b2)])) rfl (by rw [hml]; rfl) (argsL := [(.ref b2), (.int d1)]) (rest := []) (lenOf pd_263 rfl) rfl (by show 2 * 0 + _ ≤ _; exact Nat.le_of_eq rfl) (hb hby at_58) (fun _ _ => ⟨rfl, rfl, (by decide : 18 + 2 ≤ _), (by decide : 36 + 9 ≤ _)⟩)
  dsimp only [Pt.U, Pt.locs, Pt.cells, Pt.slots] at X10 l10 y10 z10 st10 hQ10
  subst l10 y10 z10
  obtain ⟨b11, ⟨ch12, ⟨kc13, ⟨rfl, N10q, K10, B10_0, B10_1, P10_0, P10_1, P10_2, P10_3, P10_4, P10_5, P10_6, P10_7, P10_8, P10_9⟩⟩⟩⟩ := hQ10
  have N10 := Fr.app N5 N10q
  refine OwnFin.step st10 ?_
  have E10 : Ext T5.heap T10.heap := ⟨K10.1, fun x c q => K10.2.1 x c q nin0⟩
  have cp14 := (CHr.ext E10 C7.1)
  have C14 := C7.trans cp14
  show OwnFin p e below _ (T10.setTop (mkF m 61 #[.val (.int c0), .val (.int c1), .val (.int c2), .val (.int le), .val (.int d1), .val (.int d2), .val (.int ((c0 &&& (255 : Int32)).toUInt32.toUInt16.toUInt32.toInt32)), .val (.int ((c1 &&& (255 : Int32)).toUInt32.toUInt16.toUInt32.toInt32)), .val (.int ((c2 &&& (255 : Int32)).toUInt32.toUInt16.toUInt32.toInt32)), .val (.ref b2), .val (.ref b6), .unset, .unset] [(.ref b11)]))
  refine OwnFin.step (fun tT kK => XS.astore X10.here hx rfl (hb hby at_61) rfl rfl (l' := #[.val (.int c0), .val (.int c1), .val (.int c2), .val (.int le), .val (.int d1), .val (.int d2), .val (.int ((c0 &&& (255 : Int32)).toUInt32.toUInt16.toUInt32.toInt32)), .val (.int ((c1 &&& (255 : Int32)).toUInt32.toUInt16.toUInt32.toInt32)), .val (.int ((c2 &&& (255 : Int32)).toUInt32.toUInt16.toUInt32.toInt32)), .val (.ref b2), .val (.ref b6), .val (.ref b11), .unset]) rfl kK) ?_
  show OwnFin p e below _ (T10.setTop (mkF m 63 #[.val (.int c0), .val (.int c1), .val (.int c2), .val (.int le), .val (.int d1), .val (.int d2), .val (.int ((c0 &&& (255 : Int32)).toUInt32.toUInt16.toUInt32.toInt32)), .val (.int ((c1 &&& (255 : Int32)).toUInt32.toUInt16.toUInt32.toInt32)), .val (.int ((c2 &&& (255 : Int32)).toUInt32.toUInt16.toUInt32.toInt32)), .val (.ref b2), .val (.ref b6), .val (.ref b11), .unset] []))
  refine OwnFin.step (fun tT kK => XS.aload X10.here hx rfl (hb hby at_63) rfl rfl kK) ?_
  show OwnFin p e below _ (T10.setTop (mkF m 65 #[.val (.int c0), .val (.int c1), .val (.int c2), .val (.int le), .val (.int d1), .val (.int d2), .val (.int ((c0 &&& (255 : Int32)).toUInt32.toUInt16.toUInt32.toInt32)), .val (.int ((c1 &&& (255 : Int32)).toUInt32.toUInt16.toUInt32.toInt32)), .val (.int ((c2 &&& (255 : Int32)).toUInt32.toUInt16.toUInt32.toInt32)), .val (.ref b2), .val (.ref b6), .val (.ref b11), .unset] [(.ref b6)]))
  refine OwnFin.step (fun tT kK => XS.iload X10.here hx rfl (hb hby at_65) rfl kK) ?_
  show OwnFin p e below _ (T10.setTop (mkF m 67 #[.val (.int c0), .val (.int c1), .val (.int c2), .val (.int le), .val (.int d1), .val (.int d2), .val (.int ((c0 &&& (255 : Int32)).toUInt32.toUInt16.toUInt32.toInt32)), .val (.int ((c1 &&& (255 : Int32)).toUInt32.toUInt16.toUInt32.toInt32)), .val (.int ((c2 &&& (255 : Int32)).toUInt32.toUInt16.toUInt32.toInt32)), .val (.ref b2), .val (.ref b6), .val (.ref b11), .unset] [(.int d2), (.ref b6)]))
  have f15 : Sta Z T10.heap "com/example/identifier_grammars/identifiergrammars/Node$Kind" "RULE" "Lcom/example/identifier_grammars/identifiergrammars/Node$Kind;" (.ref kd) := (f8.ext E10)
  have f16 : Sta Z T10.heap "com/example/identifier_grammars/identifiergrammars/Node" "NONE" "[I" (.ref no) := (f9.ext E10)
  obtain ⟨_, _, ⟨T17, L17, k17, n17⟩, -, X17, ⟨Lc17, hQ17, l17, y17, z17⟩, st17⟩ := Jvm.LawKit.callS X10 hx (y := (⟨"com/example/identifier_grammars/identifiergrammars/Node", "rule", "(Ljava/lang/String;I)Lcom/example/identifier_grammars/identifiergrammars/Node;"⟩ : MethodName)) hown (mvT hZ (hw _ (List.mem_of_getElem? (i := 37) rfl))) (mvT hZ (hw _ (List.mem_of_getElem? (i := 38) rfl))) (mvT hZ (hw _ (List.mem_of_getElem? (i := 39) rfl))) (mvT hZ (hw _ (List.mem_of_getElem? (i := 40) rfl))) (by decide) (backOf (W := 0) (rm2 l Z a0 hw hEL wS [] b6 d2 kd no T10.heap n0 (Nat.le_trans (Nat.le_trans (Nat.le_trans Z0 E1.1) E5.1) E10.1) f15 f16) hZ (hw _ (List.mem_of_getElem? (i := 40) rfl)) (hw _ (List.mem_of_getElem? (i := 39) rfl)) (by decide) (by decide)) (g := (mkF m 67 #[.val (.int c0), .val (.int c1), .val (.int c2), .val (.int le), .val (.int d1), .val (.int d2), .val (.int ((c0 &&& (255 : Int32)).toUInt32.toUInt16.toUInt32.toInt32)), .val (.int ((c1 &&& (255 : Int32)).toUInt32.toUInt16.toUInt32.toInt32)), .val (.int ((c2 &&& (255 : Int32)).toUInt32.toUInt16.toUInt32.toInt32)), .val (.ref b2), .val (.ref b6), .val (.ref b11), .unset] [(.int d2), (.ref b6)])) rfl (by rw [hml]; rfl) (argsL := [(.ref b6), (.int d2)]) (rest := []) (lenOf pd_263 rfl) rfl (by show 2 * 0 + _ ≤ _; exact Nat.le_of_eq rfl) (hb hby at_67) (fun _ _ => ⟨rfl, rfl, (by decide : 20 + 2 ≤ _), (by decide : 45 + 9 ≤ _)⟩)
  dsimp only [Pt.U, Pt.locs, Pt.cells, Pt.slots] at X17 l17 y17 z17 st17 hQ17
  subst l17 y17 z17
  obtain ⟨b18, ⟨ch19, ⟨kc20, ⟨rfl, N17q, K17, B17_0, B17_1, P17_0, P17_1, P17_2, P17_3, P17_4, P17_5, P17_6, P17_7, P17_8, P17_9⟩⟩⟩⟩ := hQ17
  have N17 := Fr.app N10 N17q
  refine OwnFin.step st17 ?_
  have E17 : Ext T10.heap T17.heap := ⟨K17.1, fun x c q => K17.2.1 x c q nin0⟩
  have cp21 := (CHr.ext E17 C14.1)
  have C21 := C14.trans cp21
  show OwnFin p e below _ (T17.setTop (mkF m 70 #[.val (.int c0), .val (.int c1), .val (.int c2), .val (.int le), .val (.int d1), .val (.int d2), .val (.int ((c0 &&& (255 : Int32)).toUInt32.toUInt16.toUInt32.toInt32)), .val (.int ((c1 &&& (255 : Int32)).toUInt32.toUInt16.toUInt32.toInt32)), .val (.int ((c2 &&& (255 : Int32)).toUInt32.toUInt16.toUInt32.toInt32)), .val (.ref b2), .val (.ref b6), .val (.ref b11), .unset] [(.ref b18)]))
  refine OwnFin.step (fun tT kK => XS.astore X17.here hx rfl (hb hby at_70) rfl rfl (l' := #[.val (.int c0), .val (.int c1), .val (.int c2), .val (.int le), .val (.int d1), .val (.int d2), .val (.int ((c0 &&& (255 : Int32)).toUInt32.toUInt16.toUInt32.toInt32)), .val (.int ((c1 &&& (255 : Int32)).toUInt32.toUInt16.toUInt32.toInt32)), .val (.int ((c2 &&& (255 : Int32)).toUInt32.toUInt16.toUInt32.toInt32)), .val (.ref b2), .val (.ref b6), .val (.ref b11), .val (.ref b18)]) rfl kK) ?_
  show OwnFin p e below _ (T17.setTop (mkF m 72 #[.val (.int c0), .val (.int c1), .val (.int c2), .val (.int le), .val (.int d1), .val (.int d2), .val (.int ((c0 &&& (255 : Int32)).toUInt32.toUInt16.toUInt32.toInt32)), .val (.int ((c1 &&& (255 : Int32)).toUInt32.toUInt16.toUInt32.toInt32)), .val (.int ((c2 &&& (255 : Int32)).toUInt32.toUInt16.toUInt32.toInt32)), .val (.ref b2), .val (.ref b6), .val (.ref b11), .val (.ref b18)] []))
  refine OwnFin.step (fun tT kK => XS.aload X17.here hx rfl (hb hby at_72) rfl rfl kK) ?_
  show OwnFin p e below _ (T17.setTop (mkF m 74 #[.val (.int c0), .val (.int c1), .val (.int c2), .val (.int le), .val (.int d1), .val (.int d2), .val (.int ((c0 &&& (255 : Int32)).toUInt32.toUInt16.toUInt32.toInt32)), .val (.int ((c1 &&& (255 : Int32)).toUInt32.toUInt16.toUInt32.toInt32)), .val (.int ((c2 &&& (255 : Int32)).toUInt32.toUInt16.toUInt32.toInt32)), .val (.ref b2), .val (.ref b6), .val (.ref b11), .val (.ref b18)] [(.ref b11)]))
  refine OwnFin.step (fun tT kK => XS.aload X17.here hx rfl (hb hby at_74) rfl rfl kK) ?_
  show OwnFin p e below _ (T17.setTop (mkF m 76 #[.val (.int c0), .val (.int c1), .val (.int c2), .val (.int le), .val (.int d1), .val (.int d2), .val (.int ((c0 &&& (255 : Int32)).toUInt32.toUInt16.toUInt32.toInt32)), .val (.int ((c1 &&& (255 : Int32)).toUInt32.toUInt16.toUInt32.toInt32)), .val (.int ((c2 &&& (255 : Int32)).toUInt32.toUInt16.toUInt32.toInt32)), .val (.ref b2), .val (.ref b6), .val (.ref b11), .val (.ref b18)] [(.ref b2), (.ref b11)]))
  refine OwnFin.step (fun tT kK => XS.iload X17.here hx rfl (hb hby at_76) rfl kK) ?_
  show OwnFin p e below _ (T17.setTop (mkF m 78 #[.val (.int c0), .val (.int c1), .val (.int c2), .val (.int le), .val (.int d1), .val (.int d2), .val (.int ((c0 &&& (255 : Int32)).toUInt32.toUInt16.toUInt32.toInt32)), .val (.int ((c1 &&& (255 : Int32)).toUInt32.toUInt16.toUInt32.toInt32)), .val (.int ((c2 &&& (255 : Int32)).toUInt32.toUInt16.toUInt32.toInt32)), .val (.ref b2), .val (.ref b6), .val (.ref b11), .val (.ref b18)] [(.int d1), (.ref b2), (.ref b11)]))
  have f22 : Sta Z T17.heap "com/example/identifier_grammars/identifiergrammars/Node$Kind" "RULE" "Lcom/example/identifier_grammars/identifiergrammars/Node$Kind;" (.ref kd) := (f15.ext E17)
  have f23 : Fld Z T17.heap b11 "com/example/identifier_grammars/identifiergrammars/Node" "kind" "Lcom/example/identifier_grammars/identifiergrammars/Node$Kind;" (.ref kd) := (P10_1.ext E17)
  have f24 : Fld Z T17.heap b11 "com/example/identifier_grammars/identifiergrammars/Node" "name" "Ljava/lang/String;" (.ref b2) := (P10_2.ext E17)
  have f25 : Fld Z T17.heap b11 "com/example/identifier_grammars/identifiergrammars/Node" "children" "[I" (.ref ch12) := (P10_3.ext E17)
  have f26 : Fld Z T17.heap b11 "com/example/identifier_grammars/identifiergrammars/Node" "min" "I" (.int (1 : Int32)) := (P10_4.ext E17)
  have f27 : Fld Z T17.heap b11 "com/example/identifier_grammars/identifiergrammars/Node" "max" "I" (.int (1 : Int32)) := (P10_5.ext E17)
  have f28 : Fld Z T17.heap b11 "com/example/identifier_grammars/identifiergrammars/Node" "low" "[I" (.ref no) := (P10_6.ext E17)
  have f29 : Fld Z T17.heap b11 "com/example/identifier_grammars/identifiergrammars/Node" "high" "[I" (.ref no) := (P10_7.ext E17)
  have f30 : Fld Z T17.heap b11 "com/example/identifier_grammars/identifiergrammars/Node" "ignoreCase" "Z" (.int (0 : Int32)) := (P10_8.ext E17)
  have f31 : Arv Z T17.heap ch12 kc13 .int (1 : Int32) [(.int d1)] (.int (0 : Int32)) := (P10_9.ext E17)
  have f32 : Arv Z T17.heap no kn .int (0 : Int32) [] (.int (0 : Int32)) := ((((hp2.ext E1).ext E5).ext E10).ext E17)
  obtain ⟨_, _, ⟨T33, L33, k33, n33⟩, -, X33, ⟨Lc33, hQ33, l33, y33, z33⟩, st33⟩ := Jvm.LawKit.callS X17 hx (y := (⟨"com/example/identifier_grammars/identifiergrammars/NodeRulePinLaw", "isPlainRule", "(Lcom/example/identifier_grammars/identifiergrammars/Node;Ljava/lang/String;I)Z"⟩ : MethodName)) hown (mvT hZ (hw _ (List.mem_of_getElem? (i := 69) rfl))) (mvT hZ (hw _ (List.mem_of_getElem? (i := 70) rfl))) (mvT hZ (hw _ (List.mem_of_getElem? (i := 2) rfl))) (mvT hZ (hw _ (List.mem_of_getElem? (i := 71) rfl))) (by decide) (backOf (W := 0) (rm3 l Z a0 hw hEL wS [] b11 b2 d1 kd no ch12 kc13 kn T17.heap n0 (Nat.le_trans (Nat.le_trans (Nat.le_trans (Nat.le_trans Z0 E1.1) E5.1) E10.1) E17.1) f22 f23 f24 f25 f26 f27 f28 f29 f30 f31 f32) hZ (hw _ (List.mem_of_getElem? (i := 71) rfl)) (hw _ (List.mem_of_getElem? (i := 2) rfl)) (by decide) (by decide)) (g := (mkF m 78 #[.val (.int c0), .val (.int c1), .val (.int c2), .val (.int le), .val (.int d1), .val (.int d2), .val (.int ((c0 &&& (255 : Int32)).toUInt32.toUInt16.toUInt32.toInt32)), .val (.int ((c1 &&& (255 : Int32)).toUInt32.toUInt16.toUInt32.toInt32)), .val (.int ((c2 &&& (255 : Int32)).toUInt32.toUInt16.toUInt32.toInt32)), .val (.ref b2), .val (.ref b6), .val (.ref b11), .val (.ref b18)] [(.int d1), (.ref b2), (.ref b11)])) rfl (by rw [hml]; rfl) (argsL := [(.ref b11), (.ref b2), (.int d1)]) (rest := []) (lenOf pd_264 rfl) rfl (by show 2 * 0 + _ ≤ _; exact Nat.le_of_eq rfl) (hb hby at_78) (fun _ _ => ⟨rfl, rfl, (by decide : 22 + 0 ≤ _), (by decide : 54 + 0 ≤ _)⟩)
  dsimp only [Pt.U, Pt.locs, Pt.cells, Pt.slots] at X33 l33 y33 z33 st33 hQ33
  subst l33 y33 z33
  obtain ⟨rfl, N33q, e33⟩ := hQ33
  have N33 := Fr.app N17 N33q
  refine OwnFin.step st33 ?_
  show OwnFin p e below _ (T33.setTop (mkF m 81 #[.val (.int c0), .val (.int c1), .val (.int c2), .val (.int le), .val (.int d1), .val (.int d2), .val (.int ((c0 &&& (255 : Int32)).toUInt32.toUInt16.toUInt32.toInt32)), .val (.int ((c1 &&& (255 : Int32)).toUInt32.toUInt16.toUInt32.toInt32)), .val (.int ((c2 &&& (255 : Int32)).toUInt32.toUInt16.toUInt32.toInt32)), .val (.ref b2), .val (.ref b6), .val (.ref b11), .val (.ref b18)] [(.int (1 : Int32))]))
  refine OwnFin.step (fun tT kK => XS.ifYes X33.here hx rfl (pc0 := 81) (pc' := 86) rfl (hb hby at_81) rfl ((if0 _ _).trans (feq (by decide : ¬ ((1 : Int32) = (0 : Int32)))).2) (by decide) (by decide) kK) ?_
  show OwnFin p e below _ (T33.setTop (mkF m 86 #[.val (.int c0), .val (.int c1), .val (.int c2), .val (.int le), .val (.int d1), .val (.int d2), .val (.int ((c0 &&& (255 : Int32)).toUInt32.toUInt16.toUInt32.toInt32)), .val (.int ((c1 &&& (255 : Int32)).toUInt32.toUInt16.toUInt32.toInt32)), .val (.int ((c2 &&& (255 : Int32)).toUInt32.toUInt16.toUInt32.toInt32)), .val (.ref b2), .val (.ref b6), .val (.ref b11), .val (.ref b18)] []))
  refine OwnFin.step (fun tT kK => XS.aload X33.here hx rfl (hb hby at_86) rfl rfl kK) ?_
  show OwnFin p e below _ (T33.setTop (mkF m 88 #[.val (.int c0), .val (.int c1), .val (.int c2), .val (.int le), .val (.int d1), .val (.int d2), .val (.int ((c0 &&& (255 : Int32)).toUInt32.toUInt16.toUInt32.toInt32)), .val (.int ((c1 &&& (255 : Int32)).toUInt32.toUInt16.toUInt32.toInt32)), .val (.int ((c2 &&& (255 : Int32)).toUInt32.toUInt16.toUInt32.toInt32)), .val (.ref b2), .val (.ref b6), .val (.ref b11), .val (.ref b18)] [(.ref b18)]))
  refine OwnFin.step (fun tT kK => XS.aload X33.here hx rfl (hb hby at_88) rfl rfl kK) ?_
  show OwnFin p e below _ (T33.setTop (mkF m 90 #[.val (.int c0), .val (.int c1), .val (.int c2), .val (.int le), .val (.int d1), .val (.int d2), .val (.int ((c0 &&& (255 : Int32)).toUInt32.toUInt16.toUInt32.toInt32)), .val (.int ((c1 &&& (255 : Int32)).toUInt32.toUInt16.toUInt32.toInt32)), .val (.int ((c2 &&& (255 : Int32)).toUInt32.toUInt16.toUInt32.toInt32)), .val (.ref b2), .val (.ref b6), .val (.ref b11), .val (.ref b18)] [(.ref b6), (.ref b18)]))
  refine OwnFin.step (fun tT kK => XS.iload X33.here hx rfl (hb hby at_90) rfl kK) ?_
  show OwnFin p e below _ (T33.setTop (mkF m 92 #[.val (.int c0), .val (.int c1), .val (.int c2), .val (.int le), .val (.int d1), .val (.int d2), .val (.int ((c0 &&& (255 : Int32)).toUInt32.toUInt16.toUInt32.toInt32)), .val (.int ((c1 &&& (255 : Int32)).toUInt32.toUInt16.toUInt32.toInt32)), .val (.int ((c2 &&& (255 : Int32)).toUInt32.toUInt16.toUInt32.toInt32)), .val (.ref b2), .val (.ref b6), .val (.ref b11), .val (.ref b18)] [(.int d2), (.ref b6), (.ref b18)]))
  obtain ⟨_, _, ⟨T34, L34, k34, n34⟩, -, X34, ⟨Lc34, hQ34, l34, y34, z34⟩, st34⟩ := Jvm.LawKit.callS X33 hx (y := (⟨"com/example/identifier_grammars/identifiergrammars/NodeRulePinLaw", "isPlainRule", "(Lcom/example/identifier_grammars/identifiergrammars/Node;Ljava/lang/String;I)Z"⟩ : MethodName)) hown (mvT hZ (hw _ (List.mem_of_getElem? (i := 69) rfl))) (mvT hZ (hw _ (List.mem_of_getElem? (i := 70) rfl))) (mvT hZ (hw _ (List.mem_of_getElem? (i := 2) rfl))) (mvT hZ (hw _ (List.mem_of_getElem? (i := 71) rfl))) (by decide) (backOf (W := 0) (rm3 l Z a0 hw hEL wS [] b18 b6 d2 kd no ch19 kc20 kn T17.heap n0 (Nat.le_trans (Nat.le_trans (Nat.le_trans (Nat.le_trans Z0 E1.1) E5.1) E10.1) E17.1) f22 P17_1 P17_2 P17_3 P17_4 P17_5 P17_6 P17_7 P17_8 P17_9 f32) hZ (hw _ (List.mem_of_getElem? (i := 71) rfl)) (hw _ (List.mem_of_getElem? (i := 2) rfl)) (by decide) (by decide)) (g := (mkF m 92 #[.val (.int c0), .val (.int c1), .val (.int c2), .val (.int le), .val (.int d1), .val (.int d2), .val (.int ((c0 &&& (255 : Int32)).toUInt32.toUInt16.toUInt32.toInt32)), .val (.int ((c1 &&& (255 : Int32)).toUInt32.toUInt16.toUInt32.toInt32)), .val (.int ((c2 &&& (255 : Int32)).toUInt32.toUInt16.toUInt32.toInt32)), .val (.ref b2), .val (.ref b6), .val (.ref b11), .val (.ref b18)] [(.int d2), (.ref b6), (.ref b18)])) rfl (by rw [hml]; rfl) (argsL := [(.ref b18), (.ref b6), (.int d2)]) (rest := []) (lenOf pd_264 rfl) rfl (by show 2 * 0 + _ ≤ _; exact Nat.le_of_eq rfl) (hb hby at_92) (fun _ _ => ⟨rfl, e33, (by decide : 22 + 0 ≤ _), (by decide : 54 + 0 ≤ _)⟩)
  dsimp only [Pt.U, Pt.locs, Pt.cells, Pt.slots] at X34 l34 y34 z34 st34 hQ34
  subst l34 y34 z34
  obtain ⟨rfl, N34q, e34⟩ := hQ34
  have N34 := Fr.app N33 N34q
  refine OwnFin.step st34 ?_
  show OwnFin p e below _ (T34.setTop (mkF m 95 #[.val (.int c0), .val (.int c1), .val (.int c2), .val (.int le), .val (.int d1), .val (.int d2), .val (.int ((c0 &&& (255 : Int32)).toUInt32.toUInt16.toUInt32.toInt32)), .val (.int ((c1 &&& (255 : Int32)).toUInt32.toUInt16.toUInt32.toInt32)), .val (.int ((c2 &&& (255 : Int32)).toUInt32.toUInt16.toUInt32.toInt32)), .val (.ref b2), .val (.ref b6), .val (.ref b11), .val (.ref b18)] [(.int (1 : Int32))]))
  refine OwnFin.step (fun tT kK => XS.ifYes X34.here hx rfl (pc0 := 95) (pc' := 100) rfl (hb hby at_95) rfl ((if0 _ _).trans (feq (by decide : ¬ ((1 : Int32) = (0 : Int32)))).2) (by decide) (by decide) kK) ?_
  show OwnFin p e below _ (T34.setTop (mkF m 100 #[.val (.int c0), .val (.int c1), .val (.int c2), .val (.int le), .val (.int d1), .val (.int d2), .val (.int ((c0 &&& (255 : Int32)).toUInt32.toUInt16.toUInt32.toInt32)), .val (.int ((c1 &&& (255 : Int32)).toUInt32.toUInt16.toUInt32.toInt32)), .val (.int ((c2 &&& (255 : Int32)).toUInt32.toUInt16.toUInt32.toInt32)), .val (.ref b2), .val (.ref b6), .val (.ref b11), .val (.ref b18)] []))
  refine OwnFin.step (fun tT kK => XS.aload X34.here hx rfl (hb hby at_100) rfl rfl kK) ?_
  show OwnFin p e below _ (T34.setTop (mkF m 102 #[.val (.int c0), .val (.int c1), .val (.int c2), .val (.int le), .val (.int d1), .val (.int d2), .val (.int ((c0 &&& (255 : Int32)).toUInt32.toUInt16.toUInt32.toInt32)), .val (.int ((c1 &&& (255 : Int32)).toUInt32.toUInt16.toUInt32.toInt32)), .val (.int ((c2 &&& (255 : Int32)).toUInt32.toUInt16.toUInt32.toInt32)), .val (.ref b2), .val (.ref b6), .val (.ref b11), .val (.ref b18)] [(.ref b11)]))
  obtain ⟨T35, X35, e35, st35⟩ := getF X34 hx hZ hown (host := "") (Or.inl (hw _ (List.mem_of_getElem? (i := 75) rfl))) Via.refl e34 f25 (g := (mkF m 102 #[.val (.int c0), .val (.int c1), .val (.int c2), .val (.int le), .val (.int d1), .val (.int d2), .val (.int ((c0 &&& (255 : Int32)).toUInt32.toUInt16.toUInt32.toInt32)), .val (.int ((c1 &&& (255 : Int32)).toUInt32.toUInt16.toUInt32.toInt32)), .val (.int ((c2 &&& (255 : Int32)).toUInt32.toUInt16.toUInt32.toInt32)), .val (.ref b2), .val (.ref b6), .val (.ref b11), .val (.ref b18)] [(.ref b11)])) rfl rfl (hb hby at_102)
  refine OwnFin.step st35 ?_
  show OwnFin p e below _ (T35.setTop (mkF m 105 #[.val (.int c0), .val (.int c1), .val (.int c2), .val (.int le), .val (.int d1), .val (.int d2), .val (.int ((c0 &&& (255 : Int32)).toUInt32.toUInt16.toUInt32.toInt32)), .val (.int ((c1 &&& (255 : Int32)).toUInt32.toUInt16.toUInt32.toInt32)), .val (.int ((c2 &&& (255 : Int32)).toUInt32.toUInt16.toUInt32.toInt32)), .val (.ref b2), .val (.ref b6), .val (.ref b11), .val (.ref b18)] [(.ref ch12)]))
  refine OwnFin.step (fun tT kK => XS.aload X35.here hx rfl (hb hby at_105) rfl rfl kK) ?_
  show OwnFin p e below _ (T35.setTop (mkF m 107 #[.val (.int c0), .val (.int c1), .val (.int c2), .val (.int le), .val (.int d1), .val (.int d2), .val (.int ((c0 &&& (255 : Int32)).toUInt32.toUInt16.toUInt32.toInt32)), .val (.int ((c1 &&& (255 : Int32)).toUInt32.toUInt16.toUInt32.toInt32)), .val (.int ((c2 &&& (255 : Int32)).toUInt32.toUInt16.toUInt32.toInt32)), .val (.ref b2), .val (.ref b6), .val (.ref b11), .val (.ref b18)] [(.ref b18), (.ref ch12)]))
  obtain ⟨T36, X36, e36, st36⟩ := getF X35 hx hZ hown (host := "") (Or.inl (hw _ (List.mem_of_getElem? (i := 75) rfl))) Via.refl e35 P17_3 (g := (mkF m 107 #[.val (.int c0), .val (.int c1), .val (.int c2), .val (.int le), .val (.int d1), .val (.int d2), .val (.int ((c0 &&& (255 : Int32)).toUInt32.toUInt16.toUInt32.toInt32)), .val (.int ((c1 &&& (255 : Int32)).toUInt32.toUInt16.toUInt32.toInt32)), .val (.int ((c2 &&& (255 : Int32)).toUInt32.toUInt16.toUInt32.toInt32)), .val (.ref b2), .val (.ref b6), .val (.ref b11), .val (.ref b18)] [(.ref b18), (.ref ch12)])) rfl rfl (hb hby at_107)
  refine OwnFin.step st36 ?_
  show OwnFin p e below _ (T36.setTop (mkF m 110 #[.val (.int c0), .val (.int c1), .val (.int c2), .val (.int le), .val (.int d1), .val (.int d2), .val (.int ((c0 &&& (255 : Int32)).toUInt32.toUInt16.toUInt32.toInt32)), .val (.int ((c1 &&& (255 : Int32)).toUInt32.toUInt16.toUInt32.toInt32)), .val (.int ((c2 &&& (255 : Int32)).toUInt32.toUInt16.toUInt32.toInt32)), .val (.ref b2), .val (.ref b6), .val (.ref b11), .val (.ref b18)] [(.ref ch19), (.ref ch12)]))
  refine OwnFin.step (fun tT kK => Jvm.RoadKit.acmp (g := (mkF m 110 #[.val (.int c0), .val (.int c1), .val (.int c2), .val (.int le), .val (.int d1), .val (.int d2), .val (.int ((c0 &&& (255 : Int32)).toUInt32.toUInt16.toUInt32.toInt32)), .val (.int ((c1 &&& (255 : Int32)).toUInt32.toUInt16.toUInt32.toInt32)), .val (.int ((c2 &&& (255 : Int32)).toUInt32.toUInt16.toUInt32.toInt32)), .val (.ref b2), .val (.ref b6), .val (.ref b11), .val (.ref b18)] [(.ref ch19), (.ref ch12)])) X36 hx rfl rfl rfl (pc0 := 110) (pc' := 115) (same := false) rfl (hb hby at_110) rfl (decide_eq_false fun q => ((Nat.ne_of_lt (Nat.lt_of_lt_of_le (Nat.lt_of_lt_of_le P10_9.lt (Nat.le_refl _)) B17_1)) : ¬ (ch12 = ch19)) (Value.ref.inj q)) (by decide) (by decide) kK) ?_
  show OwnFin p e below _ (T36.setTop (mkF m 115 #[.val (.int c0), .val (.int c1), .val (.int c2), .val (.int le), .val (.int d1), .val (.int d2), .val (.int ((c0 &&& (255 : Int32)).toUInt32.toUInt16.toUInt32.toInt32)), .val (.int ((c1 &&& (255 : Int32)).toUInt32.toUInt16.toUInt32.toInt32)), .val (.int ((c2 &&& (255 : Int32)).toUInt32.toUInt16.toUInt32.toInt32)), .val (.ref b2), .val (.ref b6), .val (.ref b11), .val (.ref b18)] []))
  refine OwnFin.step (fun tT kK => XS.aload X36.here hx rfl (hb hby at_115) rfl rfl kK) ?_
  show OwnFin p e below _ (T36.setTop (mkF m 117 #[.val (.int c0), .val (.int c1), .val (.int c2), .val (.int le), .val (.int d1), .val (.int d2), .val (.int ((c0 &&& (255 : Int32)).toUInt32.toUInt16.toUInt32.toInt32)), .val (.int ((c1 &&& (255 : Int32)).toUInt32.toUInt16.toUInt32.toInt32)), .val (.int ((c2 &&& (255 : Int32)).toUInt32.toUInt16.toUInt32.toInt32)), .val (.ref b2), .val (.ref b6), .val (.ref b11), .val (.ref b18)] [(.ref b11)]))
  have f38 : Exa Z T17.heap b11 "com/example/identifier_grammars/identifiergrammars/Node" := (P10_0.ext E17)
  obtain ⟨cq37, kq37, q37a, q37b, q37c⟩ := isOf hZ e36 f38
  obtain ⟨_, _, ⟨T37, L37, k37, n37⟩, -, X37, ⟨Lc37, hQ37, l37, y37, z37⟩, st37⟩ := X36.virtualBack hx (y := (⟨"com/example/identifier_grammars/identifiergrammars/Node", "acceptsSomeString", "()Z"⟩ : MethodName)) (z := (⟨"com/example/identifier_grammars/identifiergrammars/Node", "acceptsSomeString", "()Z"⟩ : MethodName)) hown (mvT hZ (hw _ (List.mem_of_getElem? (i := 81) rfl))) (mvT hZ (hw _ (List.mem_of_getElem? (i := 82) rfl))) (notFace_of_selects (args := #[]) (mvT hZ (hw _ (List.mem_of_getElem? (i := 84) rfl)))) (mvT hZ (hw _ (List.mem_of_getElem? (i := 84) rfl))) (mvT hZ (hw _ (List.mem_of_getElem? (i := 83) rfl))) (by decide) (backOf (W := 0) (rm4 l Z a0 hw hEL wS [] b11 no kn T17.heap n0 (Nat.le_trans (Nat.le_trans (Nat.le_trans (Nat.le_trans Z0 E1.1) E5.1) E10.1) E17.1) f28 f32) hZ (hw _ (List.mem_of_getElem? (i := 85) rfl)) (hw _ (List.mem_of_getElem? (i := 39) rfl)) (by decide) (by decide)) q37a q37c (g := (mkF m 117 #[.val (.int c0), .val (.int c1), .val (.int c2), .val (.int le), .val (.int d1), .val (.int d2), .val (.int ((c0 &&& (255 : Int32)).toUInt32.toUInt16.toUInt32.toInt32)), .val (.int ((c1 &&& (255 : Int32)).toUInt32.toUInt16.toUInt32.toInt32)), .val (.int ((c2 &&& (255 : Int32)).toUInt32.toUInt16.toUInt32.toInt32)), .val (.ref b2), .val (.ref b6), .val (.ref b11), .val (.ref b18)] [(.ref b11)])) rfl (by rw [hml]; rfl) (Steps.refl _) (argsL := []) (rest := []) (lenOf pd_265 rfl) rfl (by show 2 * 0 + _ ≤ _; exact Nat.le_of_eq rfl) (hb hby at_117) (fun _ _ => ⟨rfl, e36, (by decide : 22 + 0 ≤ _), (by decide : 54 + 0 ≤ _)⟩)
  dsimp only [Pt.U, Pt.locs, Pt.cells, Pt.slots] at X37 l37 y37 z37 st37 hQ37
  subst l37 y37 z37
  obtain ⟨rfl, N37q, e37⟩ := hQ37
  have N37 := Fr.app N34 N37q
  refine OwnFin.step (fun tT kK => st37.trans kK) ?_
  show OwnFin p e below _ (T37.setTop (mkF m 120 #[.val (.int c0), .val (.int c1), .val (.int c2), .val (.int le), .val (.int d1), .val (.int d2), .val (.int ((c0 &&& (255 : Int32)).toUInt32.toUInt16.toUInt32.toInt32)), .val (.int ((c1 &&& (255 : Int32)).toUInt32.toUInt16.toUInt32.toInt32)), .val (.int ((c2 &&& (255 : Int32)).toUInt32.toUInt16.toUInt32.toInt32)), .val (.ref b2), .val (.ref b6), .val (.ref b11), .val (.ref b18)] [(.int (1 : Int32))]))
  refine OwnFin.step (fun tT kK => XS.ifNo X37.here hx rfl (hb hby at_120) rfl ((if0 _ _).trans (feq (by decide : ¬ ((1 : Int32) = (0 : Int32)))).1) kK) ?_
  show OwnFin p e below _ (T37.setTop (mkF m 123 #[.val (.int c0), .val (.int c1), .val (.int c2), .val (.int le), .val (.int d1), .val (.int d2), .val (.int ((c0 &&& (255 : Int32)).toUInt32.toUInt16.toUInt32.toInt32)), .val (.int ((c1 &&& (255 : Int32)).toUInt32.toUInt16.toUInt32.toInt32)), .val (.int ((c2 &&& (255 : Int32)).toUInt32.toUInt16.toUInt32.toInt32)), .val (.ref b2), .val (.ref b6), .val (.ref b11), .val (.ref b18)] []))
  refine OwnFin.step (fun tT kK => XS.aload X37.here hx rfl (hb hby at_123) rfl rfl kK) ?_
  show OwnFin p e below _ (T37.setTop (mkF m 125 #[.val (.int c0), .val (.int c1), .val (.int c2), .val (.int le), .val (.int d1), .val (.int d2), .val (.int ((c0 &&& (255 : Int32)).toUInt32.toUInt16.toUInt32.toInt32)), .val (.int ((c1 &&& (255 : Int32)).toUInt32.toUInt16.toUInt32.toInt32)), .val (.int ((c2 &&& (255 : Int32)).toUInt32.toUInt16.toUInt32.toInt32)), .val (.ref b2), .val (.ref b6), .val (.ref b11), .val (.ref b18)] [(.ref b18)]))
  obtain ⟨cq39, kq39, q39a, q39b, q39c⟩ := isOf hZ e37 P17_0
  obtain ⟨_, _, ⟨T39, L39, k39, n39⟩, -, X39, ⟨Lc39, hQ39, l39, y39, z39⟩, st39⟩ := X37.virtualBack hx (y := (⟨"com/example/identifier_grammars/identifiergrammars/Node", "acceptsSomeString", "()Z"⟩ : MethodName)) (z := (⟨"com/example/identifier_grammars/identifiergrammars/Node", "acceptsSomeString", "()Z"⟩ : MethodName)) hown (mvT hZ (hw _ (List.mem_of_getElem? (i := 81) rfl))) (mvT hZ (hw _ (List.mem_of_getElem? (i := 82) rfl))) (notFace_of_selects (args := #[]) (mvT hZ (hw _ (List.mem_of_getElem? (i := 84) rfl)))) (mvT hZ (hw _ (List.mem_of_getElem? (i := 84) rfl))) (mvT hZ (hw _ (List.mem_of_getElem? (i := 83) rfl))) (by decide) (backOf (W := 0) (rm4 l Z a0 hw hEL wS [] b18 no kn T17.heap n0 (Nat.le_trans (Nat.le_trans (Nat.le_trans (Nat.le_trans Z0 E1.1) E5.1) E10.1) E17.1) P17_6 f32) hZ (hw _ (List.mem_of_getElem? (i := 85) rfl)) (hw _ (List.mem_of_getElem? (i := 39) rfl)) (by decide) (by decide)) q39a q39c (g := (mkF m 125 #[.val (.int c0), .val (.int c1), .val (.int c2), .val (.int le), .val (.int d1), .val (.int d2), .val (.int ((c0 &&& (255 : Int32)).toUInt32.toUInt16.toUInt32.toInt32)), .val (.int ((c1 &&& (255 : Int32)).toUInt32.toUInt16.toUInt32.toInt32)), .val (.int ((c2 &&& (255 : Int32)).toUInt32.toUInt16.toUInt32.toInt32)), .val (.ref b2), .val (.ref b6), .val (.ref b11), .val (.ref b18)] [(.ref b18)])) rfl (by rw [hml]; rfl) (Steps.refl _) (argsL := []) (rest := []) (lenOf pd_265 rfl) rfl (by show 2 * 0 + _ ≤ _; exact Nat.le_of_eq rfl) (hb hby at_125) (fun _ _ => ⟨rfl, e37, (by decide : 22 + 0 ≤ _), (by decide : 54 + 0 ≤ _)⟩)
  dsimp only [Pt.U, Pt.locs, Pt.cells, Pt.slots] at X39 l39 y39 z39 st39 hQ39
  subst l39 y39 z39
  obtain ⟨rfl, N39q, e39⟩ := hQ39
  have N39 := Fr.app N37 N39q
  refine OwnFin.step (fun tT kK => st39.trans kK) ?_
  show OwnFin p e below _ (T39.setTop (mkF m 128 #[.val (.int c0), .val (.int c1), .val (.int c2), .val (.int le), .val (.int d1), .val (.int d2), .val (.int ((c0 &&& (255 : Int32)).toUInt32.toUInt16.toUInt32.toInt32)), .val (.int ((c1 &&& (255 : Int32)).toUInt32.toUInt16.toUInt32.toInt32)), .val (.int ((c2 &&& (255 : Int32)).toUInt32.toUInt16.toUInt32.toInt32)), .val (.ref b2), .val (.ref b6), .val (.ref b11), .val (.ref b18)] [(.int (1 : Int32))]))
  refine OwnFin.step (fun tT kK => XS.ifNo X39.here hx rfl (hb hby at_128) rfl ((if0 _ _).trans (feq (by decide : ¬ ((1 : Int32) = (0 : Int32)))).1) kK) ?_
  show OwnFin p e below _ (T39.setTop (mkF m 131 #[.val (.int c0), .val (.int c1), .val (.int c2), .val (.int le), .val (.int d1), .val (.int d2), .val (.int ((c0 &&& (255 : Int32)).toUInt32.toUInt16.toUInt32.toInt32)), .val (.int ((c1 &&& (255 : Int32)).toUInt32.toUInt16.toUInt32.toInt32)), .val (.int ((c2 &&& (255 : Int32)).toUInt32.toUInt16.toUInt32.toInt32)), .val (.ref b2), .val (.ref b6), .val (.ref b11), .val (.ref b18)] []))
  refine OwnFin.step (fun tT kK => XS.iconst X39.here hx rfl (hb hby at_131) kK) ?_
  show OwnFin p e below _ (T39.setTop (mkF m 132 #[.val (.int c0), .val (.int c1), .val (.int c2), .val (.int le), .val (.int d1), .val (.int d2), .val (.int ((c0 &&& (255 : Int32)).toUInt32.toUInt16.toUInt32.toInt32)), .val (.int ((c1 &&& (255 : Int32)).toUInt32.toUInt16.toUInt32.toInt32)), .val (.int ((c2 &&& (255 : Int32)).toUInt32.toUInt16.toUInt32.toInt32)), .val (.ref b2), .val (.ref b6), .val (.ref b11), .val (.ref b18)] [(.int (1 : Int32))]))
  refine OwnFin.step (fun tT kK => XS.goto X39.here hx rfl (pc0 := 132) (pc' := 136) rfl (hb hby at_132) (by decide) (by decide) kK) ?_
  show OwnFin p e below _ (T39.setTop (mkF m 136 #[.val (.int c0), .val (.int c1), .val (.int c2), .val (.int le), .val (.int d1), .val (.int d2), .val (.int ((c0 &&& (255 : Int32)).toUInt32.toUInt16.toUInt32.toInt32)), .val (.int ((c1 &&& (255 : Int32)).toUInt32.toUInt16.toUInt32.toInt32)), .val (.int ((c2 &&& (255 : Int32)).toUInt32.toUInt16.toUInt32.toInt32)), .val (.ref b2), .val (.ref b6), .val (.ref b11), .val (.ref b18)] [(.int (1 : Int32))]))
  obtain ⟨fs40, hr40, hrun40, hended40, hW40⟩ := X39.leaveW (s := s) hS5 (by rw [e39]; exact (Nat.le_trans (Nat.le_refl T5.heap.size) (Nat.le_trans (Nat.le_trans (Nat.le_refl _) E10.1) E17.1))) (v := (some (.int (1 : Int32)))) (fun h => by rw [Bd.returns] at h; cases h)
  refine ⟨_, _, retN X39 hx (t := .boolean) Bd.returns (by simp) (hb hby at_136) hr40, hrun40, hended40, _, _, rfl, ?_, (by show CHr Z OwnEL s.vm s.heap T39.vm T39.heap; rw [hh, e39]; exact C21.trans (CHv.at X39 hZ hEL C21.1)), hW40.1, hW40.2.1, hW40.2.2.1, hW40.2.2.2.mono (by decide) (by decide)⟩
  show Q0 Z c0 c1 c2 le d1 d2 kd no kn cs h0 n0 _ T39.heap _
  rw [e39]
  exact ⟨rfl, N39, (((((Keep.refl h0 []).ext E1).ext E5).ext E10).ext E17)⟩
set_option maxRecDepth 65536 in
set_option maxHeartbeats 40000000 in
theorem comes_1 {Post : Tables → Env → Array Value → State → Outcome → State → Prop} (hpost : ∀ tb e args s v u, (limb_1_1.after args s (.returned v) u = true ∧ limb_1_2.after args s (.returned v) u = true ∧ True) → FramedW s (.returned v) u (Jvm.fieldLocs frame_1_writes args s ++ Jvm.arrayLocs frame_1_arrays args s ++ Jvm.staticLocs frame_1_statics s) 48 1216 → Post tb e args s (.returned v) u) :
    ArmFor flags0 classFile x code maxLocals ret World_1 tables_1 room_1 Calls_1 rest_1 Pre_1 Post := by
  intro l hfl _ _ p e ha hc hk s m args below hf hA hF happ hP
  obtain ⟨hcalls, hrest, hpre⟩ := hP
  obtain ⟨-, -, -, hnamed, -, -, -, hat⟩ := (Spec.applies_iff hf).mp happ
  obtain ⟨hg, hn⟩ := and_e (Cond.before_iff.mp (show (Jvm.Cond.and given_1 narrow_1).before args s = true from hpre))
  obtain ⟨g1, g2⟩ := and_e hg
  obtain ⟨g3, g4⟩ := and_e g2
  obtain ⟨g5, g6⟩ := and_e g4
  obtain ⟨g7, g8⟩ := and_e g6
  obtain ⟨g9, g10⟩ := and_e g8
  obtain ⟨g11, g12⟩ := and_e g10
  obtain ⟨w_0, w_1, w_2, w_3, w_4, w_5, rfl⟩ : ∃ w_0 w_1 w_2 w_3 w_4 w_5 : Value, args = #[w_0, w_1, w_2, w_3, w_4, w_5] := by
    have hs : args.size = 6 := by simpa [Cond.value, given_1] using g1
    obtain ⟨L⟩ := args
    match L, hs with
    | [w_0, w_1, w_2, w_3, w_4, w_5], _ => exact ⟨w_0, w_1, w_2, w_3, w_4, w_5, rfl⟩
  have hw := fun d (hd : d ∈ tables_1) => atoms_spec (ws := Jvm.Cond.code x code maxLocals ret :: tables_1) hat d (List.mem_cons_of_mem _ hd)
  have hfit : Fit s := fun {y c} hc i hi => by
    obtain ⟨ha, rfl⟩ := Array.getElem?_eq_some_iff.mp hc
    have q := List.all_eq_true.mp ((Array.all_eq_true_iff_forall_mem.mp hF) _ (Array.getElem_mem ha)) i (List.mem_range.mpr hi)
    simpa [Array.getElem?_eq_getElem hi] using q
  obtain ⟨hsets, hown0⟩ := atoms_of _ (rest_1_c_eq ▸ (show rest_1_c.before _ s = true from hrest))
  have hr0 := Cond.before_iff.mp hown0
  obtain ⟨c0, ei0⟩ := is_v g3
  obtain rfl : w_0 = (.int c0) := Option.some.inj ei0
  obtain ⟨c1, ei1⟩ := is_v g5
  obtain rfl : w_1 = (.int c1) := Option.some.inj ei1
  obtain ⟨c2, ei2⟩ := is_v g7
  obtain rfl : w_2 = (.int c2) := Option.some.inj ei2
  obtain ⟨le, ei3⟩ := is_v g9
  obtain rfl : w_3 = (.int le) := Option.some.inj ei3
  obtain ⟨d1, ei4⟩ := is_v g11
  obtain rfl : w_4 = (.int d1) := Option.some.inj ei4
  obtain ⟨d2, ei5⟩ := is_v g12
  obtain rfl : w_5 = (.int d2) := Option.some.inj ei5
  obtain ⟨g13, g14⟩ := and_e hn
  obtain ⟨w15, ev_w15⟩ := exa_v g13
  have S_w15 := Sta.start ev_w15 (Or.inr ⟨(hw _ (List.mem_of_getElem? (i := 44) rfl)), (hw _ (List.mem_of_getElem? (i := 45) rfl))⟩)
  have E_w15_g13 := Exa.start ev_w15 g13
  obtain ⟨g16, g17⟩ := and_e g14
  obtain ⟨w18, ev_w18⟩ := arr_v g16
  have S_w18 := Sta.start ev_w18 (Or.inr ⟨(hw _ (List.mem_of_getElem? (i := 39) rfl)), (hw _ (List.mem_of_getElem? (i := 48) rfl))⟩)
  obtain ⟨cl_w18, A_w18⟩ := Arr.start ev_w18 g16
  have Len_w18 := own_eqI g17
  have V_no := own_arv (vs := []) (dv := .int (0 : Int32)) hfit A_w18 ev_w18 Len_w18 (by decide) rfl trivial
  obtain ⟨cs, ev_cs⟩ := is_v (Cond.before_iff.mp (hsets _ (List.mem_of_getElem? (i := 1) rfl)))
  have S_cs := Sta.start ev_cs (Or.inl (hsets _ (List.mem_of_getElem? (i := 0) rfl)))
  have hcs : ¬ cs = (0 : Int32) := own_neI ev_cs (Cond.before_iff.mp (hsets _ (List.mem_of_getElem? (i := 2) rfl)))
  have hEL : EW s _ OwnEL := (EW.cons (hw _ (List.mem_of_getElem? (i := 34) rfl)) (by decide) EW.nil)
  have wS : ∀ a ∈ Bundle.stringAtoms, a.before _ s = true := fun d hd => by
    simp only [Bundle.stringAtoms, List.mem_cons, List.not_mem_nil, or_false] at hd
    rcases hd with rfl | rfl | rfl | rfl | rfl | rfl | rfl
    · exact (hw _ (List.mem_of_getElem? (i := 7) rfl))
    · exact (hw _ (List.mem_of_getElem? (i := 6) rfl))
    · exact (hw _ (List.mem_of_getElem? (i := 23) rfl))
    · exact (hw _ (List.mem_of_getElem? (i := 33) rfl))
    · exact (hw _ (List.mem_of_getElem? (i := 31) rfl))
    · exact (hw _ (List.mem_of_getElem? (i := 35) rfl))
    · exact (hw _ (List.mem_of_getElem? (i := 36) rfl))
  have hCH : CHv s OwnEL s.vm s.heap := CHv.start hEL hcalls.1 (hsets _ (List.mem_of_getElem? (i := 2) rfl)) (hw _ (List.mem_of_getElem? (i := 23) rfl)) (hw _ (List.mem_of_getElem? (i := 6) rfl))
  obtain ⟨n, o, h1, h2, h3, _, L, rfl, ⟨rfl, N, -⟩, -, hq⟩ := rm0 l s _ hw hEL wS tables_1 c0 c1 c2 le d1 d2 w15 w18 _ cs s.heap s.heap.size (Nat.le_refl _) S_w15 S_w18 V_no S_cs hcs p e ha hc hk s m _ below hf ((Spec.applies_iff_loose hf).mp happ).1 ⟨rfl, State.Warmed39.refl s, rfl, hCH⟩ trivial
  refine ⟨n, _, h1, h2, h3, hpost _ _ _ _ _ _ ⟨Cond.after_iff.mpr rfl, Cond.after_iff.mpr (eq_i res_at (Term.int_eval (1)) rfl), trivial⟩ ⟨hq.1, hq.2.1, hq.2.2.1, (hq.2.2.2.sift fun y hy => Or.inr (N y hy)).mono (by decide) (by decide)⟩⟩
theorem main_1_1 : Claimed_1_1 := comes_1 fun _ _ _ _ _ _ h hF => ⟨h.1, hF⟩
theorem main_1_2 : Claimed_1_2 := comes_1 fun _ _ _ _ _ _ h hF => ⟨h.2.1, hF⟩
end Jvm.Pilot.@@N@@
namespace Jvm.Pilot.@@N@@
open Jvm Jvm.ClassFile Sem Op Lib Jvm.Free Jvm.Stand Jvm.Pilot.@@N@@.Jvm.D
/-! MADE BY PROGRAM (witnessworld.py) out of the Statement's table words and the real class files: 22 classes; the members and pool entries that the words name. The judged class is class 1, her method 3. -/
namespace start1
open Jvm.ClassFile
def u (s : String) : CpInfo := .utf8 (stringToUtf16 s)
/-- a pool by its gaps: so many unusable entries, then the entry; so many at the end -/
def gap : Nat → List CpInfo → List CpInfo
  | 0, r => r
  | n + 1, r => .unusable :: gap n r
def poolList (es : List (Nat × CpInfo)) (last : Nat) : List CpInfo := es.foldr (fun e r => gap e.1 (e.2 :: r)) (gap last [])
def pool (es : List (Nat × CpInfo)) (last : Nat) : Array CpInfo := ⟨poolList es last⟩
def fileOf (pool : Array CpInfo) (this : Nat) (attrs : Array Attribute := #[]) (ms : Array MethodInfo := #[]) (fl : Nat := 33) (sup : Nat := 0) (ifs : Array Nat := #[]) (fds : Array FieldInfo := #[]) : ClassFile where
  minorVersion := 0
  majorVersion := 65
  constantPool := pool
  accessFlags := fl
  thisClass := this
  superClass := sup
  interfaces := ifs
  fields := fds
  methods := ms
  attributes := attrs
def plain (name : String) (sup : Option ClassId) : Class where
  name := name
  kind := .ordinary
  loader := none
  accessFlags := 33
  super := sup
  interfaces := #[]
  cf := none
  fields := #[]
  methods := #[]
  instanceTypes := #[]
  staticTypes := #[]
  resolved := #[]
  callSites := []
  init := .initialized
  statics := none
  mirror := none

def pool0 : Array CpInfo := pool [(5, u "<init>"), (0, u "()V"), (1, .class_ 10), (1, u "java/lang/Object")] 113

def k0c0 : Code := { maxStack := 0, maxLocals := 1, code := object_method_1_code, exceptionTable := #[], attributes := #[] }
def k0m0 : Method := { name := "<init>", desc := "()V", sig := { parameters := [], returnType := none }, accessFlags := 1, code := some k0c0 }
/-- java/lang/Object -/
def k0 : Class := { plain "java/lang/Object" none with
  accessFlags := 33
  interfaces := #[]
  cf := some (fileOf pool0 8 #[] #[{ accessFlags := 1, nameIndex := 5, descriptorIndex := 6, attributes := #[] }] 33 0 #[] #[])
  fields := #[]
  methods := #[k0m0]
  instanceTypes := #[]
  staticTypes := #[]
  resolved := Array.replicate 124 none
  statics := none }

def pool1 : Array CpInfo := pool [(2, .class_ 4), (1, u "java/lang/Object"), (0, u "<init>"), (0, u "()V"), (0, .class_ 8), (0, u "java/lang/String"), (0, .methodref 7 10), (0, .nameAndType 5 11), (0, u "([C)V"), (0, .fieldref 13 14), (0, .class_ 15), (0, .nameAndType 16 17), (0, u "com/example/identifier_grammars/identifiergrammars/Node"), (0, u "kind"), (0, u "Lcom/example/identifier_grammars/identifiergrammars/Node$Kind;"), (0, .fieldref 19 20), (0, .class_ 21), (0, .nameAndType 22 17), (0, u "com/example/identifier_grammars/identifiergrammars/Node$Kind"), (0, u "RULE"), (0, .fieldref 13 24), (0, .nameAndType 25 26), (0, u "name"), (0, u "Ljava/lang/String;"), (0, .fieldref 13 28), (0, .nameAndType 29 30), (0, u "children"), (0, u "[I"), (0, .fieldref 13 32), (0, .nameAndType 33 34), (0, u "min"), (0, u "I"), (0, .fieldref 13 36), (0, .nameAndType 37 34), (0, u "max"), (0, .fieldref 13 39), (0, .nameAndType 40 30), (0, u "low"), (0, .fieldref 13 42), (0, .nameAndType 43 30), (0, u "high"), (0, .fieldref 13 45), (0, .nameAndType 46 47), (0, u "ignoreCase"), (0, u "Z"), (0, .methodref 49 50), (0, .class_ 51), (0, .nameAndType 52 53), (0, u "com/example/identifier_grammars/identifiergrammars/NodeRulePinLaw"), (0, u "pick"), (0, u "(ICCC)Ljava/lang/String;"), (0, .methodref 13 55), (0, .nameAndType 56 57), (0, u "rule"), (0, u "(Ljava/lang/String;I)Lcom/example/identifier_grammars/identifiergrammars/Node;"), (0, .methodref 49 59), (0, .nameAndType 60 61), (0, u "isPlainRule"), (0, u "(Lcom/example/identifier_grammars/identifiergrammars/Node;Ljava/lang/String;I)Z"), (0, .methodref 13 63), (0, .nameAndType 64 65), (0, u "acceptsSomeString"), (0, u "()Z"), (5, u "law"), (0, u "(IIIIII)Z")] 4

def k1m0 : Method := { name := "<init>", desc := "()V", sig := { parameters := [], returnType := none }, accessFlags := 1, code := none }
def k1c1 : Code := { maxStack := 4, maxLocals := 8, code := method_2_code, exceptionTable := #[], attributes := #[] }
def k1m1 : Method := { name := "pick", desc := "(ICCC)Ljava/lang/String;", sig := { parameters := [.int, .char, .char, .char], returnType := some (.object "java/lang/String") }, accessFlags := 10, code := some k1c1 }
def k1c2 : Code := { maxStack := 2, maxLocals := 3, code := method_3_code, exceptionTable := #[], attributes := #[] }
def k1m2 : Method := { name := "isPlainRule", desc := "(Lcom/example/identifier_grammars/identifiergrammars/Node;Ljava/lang/String;I)Z", sig := { parameters := [(.object "com/example/identifier_grammars/identifiergrammars/Node"), (.object "java/lang/String"), .int], returnType := some .boolean }, accessFlags := 10, code := some k1c2 }
def k1c3 : Code := { maxStack := 4, maxLocals := 13, code := code, exceptionTable := #[], attributes := #[] }
def k1m3 : Method := { name := "law", desc := "(IIIIII)Z", sig := { parameters := [.int, .int, .int, .int, .int, .int], returnType := some .boolean }, accessFlags := 9, code := some k1c3 }
/-- com/example/identifier_grammars/identifiergrammars/NodeRulePinLaw -/
def k1 : Class := { plain "com/example/identifier_grammars/identifiergrammars/NodeRulePinLaw" (some 0) with
  accessFlags := 49
  interfaces := #[]
  cf := some (fileOf pool1 49 #[] #[{ accessFlags := 1, nameIndex := 5, descriptorIndex := 6, attributes := #[] }, { accessFlags := 10, nameIndex := 52, descriptorIndex := 53, attributes := #[] }, { accessFlags := 10, nameIndex := 60, descriptorIndex := 61, attributes := #[] }, { accessFlags := 9, nameIndex := 71, descriptorIndex := 72, attributes := #[] }] 49 2 #[] #[])
  fields := #[]
  methods := #[k1m0, k1m1, k1m2, k1m3]
  instanceTypes := #[]
  staticTypes := #[]
  resolved := Array.replicate 77 none
  statics := none }

def pool2 : Array CpInfo := pool [(1, .class_ 2), (0, u "java/io/Serializable"), (0, .class_ 4), (0, u "java/lang/Object")] 2

/-- java/io/Serializable -/
def k2 : Class := { plain "java/io/Serializable" (some 0) with
  accessFlags := 1537
  interfaces := #[]
  cf := some (fileOf pool2 1 #[] #[] 1537 3 #[] #[])
  fields := #[]
  methods := #[]
  instanceTypes := #[]
  staticTypes := #[]
  resolved := Array.replicate 7 none
  statics := none }

def pool3 : Array CpInfo := pool [(1, .class_ 2), (0, u "java/lang/Comparable"), (0, .class_ 4), (0, u "java/lang/Object")] 7

/-- java/lang/Comparable -/
def k3 : Class := { plain "java/lang/Comparable" (some 0) with
  accessFlags := 1537
  interfaces := #[]
  cf := some (fileOf pool3 1 #[] #[] 1537 3 #[] #[])
  fields := #[]
  methods := #[]
  instanceTypes := #[]
  staticTypes := #[]
  resolved := Array.replicate 12 none
  statics := none }

def pool4 : Array CpInfo := pool [(2, .class_ 4), (1, u "java/lang/CharSequence"), (42, .class_ 48), (0, u "java/lang/CharSequence$1CodePointIterator"), (10, .class_ 60), (0, u "java/lang/CharSequence$1CharIterator"), (5, .class_ 67), (0, u "java/lang/Object")] 63

/-- java/lang/CharSequence -/
def k4 : Class := { plain "java/lang/CharSequence" (some 0) with
  accessFlags := 1537
  interfaces := #[]
  cf := some (fileOf pool4 2 #[.nestMembers #[47, 59]] #[] 1537 66 #[] #[])
  fields := #[]
  methods := #[]
  instanceTypes := #[]
  staticTypes := #[]
  resolved := Array.replicate 131 none
  statics := none }

def pool5 : Array CpInfo := pool [(1, .class_ 2), (0, u "java/lang/constant/Constable"), (0, .class_ 4), (0, u "java/lang/Object")] 6

/-- java/lang/constant/Constable -/
def k5 : Class := { plain "java/lang/constant/Constable" (some 0) with
  accessFlags := 1537
  interfaces := #[]
  cf := some (fileOf pool5 1 #[] #[] 1537 3 #[] #[])
  fields := #[]
  methods := #[]
  instanceTypes := #[]
  staticTypes := #[]
  resolved := Array.replicate 11 none
  statics := none }

def pool6 : Array CpInfo := pool [(1, .class_ 2), (0, u "java/lang/constant/ConstantDesc"), (0, .class_ 4), (0, u "java/lang/Object")] 32

/-- java/lang/constant/ConstantDesc -/
def k6 : Class := { plain "java/lang/constant/ConstantDesc" (some 0) with
  accessFlags := 1537
  interfaces := #[]
  cf := some (fileOf pool6 1 #[] #[] 1537 3 #[] #[])
  fields := #[]
  methods := #[]
  instanceTypes := #[]
  staticTypes := #[]
  resolved := Array.replicate 37 none
  statics := none }

def pool7 : Array CpInfo := pool [(1, .methodref 2 3), (0, .class_ 4), (0, .nameAndType 5 6), (0, u "java/lang/Object"), (0, u "<init>"), (0, u "()V"), (0, .string 8), (0, u ""), (0, .fieldref 10 11), (0, .class_ 12), (0, .nameAndType 13 14), (0, u "java/lang/String"), (0, u "value"), (0, u "[B"), (0, .fieldref 10 16), (0, .nameAndType 17 18), (0, u "coder"), (0, u "B"), (2, u "hash"), (0, u "I"), (2, u "hashIsZero"), (0, u "Z"), (0, .methodref 10 28), (0, .nameAndType 5 29), (0, u "([CIILjava/lang/Void;)V"), (8, .fieldref 10 39), (0, .nameAndType 40 26), (0, u "COMPACT_STRINGS"), (1, .class_ 44), (1, u "java/lang/StringUTF16"), (0, u "compress"), (1, .methodref 42 48), (0, .nameAndType 49 50), (0, u "coderFromArrayLen"), (0, u "([BI)B"), (126, .methodref 42 178), (0, .nameAndType 45 179), (0, u "([CII)[B"), (395, .class_ 576), (0, u "java/lang/CharSequence"), (22, u "CASE_INSENSITIVE_ORDER"), (0, u "Ljava/util/Comparator;"), (409, u "([C)V"), (90, u "serialPersistentFields"), (0, u "[Ljava/io/ObjectStreamField;"), (0, .class_ 1104), (0, u "java/lang/String$CaseInsensitiveComparator"), (1, .class_ 1107), (0, u "java/io/Serializable"), (0, .class_ 1109), (0, u "java/lang/Comparable"), (0, .class_ 1111), (0, u "java/lang/constant/Constable"), (0, .class_ 1113), (0, u "java/lang/constant/ConstantDesc"), (2, u "serialVersionUID"), (0, u "J"), (3, u "REPL"), (0, u "C"), (2, u "LATIN1"), (1, u "UTF16")] 323

def k7m0 : Method := { name := "<init>", desc := "()V", sig := { parameters := [], returnType := none }, accessFlags := 1, code := none }
def k7c1 : Code := { maxStack := 5, maxLocals := 2, code := jdk_42_method_3_code, exceptionTable := #[], attributes := #[] }
def k7m1 : Method := { name := "<init>", desc := "([C)V", sig := { parameters := [(.array .char)], returnType := none }, accessFlags := 1, code := some k7c1 }
def k7c2 : Code := { maxStack := 4, maxLocals := 6, code := jdk_42_method_149_code, exceptionTable := #[], attributes := #[] }
def k7m2 : Method := { name := "<init>", desc := "([CIILjava/lang/Void;)V", sig := { parameters := [(.array .char), .int, .int, (.object "java/lang/Void")], returnType := none }, accessFlags := 2, code := some k7c2 }
/-- java/lang/String -/
def k7 : Class := { plain "java/lang/String" (some 0) with
  accessFlags := 49
  interfaces := #[2, 3, 4, 5, 6]
  cf := some (fileOf pool7 10 #[.nestMembers #[1103]] #[{ accessFlags := 1, nameIndex := 5, descriptorIndex := 6, attributes := #[] }, { accessFlags := 1, nameIndex := 5, descriptorIndex := 1010, attributes := #[] }, { accessFlags := 2, nameIndex := 5, descriptorIndex := 29, attributes := #[] }] 49 2 #[1106, 1108, 575, 1110, 1112] #[{ accessFlags := 18, nameIndex := 13, descriptorIndex := 14, attributes := #[] }, { accessFlags := 18, nameIndex := 17, descriptorIndex := 18, attributes := #[] }, { accessFlags := 2, nameIndex := 21, descriptorIndex := 22, attributes := #[] }, { accessFlags := 2, nameIndex := 25, descriptorIndex := 26, attributes := #[] }, { accessFlags := 26, nameIndex := 1116, descriptorIndex := 1117, attributes := #[] }, { accessFlags := 24, nameIndex := 40, descriptorIndex := 26, attributes := #[] }, { accessFlags := 26, nameIndex := 1101, descriptorIndex := 1102, attributes := #[] }, { accessFlags := 26, nameIndex := 1121, descriptorIndex := 1122, attributes := #[] }, { accessFlags := 25, nameIndex := 599, descriptorIndex := 600, attributes := #[] }, { accessFlags := 24, nameIndex := 1125, descriptorIndex := 18, attributes := #[] }, { accessFlags := 24, nameIndex := 1127, descriptorIndex := 18, attributes := #[] }])
  fields := #[{ name := "value", type := (.array .byte), accessFlags := 18, slot := 0, constantValue := 0 }, { name := "coder", type := .byte, accessFlags := 18, slot := 1, constantValue := 0 }, { name := "hash", type := .int, accessFlags := 2, slot := 2, constantValue := 0 }, { name := "hashIsZero", type := .boolean, accessFlags := 2, slot := 3, constantValue := 0 }, { name := "serialVersionUID", type := .long, accessFlags := 26, slot := 0, constantValue := 0 }, { name := "COMPACT_STRINGS", type := .boolean, accessFlags := 24, slot := 1, constantValue := 0 }, { name := "serialPersistentFields", type := (.array (.object "java/io/ObjectStreamField")), accessFlags := 26, slot := 2, constantValue := 0 }, { name := "REPL", type := .char, accessFlags := 26, slot := 3, constantValue := 0 }, { name := "CASE_INSENSITIVE_ORDER", type := (.object "java/util/Comparator"), accessFlags := 25, slot := 4, constantValue := 0 }, { name := "LATIN1", type := .byte, accessFlags := 24, slot := 5, constantValue := 0 }, { name := "UTF16", type := .byte, accessFlags := 24, slot := 6, constantValue := 0 }]
  methods := #[k7m0, k7m1, k7m2]
  instanceTypes := #[(.array .byte), .byte, .int, .boolean]
  staticTypes := #[.long, .boolean, (.array (.object "java/io/ObjectStreamField")), .char, (.object "java/util/Comparator"), .byte, .byte]
  resolved := Array.replicate 1451 none
  statics := some 0 }

def pool8 : Array CpInfo := pool [(6, .class_ 8), (1, u "java/lang/Object"), (0, u "<init>"), (0, u "()V"), (1, .class_ 14), (1, u "java/lang/StringUTF16"), (31, u "$assertionsDisabled"), (0, u "Z"), (13, u "HI_BYTE_SHIFT"), (0, u "I"), (2, u "LO_BYTE_SHIFT"), (49, .methodref 12 116), (0, .nameAndType 117 118), (0, u "compress"), (0, u "([CI[BII)I"), (3, u "([CII)[B"), (138, u "coderFromArrayLen"), (0, u "([BI)B"), (106, .class_ 371), (1, u "java/lang/StringUTF16$LinesSpliterator"), (58, u "MAX_LENGTH"), (196, .class_ 628), (0, u "java/lang/StringUTF16$CodePointsSpliterator"), (0, .class_ 630), (0, u "java/lang/StringUTF16$CharsSpliterator")] 4

def k8m0 : Method := { name := "<init>", desc := "()V", sig := { parameters := [], returnType := none }, accessFlags := 0, code := none }
def k8c1 : Code := { maxStack := 2, maxLocals := 2, code := jdk_52_method_15_code, exceptionTable := #[], attributes := #[] }
def k8m1 : Method := { name := "coderFromArrayLen", desc := "([BI)B", sig := { parameters := [(.array .byte), .int], returnType := some .byte }, accessFlags := 8, code := some k8c1 }
def k8c2 : Code := { maxStack := 5, maxLocals := 6, code := jdk_52_method_16_code, exceptionTable := #[], attributes := #[] }
def k8m2 : Method := { name := "compress", desc := "([CII)[B", sig := { parameters := [(.array .char), .int, .int], returnType := some (.array .byte) }, accessFlags := 9, code := some k8c2 }
def k8c3 : Code := { maxStack := 3, maxLocals := 7, code := jdk_52_method_21_code, exceptionTable := #[], attributes := #[] }
def k8m3 : Method := { name := "compress", desc := "([CI[BII)I", sig := { parameters := [(.array .char), .int, (.array .byte), .int, .int], returnType := some .int }, accessFlags := 9, code := some k8c3 }
/-- java/lang/StringUTF16 -/
def k8 : Class := { plain "java/lang/StringUTF16" (some 0) with
  accessFlags := 48
  interfaces := #[]
  cf := some (fileOf pool8 12 #[.nestMembers #[627, 629, 369]] #[{ accessFlags := 0, nameIndex := 9, descriptorIndex := 10, attributes := #[] }, { accessFlags := 8, nameIndex := 261, descriptorIndex := 262, attributes := #[] }, { accessFlags := 9, nameIndex := 117, descriptorIndex := 122, attributes := #[] }, { accessFlags := 9, nameIndex := 117, descriptorIndex := 118, attributes := #[] }] 48 6 #[] #[{ accessFlags := 26, nameIndex := 61, descriptorIndex := 62, attributes := #[] }, { accessFlags := 26, nameIndex := 65, descriptorIndex := 62, attributes := #[] }, { accessFlags := 24, nameIndex := 430, descriptorIndex := 62, attributes := #[] }, { accessFlags := 4120, nameIndex := 46, descriptorIndex := 47, attributes := #[] }])
  fields := #[{ name := "HI_BYTE_SHIFT", type := .int, accessFlags := 26, slot := 0, constantValue := 0 }, { name := "LO_BYTE_SHIFT", type := .int, accessFlags := 26, slot := 1, constantValue := 0 }, { name := "MAX_LENGTH", type := .int, accessFlags := 24, slot := 2, constantValue := 0 }, { name := "$assertionsDisabled", type := .boolean, accessFlags := 4120, slot := 3, constantValue := 0 }]
  methods := #[k8m0, k8m1, k8m2, k8m3]
  instanceTypes := #[]
  staticTypes := #[.int, .int, .int, .boolean]
  resolved := Array.replicate 635 none
  statics := none }

def pool9 : Array CpInfo := pool [(3, .methodref 4 5), (0, .class_ 6), (0, .nameAndType 7 8), (0, u "java/lang/Object"), (0, u "<init>"), (0, u "()V"), (0, .fieldref 10 11), (0, .class_ 12), (0, .nameAndType 13 14), (0, u "com/example/identifier_grammars/identifiergrammars/Node"), (0, u "kind"), (0, u "Lcom/example/identifier_grammars/identifiergrammars/Node$Kind;"), (0, .fieldref 10 16), (0, .nameAndType 17 18), (0, u "name"), (0, u "Ljava/lang/String;"), (0, .fieldref 10 20), (0, .nameAndType 21 22), (0, u "children"), (0, u "[I"), (0, .fieldref 10 24), (0, .nameAndType 25 26), (0, u "min"), (0, u "I"), (0, .fieldref 10 28), (0, .nameAndType 29 26), (0, u "max"), (0, .fieldref 10 31), (0, .nameAndType 32 22), (0, u "low"), (0, .fieldref 10 34), (0, .nameAndType 35 22), (0, u "high"), (0, .fieldref 10 37), (0, .nameAndType 38 39), (0, u "ignoreCase"), (0, u "Z"), (0, .fieldref 41 42), (0, .class_ 43), (0, .nameAndType 44 14), (0, u "com/example/identifier_grammars/identifiergrammars/Node$Kind"), (0, u "RULE"), (0, .fieldref 10 46), (0, .nameAndType 47 22), (0, u "NONE"), (0, .methodref 10 49), (0, .nameAndType 7 50), (0, u "(Lcom/example/identifier_grammars/identifiergrammars/Node$Kind;Ljava/lang/String;[III[I[IZ)V"), (17, .integer 55296), (0, .integer 57343), (0, .integer 1114111), (5, u "UNBOUNDED"), (4, u "rule"), (0, u "(Ljava/lang/String;I)Lcom/example/identifier_grammars/identifiergrammars/Node;"), (12, u "acceptsSomeString"), (0, u "()Z")] 6

def k9c0 : Code := { maxStack := 2, maxLocals := 9, code := prog_20_method_1_code, exceptionTable := #[], attributes := #[] }
def k9m0 : Method := { name := "<init>", desc := "(Lcom/example/identifier_grammars/identifiergrammars/Node$Kind;Ljava/lang/String;[III[I[IZ)V", sig := { parameters := [(.object "com/example/identifier_grammars/identifiergrammars/Node$Kind"), (.object "java/lang/String"), (.array .int), .int, .int, (.array .int), (.array .int), .boolean], returnType := none }, accessFlags := 2, code := some k9c0 }
def k9c1 : Code := { maxStack := 10, maxLocals := 2, code := prog_20_method_2_code, exceptionTable := #[], attributes := #[] }
def k9m1 : Method := { name := "rule", desc := "(Ljava/lang/String;I)Lcom/example/identifier_grammars/identifiergrammars/Node;", sig := { parameters := [(.object "java/lang/String"), .int], returnType := some (.object "com/example/identifier_grammars/identifiergrammars/Node") }, accessFlags := 8, code := some k9c1 }
def k9c2 : Code := { maxStack := 2, maxLocals := 4, code := prog_20_method_9_code, exceptionTable := #[], attributes := #[] }
def k9m2 : Method := { name := "acceptsSomeString", desc := "()Z", sig := { parameters := [], returnType := some .boolean }, accessFlags := 0, code := some k9c2 }
/-- com/example/identifier_grammars/identifiergrammars/Node -/
def k9 : Class := { plain "com/example/identifier_grammars/identifiergrammars/Node" (some 0) with
  accessFlags := 48
  interfaces := #[]
  cf := some (fileOf pool9 10 #[.nestMembers #[41]] #[{ accessFlags := 2, nameIndex := 7, descriptorIndex := 50, attributes := #[] }, { accessFlags := 8, nameIndex := 81, descriptorIndex := 82, attributes := #[] }, { accessFlags := 0, nameIndex := 95, descriptorIndex := 96, attributes := #[] }] 48 4 #[] #[{ accessFlags := 24, nameIndex := 76, descriptorIndex := 26, attributes := #[] }, { accessFlags := 26, nameIndex := 47, descriptorIndex := 22, attributes := #[] }, { accessFlags := 16, nameIndex := 13, descriptorIndex := 14, attributes := #[] }, { accessFlags := 16, nameIndex := 17, descriptorIndex := 18, attributes := #[] }, { accessFlags := 16, nameIndex := 21, descriptorIndex := 22, attributes := #[] }, { accessFlags := 16, nameIndex := 25, descriptorIndex := 26, attributes := #[] }, { accessFlags := 16, nameIndex := 29, descriptorIndex := 26, attributes := #[] }, { accessFlags := 16, nameIndex := 32, descriptorIndex := 22, attributes := #[] }, { accessFlags := 16, nameIndex := 35, descriptorIndex := 22, attributes := #[] }, { accessFlags := 16, nameIndex := 38, descriptorIndex := 39, attributes := #[] }])
  fields := #[{ name := "UNBOUNDED", type := .int, accessFlags := 24, slot := 0, constantValue := 0 }, { name := "NONE", type := (.array .int), accessFlags := 26, slot := 1, constantValue := 0 }, { name := "kind", type := (.object "com/example/identifier_grammars/identifiergrammars/Node$Kind"), accessFlags := 16, slot := 0, constantValue := 0 }, { name := "name", type := (.object "java/lang/String"), accessFlags := 16, slot := 1, constantValue := 0 }, { name := "children", type := (.array .int), accessFlags := 16, slot := 2, constantValue := 0 }, { name := "min", type := .int, accessFlags := 16, slot := 3, constantValue := 0 }, { name := "max", type := .int, accessFlags := 16, slot := 4, constantValue := 0 }, { name := "low", type := (.array .int), accessFlags := 16, slot := 5, constantValue := 0 }, { name := "high", type := (.array .int), accessFlags := 16, slot := 6, constantValue := 0 }, { name := "ignoreCase", type := .boolean, accessFlags := 16, slot := 7, constantValue := 0 }]
  methods := #[k9m0, k9m1, k9m2]
  instanceTypes := #[(.object "com/example/identifier_grammars/identifiergrammars/Node$Kind"), (.object "java/lang/String"), (.array .int), .int, .int, (.array .int), (.array .int), .boolean]
  staticTypes := #[.int, (.array .int)]
  resolved := Array.replicate 103 none
  statics := some 1 }

def pool10 : Array CpInfo := pool [(2, .class_ 4), (1, u "java/lang/Enum"), (0, u "name"), (0, u "Ljava/lang/String;"), (2, u "ordinal"), (0, u "I"), (1, .class_ 14), (1, u "java/lang/Object"), (4, u "hash"), (86, .class_ 108), (1, u "java/lang/Enum$EnumDesc"), (2, .class_ 112), (0, u "java/lang/constant/Constable"), (0, .class_ 114), (0, u "java/lang/Comparable"), (0, .class_ 116), (0, u "java/io/Serializable")] 87

/-- java/lang/Enum -/
def k10 : Class := { plain "java/lang/Enum" (some 0) with
  accessFlags := 1057
  interfaces := #[5, 3, 2]
  cf := some (fileOf pool10 2 #[.nestMembers #[106]] #[] 1057 12 #[111, 113, 115] #[{ accessFlags := 18, nameIndex := 5, descriptorIndex := 6, attributes := #[] }, { accessFlags := 18, nameIndex := 9, descriptorIndex := 10, attributes := #[] }, { accessFlags := 2, nameIndex := 19, descriptorIndex := 10, attributes := #[] }])
  fields := #[{ name := "name", type := (.object "java/lang/String"), accessFlags := 18, slot := 0, constantValue := 0 }, { name := "ordinal", type := .int, accessFlags := 18, slot := 1, constantValue := 0 }, { name := "hash", type := .int, accessFlags := 2, slot := 2, constantValue := 0 }]
  methods := #[]
  instanceTypes := #[(.object "java/lang/String"), .int, .int]
  staticTypes := #[]
  resolved := Array.replicate 204 none
  statics := none }

def pool11 : Array CpInfo := pool [(1, .class_ 2), (0, u "com/example/identifier_grammars/identifiergrammars/Node$Kind"), (2, u "RULE"), (0, u "Lcom/example/identifier_grammars/identifiergrammars/Node$Kind;"), (2, u "SEQUENCE"), (2, u "CHOICE"), (2, u "REPEAT"), (2, u "TERMINALS"), (2, u "NOTHING"), (2, u "$VALUES"), (0, u "[Lcom/example/identifier_grammars/identifiergrammars/Node$Kind;"), (6, .class_ 34), (1, u "java/lang/Enum"), (29, .class_ 65), (0, u "com/example/identifier_grammars/identifiergrammars/Node")] 2

/-- com/example/identifier_grammars/identifiergrammars/Node$Kind -/
def k11 : Class := { plain "com/example/identifier_grammars/identifiergrammars/Node$Kind" (some 10) with
  accessFlags := 16432
  interfaces := #[]
  cf := some (fileOf pool11 1 #[.nestHost 64] #[] 16432 32 #[] #[{ accessFlags := 16409, nameIndex := 5, descriptorIndex := 6, attributes := #[] }, { accessFlags := 16409, nameIndex := 9, descriptorIndex := 6, attributes := #[] }, { accessFlags := 16409, nameIndex := 12, descriptorIndex := 6, attributes := #[] }, { accessFlags := 16409, nameIndex := 15, descriptorIndex := 6, attributes := #[] }, { accessFlags := 16409, nameIndex := 18, descriptorIndex := 6, attributes := #[] }, { accessFlags := 16409, nameIndex := 21, descriptorIndex := 6, attributes := #[] }, { accessFlags := 4122, nameIndex := 24, descriptorIndex := 25, attributes := #[] }])
  fields := #[{ name := "RULE", type := (.object "com/example/identifier_grammars/identifiergrammars/Node$Kind"), accessFlags := 16409, slot := 0, constantValue := 0 }, { name := "SEQUENCE", type := (.object "com/example/identifier_grammars/identifiergrammars/Node$Kind"), accessFlags := 16409, slot := 1, constantValue := 0 }, { name := "CHOICE", type := (.object "com/example/identifier_grammars/identifiergrammars/Node$Kind"), accessFlags := 16409, slot := 2, constantValue := 0 }, { name := "REPEAT", type := (.object "com/example/identifier_grammars/identifiergrammars/Node$Kind"), accessFlags := 16409, slot := 3, constantValue := 0 }, { name := "TERMINALS", type := (.object "com/example/identifier_grammars/identifiergrammars/Node$Kind"), accessFlags := 16409, slot := 4, constantValue := 0 }, { name := "NOTHING", type := (.object "com/example/identifier_grammars/identifiergrammars/Node$Kind"), accessFlags := 16409, slot := 5, constantValue := 0 }, { name := "$VALUES", type := (.array (.object "com/example/identifier_grammars/identifiergrammars/Node$Kind")), accessFlags := 4122, slot := 6, constantValue := 0 }]
  methods := #[]
  instanceTypes := #[(.object "java/lang/String"), .int, .int]
  staticTypes := #[(.object "com/example/identifier_grammars/identifiergrammars/Node$Kind"), (.object "com/example/identifier_grammars/identifiergrammars/Node$Kind"), (.object "com/example/identifier_grammars/identifiergrammars/Node$Kind"), (.object "com/example/identifier_grammars/identifiergrammars/Node$Kind"), (.object "com/example/identifier_grammars/identifiergrammars/Node$Kind"), (.object "com/example/identifier_grammars/identifiergrammars/Node$Kind"), (.array (.object "com/example/identifier_grammars/identifiergrammars/Node$Kind"))]
  resolved := Array.replicate 68 none
  statics := some 2 }

def pool12 : Array CpInfo := pool [(4, .class_ 6), (1, u "java/lang/Object"), (0, u "<init>"), (0, u "()V"), (5, .class_ 16), (1, u "java/lang/StringLatin1"), (104, u "$assertionsDisabled"), (0, u "Z"), (98, .class_ 223), (1, u "java/lang/StringLatin1$LinesSpliterator"), (166, .class_ 391), (0, u "java/lang/StringLatin1$CharsSpliterator")] 3

def k12m0 : Method := { name := "<init>", desc := "()V", sig := { parameters := [], returnType := none }, accessFlags := 0, code := none }
/-- java/lang/StringLatin1 -/
def k12 : Class := { plain "java/lang/StringLatin1" (some 0) with
  accessFlags := 48
  interfaces := #[]
  cf := some (fileOf pool12 14 #[.nestMembers #[390, 221]] #[{ accessFlags := 0, nameIndex := 7, descriptorIndex := 8, attributes := #[] }] 48 4 #[] #[{ accessFlags := 4120, nameIndex := 121, descriptorIndex := 122, attributes := #[] }])
  fields := #[{ name := "$assertionsDisabled", type := .boolean, accessFlags := 4120, slot := 0, constantValue := 0 }]
  methods := #[k12m0]
  instanceTypes := #[]
  staticTypes := #[.boolean]
  resolved := Array.replicate 395 none
  statics := none }

def pool13 : Array CpInfo := pool [(2, .class_ 4), (1, u "java/lang/Object"), (0, u "<init>"), (0, u "()V"), (17, .class_ 26), (1, u "jdk/internal/util/Preconditions"), (28, .class_ 56), (0, u "jdk/internal/util/Preconditions$4"), (57, .class_ 115), (0, u "jdk/internal/util/Preconditions$1"), (7, u "SIOOBE_FORMATTER"), (0, u "Ljava/util/function/BiFunction;"), (0, .class_ 126), (0, u "jdk/internal/util/Preconditions$2"), (3, u "AIOOBE_FORMATTER"), (0, .class_ 132), (0, u "jdk/internal/util/Preconditions$3"), (3, u "IOOBE_FORMATTER")] 57

def k13m0 : Method := { name := "<init>", desc := "()V", sig := { parameters := [], returnType := none }, accessFlags := 1, code := none }
/-- jdk/internal/util/Preconditions -/
def k13 : Class := { plain "jdk/internal/util/Preconditions" (some 0) with
  accessFlags := 33
  interfaces := #[]
  cf := some (fileOf pool13 24 #[.nestMembers #[55, 131, 125, 114]] #[{ accessFlags := 1, nameIndex := 5, descriptorIndex := 6, attributes := #[] }] 33 2 #[] #[{ accessFlags := 25, nameIndex := 123, descriptorIndex := 124, attributes := #[] }, { accessFlags := 25, nameIndex := 130, descriptorIndex := 124, attributes := #[] }, { accessFlags := 25, nameIndex := 136, descriptorIndex := 124, attributes := #[] }])
  fields := #[{ name := "SIOOBE_FORMATTER", type := (.object "java/util/function/BiFunction"), accessFlags := 25, slot := 0, constantValue := 0 }, { name := "AIOOBE_FORMATTER", type := (.object "java/util/function/BiFunction"), accessFlags := 25, slot := 1, constantValue := 0 }, { name := "IOOBE_FORMATTER", type := (.object "java/util/function/BiFunction"), accessFlags := 25, slot := 2, constantValue := 0 }]
  methods := #[k13m0]
  instanceTypes := #[]
  staticTypes := #[(.object "java/util/function/BiFunction"), (.object "java/util/function/BiFunction"), (.object "java/util/function/BiFunction")]
  resolved := Array.replicate 194 none
  statics := some 3 }

def pool14 : Array CpInfo := pool [(9, u "<init>"), (6, .class_ 18), (1, u "java/lang/Object"), (0, u "()V"), (1, .class_ 23), (1, u "jdk/internal/util/ArraysSupport"), (0, u "LOG2_ARRAY_LONG_INDEX_SCALE"), (0, u "I"), (2, u "U"), (0, u "Ljdk/internal/misc/Unsafe;"), (8, u "BIG_ENDIAN"), (0, u "Z"), (8, u "LOG2_BYTE_BIT_SIZE"), (4, u "LOG2_ARRAY_INT_INDEX_SCALE"), (54, u "JLA"), (0, u "Ljdk/internal/access/JavaLangAccess;"), (11, u "LOG2_ARRAY_BOOLEAN_INDEX_SCALE"), (9, u "LOG2_ARRAY_BYTE_INDEX_SCALE"), (5, u "LOG2_ARRAY_CHAR_INDEX_SCALE"), (5, u "LOG2_ARRAY_SHORT_INDEX_SCALE"), (18, u "LOG2_ARRAY_FLOAT_INDEX_SCALE"), (24, u "LOG2_ARRAY_DOUBLE_INDEX_SCALE"), (89, u "T_BOOLEAN"), (2, u "T_CHAR"), (1, u "T_FLOAT"), (1, u "T_DOUBLE"), (1, u "T_BYTE"), (1, u "T_SHORT"), (1, u "T_INT"), (1, u "T_LONG"), (1, u "SOFT_MAX_ARRAY_LENGTH")] 83

def k14m0 : Method := { name := "<init>", desc := "()V", sig := { parameters := [], returnType := none }, accessFlags := 2, code := none }
/-- jdk/internal/util/ArraysSupport -/
def k14 : Class := { plain "jdk/internal/util/ArraysSupport" (some 0) with
  accessFlags := 33
  interfaces := #[]
  cf := some (fileOf pool14 21 #[] #[{ accessFlags := 2, nameIndex := 9, descriptorIndex := 19, attributes := #[] }] 33 16 #[] #[{ accessFlags := 24, nameIndex := 28, descriptorIndex := 29, attributes := #[] }, { accessFlags := 26, nameIndex := 38, descriptorIndex := 39, attributes := #[] }, { accessFlags := 25, nameIndex := 121, descriptorIndex := 25, attributes := #[] }, { accessFlags := 25, nameIndex := 131, descriptorIndex := 25, attributes := #[] }, { accessFlags := 25, nameIndex := 137, descriptorIndex := 25, attributes := #[] }, { accessFlags := 25, nameIndex := 143, descriptorIndex := 25, attributes := #[] }, { accessFlags := 25, nameIndex := 53, descriptorIndex := 25, attributes := #[] }, { accessFlags := 25, nameIndex := 24, descriptorIndex := 25, attributes := #[] }, { accessFlags := 25, nameIndex := 162, descriptorIndex := 25, attributes := #[] }, { accessFlags := 25, nameIndex := 187, descriptorIndex := 25, attributes := #[] }, { accessFlags := 26, nameIndex := 48, descriptorIndex := 25, attributes := #[] }, { accessFlags := 25, nameIndex := 277, descriptorIndex := 25, attributes := #[] }, { accessFlags := 25, nameIndex := 280, descriptorIndex := 25, attributes := #[] }, { accessFlags := 25, nameIndex := 282, descriptorIndex := 25, attributes := #[] }, { accessFlags := 25, nameIndex := 284, descriptorIndex := 25, attributes := #[] }, { accessFlags := 25, nameIndex := 286, descriptorIndex := 25, attributes := #[] }, { accessFlags := 25, nameIndex := 288, descriptorIndex := 25, attributes := #[] }, { accessFlags := 25, nameIndex := 290, descriptorIndex := 25, attributes := #[] }, { accessFlags := 25, nameIndex := 292, descriptorIndex := 25, attributes := #[] }, { accessFlags := 26, nameIndex := 108, descriptorIndex := 109, attributes := #[] }, { accessFlags := 25, nameIndex := 294, descriptorIndex := 25, attributes := #[] }])
  fields := #[{ name := "U", type := (.object "jdk/internal/misc/Unsafe"), accessFlags := 24, slot := 0, constantValue := 0 }, { name := "BIG_ENDIAN", type := .boolean, accessFlags := 26, slot := 1, constantValue := 0 }, { name := "LOG2_ARRAY_BOOLEAN_INDEX_SCALE", type := .int, accessFlags := 25, slot := 2, constantValue := 0 }, { name := "LOG2_ARRAY_BYTE_INDEX_SCALE", type := .int, accessFlags := 25, slot := 3, constantValue := 0 }, { name := "LOG2_ARRAY_CHAR_INDEX_SCALE", type := .int, accessFlags := 25, slot := 4, constantValue := 0 }, { name := "LOG2_ARRAY_SHORT_INDEX_SCALE", type := .int, accessFlags := 25, slot := 5, constantValue := 0 }, { name := "LOG2_ARRAY_INT_INDEX_SCALE", type := .int, accessFlags := 25, slot := 6, constantValue := 0 }, { name := "LOG2_ARRAY_LONG_INDEX_SCALE", type := .int, accessFlags := 25, slot := 7, constantValue := 0 }, { name := "LOG2_ARRAY_FLOAT_INDEX_SCALE", type := .int, accessFlags := 25, slot := 8, constantValue := 0 }, { name := "LOG2_ARRAY_DOUBLE_INDEX_SCALE", type := .int, accessFlags := 25, slot := 9, constantValue := 0 }, { name := "LOG2_BYTE_BIT_SIZE", type := .int, accessFlags := 26, slot := 10, constantValue := 0 }, { name := "T_BOOLEAN", type := .int, accessFlags := 25, slot := 11, constantValue := 0 }, { name := "T_CHAR", type := .int, accessFlags := 25, slot := 12, constantValue := 0 }, { name := "T_FLOAT", type := .int, accessFlags := 25, slot := 13, constantValue := 0 }, { name := "T_DOUBLE", type := .int, accessFlags := 25, slot := 14, constantValue := 0 }, { name := "T_BYTE", type := .int, accessFlags := 25, slot := 15, constantValue := 0 }, { name := "T_SHORT", type := .int, accessFlags := 25, slot := 16, constantValue := 0 }, { name := "T_INT", type := .int, accessFlags := 25, slot := 17, constantValue := 0 }, { name := "T_LONG", type := .int, accessFlags := 25, slot := 18, constantValue := 0 }, { name := "JLA", type := (.object "jdk/internal/access/JavaLangAccess"), accessFlags := 26, slot := 19, constantValue := 0 }, { name := "SOFT_MAX_ARRAY_LENGTH", type := .int, accessFlags := 25, slot := 20, constantValue := 0 }]
  methods := #[k14m0]
  instanceTypes := #[]
  staticTypes := #[(.object "jdk/internal/misc/Unsafe"), .boolean, .int, .int, .int, .int, .int, .int, .int, .int, .int, .int, .int, .int, .int, .int, .int, .int, .int, (.object "jdk/internal/access/JavaLangAccess"), .int]
  resolved := Array.replicate 378 none
  statics := none }

def pool15 : Array CpInfo := pool [(1, u "java/lang/Cloneable"), (0, .class_ 1), (0, u "java/lang/Object"), (0, .class_ 3)] 3

/-- java/lang/Cloneable -/
def k15 : Class := { plain "java/lang/Cloneable" (some 0) with
  accessFlags := 1537
  interfaces := #[]
  cf := some (fileOf pool15 2 #[] #[] 1537 4 #[] #[])
  fields := #[]
  methods := #[]
  instanceTypes := #[]
  staticTypes := #[]
  resolved := Array.replicate 8 none
  statics := none }

/-- the primitive byte -/
def k16 : Class := { plain "byte" none with kind := .primitive 'B', accessFlags := 0x411 }
/-- [B -/
def k17 : Class := { plain "[B" (some 0) with kind := .array 16 .byte, interfaces := #[15, 2], accessFlags := 1041 }

/-- the primitive char -/
def k18 : Class := { plain "char" none with kind := .primitive 'C', accessFlags := 0x411 }
/-- [C -/
def k19 : Class := { plain "[C" (some 0) with kind := .array 18 .char, interfaces := #[15, 2], accessFlags := 1041 }

/-- the primitive int -/
def k20 : Class := { plain "int" none with kind := .primitive 'I', accessFlags := 0x411 }
/-- [I -/
def k21 : Class := { plain "[I" (some 0) with kind := .array 20 .int, interfaces := #[15, 2], accessFlags := 1041 }

def heap : Heap := #[{ cls := 7, slots := #[.long 0, .int 1, .null, .int 0, .null, .int 0, .int 0], vm := .statics 7 },
  { cls := 9, slots := #[.int 0, .ref 5], vm := .statics 9 },
  { cls := 11, slots := #[.ref 4, .null, .null, .null, .null, .null, .null], vm := .statics 11 },
  { cls := 13, slots := #[.null, .null, .null], vm := .statics 13 },
  { cls := 11, slots := #[.null, .int 0, .int 0], vm := .none },
  { cls := 21, slots := #[], vm := .none }]
def classes : Array Class := #[k0, k1, k2, k3, k4, k5, k6, k7, k8, k9, k10, k11, k12, k13, k14, k15, k16, k17, k18, k19, k20, k21]
def interned : List (Array UInt16 × Addr) := []
def slotsUsed : Nat := 22
def theMethod : MethodId := ⟨1, 3⟩
def args0 : Array Value := #[.int 65, .int 66, .int 67, .int 4, .int 5, .int 6]
def aboutOver (below : List Frame) : State where
  vm := { classes := classes, interned := interned.toArray }
  heap := heap
  slotsUsed := slotsUsed
  threads := #[{ frames := .invoking theMethod args0 :: below }]
def below0 : List Frame := [.native { method := ⟨0, 0⟩, args := #[] }]
def about1 : State := aboutOver below0
def p0 : Program := .bare "" "" ""
def e0 : Env := launch0.env 0 0 0
theorem w_frames : about1.frames = Frame.invoking theMethod args0 :: below0 := rfl
set_option maxRecDepth 65536 in
theorem w_args : argsFit about1.vm theMethod args0 = true := by decide +kernel
set_option maxRecDepth 65536 in
theorem w_heap : heapFits about1 = true := by decide +kernel
set_option maxRecDepth 65536 in
theorem w_runnable : about1.curStatus? = some .runnable := by decide +kernel
set_option maxRecDepth 65536 in
theorem w_alone : about1.alone = true := by decide +kernel
set_option maxRecDepth 65536 in
theorem w_named : about1.methodNamed? x = some theMethod := by decide +kernel
set_option maxRecDepth 65536 in
theorem w_hears : about1.hears theMethod below0 = true := by decide +kernel
set_option maxRecDepth 65536 in
theorem w_ripe : about1.ripe theMethod args0 below0 = true := by decide +kernel
theorem w_running : about1.status = .running := rfl
set_option maxRecDepth 65536 in
theorem w_room : about1.hasRoom e0.platform room_1 = true :=
  launch0.hasRoom_least _ room_1 (by decide +kernel) (by decide +kernel) (by decide +kernel) (by decide +kernel) (by decide +kernel) (by decide +kernel)
theorem allAtoms_all (ts : List Jvm.Cond) (a : Array Jvm.Value) (st : Jvm.State) : (allAtoms ts).before a st = ts.all (fun c => c.before a st) := by
  induction ts with
  | nil => rfl
  | cons c t ih =>
    show (Jvm.Cond.and c (allAtoms t)).before a st = _
    rw [Jvm.Cond.before_and, ih, List.all_cons]
def words1 : List Jvm.Cond := Jvm.Cond.code x code maxLocals ret :: tables_1
/-- a 'code' word, met by the world's own term for the bytes: nothing is compared byte by byte -/
theorem code_word {y : MethodName} {bytes : ByteArray} {mx : Nat} {rt : Option FieldType} {a : Array Value} {s : State} {m : MethodId} {meth : Method} {c : Code} (h1 : s.methodNamed? y = some m) (h2 : s.vm.method? m = some meth) (h3 : meth.code = some c) (h4 : c.code = bytes)
    (h5 : (c.maxLocals == mx && c.exceptionTable.isEmpty && decide (c.maxStack ≤ mostOperands) && decide (meth.sig.returnType = rt) && !meth.locks && decide (parseMethodDescriptor y.desc = some meth.sig)) = true) : (Jvm.Cond.code y bytes mx rt).before a s = true := by
  simp only [Bool.and_eq_true, beq_iff_eq, Bool.not_eq_true', decide_eq_true_eq] at h5
  obtain ⟨⟨⟨⟨⟨g1, g2⟩, g3⟩, g4⟩, g5⟩, g6⟩ := h5
  simp [Cond.before, Cond.holds, Cond.value, h1, h2, h3, h4, g1, g2, g3, g4, g5, g6]
def isCode : Jvm.Cond → Bool
  | .code _ _ _ _ => true
  | _ => false
theorem all_split {L : List Jvm.Cond} {P : Jvm.Cond → Bool} (h1 : L.all (fun c => isCode c || P c) = true) (h2 : ∀ c ∈ L.filter isCode, P c = true) : L.all P = true := by
  refine List.all_eq_true.mpr fun c hc => ?_
  have h := List.all_eq_true.mp h1 c hc
  rcases Bool.eq_false_or_eq_true (isCode c) with hi | hi
  · exact h2 c (List.mem_filter.mpr ⟨hc, hi⟩)
  · simpa [hi] using h
set_option maxRecDepth 65536 in
theorem w_c0 : (Jvm.Cond.code x code maxLocals ret).before args0 about1 = true := code_word (m := ⟨1, 3⟩) (meth := k1m3) (c := k1c3) (by decide +kernel) rfl rfl rfl (by decide +kernel)
set_option maxRecDepth 65536 in
theorem w_c1 : (Jvm.Cond.code ({ cls := "com/example/identifier_grammars/identifiergrammars/NodeRulePinLaw", name := "pick", desc := "(ICCC)Ljava/lang/String;" } : Jvm.MethodName) method_2_code (8 : Nat) (Option.some (Jvm.ClassFile.FieldType.object "java/lang/String"))).before args0 about1 = true := code_word (m := ⟨1, 1⟩) (meth := k1m1) (c := k1c1) (by decide +kernel) rfl rfl rfl (by decide +kernel)
set_option maxRecDepth 65536 in
theorem w_c2 : (Jvm.Cond.code ({ cls := "java/lang/String", name := "<init>", desc := "([C)V" } : Jvm.MethodName) jdk_42_method_3_code (2 : Nat) (Option.none : Option Jvm.ClassFile.FieldType)).before args0 about1 = true := code_word (m := ⟨7, 1⟩) (meth := k7m1) (c := k7c1) (by decide +kernel) rfl rfl rfl (by decide +kernel)
set_option maxRecDepth 65536 in
theorem w_c3 : (Jvm.Cond.code ({ cls := "java/lang/String", name := "<init>", desc := "([CIILjava/lang/Void;)V" } : Jvm.MethodName) jdk_42_method_149_code (6 : Nat) (Option.none : Option Jvm.ClassFile.FieldType)).before args0 about1 = true := code_word (m := ⟨7, 2⟩) (meth := k7m2) (c := k7c2) (by decide +kernel) rfl rfl rfl (by decide +kernel)
set_option maxRecDepth 65536 in
theorem w_c4 : (Jvm.Cond.code ({ cls := "java/lang/Object", name := "<init>", desc := "()V" } : Jvm.MethodName) object_method_1_code (1 : Nat) (Option.none : Option Jvm.ClassFile.FieldType)).before args0 about1 = true := code_word (m := ⟨0, 0⟩) (meth := k0m0) (c := k0c0) (by decide +kernel) rfl rfl rfl (by decide +kernel)
set_option maxRecDepth 65536 in
theorem w_c5 : (Jvm.Cond.code ({ cls := "java/lang/StringUTF16", name := "compress", desc := "([CII)[B" } : Jvm.MethodName) jdk_52_method_16_code (6 : Nat) (Option.some (Jvm.ClassFile.FieldType.array Jvm.ClassFile.FieldType.byte))).before args0 about1 = true := code_word (m := ⟨8, 2⟩) (meth := k8m2) (c := k8c2) (by decide +kernel) rfl rfl rfl (by decide +kernel)
set_option maxRecDepth 65536 in
theorem w_c6 : (Jvm.Cond.code ({ cls := "java/lang/StringUTF16", name := "compress", desc := "([CI[BII)I" } : Jvm.MethodName) jdk_52_method_21_code (7 : Nat) (Option.some Jvm.ClassFile.FieldType.int)).before args0 about1 = true := code_word (m := ⟨8, 3⟩) (meth := k8m3) (c := k8c3) (by decide +kernel) rfl rfl rfl (by decide +kernel)
set_option maxRecDepth 65536 in
theorem w_c7 : (Jvm.Cond.code ({ cls := "java/lang/StringUTF16", name := "coderFromArrayLen", desc := "([BI)B" } : Jvm.MethodName) jdk_52_method_15_code (2 : Nat) (Option.some Jvm.ClassFile.FieldType.byte)).before args0 about1 = true := code_word (m := ⟨8, 1⟩) (meth := k8m1) (c := k8c1) (by decide +kernel) rfl rfl rfl (by decide +kernel)
set_option maxRecDepth 65536 in
theorem w_c8 : (Jvm.Cond.code ({ cls := "com/example/identifier_grammars/identifiergrammars/Node", name := "rule", desc := "(Ljava/lang/String;I)Lcom/example/identifier_grammars/identifiergrammars/Node;" } : Jvm.MethodName) prog_20_method_2_code (2 : Nat) (Option.some (Jvm.ClassFile.FieldType.object "com/example/identifier_grammars/identifiergrammars/Node"))).before args0 about1 = true := code_word (m := ⟨9, 1⟩) (meth := k9m1) (c := k9c1) (by decide +kernel) rfl rfl rfl (by decide +kernel)
set_option maxRecDepth 65536 in
theorem w_c9 : (Jvm.Cond.code ({ cls := "com/example/identifier_grammars/identifiergrammars/Node", name := "<init>", desc := "(Lcom/example/identifier_grammars/identifiergrammars/Node$Kind;Ljava/lang/String;[III[I[IZ)V" } : Jvm.MethodName) prog_20_method_1_code (9 : Nat) (Option.none : Option Jvm.ClassFile.FieldType)).before args0 about1 = true := code_word (m := ⟨9, 0⟩) (meth := k9m0) (c := k9c0) (by decide +kernel) rfl rfl rfl (by decide +kernel)
set_option maxRecDepth 65536 in
theorem w_c10 : (Jvm.Cond.code ({ cls := "com/example/identifier_grammars/identifiergrammars/NodeRulePinLaw", name := "isPlainRule", desc := "(Lcom/example/identifier_grammars/identifiergrammars/Node;Ljava/lang/String;I)Z" } : Jvm.MethodName) method_3_code (3 : Nat) (Option.some Jvm.ClassFile.FieldType.boolean)).before args0 about1 = true := code_word (m := ⟨1, 2⟩) (meth := k1m2) (c := k1c2) (by decide +kernel) rfl rfl rfl (by decide +kernel)
set_option maxRecDepth 65536 in
theorem w_c11 : (Jvm.Cond.code ({ cls := "com/example/identifier_grammars/identifiergrammars/Node", name := "acceptsSomeString", desc := "()Z" } : Jvm.MethodName) prog_20_method_9_code (4 : Nat) (Option.some Jvm.ClassFile.FieldType.boolean)).before args0 about1 = true := code_word (m := ⟨9, 2⟩) (meth := k9m2) (c := k9c2) (by decide +kernel) rfl rfl rfl (by decide +kernel)
def codes1 : List Jvm.Cond := [Jvm.Cond.code x code maxLocals ret, Jvm.Cond.code ({ cls := "com/example/identifier_grammars/identifiergrammars/NodeRulePinLaw", name := "pick", desc := "(ICCC)Ljava/lang/String;" } : Jvm.MethodName) method_2_code (8 : Nat) (Option.some (Jvm.ClassFile.FieldType.object "java/lang/String")), Jvm.Cond.code ({ cls := "java/lang/String", name := "<init>", desc := "([C)V" } : Jvm.MethodName) jdk_42_method_3_code (2 : Nat) (Option.none : Option Jvm.ClassFile.FieldType), Jvm.Cond.code ({ cls := "java/lang/String", name := "<init>", desc := "([CIILjava/lang/Void;)V" } : Jvm.MethodName) jdk_42_method_149_code (6 : Nat) (Option.none : Option Jvm.ClassFile.FieldType), Jvm.Cond.code ({ cls := "java/lang/Object", name := "<init>", desc := "()V" } : Jvm.MethodName) object_method_1_code (1 : Nat) (Option.none : Option Jvm.ClassFile.FieldType), Jvm.Cond.code ({ cls := "java/lang/StringUTF16", name := "compress", desc := "([CII)[B" } : Jvm.MethodName) jdk_52_method_16_code (6 : Nat) (Option.some (Jvm.ClassFile.FieldType.array Jvm.ClassFile.FieldType.byte)), Jvm.Cond.code ({ cls := "java/lang/StringUTF16", name := "compress", desc := "([CI[BII)I" } : Jvm.MethodName) jdk_52_method_21_code (7 : Nat) (Option.some Jvm.ClassFile.FieldType.int), Jvm.Cond.code ({ cls := "java/lang/StringUTF16", name := "coderFromArrayLen", desc := "([BI)B" } : Jvm.MethodName) jdk_52_method_15_code (2 : Nat) (Option.some Jvm.ClassFile.FieldType.byte), Jvm.Cond.code ({ cls := "com/example/identifier_grammars/identifiergrammars/Node", name := "rule", desc := "(Ljava/lang/String;I)Lcom/example/identifier_grammars/identifiergrammars/Node;" } : Jvm.MethodName) prog_20_method_2_code (2 : Nat) (Option.some (Jvm.ClassFile.FieldType.object "com/example/identifier_grammars/identifiergrammars/Node")), Jvm.Cond.code ({ cls := "com/example/identifier_grammars/identifiergrammars/Node", name := "<init>", desc := "(Lcom/example/identifier_grammars/identifiergrammars/Node$Kind;Ljava/lang/String;[III[I[IZ)V" } : Jvm.MethodName) prog_20_method_1_code (9 : Nat) (Option.none : Option Jvm.ClassFile.FieldType), Jvm.Cond.code ({ cls := "com/example/identifier_grammars/identifiergrammars/NodeRulePinLaw", name := "isPlainRule", desc := "(Lcom/example/identifier_grammars/identifiergrammars/Node;Ljava/lang/String;I)Z" } : Jvm.MethodName) method_3_code (3 : Nat) (Option.some Jvm.ClassFile.FieldType.boolean), Jvm.Cond.code ({ cls := "com/example/identifier_grammars/identifiergrammars/Node", name := "acceptsSomeString", desc := "()Z" } : Jvm.MethodName) prog_20_method_9_code (4 : Nat) (Option.some Jvm.ClassFile.FieldType.boolean)]
set_option maxRecDepth 65536 in
theorem codes_eq : words1.filter isCode = codes1 := rfl
theorem w_codes : ∀ c ∈ words1.filter isCode, c.before args0 about1 = true := by
  rw [codes_eq]
  intro c hc
  simp only [codes1, List.mem_cons, List.not_mem_nil, or_false] at hc
  rcases hc with rfl | rfl | rfl | rfl | rfl | rfl | rfl | rfl | rfl | rfl | rfl | rfl
  · exact w_c0
  · exact w_c1
  · exact w_c2
  · exact w_c3
  · exact w_c4
  · exact w_c5
  · exact w_c6
  · exact w_c7
  · exact w_c8
  · exact w_c9
  · exact w_c10
  · exact w_c11
set_option maxRecDepth 65536 in
theorem w_t1 : (words1.take 24).all (fun c => isCode c || c.before args0 about1) = true := by decide +kernel
set_option maxRecDepth 65536 in
theorem w_t2 : ((words1.drop 24).take 24).all (fun c => isCode c || c.before args0 about1) = true := by decide +kernel
set_option maxRecDepth 65536 in
theorem w_t3 : (((words1.drop 24).drop 24).take 24).all (fun c => isCode c || c.before args0 about1) = true := by decide +kernel
set_option maxRecDepth 65536 in
theorem w_t4 : (((words1.drop 24).drop 24).drop 24).all (fun c => isCode c || c.before args0 about1) = true := by decide +kernel
theorem w_tables : (allAtoms (Jvm.Cond.code x code maxLocals ret :: tables_1)).before args0 about1 = true := by
  rw [allAtoms_all]
  show words1.all (fun c => c.before args0 about1) = true
  refine all_split ?_ w_codes
  rw [← List.take_append_drop 24 words1, List.all_append, w_t1, ← List.take_append_drop 24 (words1.drop 24), List.all_append, w_t2, ← List.take_append_drop 24 ((words1.drop 24).drop 24), List.all_append, w_t3, w_t4]
  rfl
set_option maxRecDepth 65536 in
theorem w_rest : rest_1_c.before args0 about1 = true := by decide +kernel
set_option maxRecDepth 65536 in
theorem w_case : (Jvm.Cond.and given_1 narrow_1).before args0 about1 = true := by decide +kernel
set_option maxRecDepth 65536 in
theorem w_consts : constsHeld consts_1 about1 := Jvm.Lit.constsHeldB_iff.mp (by decide +kernel)
theorem w_applies : (headSpec (Jvm.Cond.code x code maxLocals ret :: tables_1) room_1).applies x e0.platform about1 = true :=
  (Spec.applies_iff w_frames).mpr ⟨w_running, w_runnable, w_alone, w_named, w_hears, w_ripe, w_room, w_tables⟩
theorem atStart : AtStart classFile x code maxLocals ret World_1 tables_1 room_1 Calls_1 rest_1 Pre_1 launch0 p0 e0 about1 theMethod args0 below0 :=
  ⟨lists_1, trivial, launch0.admits_env _ _ _, launch0.least_env, fairChoices_fair.cas, fairChoices_fair.clock, w_frames, w_args, w_heap, w_applies, ⟨w_consts, trivial⟩, w_rest, w_case⟩
end start1
theorem witness_1 : WitnessClaimed_1 := ⟨start1.p0, start1.e0, start1.about1, start1.theMethod, start1.args0, start1.below0, start1.atStart⟩
end Jvm.Pilot.@@N@@
