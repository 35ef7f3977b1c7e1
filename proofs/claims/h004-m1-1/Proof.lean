import JvmDerived
import JvmDerived.Pilot.@@N@@Statement
import JvmDerived.Pilot.@@N@@Code
set_option linter.unusedVariables false
set_option linter.unusedSimpArgs false

namespace Jvm.Pilot.@@N@@
open Jvm Jvm.ClassFile Sem Op Lib Jvm.Free Jvm.Stand Jvm.LawKit Jvm.RoadKit Bundle Jvm.Pilot.@@N@@.Jvm.D
def OwnFin (p : Program) (e : Env) (below : List Frame) (Q : Outcome → State → Prop) (T : State) : Prop := ∃ s₂ o, Steps p.tables e below T s₂ ∧ s₂.status = .running ∧ Ended s₂ below o ∧ Q o s₂
theorem OwnFin.step {p : Program} {e : Env} {below : List Frame} {Q : Outcome → State → Prop} {A B : State} (h : ∀ t, Steps p.tables e below A t → Steps p.tables e below B t) (k : OwnFin p e below Q A) : OwnFin p e below Q B := by
  obtain ⟨s₂, o, h1, h2⟩ := k
  exact ⟨s₂, o, h _ h1, h2⟩
theorem own_safe_nil {Z : State} {vm : Vm} {h : Heap} {x : Addr} : Safe Z [] vm h x := fun ⟨_, hp, _⟩ => nomatch hp
theorem own_safe_str {Z : State} {EL : List (String × Nat)} {vm : Vm} {h : Heap} {x : Addr} (hal : Z.vm.Alike vm) (E : Exa Z h x "java/lang/String") (F : Fld Z h x "java/lang/String" "value" "[B" .null) : Safe Z EL vm h x := fun B => by
  obtain ⟨p, -, u, a, -, q, -, G, rfl | rfl⟩ := B
  · obtain ⟨cell, cf, k, i, f, h1, h2, h3, h4, h5, h6, h7⟩ := F
    cases (show h[q.sa]? = some q.sC from G.ha).symm.trans h1
    obtain ⟨cS, ⟨⟨-, -, -, ⟨c1, k1, i1, f1, -⟩, -, -, -, v1, -⟩, -⟩, -⟩ := G
    obtain ⟨k3, e3, -⟩ := State.fieldFound?_setVm (s := Z) hal h2
    have e4 := (show (Wst Z vm h).fieldFound? _ _ _ = _ from e3).symm.trans f1
    simp only [Option.some.injEq, Prod.mk.injEq] at e4
    rw [← e4.2.2.2, h7] at v1
    simp at v1
  · obtain ⟨cell, k, e1, e2, e3, -, -⟩ := E
    cases (show h[q.sd]? = some q.SA from G.hd).symm.trans e1
    obtain ⟨cS, -, -, f, -⟩ := G
    have f : vm.findClass "[B" = some q.SA.cls := f
    rw [hal.findClass] at f
    obtain ⟨k1, q1, q2⟩ := Vm.findClass_spec f
    obtain ⟨k2, q3, q4⟩ := Vm.findClass_spec e2
    cases q1.symm.trans q3
    exact absurd (q2.symm.trans q4) (by decide)
theorem own_fits {C : String} {v : Value} (h : v.isRef = true) : fits (.object C) v = true := by cases v <;> simp_all [Value.isRef, fits]
theorem own_cat {v : Value} (h : v.isRef = true) : v.category = 1 := by cases v <;> simp_all [Value.isRef, Value.category]
theorem own_nonsta {Z : State} {h : Heap} {a : Addr} {C : String} (E : Exa Z h a C) : ∃ cell : Cell, h[a]? = some cell ∧ cell.vm.isStatics = false := by
  obtain ⟨cell, k, h1, -, -, h2, -⟩ := E
  exact ⟨cell, h1, h2⟩
theorem own_sta_keep {Z : State} {h h' : Heap} {ws : List Addr} {C n d : String} {v : Value} (F : Sta Z h C n d v) (K : Keep h h' ws) (q : ∀ x ∈ ws, ∃ cell : Cell, h[x]? = some cell ∧ cell.vm.isStatics = false) : Sta Z h' C n d v := by
  obtain ⟨cf, i, k, f, st, cell, h1, h2, h3, h4, h5, h6, h7⟩ := F
  refine ⟨cf, i, k, f, st, cell, h1, h2, h3, h4, K.2.1 _ _ h5 fun z => ?_, h6, h7⟩
  obtain ⟨c2, e1, e2⟩ := q st z
  rw [h5] at e1
  cases e1
  rw [h6] at e2
  cases e2
theorem own_arr_keep {Z : State} {h h' : Heap} {ws : List Addr} {a : Addr} {c : Cell} {ty : FieldType} (A : Arr Z h a c ty) (K : Keep h h' ws) (q : a ∉ ws) : Arr Z h' a c ty := ⟨K.2.1 a c A.1 q, A.2⟩
section OwnLen
variable {p : Program} {l : Launch} {e : Env} {R : Room} {s : State} {m : MethodId} {args : Array Value} {below : List Frame} {meth : Method} {c : Code} {T : State} {locs : List Loc} {cells slots : Nat} {Z : State} {h : Heap}
theorem own_len (X : Stand p l e R s m args below meth c T locs cells slots) (hx : p.tables.exec = Jvm.exec) (hZ : Z.Warmed39 s.vm) (eT : T.heap = h) {a : Addr} {cl : Cell} {ty : FieldType} (A : Arr Z h a cl ty) {z : Int32} (Sz : cl.slots.size = z.toNatClampNeg) (Ng : ¬ z < 0) {g : JFrame} (hg : g.method = m) {rest : List Value} (hs : g.stack = .ref a :: rest) (hd : decode c.code g.pc = .ok (.arraylength, 1)) {t : State}
    (k : Steps p.tables e below (T.setTop { g with pc := g.pc + 1, stack := .int z :: rest }) t) : Steps p.tables e below (T.setTop g) t := by
  refine X.arraylength hx (by rw [eT]; exact A.1) (State.isArrayOf_alike hZ.alike A.2.1) hg hs hd _ ?_
  rw [len_of Sz Ng]
  exact k
end OwnLen

section OwnStart
variable {args : Array Value} {s : State} {t : Term} {x : Addr}
theorem own_eqI {a : Term} {k : Int32} (h : (Jvm.Cond.eq a (Term.int k)).value args s none s [] = some true) : a.eval args s none [] s = some (.int k) := by
  obtain ⟨v, y, e1, e2, k1, k2⟩ := cmp_v (Or.inl h)
  have e3 : (Term.int k).eval args s none [] s = some (.int k) := Term.int_eval k
  rw [e3] at e2
  cases e2
  obtain ⟨z, rfl⟩ := k2
  simp [Cond.value, e1, e3] at h
  subst h
  exact e1
theorem own_fldI {C n d : String} {k : Int32} (ht : t.eval args s none [] s = some (.ref x)) (h : (Jvm.Cond.eq (Term.field t C n d) (Term.int k)).value args s none s [] = some true) : Fld s s.heap x C n d (.int k) := Fld.start (by rw [← fld_at ht (args := args) (first := s) (o := none) (idx := [])]; exact own_eqI h)
theorem own_neI {a : Term} {z k : Int32} (e1 : a.eval args s none [] s = some (.int z)) (h : (Jvm.Cond.not (Jvm.Cond.eq a (Term.int k))).value args s none s [] = some true) : ¬ z = k := by
  have h2 := not_v h
  have e3 : (Term.int k).eval args s none [] s = some (.int k) := Term.int_eval k
  intro e
  subst e
  simp [Cond.value, e1, e3] at h2
theorem own_eqR {a b : Term} {y : Addr} (hb : b.eval args s none [] s = some (.ref y)) (h : (Jvm.Cond.eq a b).value args s none s [] = some true) : a.eval args s none [] s = some (.ref y) := by
  obtain ⟨v, z, e1, e2, k1, k2⟩ := cmp_v (Or.inl h)
  rw [hb] at e2
  cases e2
  have hv : v.isRef = true := k2.2
  rw [eq_R e1 hb hv rfl] at h
  have := of_decide_eq_true (Option.some.inj h)
  subst this
  exact e1
theorem own_arv {t : Term} {a : Addr} {cl : Cell} {ty : FieldType} {z : Int32} {vs : List Value} {dv : Value} (hf : Fit s) (A : Arr s s.heap a cl ty) (ev : t.eval args s none [] s = some (.ref a)) (hl : (Term.length t).eval args s none [] s = some (.int z)) (hz : ¬ z < 0) (hn : z.toNatClampNeg = vs.length) (H : HasL cl 0 vs) : Arv s s.heap a cl.cls ty z vs dv := by
  obtain ⟨b, cell, h1, h2, h3⟩ := Term.length_spec hl
  cases ev.symm.trans h1
  obtain ⟨hcell, -⟩ := State.arrayAt?_spec h2
  cases A.1.symm.trans hcell
  have hsz : cl.slots.size < 2 ^ 31 := by
    simp only [Term.eval, ev, h2, Option.bind_eq_bind, Option.bind_some] at hl
    by_cases hlt : cl.slots.size < 2147483648
    · exact hlt
    · simp [hlt] at hl
  exact Arv.start hf A hsz (Value.int.inj h3).symm hz hn H
theorem own_elem {t : Term} {a : Addr} {cl : Cell} {ty : FieldType} {j : Int32} {v : Value} (A : Arr s s.heap a cl ty) (ev : t.eval args s none [] s = some (.ref a)) (h : (Term.elem t (Term.int j)).eval args s none [] s = some v) : cl.slots[j.toNatClampNeg]? = some v := (elem_in h ev (Term.int_eval j) A.1).2
end OwnStart

theorem pn_0 : plainName "com/example/identifier_grammars/identifiergrammars/Node" = true := by first | (simp [plainName, overriddenIn]; done) | decide +kernel
theorem d_prog_20_method_1_0 : decode prog_20_method_1_code 0 = .ok (.aload_n 0, 1) := by decide +kernel
theorem d_prog_20_method_1_1 : decode prog_20_method_1_code 1 = .ok (.invokespecial 3, 3) := by decide +kernel
theorem d_prog_20_method_1_4 : decode prog_20_method_1_code 4 = .ok (.aload_n 0, 1) := by decide +kernel
theorem d_prog_20_method_1_5 : decode prog_20_method_1_code 5 = .ok (.aload_n 1, 1) := by decide +kernel
theorem d_prog_20_method_1_6 : decode prog_20_method_1_code 6 = .ok (.putfield 9, 3) := by decide +kernel
theorem d_prog_20_method_1_9 : decode prog_20_method_1_code 9 = .ok (.aload_n 0, 1) := by decide +kernel
theorem d_prog_20_method_1_10 : decode prog_20_method_1_code 10 = .ok (.aload_n 2, 1) := by decide +kernel
theorem d_prog_20_method_1_11 : decode prog_20_method_1_code 11 = .ok (.putfield 15, 3) := by decide +kernel
theorem d_prog_20_method_1_14 : decode prog_20_method_1_code 14 = .ok (.aload_n 0, 1) := by decide +kernel
theorem d_prog_20_method_1_15 : decode prog_20_method_1_code 15 = .ok (.aload_n 3, 1) := by decide +kernel
theorem d_prog_20_method_1_16 : decode prog_20_method_1_code 16 = .ok (.putfield 19, 3) := by decide +kernel
theorem d_prog_20_method_1_19 : decode prog_20_method_1_code 19 = .ok (.aload_n 0, 1) := by decide +kernel
theorem d_prog_20_method_1_20 : decode prog_20_method_1_code 20 = .ok (.iload 4, 2) := by decide +kernel
theorem d_prog_20_method_1_22 : decode prog_20_method_1_code 22 = .ok (.putfield 23, 3) := by decide +kernel
theorem d_prog_20_method_1_25 : decode prog_20_method_1_code 25 = .ok (.aload_n 0, 1) := by decide +kernel
theorem d_prog_20_method_1_26 : decode prog_20_method_1_code 26 = .ok (.iload 5, 2) := by decide +kernel
theorem d_prog_20_method_1_28 : decode prog_20_method_1_code 28 = .ok (.putfield 27, 3) := by decide +kernel
theorem d_prog_20_method_1_31 : decode prog_20_method_1_code 31 = .ok (.aload_n 0, 1) := by decide +kernel
theorem d_prog_20_method_1_32 : decode prog_20_method_1_code 32 = .ok (.aload 6, 2) := by decide +kernel
theorem d_prog_20_method_1_34 : decode prog_20_method_1_code 34 = .ok (.putfield 30, 3) := by decide +kernel
theorem d_prog_20_method_1_37 : decode prog_20_method_1_code 37 = .ok (.aload_n 0, 1) := by decide +kernel
theorem d_prog_20_method_1_38 : decode prog_20_method_1_code 38 = .ok (.aload 7, 2) := by decide +kernel
theorem d_prog_20_method_1_40 : decode prog_20_method_1_code 40 = .ok (.putfield 33, 3) := by decide +kernel
theorem d_prog_20_method_1_43 : decode prog_20_method_1_code 43 = .ok (.aload_n 0, 1) := by decide +kernel
theorem d_prog_20_method_1_44 : decode prog_20_method_1_code 44 = .ok (.iload 8, 2) := by decide +kernel
theorem d_prog_20_method_1_46 : decode prog_20_method_1_code 46 = .ok (.putfield 36, 3) := by decide +kernel
theorem d_prog_20_method_1_49 : decode prog_20_method_1_code 49 = .ok (.return_, 1) := by decide +kernel
theorem ef_1 (m : MethodId) (a : Addr) (kd : Addr) (ch : Addr) (mi : Int32) (ma : Int32) (lo : Addr) (hi : Addr) : entryFrame m #[(.ref a), (.ref kd), .null, (.ref ch), (.int mi), (.int ma), (.ref lo), (.ref hi), (.int (0 : Int32))] 9 = mkF m 0 #[.val (.ref a), .val (.ref kd), .val .null, .val (.ref ch), .val (.int mi), .val (.int ma), .val (.ref lo), .val (.ref hi), .val (.int (0 : Int32))] [] := by first | (simp [entryFrame, mkF, argsToLocals, Value.category]; done) | rfl
def Q1 (Z : State) (a : Addr) (kd : Addr) (ch : Addr) (mi : Int32) (ma : Int32) (lo : Addr) (hi : Addr) (h0 : Heap) (n0 : Nat) (vV : Option Value) (hH : Heap) (LL : List Loc) : Prop := vV = none ∧ Fr n0 LL ∧ Keep h0 hH [a] ∧ (Exa Z hH a "com/example/identifier_grammars/identifiergrammars/Node") ∧ (Fld Z hH a "com/example/identifier_grammars/identifiergrammars/Node" "kind" "Lcom/example/identifier_grammars/identifiergrammars/Node$Kind;" (.ref kd)) ∧ (Fld Z hH a "com/example/identifier_grammars/identifiergrammars/Node" "name" "Ljava/lang/String;" .null) ∧ (Fld Z hH a "com/example/identifier_grammars/identifiergrammars/Node" "children" "[I" (.ref ch)) ∧ (Fld Z hH a "com/example/identifier_grammars/identifiergrammars/Node" "min" "I" (.int mi)) ∧ (Fld Z hH a "com/example/identifier_grammars/identifiergrammars/Node" "max" "I" (.int ma)) ∧ (Fld Z hH a "com/example/identifier_grammars/identifiergrammars/Node" "low" "[I" (.ref lo)) ∧ (Fld Z hH a "com/example/identifier_grammars/identifiergrammars/Node" "high" "[I" (.ref hi)) ∧ (Fld Z hH a "com/example/identifier_grammars/identifiergrammars/Node" "ignoreCase" "Z" (.int (0 : Int32)))
def R1 (Z : State) (a : Addr) (kd : Addr) (ch : Addr) (mi : Int32) (ma : Int32) (lo : Addr) (hi : Addr) (h0 : Heap) (n0 : Nat) (U : State) (o : Outcome) (U' : State) : Prop := ∃ vV LL, o = .returned vV ∧ Q1 Z a kd ch mi ma lo hi h0 n0 vV U'.heap LL ∧ FrameEnd U o U' LL ({ frames := 1, cells := 0, slots := 0, locals := 12 } : Room).cells ({ frames := 1, cells := 0, slots := 0, locals := 12 } : Room).slots
set_option maxRecDepth 65536 in
set_option maxHeartbeats 40000000 in
theorem rm1 (l : Launch) (Z : State) (a0 : Array Value) (hw : ∀ d ∈ tables_1, d.before a0 Z = true) (ws : List Jvm.Cond) (a : Addr) (kd : Addr) (ch : Addr) (mi : Int32) (ma : Int32) (lo : Addr) (hi : Addr) (h0 : Heap) (n0 : Nat) (Z0 : n0 ≤ h0.size) (hp0 : Exa Z h0 a "com/example/identifier_grammars/identifiergrammars/Node") (hp1 : Fld Z h0 a "com/example/identifier_grammars/identifiergrammars/Node" "kind" "Lcom/example/identifier_grammars/identifiergrammars/Node$Kind;" .null) (hp2 : Fld Z h0 a "com/example/identifier_grammars/identifiergrammars/Node" "name" "Ljava/lang/String;" .null) (hp3 : Fld Z h0 a "com/example/identifier_grammars/identifiergrammars/Node" "children" "[I" .null) (hp4 : Fld Z h0 a "com/example/identifier_grammars/identifiergrammars/Node" "min" "I" (.int (0 : Int32))) (hp5 : Fld Z h0 a "com/example/identifier_grammars/identifiergrammars/Node" "max" "I" (.int (0 : Int32))) (hp6 : Fld Z h0 a "com/example/identifier_grammars/identifiergrammars/Node" "low" "[I" .null) (hp7 : Fld Z h0 a "com/example/identifier_grammars/identifiergrammars/Node" "high" "[I" .null) (hp8 : Fld Z h0 a "com/example/identifier_grammars/identifiergrammars/Node" "ignoreCase" "Z" (.int (0 : Int32))) (hp9 : n0 ≤ a) :
    MetFree l (⟨"com/example/identifier_grammars/identifiergrammars/Node", "<init>", "(Lcom/example/identifier_grammars/identifiergrammars/Node$Kind;Ljava/lang/String;[III[I[IZ)V"⟩ : MethodName) (head1 (Jvm.Cond.code (⟨"com/example/identifier_grammars/identifiergrammars/Node", "<init>", "(Lcom/example/identifier_grammars/identifiergrammars/Node$Kind;Ljava/lang/String;[III[I[IZ)V"⟩ : MethodName) prog_20_method_1_code 9 none :: ws) ({ frames := 1, cells := 0, slots := 0, locals := 12 } : Room)) (fun aA U => aA = #[(.ref a), (.ref kd), .null, (.ref ch), (.int mi), (.int ma), (.ref lo), (.ref hi), (.int (0 : Int32))] ∧ Z.Warmed39 U.vm ∧ U.heap = h0) (fun _ _ _ _ _ => True) (fun _ U o U' => ∃ vV LL, o = .returned vV ∧ Q1 Z a kd ch mi ma lo hi h0 n0 vV U'.heap LL ∧ FrameEnd U o U' LL ({ frames := 1, cells := 0, slots := 0, locals := 12 } : Room).cells ({ frames := 1, cells := 0, slots := 0, locals := 12 } : Room).slots) := by
  refine MetFree.of_bodySF (plainFor_of_name pn_0) hisR ?_
  intro p e s m args below meth cC s₁ Bd hml0 hP hK
  obtain ⟨rfl, hZ, hh⟩ := hP
  have hx := Bd.exec
  have hby := Bd.bytes
  have hml : cC.maxLocals = 9 := hml0
  have hown : s.vm.findClass "com/example/identifier_grammars/identifiergrammars/Node" = some m.cls := findClass_of_methodNamed Bd.named
  have hnm := (name_of_methodNamed Bd.named Bd.method).1
  have X0 : Stand p l e ({ frames := 1, cells := 0, slots := 0, locals := 12 } : Room) s m #[(.ref a), (.ref kd), .null, (.ref ch), (.int mi), (.int ma), (.ref lo), (.ref hi), (.int (0 : Int32))] below meth cC s₁ [] 0 0 := Stand.of_body Bd
  have e0 : s₁.heap = h0 := by rw [← hh, Bd.state]; rfl
  have N0 := Fr.nil n0
  show OwnFin p e below (R1 Z a kd ch mi ma lo hi h0 n0 s) (s₁.setTop (entryFrame m #[(.ref a), (.ref kd), .null, (.ref ch), (.int mi), (.int ma), (.ref lo), (.ref hi), (.int (0 : Int32))] 9))
  rw [ef_1 m a kd ch mi ma lo hi]
  refine OwnFin.step (fun tT kK => XS.aloadN X0.here hx rfl (hb hby d_prog_20_method_1_0) rfl rfl kK) ?_
  show OwnFin p e below _ (s₁.setTop (mkF m 1 #[.val (.ref a), .val (.ref kd), .val .null, .val (.ref ch), .val (.int mi), .val (.int ma), .val (.ref lo), .val (.ref hi), .val (.int (0 : Int32))] [(.ref a)]))
  obtain ⟨T1, X1, e1, st1⟩ := initO X0 hx hZ hown (hw _ (List.mem_of_getElem? (i := 15) rfl)) (hw _ (List.mem_of_getElem? (i := 16) rfl)) (hw _ (List.mem_of_getElem? (i := 17) rfl)) e0 (g := (mkF m 1 #[.val (.ref a), .val (.ref kd), .val .null, .val (.ref ch), .val (.int mi), .val (.int ma), .val (.ref lo), .val (.ref hi), .val (.int (0 : Int32))] [(.ref a)])) rfl (by rw [hml]; rfl) rfl (hb hby d_prog_20_method_1_1) (by decide) (W := 0) (by show 2 * 0 + _ ≤ _; exact Nat.le_of_eq rfl) (by decide)
  refine OwnFin.step st1 ?_
  show OwnFin p e below _ (T1.setTop (mkF m 4 #[.val (.ref a), .val (.ref kd), .val .null, .val (.ref ch), .val (.int mi), .val (.int ma), .val (.ref lo), .val (.ref hi), .val (.int (0 : Int32))] []))
  refine OwnFin.step (fun tT kK => XS.aloadN X1.here hx rfl (hb hby d_prog_20_method_1_4) rfl rfl kK) ?_
  show OwnFin p e below _ (T1.setTop (mkF m 5 #[.val (.ref a), .val (.ref kd), .val .null, .val (.ref ch), .val (.int mi), .val (.int ma), .val (.ref lo), .val (.ref hi), .val (.int (0 : Int32))] [(.ref a)]))
  refine OwnFin.step (fun tT kK => XS.aloadN X1.here hx rfl (hb hby d_prog_20_method_1_5) rfl rfl kK) ?_
  show OwnFin p e below _ (T1.setTop (mkF m 6 #[.val (.ref a), .val (.ref kd), .val .null, .val (.ref ch), .val (.int mi), .val (.int ma), .val (.ref lo), .val (.ref hi), .val (.int (0 : Int32))] [(.ref kd), (.ref a)]))
  obtain ⟨T2, h2, X2, e2, W2, st2⟩ := putF X1 hx hZ hown (host := "") (Or.inl (hw _ (List.mem_of_getElem? (i := 18) rfl))) Via.refl e1 hp1 hp0 (Or.inr ⟨(hw _ (List.mem_of_getElem? (i := 19) rfl)), rfl, hnm⟩) (hw _ (List.mem_of_getElem? (i := 5) rfl)) (ty := (.object "com/example/identifier_grammars/identifiergrammars/Node$Kind")) (by decide) rfl rfl (g := (mkF m 6 #[.val (.ref a), .val (.ref kd), .val .null, .val (.ref ch), .val (.int mi), .val (.int ma), .val (.ref lo), .val (.ref hi), .val (.int (0 : Int32))] [(.ref kd), (.ref a)])) rfl rfl (hb hby d_prog_20_method_1_6)
  refine OwnFin.step st2 ?_
  have N2 := Fr.snoc X2 N0 hp9
  have Fw2 : Fld Z h2 a "com/example/identifier_grammars/identifiergrammars/Node" "kind" "Lcom/example/identifier_grammars/identifiergrammars/Node$Kind;" (.ref kd) := hp1.same W2
  show OwnFin p e below _ (T2.setTop (mkF m 9 #[.val (.ref a), .val (.ref kd), .val .null, .val (.ref ch), .val (.int mi), .val (.int ma), .val (.ref lo), .val (.ref hi), .val (.int (0 : Int32))] []))
  refine OwnFin.step (fun tT kK => XS.aloadN X2.here hx rfl (hb hby d_prog_20_method_1_9) rfl rfl kK) ?_
  show OwnFin p e below _ (T2.setTop (mkF m 10 #[.val (.ref a), .val (.ref kd), .val .null, .val (.ref ch), .val (.int mi), .val (.int ma), .val (.ref lo), .val (.ref hi), .val (.int (0 : Int32))] [(.ref a)]))
  refine OwnFin.step (fun tT kK => XS.aloadN X2.here hx rfl (hb hby d_prog_20_method_1_10) rfl rfl kK) ?_
  show OwnFin p e below _ (T2.setTop (mkF m 11 #[.val (.ref a), .val (.ref kd), .val .null, .val (.ref ch), .val (.int mi), .val (.int ma), .val (.ref lo), .val (.ref hi), .val (.int (0 : Int32))] [.null, (.ref a)]))
  have f3 : Exa Z h2 a "com/example/identifier_grammars/identifiergrammars/Node" := (hp0.wr W2)
  have f4 : Fld Z h2 a "com/example/identifier_grammars/identifiergrammars/Node" "name" "Ljava/lang/String;" .null := (hp2.other W2 (Or.inr (slot_ne (Or.inr (hw _ (List.mem_of_getElem? (i := 21) rfl))) (Or.inr (hw _ (List.mem_of_getElem? (i := 19) rfl))) (by decide) (t := (.object "java/lang/String")) (t' := (.object "com/example/identifier_grammars/identifiergrammars/Node$Kind")) (by decide) (by decide))))
  obtain ⟨T5, h5, X5, e5, W5, st5⟩ := putF X2 hx hZ hown (host := "") (Or.inl (hw _ (List.mem_of_getElem? (i := 20) rfl))) Via.refl e2 f4 f3 (Or.inr ⟨(hw _ (List.mem_of_getElem? (i := 21) rfl)), rfl, hnm⟩) (hw _ (List.mem_of_getElem? (i := 5) rfl)) (ty := (.object "java/lang/String")) (by decide) rfl rfl (g := (mkF m 11 #[.val (.ref a), .val (.ref kd), .val .null, .val (.ref ch), .val (.int mi), .val (.int ma), .val (.ref lo), .val (.ref hi), .val (.int (0 : Int32))] [.null, (.ref a)])) rfl rfl (hb hby d_prog_20_method_1_11)
  refine OwnFin.step st5 ?_
  have N5 := Fr.snoc X5 N2 hp9
  have Fw5 : Fld Z h5 a "com/example/identifier_grammars/identifiergrammars/Node" "name" "Ljava/lang/String;" .null := f4.same W5
  show OwnFin p e below _ (T5.setTop (mkF m 14 #[.val (.ref a), .val (.ref kd), .val .null, .val (.ref ch), .val (.int mi), .val (.int ma), .val (.ref lo), .val (.ref hi), .val (.int (0 : Int32))] []))
  refine OwnFin.step (fun tT kK => XS.aloadN X5.here hx rfl (hb hby d_prog_20_method_1_14) rfl rfl kK) ?_
  show OwnFin p e below _ (T5.setTop (mkF m 15 #[.val (.ref a), .val (.ref kd), .val .null, .val (.ref ch), .val (.int mi), .val (.int ma), .val (.ref lo), .val (.ref hi), .val (.int (0 : Int32))] [(.ref a)]))
  refine OwnFin.step (fun tT kK => XS.aloadN X5.here hx rfl (hb hby d_prog_20_method_1_15) rfl rfl kK) ?_
  show OwnFin p e below _ (T5.setTop (mkF m 16 #[.val (.ref a), .val (.ref kd), .val .null, .val (.ref ch), .val (.int mi), .val (.int ma), .val (.ref lo), .val (.ref hi), .val (.int (0 : Int32))] [(.ref ch), (.ref a)]))
  have f6 : Exa Z h5 a "com/example/identifier_grammars/identifiergrammars/Node" := (f3.wr W5)
  have f7 : Fld Z h5 a "com/example/identifier_grammars/identifiergrammars/Node" "children" "[I" .null := ((hp3.other W2 (Or.inr (slot_ne (Or.inr (hw _ (List.mem_of_getElem? (i := 23) rfl))) (Or.inr (hw _ (List.mem_of_getElem? (i := 19) rfl))) (by decide) (t := (.array .int)) (t' := (.object "com/example/identifier_grammars/identifiergrammars/Node$Kind")) (by decide) (by decide)))).other W5 (Or.inr (slot_ne (Or.inr (hw _ (List.mem_of_getElem? (i := 23) rfl))) (Or.inr (hw _ (List.mem_of_getElem? (i := 21) rfl))) (by decide) (t := (.array .int)) (t' := (.object "java/lang/String")) (by decide) (by decide))))
  obtain ⟨T8, h8, X8, e8, W8, st8⟩ := putF X5 hx hZ hown (host := "") (Or.inl (hw _ (List.mem_of_getElem? (i := 22) rfl))) Via.refl e5 f7 f6 (Or.inr ⟨(hw _ (List.mem_of_getElem? (i := 23) rfl)), rfl, hnm⟩) (hw _ (List.mem_of_getElem? (i := 5) rfl)) (ty := (.array .int)) (by decide) rfl rfl (g := (mkF m 16 #[.val (.ref a), .val (.ref kd), .val .null, .val (.ref ch), .val (.int mi), .val (.int ma), .val (.ref lo), .val (.ref hi), .val (.int (0 : Int32))] [(.ref ch), (.ref a)])) rfl rfl (hb hby d_prog_20_method_1_16)
  refine OwnFin.step st8 ?_
  have N8 := Fr.snoc X8 N5 hp9
  have Fw8 : Fld Z h8 a "com/example/identifier_grammars/identifiergrammars/Node" "children" "[I" (.ref ch) := f7.same W8
  show OwnFin p e below _ (T8.setTop (mkF m 19 #[.val (.ref a), .val (.ref kd), .val .null, .val (.ref ch), .val (.int mi), .val (.int ma), .val (.ref lo), .val (.ref hi), .val (.int (0 : Int32))] []))
  refine OwnFin.step (fun tT kK => XS.aloadN X8.here hx rfl (hb hby d_prog_20_method_1_19) rfl rfl kK) ?_
  show OwnFin p e below _ (T8.setTop (mkF m 20 #[.val (.ref a), .val (.ref kd), .val .null, .val (.ref ch), .val (.int mi), .val (.int ma), .val (.ref lo), .val (.ref hi), .val (.int (0 : Int32))] [(.ref a)]))
  refine OwnFin.step (fun tT kK => XS.iload X8.here hx rfl (hb hby d_prog_20_method_1_20) rfl kK) ?_
  show OwnFin p e below _ (T8.setTop (mkF m 22 #[.val (.ref a), .val (.ref kd), .val .null, .val (.ref ch), .val (.int mi), .val (.int ma), .val (.ref lo), .val (.ref hi), .val (.int (0 : Int32))] [(.int mi), (.ref a)]))
  have f9 : Exa Z h8 a "com/example/identifier_grammars/identifiergrammars/Node" := (f6.wr W8)
  have f10 : Fld Z h8 a "com/example/identifier_grammars/identifiergrammars/Node" "min" "I" (.int (0 : Int32)) := (((hp4.other W2 (Or.inr (slot_ne (Or.inr (hw _ (List.mem_of_getElem? (i := 25) rfl))) (Or.inr (hw _ (List.mem_of_getElem? (i := 19) rfl))) (by decide) (t := .int) (t' := (.object "com/example/identifier_grammars/identifiergrammars/Node$Kind")) (by decide) (by decide)))).other W5 (Or.inr (slot_ne (Or.inr (hw _ (List.mem_of_getElem? (i := 25) rfl))) (Or.inr (hw _ (List.mem_of_getElem? (i := 21) rfl))) (by decide) (t := .int) (t' := (.object "java/lang/String")) (by decide) (by decide)))).other W8 (Or.inr (slot_ne (Or.inr (hw _ (List.mem_of_getElem? (i := 25) rfl))) (Or.inr (hw _ (List.mem_of_getElem? (i := 23) rfl))) (by decide) (t := .int) (t' := (.array .int)) (by decide) (by decide))))
  obtain ⟨T11, h11, X11, e11, W11, st11⟩ := putF X8 hx hZ hown (host := "") (Or.inl (hw _ (List.mem_of_getElem? (i := 24) rfl))) Via.refl e8 f10 f9 (Or.inr ⟨(hw _ (List.mem_of_getElem? (i := 25) rfl)), rfl, hnm⟩) (hw _ (List.mem_of_getElem? (i := 5) rfl)) (ty := .int) (by decide) rfl rfl (g := (mkF m 22 #[.val (.ref a), .val (.ref kd), .val .null, .val (.ref ch), .val (.int mi), .val (.int ma), .val (.ref lo), .val (.ref hi), .val (.int (0 : Int32))] [(.int mi), (.ref a)])) rfl rfl (hb hby d_prog_20_method_1_22)
  refine OwnFin.step st11 ?_
  have N11 := Fr.snoc X11 N8 hp9
  have Fw11 : Fld Z h11 a "com/example/identifier_grammars/identifiergrammars/Node" "min" "I" (.int mi) := f10.same W11
  show OwnFin p e below _ (T11.setTop (mkF m 25 #[.val (.ref a), .val (.ref kd), .val .null, .val (.ref ch), .val (.int mi), .val (.int ma), .val (.ref lo), .val (.ref hi), .val (.int (0 : Int32))] []))
  refine OwnFin.step (fun tT kK => XS.aloadN X11.here hx rfl (hb hby d_prog_20_method_1_25) rfl rfl kK) ?_
  show OwnFin p e below _ (T11.setTop (mkF m 26 #[.val (.ref a), .val (.ref kd), .val .null, .val (.ref ch), .val (.int mi), .val (.int ma), .val (.ref lo), .val (.ref hi), .val (.int (0 : Int32))] [(.ref a)]))
  refine OwnFin.step (fun tT kK => XS.iload X11.here hx rfl (hb hby d_prog_20_method_1_26) rfl kK) ?_
  show OwnFin p e below _ (T11.setTop (mkF m 28 #[.val (.ref a), .val (.ref kd), .val .null, .val (.ref ch), .val (.int mi), .val (.int ma), .val (.ref lo), .val (.ref hi), .val (.int (0 : Int32))] [(.int ma), (.ref a)]))
  have f12 : Exa Z h11 a "com/example/identifier_grammars/identifiergrammars/Node" := (f9.wr W11)
  have f13 : Fld Z h11 a "com/example/identifier_grammars/identifiergrammars/Node" "max" "I" (.int (0 : Int32)) := ((((hp5.other W2 (Or.inr (slot_ne (Or.inr (hw _ (List.mem_of_getElem? (i := 27) rfl))) (Or.inr (hw _ (List.mem_of_getElem? (i := 19) rfl))) (by decide) (t := .int) (t' := (.object "com/example/identifier_grammars/identifiergrammars/Node$Kind")) (by decide) (by decide)))).other W5 (Or.inr (slot_ne (Or.inr (hw _ (List.mem_of_getElem? (i := 27) rfl))) (Or.inr (hw _ (List.mem_of_getElem? (i := 21) rfl))) (by decide) (t := .int) (t' := (.object "java/lang/String")) (by decide) (by decide)))).other W8 (Or.inr (slot_ne (Or.inr (hw _ (List.mem_of_getElem? (i := 27) rfl))) (Or.inr (hw _ (List.mem_of_getElem? (i := 23) rfl))) (by decide) (t := .int) (t' := (.array .int)) (by decide) (by decide)))).other W11 (Or.inr (slot_ne (Or.inr (hw _ (List.mem_of_getElem? (i := 27) rfl))) (Or.inr (hw _ (List.mem_of_getElem? (i := 25) rfl))) (by decide) (t := .int) (t' := .int) (by decide) (by decide))))
  obtain ⟨T14, h14, X14, e14, W14, st14⟩ := putF X11 hx hZ hown (host := "") (Or.inl (hw _ (List.mem_of_getElem? (i := 26) rfl))) Via.refl e11 f13 f12 (Or.inr ⟨(hw _ (List.mem_of_getElem? (i := 27) rfl)), rfl, hnm⟩) (hw _ (List.mem_of_getElem? (i := 5) rfl)) (ty := .int) (by decide) rfl rfl (g := (mkF m 28 #[.val (.ref a), .val (.ref kd), .val .null, .val (.ref ch), .val (.int mi), .val (.int ma), .val (.ref lo), .val (.ref hi), .val (.int (0 : Int32))] [(.int ma), (.ref a)])) rfl rfl (hb hby d_prog_20_method_1_28)
  refine OwnFin.step st14 ?_
  have N14 := Fr.snoc X14 N11 hp9
  have Fw14 : Fld Z h14 a "com/example/identifier_grammars/identifiergrammars/Node" "max" "I" (.int ma) := f13.same W14
  show OwnFin p e below _ (T14.setTop (mkF m 31 #[.val (.ref a), .val (.ref kd), .val .null, .val (.ref ch), .val (.int mi), .val (.int ma), .val (.ref lo), .val (.ref hi), .val (.int (0 : Int32))] []))
  refine OwnFin.step (fun tT kK => XS.aloadN X14.here hx rfl (hb hby d_prog_20_method_1_31) rfl rfl kK) ?_
  show OwnFin p e below _ (T14.setTop (mkF m 32 #[.val (.ref a), .val (.ref kd), .val .null, .val (.ref ch), .val (.int mi), .val (.int ma), .val (.ref lo), .val (.ref hi), .val (.int (0 : Int32))] [(.ref a)]))
  refine OwnFin.step (fun tT kK => XS.aload X14.here hx rfl (hb hby d_prog_20_method_1_32) rfl rfl kK) ?_
  show OwnFin p e below _ (T14.setTop (mkF m 34 #[.val (.ref a), .val (.ref kd), .val .null, .val (.ref ch), .val (.int mi), .val (.int ma), .val (.ref lo), .val (.ref hi), .val (.int (0 : Int32))] [(.ref lo), (.ref a)]))
  have f15 : Exa Z h14 a "com/example/identifier_grammars/identifiergrammars/Node" := (f12.wr W14)
  have f16 : Fld Z h14 a "com/example/identifier_grammars/identifiergrammars/Node" "low" "[I" .null := (((((hp6.other W2 (Or.inr (slot_ne (Or.inr (hw _ (List.mem_of_getElem? (i := 29) rfl))) (Or.inr (hw _ (List.mem_of_getElem? (i := 19) rfl))) (by decide) (t := (.array .int)) (t' := (.object "com/example/identifier_grammars/identifiergrammars/Node$Kind")) (by decide) (by decide)))).other W5 (Or.inr (slot_ne (Or.inr (hw _ (List.mem_of_getElem? (i := 29) rfl))) (Or.inr (hw _ (List.mem_of_getElem? (i := 21) rfl))) (by decide) (t := (.array .int)) (t' := (.object "java/lang/String")) (by decide) (by decide)))).other W8 (Or.inr (slot_ne (Or.inr (hw _ (List.mem_of_getElem? (i := 29) rfl))) (Or.inr (hw _ (List.mem_of_getElem? (i := 23) rfl))) (by decide) (t := (.array .int)) (t' := (.array .int)) (by decide) (by decide)))).other W11 (Or.inr (slot_ne (Or.inr (hw _ (List.mem_of_getElem? (i := 29) rfl))) (Or.inr (hw _ (List.mem_of_getElem? (i := 25) rfl))) (by decide) (t := (.array .int)) (t' := .int) (by decide) (by decide)))).other W14 (Or.inr (slot_ne (Or.inr (hw _ (List.mem_of_getElem? (i := 29) rfl))) (Or.inr (hw _ (List.mem_of_getElem? (i := 27) rfl))) (by decide) (t := (.array .int)) (t' := .int) (by decide) (by decide))))
  obtain ⟨T17, h17, X17, e17, W17, st17⟩ := putF X14 hx hZ hown (host := "") (Or.inl (hw _ (List.mem_of_getElem? (i := 28) rfl))) Via.refl e14 f16 f15 (Or.inr ⟨(hw _ (List.mem_of_getElem? (i := 29) rfl)), rfl, hnm⟩) (hw _ (List.mem_of_getElem? (i := 5) rfl)) (ty := (.array .int)) (by decide) rfl rfl (g := (mkF m 34 #[.val (.ref a), .val (.ref kd), .val .null, .val (.ref ch), .val (.int mi), .val (.int ma), .val (.ref lo), .val (.ref hi), .val (.int (0 : Int32))] [(.ref lo), (.ref a)])) rfl rfl (hb hby d_prog_20_method_1_34)
  refine OwnFin.step st17 ?_
  have N17 := Fr.snoc X17 N14 hp9
  have Fw17 : Fld Z h17 a "com/example/identifier_grammars/identifiergrammars/Node" "low" "[I" (.ref lo) := f16.same W17
  show OwnFin p e below _ (T17.setTop (mkF m 37 #[.val (.ref a), .val (.ref kd), .val .null, .val (.ref ch), .val (.int mi), .val (.int ma), .val (.ref lo), .val (.ref hi), .val (.int (0 : Int32))] []))
  refine OwnFin.step (fun tT kK => XS.aloadN X17.here hx rfl (hb hby d_prog_20_method_1_37) rfl rfl kK) ?_
  show OwnFin p e below _ (T17.setTop (mkF m 38 #[.val (.ref a), .val (.ref kd), .val .null, .val (.ref ch), .val (.int mi), .val (.int ma), .val (.ref lo), .val (.ref hi), .val (.int (0 : Int32))] [(.ref a)]))
  refine OwnFin.step (fun tT kK => XS.aload X17.here hx rfl (hb hby d_prog_20_method_1_38) rfl rfl kK) ?_
  show OwnFin p e below _ (T17.setTop (mkF m 40 #[.val (.ref a), .val (.ref kd), .val .null, .val (.ref ch), .val (.int mi), .val (.int ma), .val (.ref lo), .val (.ref hi), .val (.int (0 : Int32))] [(.ref hi), (.ref a)]))
  have f18 : Exa Z h17 a "com/example/identifier_grammars/identifiergrammars/Node" := (f15.wr W17)
  have f19 : Fld Z h17 a "com/example/identifier_grammars/identifiergrammars/Node" "high" "[I" .null := ((((((hp7.other W2 (Or.inr (slot_ne (Or.inr (hw _ (List.mem_of_getElem? (i := 31) rfl))) (Or.inr (hw _ (List.mem_of_getElem? (i := 19) rfl))) (by decide) (t := (.array .int)) (t' := (.object "com/example/identifier_grammars/identifiergrammars/Node$Kind")) (by decide) (by decide)))).other W5 (Or.inr (slot_ne (Or.inr (hw _ (List.mem_of_getElem? (i := 31) rfl))) (Or.inr (hw _ (List.mem_of_getElem? (i := 21) rfl))) (by decide) (t := (.array .int)) (t' := (.object "java/lang/String")) (by decide) (by decide)))).other W8 (Or.inr (slot_ne (Or.inr (hw _ (List.mem_of_getElem? (i := 31) rfl))) (Or.inr (hw _ (List.mem_of_getElem? (i := 23) rfl))) (by decide) (t := (.array .int)) (t' := (.array .int)) (by decide) (by decide)))).other W11 (Or.inr (slot_ne (Or.inr (hw _ (List.mem_of_getElem? (i := 31) rfl))) (Or.inr (hw _ (List.mem_of_getElem? (i := 25) rfl))) (by decide) (t := (.array .int)) (t' := .int) (by decide) (by decide)))).other W14 (Or.inr (slot_ne (Or.inr (hw _ (List.mem_of_getElem? (i := 31) rfl))) (Or.inr (hw _ (List.mem_of_getElem? (i := 27) rfl))) (by decide) (t := (.array .int)) (t' := .int) (by decide) (by decide)))).other W17 (Or.inr (slot_ne (Or.inr (hw _ (List.mem_of_getElem? (i := 31) rfl))) (Or.inr (hw _ (List.mem_of_getElem? (i := 29) rfl))) (by decide) (t := (.array .int)) (t' := (.array .int)) (by decide) (by decide))))
  obtain ⟨T20, h20, X20, e20, W20, st20⟩ := putF X17 hx hZ hown (host := "") (Or.inl (hw _ (List.mem_of_getElem? (i := 30) rfl))) Via.refl e17 f19 f18 (Or.inr ⟨(hw _ (List.mem_of_getElem? (i := 31) rfl)), rfl, hnm⟩) (hw _ (List.mem_of_getElem? (i := 5) rfl)) (ty := (.array .int)) (by decide) rfl rfl (g := (mkF m 40 #[.val (.ref a), .val (.ref kd), .val .null, .val (.ref ch), .val (.int mi), .val (.int ma), .val (.ref lo), .val (.ref hi), .val (.int (0 : Int32))] [(.ref hi), (.ref a)])) rfl rfl (hb hby d_prog_20_method_1_40)
  refine OwnFin.step st20 ?_
  have N20 := Fr.snoc X20 N17 hp9
  have Fw20 : Fld Z h20 a "com/example/identifier_grammars/identifiergrammars/Node" "high" "[I" (.ref hi) := f19.same W20
  show OwnFin p e below _ (T20.setTop (mkF m 43 #[.val (.ref a), .val (.ref kd), .val .null, .val (.ref ch), .val (.int mi), .val (.int ma), .val (.ref lo), .val (.ref hi), .val (.int (0 : Int32))] []))
  refine OwnFin.step (fun tT kK => XS.aloadN X20.here hx rfl (hb hby d_prog_20_method_1_43) rfl rfl kK) ?_
  show OwnFin p e below _ (T20.setTop (mkF m 44 #[.val (.ref a), .val (.ref kd), .val .null, .val (.ref ch), .val (.int mi), .val (.int ma), .val (.ref lo), .val (.ref hi), .val (.int (0 : Int32))] [(.ref a)]))
  refine OwnFin.step (fun tT kK => XS.iload X20.here hx rfl (hb hby d_prog_20_method_1_44) rfl kK) ?_
  show OwnFin p e below _ (T20.setTop (mkF m 46 #[.val (.ref a), .val (.ref kd), .val .null, .val (.ref ch), .val (.int mi), .val (.int ma), .val (.ref lo), .val (.ref hi), .val (.int (0 : Int32))] [(.int (0 : Int32)), (.ref a)]))
  have f21 : Exa Z h20 a "com/example/identifier_grammars/identifiergrammars/Node" := (f18.wr W20)
  have f22 : Fld Z h20 a "com/example/identifier_grammars/identifiergrammars/Node" "ignoreCase" "Z" (.int (0 : Int32)) := (((((((hp8.other W2 (Or.inr (slot_ne (Or.inr (hw _ (List.mem_of_getElem? (i := 33) rfl))) (Or.inr (hw _ (List.mem_of_getElem? (i := 19) rfl))) (by decide) (t := .boolean) (t' := (.object "com/example/identifier_grammars/identifiergrammars/Node$Kind")) (by decide) (by decide)))).other W5 (Or.inr (slot_ne (Or.inr (hw _ (List.mem_of_getElem? (i := 33) rfl))) (Or.inr (hw _ (List.mem_of_getElem? (i := 21) rfl))) (by decide) (t := .boolean) (t' := (.object "java/lang/String")) (by decide) (by decide)))).other W8 (Or.inr (slot_ne (Or.inr (hw _ (List.mem_of_getElem? (i := 33) rfl))) (Or.inr (hw _ (List.mem_of_getElem? (i := 23) rfl))) (by decide) (t := .boolean) (t' := (.array .int)) (by decide) (by decide)))).other W11 (Or.inr (slot_ne (Or.inr (hw _ (List.mem_of_getElem? (i := 33) rfl))) (Or.inr (hw _ (List.mem_of_getElem? (i := 25) rfl))) (by decide) (t := .boolean) (t' := .int) (by decide) (by decide)))).other W14 (Or.inr (slot_ne (Or.inr (hw _ (List.mem_of_getElem? (i := 33) rfl))) (Or.inr (hw _ (List.mem_of_getElem? (i := 27) rfl))) (by decide) (t := .boolean) (t' := .int) (by decide) (by decide)))).other W17 (Or.inr (slot_ne (Or.inr (hw _ (List.mem_of_getElem? (i := 33) rfl))) (Or.inr (hw _ (List.mem_of_getElem? (i := 29) rfl))) (by decide) (t := .boolean) (t' := (.array .int)) (by decide) (by decide)))).other W20 (Or.inr (slot_ne (Or.inr (hw _ (List.mem_of_getElem? (i := 33) rfl))) (Or.inr (hw _ (List.mem_of_getElem? (i := 31) rfl))) (by decide) (t := .boolean) (t' := (.array .int)) (by decide) (by decide))))
  obtain ⟨T23, h23, X23, e23, W23, st23⟩ := putF X20 hx hZ hown (host := "") (Or.inl (hw _ (List.mem_of_getElem? (i := 32) rfl))) Via.refl e20 f22 f21 (Or.inr ⟨(hw _ (List.mem_of_getElem? (i := 33) rfl)), rfl, hnm⟩) (hw _ (List.mem_of_getElem? (i := 5) rfl)) (ty := .boolean) (by decide) rfl rfl (g := (mkF m 46 #[.val (.ref a), .val (.ref kd), .val .null, .val (.ref ch), .val (.int mi), .val (.int ma), .val (.ref lo), .val (.ref hi), .val (.int (0 : Int32))] [(.int (0 : Int32)), (.ref a)])) rfl rfl (hb hby d_prog_20_method_1_46)
  refine OwnFin.step st23 ?_
  have N23 := Fr.snoc X23 N20 hp9
  have Fw23 : Fld Z h23 a "com/example/identifier_grammars/identifiergrammars/Node" "ignoreCase" "Z" (.int (0 : Int32)) := f22.same W23
  show OwnFin p e below _ (T23.setTop (mkF m 49 #[.val (.ref a), .val (.ref kd), .val .null, .val (.ref ch), .val (.int mi), .val (.int ma), .val (.ref lo), .val (.ref hi), .val (.int (0 : Int32))] []))
  have f25 : Exa Z h23 a "com/example/identifier_grammars/identifiergrammars/Node" := (f21.wr W23)
  have f26 : Fld Z h23 a "com/example/identifier_grammars/identifiergrammars/Node" "kind" "Lcom/example/identifier_grammars/identifiergrammars/Node$Kind;" (.ref kd) := (((((((Fw2.other W5 (Or.inr (slot_ne (Or.inr (hw _ (List.mem_of_getElem? (i := 19) rfl))) (Or.inr (hw _ (List.mem_of_getElem? (i := 21) rfl))) (by decide) (t := (.object "com/example/identifier_grammars/identifiergrammars/Node$Kind")) (t' := (.object "java/lang/String")) (by decide) (by decide)))).other W8 (Or.inr (slot_ne (Or.inr (hw _ (List.mem_of_getElem? (i := 19) rfl))) (Or.inr (hw _ (List.mem_of_getElem? (i := 23) rfl))) (by decide) (t := (.object "com/example/identifier_grammars/identifiergrammars/Node$Kind")) (t' := (.array .int)) (by decide) (by decide)))).other W11 (Or.inr (slot_ne (Or.inr (hw _ (List.mem_of_getElem? (i := 19) rfl))) (Or.inr (hw _ (List.mem_of_getElem? (i := 25) rfl))) (by decide) (t := (.object "com/example/identifier_grammars/identifiergrammars/Node$Kind")) (t' := .int) (by decide) (by decide)))).other W14 (Or.inr (slot_ne (Or.inr (hw _ (List.mem_of_getElem? (i := 19) rfl))) (Or.inr (hw _ (List.mem_of_getElem? (i := 27) rfl))) (by decide) (t := (.object "com/example/identifier_grammars/identifiergrammars/Node$Kind")) (t' := .int) (by decide) (by decide)))).other W17 (Or.inr (slot_ne (Or.inr (hw _ (List.mem_of_getElem? (i := 19) rfl))) (Or.inr (hw _ (List.mem_of_getElem? (i := 29) rfl))) (by decide) (t := (.object "com/example/identifier_grammars/identifiergrammars/Node$Kind")) (t' := (.array .int)) (by decide) (by decide)))).other W20 (Or.inr (slot_ne (Or.inr (hw _ (List.mem_of_getElem? (i := 19) rfl))) (Or.inr (hw _ (List.mem_of_getElem? (i := 31) rfl))) (by decide) (t := (.object "com/example/identifier_grammars/identifiergrammars/Node$Kind")) (t' := (.array .int)) (by decide) (by decide)))).other W23 (Or.inr (slot_ne (Or.inr (hw _ (List.mem_of_getElem? (i := 19) rfl))) (Or.inr (hw _ (List.mem_of_getElem? (i := 33) rfl))) (by decide) (t := (.object "com/example/identifier_grammars/identifiergrammars/Node$Kind")) (t' := .boolean) (by decide) (by decide))))
  have f27 : Fld Z h23 a "com/example/identifier_grammars/identifiergrammars/Node" "name" "Ljava/lang/String;" .null := ((((((Fw5.other W8 (Or.inr (slot_ne (Or.inr (hw _ (List.mem_of_getElem? (i := 21) rfl))) (Or.inr (hw _ (List.mem_of_getElem? (i := 23) rfl))) (by decide) (t := (.object "java/lang/String")) (t' := (.array .int)) (by decide) (by decide)))).other W11 (Or.inr (slot_ne (Or.inr (hw _ (List.mem_of_getElem? (i := 21) rfl))) (Or.inr (hw _ (List.mem_of_getElem? (i := 25) rfl))) (by decide) (t := (.object "java/lang/String")) (t' := .int) (by decide) (by decide)))).other W14 (Or.inr (slot_ne (Or.inr (hw _ (List.mem_of_getElem? (i := 21) rfl))) (Or.inr (hw _ (List.mem_of_getElem? (i := 27) rfl))) (by decide) (t := (.object "java/lang/String")) (t' := .int) (by decide) (by decide)))).other W17 (Or.inr (slot_ne (Or.inr (hw _ (List.mem_of_getElem? (i := 21) rfl))) (Or.inr (hw _ (List.mem_of_getElem? (i := 29) rfl))) (by decide) (t := (.object "java/lang/String")) (t' := (.array .int)) (by decide) (by decide)))).other W20 (Or.inr (slot_ne (Or.inr (hw _ (List.mem_of_getElem? (i := 21) rfl))) (Or.inr (hw _ (List.mem_of_getElem? (i := 31) rfl))) (by decide) (t := (.object "java/lang/String")) (t' := (.array .int)) (by decide) (by decide)))).other W23 (Or.inr (slot_ne (Or.inr (hw _ (List.mem_of_getElem? (i := 21) rfl))) (Or.inr (hw _ (List.mem_of_getElem? (i := 33) rfl))) (by decide) (t := (.object "java/lang/String")) (t' := .boolean) (by decide) (by decide))))
  have f28 : Fld Z h23 a "com/example/identifier_grammars/identifiergrammars/Node" "children" "[I" (.ref ch) := (((((Fw8.other W11 (Or.inr (slot_ne (Or.inr (hw _ (List.mem_of_getElem? (i := 23) rfl))) (Or.inr (hw _ (List.mem_of_getElem? (i := 25) rfl))) (by decide) (t := (.array .int)) (t' := .int) (by decide) (by decide)))).other W14 (Or.inr (slot_ne (Or.inr (hw _ (List.mem_of_getElem? (i := 23) rfl))) (Or.inr (hw _ (List.mem_of_getElem? (i := 27) rfl))) (by decide) (t := (.array .int)) (t' := .int) (by decide) (by decide)))).other W17 (Or.inr (slot_ne (Or.inr (hw _ (List.mem_of_getElem? (i := 23) rfl))) (Or.inr (hw _ (List.mem_of_getElem? (i := 29) rfl))) (by decide) (t := (.array .int)) (t' := (.array .int)) (by decide) (by decide)))).other W20 (Or.inr (slot_ne (Or.inr (hw _ (List.mem_of_getElem? (i := 23) rfl))) (Or.inr (hw _ (List.mem_of_getElem? (i := 31) rfl))) (by decide) (t := (.array .int)) (t' := (.array .int)) (by decide) (by decide)))).other W23 (Or.inr (slot_ne (Or.inr (hw _ (List.mem_of_getElem? (i := 23) rfl))) (Or.inr (hw _ (List.mem_of_getElem? (i := 33) rfl))) (by decide) (t := (.array .int)) (t' := .boolean) (by decide) (by decide))))
  have f29 : Fld Z h23 a "com/example/identifier_grammars/identifiergrammars/Node" "min" "I" (.int mi) := ((((Fw11.other W14 (Or.inr (slot_ne (Or.inr (hw _ (List.mem_of_getElem? (i := 25) rfl))) (Or.inr (hw _ (List.mem_of_getElem? (i := 27) rfl))) (by decide) (t := .int) (t' := .int) (by decide) (by decide)))).other W17 (Or.inr (slot_ne (Or.inr (hw _ (List.mem_of_getElem? (i := 25) rfl))) (Or.inr (hw _ (List.mem_of_getElem? (i := 29) rfl))) (by decide) (t := .int) (t' := (.array .int)) (by decide) (by decide)))).other W20 (Or.inr (slot_ne (Or.inr (hw _ (List.mem_of_getElem? (i := 25) rfl))) (Or.inr (hw _ (List.mem_of_getElem? (i := 31) rfl))) (by decide) (t := .int) (t' := (.array .int)) (by decide) (by decide)))).other W23 (Or.inr (slot_ne (Or.inr (hw _ (List.mem_of_getElem? (i := 25) rfl))) (Or.inr (hw _ (List.mem_of_getElem? (i := 33) rfl))) (by decide) (t := .int) (t' := .boolean) (by decide) (by decide))))
  have f30 : Fld Z h23 a "com/example/identifier_grammars/identifiergrammars/Node" "max" "I" (.int ma) := (((Fw14.other W17 (Or.inr (slot_ne (Or.inr (hw _ (List.mem_of_getElem? (i := 27) rfl))) (Or.inr (hw _ (List.mem_of_getElem? (i := 29) rfl))) (by decide) (t := .int) (t' := (.array .int)) (by decide) (by decide)))).other W20 (Or.inr (slot_ne (Or.inr (hw _ (List.mem_of_getElem? (i := 27) rfl))) (Or.inr (hw _ (List.mem_of_getElem? (i := 31) rfl))) (by decide) (t := .int) (t' := (.array .int)) (by decide) (by decide)))).other W23 (Or.inr (slot_ne (Or.inr (hw _ (List.mem_of_getElem? (i := 27) rfl))) (Or.inr (hw _ (List.mem_of_getElem? (i := 33) rfl))) (by decide) (t := .int) (t' := .boolean) (by decide) (by decide))))
  have f31 : Fld Z h23 a "com/example/identifier_grammars/identifiergrammars/Node" "low" "[I" (.ref lo) := ((Fw17.other W20 (Or.inr (slot_ne (Or.inr (hw _ (List.mem_of_getElem? (i := 29) rfl))) (Or.inr (hw _ (List.mem_of_getElem? (i := 31) rfl))) (by decide) (t := (.array .int)) (t' := (.array .int)) (by decide) (by decide)))).other W23 (Or.inr (slot_ne (Or.inr (hw _ (List.mem_of_getElem? (i := 29) rfl))) (Or.inr (hw _ (List.mem_of_getElem? (i := 33) rfl))) (by decide) (t := (.array .int)) (t' := .boolean) (by decide) (by decide))))
  have f32 : Fld Z h23 a "com/example/identifier_grammars/identifiergrammars/Node" "high" "[I" (.ref hi) := (Fw20.other W23 (Or.inr (slot_ne (Or.inr (hw _ (List.mem_of_getElem? (i := 31) rfl))) (Or.inr (hw _ (List.mem_of_getElem? (i := 33) rfl))) (by decide) (t := (.array .int)) (t' := .boolean) (by decide) (by decide))))
  obtain ⟨fs24, hr24, hrun24, hended24, hW24, hsame24⟩ := X23.leave (v := none) (fun _ => rfl)
  refine ⟨_, _, X23.returnOut hx Bd.returns (hb hby d_prog_20_method_1_49) hr24, hrun24, hended24, _, _, rfl, ?_, ⟨_, rfl⟩, hW24, hsame24.mono (by decide) (by decide)⟩
  show Q1 Z a kd ch mi ma lo hi h0 n0 _ T23.heap _
  rw [e23]
  exact ⟨rfl, N23, (((((((((Keep.refl h0 [a]).wr W2 (Or.inl (List.mem_of_getElem? (i := 0) rfl))).wr W5 (Or.inl (List.mem_of_getElem? (i := 0) rfl))).wr W8 (Or.inl (List.mem_of_getElem? (i := 0) rfl))).wr W11 (Or.inl (List.mem_of_getElem? (i := 0) rfl))).wr W14 (Or.inl (List.mem_of_getElem? (i := 0) rfl))).wr W17 (Or.inl (List.mem_of_getElem? (i := 0) rfl))).wr W20 (Or.inl (List.mem_of_getElem? (i := 0) rfl))).wr W23 (Or.inl (List.mem_of_getElem? (i := 0) rfl))), f25, f26, f27, f28, f29, f30, f31, f32, Fw23⟩
theorem d_prog_20_method_5_0 : decode prog_20_method_5_code 0 = .ok (.new 10, 3) := by decide +kernel
theorem d_prog_20_method_5_3 : decode prog_20_method_5_code 3 = .ok (.dup, 1) := by decide +kernel
theorem d_prog_20_method_5_4 : decode prog_20_method_5_code 4 = .ok (.getstatic 57, 3) := by decide +kernel
theorem d_prog_20_method_5_7 : decode prog_20_method_5_code 7 = .ok (.aconst_null, 1) := by decide +kernel
theorem d_prog_20_method_5_8 : decode prog_20_method_5_code 8 = .ok (.iconst 1, 1) := by decide +kernel
theorem d_prog_20_method_5_9 : decode prog_20_method_5_code 9 = .ok (.newarray .int, 2) := by decide +kernel
theorem d_prog_20_method_5_11 : decode prog_20_method_5_code 11 = .ok (.dup, 1) := by decide +kernel
theorem d_prog_20_method_5_12 : decode prog_20_method_5_code 12 = .ok (.iconst 0, 1) := by decide +kernel
theorem d_prog_20_method_5_13 : decode prog_20_method_5_code 13 = .ok (.iload_n 2, 1) := by decide +kernel
theorem d_prog_20_method_5_14 : decode prog_20_method_5_code 14 = .ok (.iastore, 1) := by decide +kernel
theorem d_prog_20_method_5_15 : decode prog_20_method_5_code 15 = .ok (.iload_n 0, 1) := by decide +kernel
theorem d_prog_20_method_5_16 : decode prog_20_method_5_code 16 = .ok (.iload_n 1, 1) := by decide +kernel
theorem d_prog_20_method_5_17 : decode prog_20_method_5_code 17 = .ok (.getstatic 45, 3) := by decide +kernel
theorem d_prog_20_method_5_20 : decode prog_20_method_5_code 20 = .ok (.getstatic 45, 3) := by decide +kernel
theorem d_prog_20_method_5_23 : decode prog_20_method_5_code 23 = .ok (.iconst 0, 1) := by decide +kernel
theorem d_prog_20_method_5_24 : decode prog_20_method_5_code 24 = .ok (.invokespecial 48, 3) := by decide +kernel
theorem pd_44 : parseMethodDescriptor "(Lcom/example/identifier_grammars/identifiergrammars/Node$Kind;Ljava/lang/String;[III[I[IZ)V" = some ⟨[(.object "com/example/identifier_grammars/identifiergrammars/Node$Kind"), (.object "java/lang/String"), (.array .int), .int, .int, (.array .int), (.array .int), .boolean], none⟩ := by decide +kernel
theorem d_prog_20_method_5_27 : decode prog_20_method_5_code 27 = .ok (.areturn, 1) := by decide +kernel
theorem ef_2 (m : MethodId) (mi : Int32) (ma : Int32) (it : Int32) : entryFrame m #[(.int mi), (.int ma), (.int it)] 3 = mkF m 0 #[.val (.int mi), .val (.int ma), .val (.int it)] [] := by first | (simp [entryFrame, mkF, argsToLocals, Value.category]; done) | rfl
def Q2 (Z : State) (mi : Int32) (ma : Int32) (it : Int32) (kd : Addr) (no : Addr) (h0 : Heap) (n0 : Nat) (vV : Option Value) (hH : Heap) (LL : List Loc) : Prop := ∃ b : Addr, ∃ ch : Addr, ∃ kc : ClassId, vV = some (.ref b) ∧ Fr n0 LL ∧ Keep h0 hH [] ∧ h0.size ≤ b ∧ h0.size ≤ ch ∧ (Exa Z hH b "com/example/identifier_grammars/identifiergrammars/Node") ∧ (Fld Z hH b "com/example/identifier_grammars/identifiergrammars/Node" "kind" "Lcom/example/identifier_grammars/identifiergrammars/Node$Kind;" (.ref kd)) ∧ (Fld Z hH b "com/example/identifier_grammars/identifiergrammars/Node" "name" "Ljava/lang/String;" .null) ∧ (Fld Z hH b "com/example/identifier_grammars/identifiergrammars/Node" "children" "[I" (.ref ch)) ∧ (Fld Z hH b "com/example/identifier_grammars/identifiergrammars/Node" "min" "I" (.int mi)) ∧ (Fld Z hH b "com/example/identifier_grammars/identifiergrammars/Node" "max" "I" (.int ma)) ∧ (Fld Z hH b "com/example/identifier_grammars/identifiergrammars/Node" "low" "[I" (.ref no)) ∧ (Fld Z hH b "com/example/identifier_grammars/identifiergrammars/Node" "high" "[I" (.ref no)) ∧ (Fld Z hH b "com/example/identifier_grammars/identifiergrammars/Node" "ignoreCase" "Z" (.int (0 : Int32))) ∧ (Arv Z hH ch kc .int (1 : Int32) [(.int it)] (.int (0 : Int32)))
def R2 (Z : State) (mi : Int32) (ma : Int32) (it : Int32) (kd : Addr) (no : Addr) (h0 : Heap) (n0 : Nat) (U : State) (o : Outcome) (U' : State) : Prop := ∃ vV LL, o = .returned vV ∧ Q2 Z mi ma it kd no h0 n0 vV U'.heap LL ∧ FrameEnd U o U' LL ({ frames := 2, cells := 2, slots := 9, locals := 33 } : Room).cells ({ frames := 2, cells := 2, slots := 9, locals := 33 } : Room).slots
set_option maxRecDepth 65536 in
set_option maxHeartbeats 40000000 in
theorem rm2 (l : Launch) (Z : State) (a0 : Array Value) (hw : ∀ d ∈ tables_1, d.before a0 Z = true) (ws : List Jvm.Cond) (mi : Int32) (ma : Int32) (it : Int32) (kd : Addr) (no : Addr) (h0 : Heap) (n0 : Nat) (Z0 : n0 ≤ h0.size) (hp0 : Sta Z h0 "com/example/identifier_grammars/identifiergrammars/Node$Kind" "REPEAT" "Lcom/example/identifier_grammars/identifiergrammars/Node$Kind;" (.ref kd)) (hp1 : Sta Z h0 "com/example/identifier_grammars/identifiergrammars/Node" "NONE" "[I" (.ref no)) :
    MetFree l (⟨"com/example/identifier_grammars/identifiergrammars/Node", "repeat", "(III)Lcom/example/identifier_grammars/identifiergrammars/Node;"⟩ : MethodName) (head1 (Jvm.Cond.code (⟨"com/example/identifier_grammars/identifiergrammars/Node", "repeat", "(III)Lcom/example/identifier_grammars/identifiergrammars/Node;"⟩ : MethodName) prog_20_method_5_code 3 (some (.object "com/example/identifier_grammars/identifiergrammars/Node")) :: ws) ({ frames := 2, cells := 2, slots := 9, locals := 33 } : Room)) (fun aA U => aA = #[(.int mi), (.int ma), (.int it)] ∧ Z.Warmed39 U.vm ∧ U.heap = h0) (fun _ _ _ _ _ => True) (fun _ U o U' => ∃ vV LL, o = .returned vV ∧ Q2 Z mi ma it kd no h0 n0 vV U'.heap LL ∧ FrameEnd U o U' LL ({ frames := 2, cells := 2, slots := 9, locals := 33 } : Room).cells ({ frames := 2, cells := 2, slots := 9, locals := 33 } : Room).slots) := by
  refine MetFree.of_bodySF (plainFor_of_name pn_0) hisR ?_
  intro p e s m args below meth cC s₁ Bd hml0 hP hK
  obtain ⟨rfl, hZ, hh⟩ := hP
  have hx := Bd.exec
  have hby := Bd.bytes
  have hml : cC.maxLocals = 3 := hml0
  have hown : s.vm.findClass "com/example/identifier_grammars/identifiergrammars/Node" = some m.cls := findClass_of_methodNamed Bd.named
  have hnm := (name_of_methodNamed Bd.named Bd.method).1
  have X0 : Stand p l e ({ frames := 2, cells := 2, slots := 9, locals := 33 } : Room) s m #[(.int mi), (.int ma), (.int it)] below meth cC s₁ [] 0 0 := Stand.of_body Bd
  have e0 : s₁.heap = h0 := by rw [← hh, Bd.state]; rfl
  have N0 := Fr.nil n0
  show OwnFin p e below (R2 Z mi ma it kd no h0 n0 s) (s₁.setTop (entryFrame m #[(.int mi), (.int ma), (.int it)] 3))
  rw [ef_2 m mi ma it]
  obtain ⟨T1, h1, X1, e1, E1, A1, D1, -, st1⟩ := newO X0 hx hZ hown (hw _ (List.mem_of_getElem? (i := 4) rfl)) (hw _ (List.mem_of_getElem? (i := 5) rfl)) (hw _ (List.mem_of_getElem? (i := 2) rfl)) e0 (g := (mkF m 0 #[.val (.int mi), .val (.int ma), .val (.int it)] [])) rfl (hb hby d_prog_20_method_5_0) (by decide) (by decide)
  obtain ⟨b1, g1⟩ : ∃ z, z = h0.size := ⟨_, rfl⟩
  rw [← g1] at A1 D1 st1
  refine OwnFin.step st1 ?_
  have Fz2 : Fld Z h1 b1 "com/example/identifier_grammars/identifiergrammars/Node" "kind" "Lcom/example/identifier_grammars/identifiergrammars/Node$Kind;" .null := D1 (Or.inr (hw _ (List.mem_of_getElem? (i := 19) rfl))) (ty := (.object "com/example/identifier_grammars/identifiergrammars/Node$Kind")) (by decide)
  have Fz3 : Fld Z h1 b1 "com/example/identifier_grammars/identifiergrammars/Node" "name" "Ljava/lang/String;" .null := D1 (Or.inr (hw _ (List.mem_of_getElem? (i := 21) rfl))) (ty := (.object "java/lang/String")) (by decide)
  have Fz4 : Fld Z h1 b1 "com/example/identifier_grammars/identifiergrammars/Node" "children" "[I" .null := D1 (Or.inr (hw _ (List.mem_of_getElem? (i := 23) rfl))) (ty := (.array .int)) (by decide)
  have Fz5 : Fld Z h1 b1 "com/example/identifier_grammars/identifiergrammars/Node" "min" "I" (.int (0 : Int32)) := D1 (Or.inr (hw _ (List.mem_of_getElem? (i := 25) rfl))) (ty := .int) (by decide)
  have Fz6 : Fld Z h1 b1 "com/example/identifier_grammars/identifiergrammars/Node" "max" "I" (.int (0 : Int32)) := D1 (Or.inr (hw _ (List.mem_of_getElem? (i := 27) rfl))) (ty := .int) (by decide)
  have Fz7 : Fld Z h1 b1 "com/example/identifier_grammars/identifiergrammars/Node" "low" "[I" .null := D1 (Or.inr (hw _ (List.mem_of_getElem? (i := 29) rfl))) (ty := (.array .int)) (by decide)
  have Fz8 : Fld Z h1 b1 "com/example/identifier_grammars/identifiergrammars/Node" "high" "[I" .null := D1 (Or.inr (hw _ (List.mem_of_getElem? (i := 31) rfl))) (ty := (.array .int)) (by decide)
  have Fz9 : Fld Z h1 b1 "com/example/identifier_grammars/identifiergrammars/Node" "ignoreCase" "Z" (.int (0 : Int32)) := D1 (Or.inr (hw _ (List.mem_of_getElem? (i := 33) rfl))) (ty := .boolean) (by decide)
  show OwnFin p e below _ (T1.setTop (mkF m 3 #[.val (.int mi), .val (.int ma), .val (.int it)] [(.ref b1)]))
  refine OwnFin.step (fun tT kK => XS.dup X1.here hx rfl (hb hby d_prog_20_method_5_3) rfl rfl kK) ?_
  show OwnFin p e below _ (T1.setTop (mkF m 4 #[.val (.int mi), .val (.int ma), .val (.int it)] [(.ref b1), (.ref b1)]))
  have f10 : Sta Z h1 "com/example/identifier_grammars/identifiergrammars/Node$Kind" "REPEAT" "Lcom/example/identifier_grammars/identifiergrammars/Node$Kind;" (.ref kd) := (hp0.ext E1)
  obtain ⟨T11, X11, e11, st11⟩ := getS2 X1 hx hZ hown (host := "") (Or.inl (hw _ (List.mem_of_getElem? (i := 6) rfl))) Via.refl e1 f10 (g := (mkF m 4 #[.val (.int mi), .val (.int ma), .val (.int it)] [(.ref b1), (.ref b1)])) rfl (hb hby d_prog_20_method_5_4)
  refine OwnFin.step st11 ?_
  show OwnFin p e below _ (T11.setTop (mkF m 7 #[.val (.int mi), .val (.int ma), .val (.int it)] [(.ref kd), (.ref b1), (.ref b1)]))
  refine OwnFin.step (fun tT kK => XS.aconstNull X11.here hx rfl (hb hby d_prog_20_method_5_7) kK) ?_
  show OwnFin p e below _ (T11.setTop (mkF m 8 #[.val (.int mi), .val (.int ma), .val (.int it)] [.null, (.ref kd), (.ref b1), (.ref b1)]))
  refine OwnFin.step (fun tT kK => XS.iconst X11.here hx rfl (hb hby d_prog_20_method_5_8) kK) ?_
  show OwnFin p e below _ (T11.setTop (mkF m 9 #[.val (.int mi), .val (.int ma), .val (.int it)] [(.int (1 : Int32)), .null, (.ref kd), (.ref b1), (.ref b1)]))
  obtain ⟨T12, h12, k12, X12, e12, E12, A12, st12⟩ := newP X11 hx hZ (hw _ (List.mem_of_getElem? (i := 9) rfl)) e11 (g := (mkF m 9 #[.val (.int mi), .val (.int ma), .val (.int it)] [(.int (1 : Int32)), .null, (.ref kd), (.ref b1), (.ref b1)])) rfl (hb hby d_prog_20_method_5_9) rfl (by decide) (cap := 1) (by decide) (by decide) (by decide) (by decide)
  obtain ⟨b12, g12⟩ : ∃ z, z = h1.size := ⟨_, rfl⟩
  rw [← g12] at A12 st12
  refine OwnFin.step st12 ?_
  have V12 : Arv Z h12 b12 k12 .int (1 : Int32) [(.int (0 : Int32))] (.int (0 : Int32)) := (Arv.new A12 (by decide)).pad (pad_rep [] (.int (0 : Int32)) 1)
  show OwnFin p e below _ (T12.setTop (mkF m 11 #[.val (.int mi), .val (.int ma), .val (.int it)] [(.ref b12), .null, (.ref kd), (.ref b1), (.ref b1)]))
  refine OwnFin.step (fun tT kK => XS.dup X12.here hx rfl (hb hby d_prog_20_method_5_11) rfl rfl kK) ?_
  show OwnFin p e below _ (T12.setTop (mkF m 12 #[.val (.int mi), .val (.int ma), .val (.int it)] [(.ref b12), (.ref b12), .null, (.ref kd), (.ref b1), (.ref b1)]))
  refine OwnFin.step (fun tT kK => XS.iconst X12.here hx rfl (hb hby d_prog_20_method_5_12) kK) ?_
  show OwnFin p e below _ (T12.setTop (mkF m 13 #[.val (.int mi), .val (.int ma), .val (.int it)] [(.int (0 : Int32)), (.ref b12), (.ref b12), .null, (.ref kd), (.ref b1), (.ref b1)]))
  refine OwnFin.step (fun tT kK => XS.iloadN X12.here hx rfl (hb hby d_prog_20_method_5_13) rfl kK) ?_
  show OwnFin p e below _ (T12.setTop (mkF m 14 #[.val (.int mi), .val (.int ma), .val (.int it)] [(.int it), (.int (0 : Int32)), (.ref b12), (.ref b12), .null, (.ref kd), (.ref b1), (.ref b1)]))
  obtain ⟨cl13, Ar13, q13, Sz13, Ng13, H13, G13⟩ := id V12
  have hin13 : ¬ ((0 : Int32) < 0 ∨ cl13.slots.size ≤ ((0 : Int32)).toNatClampNeg) := inb_of Sz13 ⟨by decide, by decide⟩
  obtain ⟨T14, h14, X14, e14, W14, st14⟩ := stI X12 hx hZ e12 Ar13 (j := (0 : Int32)) hin13 (g := (mkF m 14 #[.val (.int mi), .val (.int ma), .val (.int it)] [(.int it), (.int (0 : Int32)), (.ref b12), (.ref b12), .null, (.ref kd), (.ref b1), (.ref b1)])) rfl rfl (hb hby d_prog_20_method_5_14)
  refine OwnFin.step st14 ?_
  have N14 := Fr.snoc X14 N0 (Nat.le_trans (Nat.le_trans Z0 E1.1) (Nat.le_of_eq g12.symm))
  have V14 : Arv Z h14 b12 k12 .int (1 : Int32) [(.int it)] (.int (0 : Int32)) := Arv.set Ar13 q13 Sz13 Ng13 H13 G13 rfl W14 0 rfl (Nat.le_of_ble_eq_true rfl)
  show OwnFin p e below _ (T14.setTop (mkF m 15 #[.val (.int mi), .val (.int ma), .val (.int it)] [(.ref b12), .null, (.ref kd), (.ref b1), (.ref b1)]))
  refine OwnFin.step (fun tT kK => XS.iloadN X14.here hx rfl (hb hby d_prog_20_method_5_15) rfl kK) ?_
  show OwnFin p e below _ (T14.setTop (mkF m 16 #[.val (.int mi), .val (.int ma), .val (.int it)] [(.int mi), (.ref b12), .null, (.ref kd), (.ref b1), (.ref b1)]))
  refine OwnFin.step (fun tT kK => XS.iloadN X14.here hx rfl (hb hby d_prog_20_method_5_16) rfl kK) ?_
  show OwnFin p e below _ (T14.setTop (mkF m 17 #[.val (.int mi), .val (.int ma), .val (.int it)] [(.int ma), (.int mi), (.ref b12), .null, (.ref kd), (.ref b1), (.ref b1)]))
  have f15 : Sta Z h14 "com/example/identifier_grammars/identifiergrammars/Node" "NONE" "[I" (.ref no) := (((hp1.ext E1).ext E12).wr W14)
  obtain ⟨T16, X16, e16, st16⟩ := getS2 X14 hx hZ hown (host := "") (Or.inl (hw _ (List.mem_of_getElem? (i := 10) rfl))) Via.refl e14 f15 (g := (mkF m 17 #[.val (.int mi), .val (.int ma), .val (.int it)] [(.int ma), (.int mi), (.ref b12), .null, (.ref kd), (.ref b1), (.ref b1)])) rfl (hb hby d_prog_20_method_5_17)
  refine OwnFin.step st16 ?_
  show OwnFin p e below _ (T16.setTop (mkF m 20 #[.val (.int mi), .val (.int ma), .val (.int it)] [(.ref no), (.int ma), (.int mi), (.ref b12), .null, (.ref kd), (.ref b1), (.ref b1)]))
  obtain ⟨T17, X17, e17, st17⟩ := getS2 X16 hx hZ hown (host := "") (Or.inl (hw _ (List.mem_of_getElem? (i := 10) rfl))) Via.refl e16 f15 (g := (mkF m 20 #[.val (.int mi), .val (.int ma), .val (.int it)] [(.ref no), (.int ma), (.int mi), (.ref b12), .null, (.ref kd), (.ref b1), (.ref b1)])) rfl (hb hby d_prog_20_method_5_20)
  refine OwnFin.step st17 ?_
  show OwnFin p e below _ (T17.setTop (mkF m 23 #[.val (.int mi), .val (.int ma), .val (.int it)] [(.ref no), (.ref no), (.int ma), (.int mi), (.ref b12), .null, (.ref kd), (.ref b1), (.ref b1)]))
  refine OwnFin.step (fun tT kK => XS.iconst X17.here hx rfl (hb hby d_prog_20_method_5_23) kK) ?_
  show OwnFin p e below _ (T17.setTop (mkF m 24 #[.val (.int mi), .val (.int ma), .val (.int it)] [(.int (0 : Int32)), (.ref no), (.ref no), (.int ma), (.int mi), (.ref b12), .null, (.ref kd), (.ref b1), (.ref b1)]))
  have f18 : Exa Z h14 b1 "com/example/identifier_grammars/identifiergrammars/Node" := ((A1.ext E12).wr W14)
  have f19 : Fld Z h14 b1 "com/example/identifier_grammars/identifiergrammars/Node" "kind" "Lcom/example/identifier_grammars/identifiergrammars/Node$Kind;" .null := ((Fz2.ext E12).other W14 (Or.inl (Nat.ne_of_lt (Nat.lt_of_lt_of_le (Nat.lt_of_lt_of_le A1.lt (Nat.le_refl _)) (Nat.le_of_eq g12.symm)))))
  have f20 : Fld Z h14 b1 "com/example/identifier_grammars/identifiergrammars/Node" "name" "Ljava/lang/String;" .null := ((Fz3.ext E12).other W14 (Or.inl (Nat.ne_of_lt (Nat.lt_of_lt_of_le (Nat.lt_of_lt_of_le A1.lt (Nat.le_refl _)) (Nat.le_of_eq g12.symm)))))
  have f21 : Fld Z h14 b1 "com/example/identifier_grammars/identifiergrammars/Node" "children" "[I" .null := ((Fz4.ext E12).other W14 (Or.inl (Nat.ne_of_lt (Nat.lt_of_lt_of_le (Nat.lt_of_lt_of_le A1.lt (Nat.le_refl _)) (Nat.le_of_eq g12.symm)))))
  have f22 : Fld Z h14 b1 "com/example/identifier_grammars/identifiergrammars/Node" "min" "I" (.int (0 : Int32)) := ((Fz5.ext E12).other W14 (Or.inl (Nat.ne_of_lt (Nat.lt_of_lt_of_le (Nat.lt_of_lt_of_le A1.lt (Nat.le_refl _)) (Nat.le_of_eq g12.symm)))))
  have f23 : Fld Z h14 b1 "com/example/identifier_grammars/identifiergrammars/Node" "max" "I" (.int (0 : Int32)) := ((Fz6.ext E12).other W14 (Or.inl (Nat.ne_of_lt (Nat.lt_of_lt_of_le (Nat.lt_of_lt_of_le A1.lt (Nat.le_refl _)) (Nat.le_of_eq g12.symm)))))
  have f24 : Fld Z h14 b1 "com/example/identifier_grammars/identifiergrammars/Node" "low" "[I" .null := ((Fz7.ext E12).other W14 (Or.inl (Nat.ne_of_lt (Nat.lt_of_lt_of_le (Nat.lt_of_lt_of_le A1.lt (Nat.le_refl _)) (Nat.le_of_eq g12.symm)))))
  have f25 : Fld Z h14 b1 "com/example/identifier_grammars/identifiergrammars/Node" "high" "[I" .null := ((Fz8.ext E12).other W14 (Or.inl (Nat.ne_of_lt (Nat.lt_of_lt_of_le (Nat.lt_of_lt_of_le A1.lt (Nat.le_refl _)) (Nat.le_of_eq g12.symm)))))
  have f26 : Fld Z h14 b1 "com/example/identifier_grammars/identifiergrammars/Node" "ignoreCase" "Z" (.int (0 : Int32)) := ((Fz9.ext E12).other W14 (Or.inl (Nat.ne_of_lt (Nat.lt_of_lt_of_le (Nat.lt_of_lt_of_le A1.lt (Nat.le_refl _)) (Nat.le_of_eq g12.symm)))))
  obtain ⟨_, _, ⟨T27, L27, k27, n27⟩, -, X27, ⟨Lc27, hQ27, l27, y27, z27⟩, st27⟩ := X17.specialBack hx (y := (⟨"com/example/identifier_grammars/identifiergrammars/Node", "<init>", "(Lcom/example/identifier_grammars/identifiergrammars/Node$Kind;Ljava/lang/String;[III[I[IZ)V"⟩ : MethodName)) rfl hown (mvT hZ (hw _ (List.mem_of_getElem? (i := 12) rfl))) (mvT hZ (hw _ (List.mem_of_getElem? (i := 13) rfl))) (mvT hZ (hw _ (List.mem_of_getElem? (i := 14) rfl))) (by decide) (backOf (W := 1) (rm1 l Z a0 hw [] b1 kd b12 mi ma no no h14 n0 (Nat.le_trans (Nat.le_trans (Nat.le_trans Z0 E1.1) E12.1) (Keep.of_wr W14).1) f18 f19 f20 f21 f22 f23 f24 f25 f26 (Nat.le_trans Z0 (Nat.le_of_eq g1.symm))) hZ (hw _ (List.mem_of_getElem? (i := 14) rfl)) (hw _ (List.mem_of_getElem? (i := 2) rfl)) (by decide) (by decide)) (g := (mkF m 24 #[.val (.int mi), .val (.int ma), .val (.int it)] [(.int (0 : Int32)), (.ref no), (.ref no), (.int ma), (.int mi), (.ref b12), .null, (.ref kd), (.ref b1), (.ref b1)])) rfl (by rw [hml]; rfl) (Steps.refl _) (a := b1) (argsL := [(.ref kd), .null, (.ref b12), (.int mi), (.int ma), (.ref no), (.ref no), (.int (0 : Int32))]) (rest := [(.ref b1)]) (lenOf pd_44 rfl) rfl (by show 2 * 0 + _ ≤ _; exact Nat.le_of_eq rfl) (hb hby d_prog_20_method_5_24) (fun _ _ => ⟨rfl, e17, (by decide : 2 + 0 ≤ _), (by decide : 9 + 0 ≤ _)⟩)
  dsimp only [Pt.U, Pt.locs, Pt.cells, Pt.slots] at X27 l27 y27 z27 st27 hQ27
  subst l27 y27 z27
  obtain ⟨rfl, N27q, K27, P27_0, P27_1, P27_2, P27_3, P27_4, P27_5, P27_6, P27_7, P27_8⟩ := hQ27
  have N27 := Fr.app N14 N27q
  refine OwnFin.step (fun tT kK => st27.trans kK) ?_
  show OwnFin p e below _ (T27.setTop (mkF m 27 #[.val (.int mi), .val (.int ma), .val (.int it)] [(.ref b1)]))
  have f29 : Arv Z T27.heap b12 k12 .int (1 : Int32) [(.int it)] (.int (0 : Int32)) := (V14.keep K27 (ninS (Ne.symm (Nat.ne_of_lt (Nat.lt_of_lt_of_le (Nat.lt_of_lt_of_le A1.lt (Nat.le_refl _)) (Nat.le_of_eq g12.symm)))) nin0))
  obtain ⟨fs28, hr28, hrun28, hended28, hW28, hsame28⟩ := X27.leave (v := (some (.ref b1))) (fun h => by rw [Bd.returns] at h; cases h)
  refine ⟨_, _, retOut X27 hx Bd.returns rfl (Or.inr (Or.inr (Or.inr (Or.inr ⟨rfl, rfl, rfl⟩)))) (hb hby d_prog_20_method_5_27) hr28, hrun28, hended28, _, _, rfl, ?_, ⟨_, rfl⟩, hW28, hsame28.mono (by decide) (by decide)⟩
  show Q2 Z mi ma it kd no h0 n0 _ T27.heap _
  exact ⟨b1, b12, k12, rfl, N27, (((((Keep.refl h0 []).ext E1).ext E12).wr W14 (Or.inr (Nat.le_trans (Nat.le_trans (Nat.le_refl _) E1.1) (Nat.le_of_eq g12.symm)))).trans K27 (allS (P := fun x => x ∈ [] ∨ h0.size ≤ x) (Or.inr (Nat.le_trans (Nat.le_refl _) (Nat.le_of_eq g1.symm))) all0)), (Nat.le_trans (Nat.le_refl _) (Nat.le_of_eq g1.symm)), (Nat.le_trans (Nat.le_trans (Nat.le_refl _) E1.1) (Nat.le_of_eq g12.symm)), P27_0, P27_1, P27_2, P27_3, P27_4, P27_5, P27_6, P27_7, P27_8, f29⟩
theorem pn_46 : plainName "com/example/identifier_grammars/identifiergrammars/NodeRepeatPinLaw" = true := by first | (simp [plainName, overriddenIn]; done) | decide +kernel
theorem d_method_2_0 : decode method_2_code 0 = .ok (.aload_n 0, 1) := by decide +kernel
theorem d_method_2_1 : decode method_2_code 1 = .ok (.ifnonnull 5, 3) := by decide +kernel
theorem d_method_2_6 : decode method_2_code 6 = .ok (.aload_n 0, 1) := by decide +kernel
theorem d_method_2_7 : decode method_2_code 7 = .ok (.getfield 7, 3) := by decide +kernel
theorem d_method_2_10 : decode method_2_code 10 = .ok (.getstatic 13, 3) := by decide +kernel
theorem d_method_2_13 : decode method_2_code 13 = .ok (.if_acmp .eq 5, 3) := by decide +kernel
theorem d_method_2_18 : decode method_2_code 18 = .ok (.aload_n 0, 1) := by decide +kernel
theorem d_method_2_19 : decode method_2_code 19 = .ok (.getfield 18, 3) := by decide +kernel
theorem d_method_2_22 : decode method_2_code 22 = .ok (.ifnull 5, 3) := by decide +kernel
theorem d_method_2_27 : decode method_2_code 27 = .ok (.aload_n 0, 1) := by decide +kernel
theorem d_method_2_28 : decode method_2_code 28 = .ok (.getfield 22, 3) := by decide +kernel
theorem d_method_2_31 : decode method_2_code 31 = .ok (.ifnull 22, 3) := by decide +kernel
theorem d_method_2_34 : decode method_2_code 34 = .ok (.aload_n 0, 1) := by decide +kernel
theorem d_method_2_35 : decode method_2_code 35 = .ok (.getfield 22, 3) := by decide +kernel
theorem d_method_2_38 : decode method_2_code 38 = .ok (.arraylength, 1) := by decide +kernel
theorem d_method_2_39 : decode method_2_code 39 = .ok (.iconst 1, 1) := by decide +kernel
theorem d_method_2_40 : decode method_2_code 40 = .ok (.if_icmp .ne 13, 3) := by decide +kernel
theorem d_method_2_43 : decode method_2_code 43 = .ok (.aload_n 0, 1) := by decide +kernel
theorem d_method_2_44 : decode method_2_code 44 = .ok (.getfield 22, 3) := by decide +kernel
theorem d_method_2_47 : decode method_2_code 47 = .ok (.iconst 0, 1) := by decide +kernel
theorem d_method_2_48 : decode method_2_code 48 = .ok (.iaload, 1) := by decide +kernel
theorem d_method_2_49 : decode method_2_code 49 = .ok (.iload_n 3, 1) := by decide +kernel
theorem d_method_2_50 : decode method_2_code 50 = .ok (.if_icmp .eq 5, 3) := by decide +kernel
theorem d_method_2_55 : decode method_2_code 55 = .ok (.aload_n 0, 1) := by decide +kernel
theorem d_method_2_56 : decode method_2_code 56 = .ok (.getfield 26, 3) := by decide +kernel
theorem d_method_2_59 : decode method_2_code 59 = .ok (.iload_n 1, 1) := by decide +kernel
theorem d_method_2_60 : decode method_2_code 60 = .ok (.if_icmp .ne 11, 3) := by decide +kernel
theorem d_method_2_63 : decode method_2_code 63 = .ok (.aload_n 0, 1) := by decide +kernel
theorem d_method_2_64 : decode method_2_code 64 = .ok (.getfield 30, 3) := by decide +kernel
theorem d_method_2_67 : decode method_2_code 67 = .ok (.iload_n 2, 1) := by decide +kernel
theorem d_method_2_68 : decode method_2_code 68 = .ok (.if_icmp .eq 5, 3) := by decide +kernel
theorem d_method_2_73 : decode method_2_code 73 = .ok (.aload_n 0, 1) := by decide +kernel
theorem d_method_2_74 : decode method_2_code 74 = .ok (.getfield 33, 3) := by decide +kernel
theorem d_method_2_77 : decode method_2_code 77 = .ok (.ifnull 26, 3) := by decide +kernel
theorem d_method_2_80 : decode method_2_code 80 = .ok (.aload_n 0, 1) := by decide +kernel
theorem d_method_2_81 : decode method_2_code 81 = .ok (.getfield 36, 3) := by decide +kernel
theorem d_method_2_84 : decode method_2_code 84 = .ok (.ifnull 19, 3) := by decide +kernel
theorem d_method_2_87 : decode method_2_code 87 = .ok (.aload_n 0, 1) := by decide +kernel
theorem d_method_2_88 : decode method_2_code 88 = .ok (.getfield 33, 3) := by decide +kernel
theorem d_method_2_91 : decode method_2_code 91 = .ok (.arraylength, 1) := by decide +kernel
theorem d_method_2_92 : decode method_2_code 92 = .ok (.ifCond .ne 11, 3) := by decide +kernel
theorem d_method_2_95 : decode method_2_code 95 = .ok (.aload_n 0, 1) := by decide +kernel
theorem d_method_2_96 : decode method_2_code 96 = .ok (.getfield 36, 3) := by decide +kernel
theorem d_method_2_99 : decode method_2_code 99 = .ok (.arraylength, 1) := by decide +kernel
theorem d_method_2_100 : decode method_2_code 100 = .ok (.ifCond .eq 5, 3) := by decide +kernel
theorem d_method_2_105 : decode method_2_code 105 = .ok (.aload_n 0, 1) := by decide +kernel
theorem d_method_2_106 : decode method_2_code 106 = .ok (.getfield 39, 3) := by decide +kernel
theorem d_method_2_109 : decode method_2_code 109 = .ok (.ifCond .ne 7, 3) := by decide +kernel
theorem d_method_2_112 : decode method_2_code 112 = .ok (.iconst 1, 1) := by decide +kernel
theorem d_method_2_113 : decode method_2_code 113 = .ok (.goto 4, 3) := by decide +kernel
theorem d_method_2_117 : decode method_2_code 117 = .ok (.ireturn, 1) := by decide +kernel
theorem ef_3 (m : MethodId) (a : Addr) (mi : Int32) (ma : Int32) (it : Int32) : entryFrame m #[(.ref a), (.int mi), (.int ma), (.int it)] 4 = mkF m 0 #[.val (.ref a), .val (.int mi), .val (.int ma), .val (.int it)] [] := by first | (simp [entryFrame, mkF, argsToLocals, Value.category]; done) | rfl
def Q3 (Z : State) (a : Addr) (mi : Int32) (ma : Int32) (it : Int32) (kd : Addr) (no : Addr) (ch : Addr) (kc : ClassId) (kn : ClassId) (h0 : Heap) (n0 : Nat) (vV : Option Value) (hH : Heap) (LL : List Loc) : Prop := vV = some (.int (1 : Int32)) ∧ Fr n0 LL ∧ hH = h0
def R3 (Z : State) (a : Addr) (mi : Int32) (ma : Int32) (it : Int32) (kd : Addr) (no : Addr) (ch : Addr) (kc : ClassId) (kn : ClassId) (h0 : Heap) (n0 : Nat) (U : State) (o : Outcome) (U' : State) : Prop := ∃ vV LL, o = .returned vV ∧ Q3 Z a mi ma it kd no ch kc kn h0 n0 vV U'.heap LL ∧ FrameEnd U o U' LL ({ frames := 0, cells := 0, slots := 0, locals := 0 } : Room).cells ({ frames := 0, cells := 0, slots := 0, locals := 0 } : Room).slots
set_option maxRecDepth 65536 in
set_option maxHeartbeats 40000000 in
theorem rm3 (l : Launch) (Z : State) (a0 : Array Value) (hw : ∀ d ∈ tables_1, d.before a0 Z = true) (ws : List Jvm.Cond) (a : Addr) (mi : Int32) (ma : Int32) (it : Int32) (kd : Addr) (no : Addr) (ch : Addr) (kc : ClassId) (kn : ClassId) (h0 : Heap) (n0 : Nat) (Z0 : n0 ≤ h0.size) (hp0 : Sta Z h0 "com/example/identifier_grammars/identifiergrammars/Node$Kind" "REPEAT" "Lcom/example/identifier_grammars/identifiergrammars/Node$Kind;" (.ref kd)) (hp1 : Fld Z h0 a "com/example/identifier_grammars/identifiergrammars/Node" "kind" "Lcom/example/identifier_grammars/identifiergrammars/Node$Kind;" (.ref kd)) (hp2 : Fld Z h0 a "com/example/identifier_grammars/identifiergrammars/Node" "name" "Ljava/lang/String;" .null) (hp3 : Fld Z h0 a "com/example/identifier_grammars/identifiergrammars/Node" "children" "[I" (.ref ch)) (hp4 : Fld Z h0 a "com/example/identifier_grammars/identifiergrammars/Node" "min" "I" (.int mi)) (hp5 : Fld Z h0 a "com/example/identifier_grammars/identifiergrammars/Node" "max" "I" (.int ma)) (hp6 : Fld Z h0 a "com/example/identifier_grammars/identifiergrammars/Node" "low" "[I" (.ref no)) (hp7 : Fld Z h0 a "com/example/identifier_grammars/identifiergrammars/Node" "high" "[I" (.ref no)) (hp8 : Fld Z h0 a "com/example/identifier_grammars/identifiergrammars/Node" "ignoreCase" "Z" (.int (0 : Int32))) (hp9 : Arv Z h0 ch kc .int (1 : Int32) [(.int it)] (.int (0 : Int32))) (hp10 : Arv Z h0 no kn .int (0 : Int32) [] (.int (0 : Int32))) :
    MetFree l (⟨"com/example/identifier_grammars/identifiergrammars/NodeRepeatPinLaw", "isRepeatOf", "(Lcom/example/identifier_grammars/identifiergrammars/Node;III)Z"⟩ : MethodName) (head1 (Jvm.Cond.code (⟨"com/example/identifier_grammars/identifiergrammars/NodeRepeatPinLaw", "isRepeatOf", "(Lcom/example/identifier_grammars/identifiergrammars/Node;III)Z"⟩ : MethodName) method_2_code 4 (some .boolean) :: ws) ({ frames := 0, cells := 0, slots := 0, locals := 0 } : Room)) (fun aA U => aA = #[(.ref a), (.int mi), (.int ma), (.int it)] ∧ Z.Warmed39 U.vm ∧ U.heap = h0) (fun _ _ _ _ _ => True) (fun _ U o U' => ∃ vV LL, o = .returned vV ∧ Q3 Z a mi ma it kd no ch kc kn h0 n0 vV U'.heap LL ∧ FrameEnd U o U' LL ({ frames := 0, cells := 0, slots := 0, locals := 0 } : Room).cells ({ frames := 0, cells := 0, slots := 0, locals := 0 } : Room).slots) := by
  refine MetFree.of_bodySF (plainFor_of_name pn_46) hisR ?_
  intro p e s m args below meth cC s₁ Bd hml0 hP hK
  obtain ⟨rfl, hZ, hh⟩ := hP
  have hx := Bd.exec
  have hby := Bd.bytes
  have hml : cC.maxLocals = 4 := hml0
  have hown : s.vm.findClass "com/example/identifier_grammars/identifiergrammars/NodeRepeatPinLaw" = some m.cls := findClass_of_methodNamed Bd.named
  have hnm := (name_of_methodNamed Bd.named Bd.method).1
  have X0 : Stand p l e ({ frames := 0, cells := 0, slots := 0, locals := 0 } : Room) s m #[(.ref a), (.int mi), (.int ma), (.int it)] below meth cC s₁ [] 0 0 := Stand.of_body Bd
  have e0 : s₁.heap = h0 := by rw [← hh, Bd.state]; rfl
  have N0 := Fr.nil n0
  show OwnFin p e below (R3 Z a mi ma it kd no ch kc kn h0 n0 s) (s₁.setTop (entryFrame m #[(.ref a), (.int mi), (.int ma), (.int it)] 4))
  rw [ef_3 m a mi ma it]
  refine OwnFin.step (fun tT kK => XS.aloadN X0.here hx rfl (hb hby d_method_2_0) rfl rfl kK) ?_
  show OwnFin p e below _ (s₁.setTop (mkF m 1 #[.val (.ref a), .val (.int mi), .val (.int ma), .val (.int it)] [(.ref a)]))
  refine OwnFin.step (fun tT kK => XS.ifnonnullYes X0.here hx rfl (pc0 := 1) (pc' := 6) rfl (hb hby d_method_2_1) rfl (by decide) (by decide) kK) ?_
  show OwnFin p e below _ (s₁.setTop (mkF m 6 #[.val (.ref a), .val (.int mi), .val (.int ma), .val (.int it)] []))
  refine OwnFin.step (fun tT kK => XS.aloadN X0.here hx rfl (hb hby d_method_2_6) rfl rfl kK) ?_
  show OwnFin p e below _ (s₁.setTop (mkF m 7 #[.val (.ref a), .val (.int mi), .val (.int ma), .val (.int it)] [(.ref a)]))
  obtain ⟨T1, X1, e1, st1⟩ := getF X0 hx hZ hown (host := "") (Or.inl (hw _ (List.mem_of_getElem? (i := 38) rfl))) Via.refl e0 hp1 (g := (mkF m 7 #[.val (.ref a), .val (.int mi), .val (.int ma), .val (.int it)] [(.ref a)])) rfl rfl (hb hby d_method_2_7)
  refine OwnFin.step st1 ?_
  show OwnFin p e below _ (T1.setTop (mkF m 10 #[.val (.ref a), .val (.int mi), .val (.int ma), .val (.int it)] [(.ref kd)]))
  obtain ⟨T2, X2, e2, st2⟩ := getS2 X1 hx hZ hown (host := "") (Or.inl (hw _ (List.mem_of_getElem? (i := 39) rfl))) Via.refl e1 hp0 (g := (mkF m 10 #[.val (.ref a), .val (.int mi), .val (.int ma), .val (.int it)] [(.ref kd)])) rfl (hb hby d_method_2_10)
  refine OwnFin.step st2 ?_
  show OwnFin p e below _ (T2.setTop (mkF m 13 #[.val (.ref a), .val (.int mi), .val (.int ma), .val (.int it)] [(.ref kd), (.ref kd)]))
  refine OwnFin.step (fun tT kK => Jvm.RoadKit.acmp (g := (mkF m 13 #[.val (.ref a), .val (.int mi), .val (.int ma), .val (.int it)] [(.ref kd), (.ref kd)])) X2 hx rfl rfl rfl (pc0 := 13) (pc' := 18) (same := true) rfl (hb hby d_method_2_13) rfl (decide_eq_true rfl) (by decide) (by decide) kK) ?_
  show OwnFin p e below _ (T2.setTop (mkF m 18 #[.val (.ref a), .val (.int mi), .val (.int ma), .val (.int it)] []))
  refine OwnFin.step (fun tT kK => XS.aloadN X2.here hx rfl (hb hby d_method_2_18) rfl rfl kK) ?_
  show OwnFin p e below _ (T2.setTop (mkF m 19 #[.val (.ref a), .val (.int mi), .val (.int ma), .val (.int it)] [(.ref a)]))
  obtain ⟨T3, X3, e3, st3⟩ := getF X2 hx hZ hown (host := "") (Or.inl (hw _ (List.mem_of_getElem? (i := 40) rfl))) Via.refl e2 hp2 (g := (mkF m 19 #[.val (.ref a), .val (.int mi), .val (.int ma), .val (.int it)] [(.ref a)])) rfl rfl (hb hby d_method_2_19)
  refine OwnFin.step st3 ?_
  show OwnFin p e below _ (T3.setTop (mkF m 22 #[.val (.ref a), .val (.int mi), .val (.int ma), .val (.int it)] [.null]))
  refine OwnFin.step (fun tT kK => XS.ifnullYes X3.here hx rfl (pc0 := 22) (pc' := 27) rfl (hb hby d_method_2_22) rfl (by decide) (by decide) kK) ?_
  show OwnFin p e below _ (T3.setTop (mkF m 27 #[.val (.ref a), .val (.int mi), .val (.int ma), .val (.int it)] []))
  refine OwnFin.step (fun tT kK => XS.aloadN X3.here hx rfl (hb hby d_method_2_27) rfl rfl kK) ?_
  show OwnFin p e below _ (T3.setTop (mkF m 28 #[.val (.ref a), .val (.int mi), .val (.int ma), .val (.int it)] [(.ref a)]))
  obtain ⟨T4, X4, e4, st4⟩ := getF X3 hx hZ hown (host := "") (Or.inl (hw _ (List.mem_of_getElem? (i := 41) rfl))) Via.refl e3 hp3 (g := (mkF m 28 #[.val (.ref a), .val (.int mi), .val (.int ma), .val (.int it)] [(.ref a)])) rfl rfl (hb hby d_method_2_28)
  refine OwnFin.step st4 ?_
  show OwnFin p e below _ (T4.setTop (mkF m 31 #[.val (.ref a), .val (.int mi), .val (.int ma), .val (.int it)] [(.ref ch)]))
  refine OwnFin.step (fun tT kK => XS.ifnullNo X4.here hx rfl (hb hby d_method_2_31) rfl kK) ?_
  show OwnFin p e below _ (T4.setTop (mkF m 34 #[.val (.ref a), .val (.int mi), .val (.int ma), .val (.int it)] []))
  refine OwnFin.step (fun tT kK => XS.aloadN X4.here hx rfl (hb hby d_method_2_34) rfl rfl kK) ?_
  show OwnFin p e below _ (T4.setTop (mkF m 35 #[.val (.ref a), .val (.int mi), .val (.int ma), .val (.int it)] [(.ref a)]))
  obtain ⟨T5, X5, e5, st5⟩ := getF X4 hx hZ hown (host := "") (Or.inl (hw _ (List.mem_of_getElem? (i := 41) rfl))) Via.refl e4 hp3 (g := (mkF m 35 #[.val (.ref a), .val (.int mi), .val (.int ma), .val (.int it)] [(.ref a)])) rfl rfl (hb hby d_method_2_35)
  refine OwnFin.step st5 ?_
  show OwnFin p e below _ (T5.setTop (mkF m 38 #[.val (.ref a), .val (.int mi), .val (.int ma), .val (.int it)] [(.ref ch)]))
  obtain ⟨cl6, Ar6, -, Sz6, Ng6, -, -⟩ := id hp9
  refine OwnFin.step (fun tT kK => own_len X5 hx hZ e5 Ar6 Sz6 Ng6 (g := (mkF m 38 #[.val (.ref a), .val (.int mi), .val (.int ma), .val (.int it)] [(.ref ch)])) rfl rfl (hb hby d_method_2_38) kK) ?_
  show OwnFin p e below _ (T5.setTop (mkF m 39 #[.val (.ref a), .val (.int mi), .val (.int ma), .val (.int it)] [(.int (1 : Int32))]))
  refine OwnFin.step (fun tT kK => XS.iconst X5.here hx rfl (hb hby d_method_2_39) kK) ?_
  show OwnFin p e below _ (T5.setTop (mkF m 40 #[.val (.ref a), .val (.int mi), .val (.int ma), .val (.int it)] [(.int (1 : Int32)), (.int (1 : Int32))]))
  refine OwnFin.step (fun tT kK => XS.icmpNo X5.here hx rfl (hb hby d_method_2_40) rfl (teq (rfl : (1 : Int32) = (1 : Int32))).2 kK) ?_
  show OwnFin p e below _ (T5.setTop (mkF m 43 #[.val (.ref a), .val (.int mi), .val (.int ma), .val (.int it)] []))
  refine OwnFin.step (fun tT kK => XS.aloadN X5.here hx rfl (hb hby d_method_2_43) rfl rfl kK) ?_
  show OwnFin p e below _ (T5.setTop (mkF m 44 #[.val (.ref a), .val (.int mi), .val (.int ma), .val (.int it)] [(.ref a)]))
  obtain ⟨T7, X7, e7, st7⟩ := getF X5 hx hZ hown (host := "") (Or.inl (hw _ (List.mem_of_getElem? (i := 41) rfl))) Via.refl e5 hp3 (g := (mkF m 44 #[.val (.ref a), .val (.int mi), .val (.int ma), .val (.int it)] [(.ref a)])) rfl rfl (hb hby d_method_2_44)
  refine OwnFin.step st7 ?_
  show OwnFin p e below _ (T7.setTop (mkF m 47 #[.val (.ref a), .val (.int mi), .val (.int ma), .val (.int it)] [(.ref ch)]))
  refine OwnFin.step (fun tT kK => XS.iconst X7.here hx rfl (hb hby d_method_2_47) kK) ?_
  show OwnFin p e below _ (T7.setTop (mkF m 48 #[.val (.ref a), .val (.int mi), .val (.int ma), .val (.int it)] [(.int (0 : Int32)), (.ref ch)]))
  obtain ⟨cl8, Ar8, q8, Sz8, Ng8, H8, G8⟩ := id hp9
  have hin8 : ¬ ((0 : Int32) < 0 ∨ cl8.slots.size ≤ ((0 : Int32)).toNatClampNeg) := inb_of Sz8 ⟨by decide, by decide⟩
  refine OwnFin.step (fun tT kK => X7.iaload hx (j := (0 : Int32)) (v := (.int it)) (by rw [e7]; exact Ar8.1) (State.isArrayOf_alike hZ.alike Ar8.2.1) Ar8.2.2 hin8 (H8.at hin8 rfl) (g := (mkF m 48 #[.val (.ref a), .val (.int mi), .val (.int ma), .val (.int it)] [(.int (0 : Int32)), (.ref ch)])) rfl rfl (hb hby d_method_2_48) _ kK) ?_
  show OwnFin p e below _ (T7.setTop (mkF m 49 #[.val (.ref a), .val (.int mi), .val (.int ma), .val (.int it)] [(.int it)]))
  refine OwnFin.step (fun tT kK => XS.iloadN X7.here hx rfl (hb hby d_method_2_49) rfl kK) ?_
  show OwnFin p e below _ (T7.setTop (mkF m 50 #[.val (.ref a), .val (.int mi), .val (.int ma), .val (.int it)] [(.int it), (.int it)]))
  refine OwnFin.step (fun tT kK => XS.icmpYes X7.here hx rfl (pc0 := 50) (pc' := 55) rfl (hb hby d_method_2_50) rfl (teq (rfl : it = it)).1 (by decide) (by decide) kK) ?_
  show OwnFin p e below _ (T7.setTop (mkF m 55 #[.val (.ref a), .val (.int mi), .val (.int ma), .val (.int it)] []))
  refine OwnFin.step (fun tT kK => XS.aloadN X7.here hx rfl (hb hby d_method_2_55) rfl rfl kK) ?_
  show OwnFin p e below _ (T7.setTop (mkF m 56 #[.val (.ref a), .val (.int mi), .val (.int ma), .val (.int it)] [(.ref a)]))
  obtain ⟨T9, X9, e9, st9⟩ := getF X7 hx hZ hown (host := "") (Or.inl (hw _ (List.mem_of_getElem? (i := 42) rfl))) Via.refl e7 hp4 (g := (mkF m 56 #[.val (.ref a), .val (.int mi), .val (.int ma), .val (.int it)] [(.ref a)])) rfl rfl (hb hby d_method_2_56)
  refine OwnFin.step st9 ?_
  show OwnFin p e below _ (T9.setTop (mkF m 59 #[.val (.ref a), .val (.int mi), .val (.int ma), .val (.int it)] [(.int mi)]))
  refine OwnFin.step (fun tT kK => XS.iloadN X9.here hx rfl (hb hby d_method_2_59) rfl kK) ?_
  show OwnFin p e below _ (T9.setTop (mkF m 60 #[.val (.ref a), .val (.int mi), .val (.int ma), .val (.int it)] [(.int mi), (.int mi)]))
  refine OwnFin.step (fun tT kK => XS.icmpNo X9.here hx rfl (hb hby d_method_2_60) rfl (teq (rfl : mi = mi)).2 kK) ?_
  show OwnFin p e below _ (T9.setTop (mkF m 63 #[.val (.ref a), .val (.int mi), .val (.int ma), .val (.int it)] []))
  refine OwnFin.step (fun tT kK => XS.aloadN X9.here hx rfl (hb hby d_method_2_63) rfl rfl kK) ?_
  show OwnFin p e below _ (T9.setTop (mkF m 64 #[.val (.ref a), .val (.int mi), .val (.int ma), .val (.int it)] [(.ref a)]))
  obtain ⟨T10, X10, e10, st10⟩ := getF X9 hx hZ hown (host := "") (Or.inl (hw _ (List.mem_of_getElem? (i := 43) rfl))) Via.refl e9 hp5 (g := (mkF m 64 #[.val (.ref a), .val (.int mi), .val (.int ma), .val (.int it)] [(.ref a)])) rfl rfl (hb hby d_method_2_64)
  refine OwnFin.step st10 ?_
  show OwnFin p e below _ (T10.setTop (mkF m 67 #[.val (.ref a), .val (.int mi), .val (.int ma), .val (.int it)] [(.int ma)]))
  refine OwnFin.step (fun tT kK => XS.iloadN X10.here hx rfl (hb hby d_method_2_67) rfl kK) ?_
  show OwnFin p e below _ (T10.setTop (mkF m 68 #[.val (.ref a), .val (.int mi), .val (.int ma), .val (.int it)] [(.int ma), (.int ma)]))
  refine OwnFin.step (fun tT kK => XS.icmpYes X10.here hx rfl (pc0 := 68) (pc' := 73) rfl (hb hby d_method_2_68) rfl (teq (rfl : ma = ma)).1 (by decide) (by decide) kK) ?_
  show OwnFin p e below _ (T10.setTop (mkF m 73 #[.val (.ref a), .val (.int mi), .val (.int ma), .val (.int it)] []))
  refine OwnFin.step (fun tT kK => XS.aloadN X10.here hx rfl (hb hby d_method_2_73) rfl rfl kK) ?_
  show OwnFin p e below _ (T10.setTop (mkF m 74 #[.val (.ref a), .val (.int mi), .val (.int ma), .val (.int it)] [(.ref a)]))
  obtain ⟨T11, X11, e11, st11⟩ := getF X10 hx hZ hown (host := "") (Or.inl (hw _ (List.mem_of_getElem? (i := 44) rfl))) Via.refl e10 hp6 (g := (mkF m 74 #[.val (.ref a), .val (.int mi), .val (.int ma), .val (.int it)] [(.ref a)])) rfl rfl (hb hby d_method_2_74)
  refine OwnFin.step st11 ?_
  show OwnFin p e below _ (T11.setTop (mkF m 77 #[.val (.ref a), .val (.int mi), .val (.int ma), .val (.int it)] [(.ref no)]))
  refine OwnFin.step (fun tT kK => XS.ifnullNo X11.here hx rfl (hb hby d_method_2_77) rfl kK) ?_
  show OwnFin p e below _ (T11.setTop (mkF m 80 #[.val (.ref a), .val (.int mi), .val (.int ma), .val (.int it)] []))
  refine OwnFin.step (fun tT kK => XS.aloadN X11.here hx rfl (hb hby d_method_2_80) rfl rfl kK) ?_
  show OwnFin p e below _ (T11.setTop (mkF m 81 #[.val (.ref a), .val (.int mi), .val (.int ma), .val (.int it)] [(.ref a)]))
  obtain ⟨T12, X12, e12, st12⟩ := getF X11 hx hZ hown (host := "") (Or.inl (hw _ (List.mem_of_getElem? (i := 45) rfl))) Via.refl e11 hp7 (g := (mkF m 81 #[.val (.ref a), .val (.int mi), .val (.int ma), .val (.int it)] [(.ref a)])) rfl rfl (hb hby d_method_2_81)
  refine OwnFin.step st12 ?_
  show OwnFin p e below _ (T12.setTop (mkF m 84 #[.val (.ref a), .val (.int mi), .val (.int ma), .val (.int it)] [(.ref no)]))
  refine OwnFin.step (fun tT kK => XS.ifnullNo X12.here hx rfl (hb hby d_method_2_84) rfl kK) ?_
  show OwnFin p e below _ (T12.setTop (mkF m 87 #[.val (.ref a), .val (.int mi), .val (.int ma), .val (.int it)] []))
  refine OwnFin.step (fun tT kK => XS.aloadN X12.here hx rfl (hb hby d_method_2_87) rfl rfl kK) ?_
  show OwnFin p e below _ (T12.setTop (mkF m 88 #[.val (.ref a), .val (.int mi), .val (.int ma), .val (.int it)] [(.ref a)]))
  obtain ⟨T13, X13, e13, st13⟩ := getF X12 hx hZ hown (host := "") (Or.inl (hw _ (List.mem_of_getElem? (i := 44) rfl))) Via.refl e12 hp6 (g := (mkF m 88 #[.val (.ref a), .val (.int mi), .val (.int ma), .val (.int it)] [(.ref a)])) rfl rfl (hb hby d_method_2_88)
  refine OwnFin.step st13 ?_
  show OwnFin p e below _ (T13.setTop (mkF m 91 #[.val (.ref a), .val (.int mi), .val (.int ma), .val (.int it)] [(.ref no)]))
  obtain ⟨cl14, Ar14, -, Sz14, Ng14, -, -⟩ := id hp10
  refine OwnFin.step (fun tT kK => own_len X13 hx hZ e13 Ar14 Sz14 Ng14 (g := (mkF m 91 #[.val (.ref a), .val (.int mi), .val (.int ma), .val (.int it)] [(.ref no)])) rfl rfl (hb hby d_method_2_91) kK) ?_
  show OwnFin p e below _ (T13.setTop (mkF m 92 #[.val (.ref a), .val (.int mi), .val (.int ma), .val (.int it)] [(.int (0 : Int32))]))
  refine OwnFin.step (fun tT kK => XS.ifNo X13.here hx rfl (hb hby d_method_2_92) rfl ((if0 _ _).trans (teq (rfl : (0 : Int32) = (0 : Int32))).2) kK) ?_
  show OwnFin p e below _ (T13.setTop (mkF m 95 #[.val (.ref a), .val (.int mi), .val (.int ma), .val (.int it)] []))
  refine OwnFin.step (fun tT kK => XS.aloadN X13.here hx rfl (hb hby d_method_2_95) rfl rfl kK) ?_
  show OwnFin p e below _ (T13.setTop (mkF m 96 #[.val (.ref a), .val (.int mi), .val (.int ma), .val (.int it)] [(.ref a)]))
  obtain ⟨T15, X15, e15, st15⟩ := getF X13 hx hZ hown (host := "") (Or.inl (hw _ (List.mem_of_getElem? (i := 45) rfl))) Via.refl e13 hp7 (g := (mkF m 96 #[.val (.ref a), .val (.int mi), .val (.int ma), .val (.int it)] [(.ref a)])) rfl rfl (hb hby d_method_2_96)
  refine OwnFin.step st15 ?_
  show OwnFin p e below _ (T15.setTop (mkF m 99 #[.val (.ref a), .val (.int mi), .val (.int ma), .val (.int it)] [(.ref no)]))
  obtain ⟨cl16, Ar16, -, Sz16, Ng16, -, -⟩ := id hp10
  refine OwnFin.step (fun tT kK => own_len X15 hx hZ e15 Ar16 Sz16 Ng16 (g := (mkF m 99 #[.val (.ref a), .val (.int mi), .val (.int ma), .val (.int it)] [(.ref no)])) rfl rfl (hb hby d_method_2_99) kK) ?_
  show OwnFin p e below _ (T15.setTop (mkF m 100 #[.val (.ref a), .val (.int mi), .val (.int ma), .val (.int it)] [(.int (0 : Int32))]))
  refine OwnFin.step (fun tT kK => XS.ifYes X15.here hx rfl (pc0 := 100) (pc' := 105) rfl (hb hby d_method_2_100) rfl ((if0 _ _).trans (teq (rfl : (0 : Int32) = (0 : Int32))).1) (by decide) (by decide) kK) ?_
  show OwnFin p e below _ (T15.setTop (mkF m 105 #[.val (.ref a), .val (.int mi), .val (.int ma), .val (.int it)] []))
  refine OwnFin.step (fun tT kK => XS.aloadN X15.here hx rfl (hb hby d_method_2_105) rfl rfl kK) ?_
  show OwnFin p e below _ (T15.setTop (mkF m 106 #[.val (.ref a), .val (.int mi), .val (.int ma), .val (.int it)] [(.ref a)]))
  obtain ⟨T17, X17, e17, st17⟩ := getF X15 hx hZ hown (host := "") (Or.inl (hw _ (List.mem_of_getElem? (i := 46) rfl))) Via.refl e15 hp8 (g := (mkF m 106 #[.val (.ref a), .val (.int mi), .val (.int ma), .val (.int it)] [(.ref a)])) rfl rfl (hb hby d_method_2_106)
  refine OwnFin.step st17 ?_
  show OwnFin p e below _ (T17.setTop (mkF m 109 #[.val (.ref a), .val (.int mi), .val (.int ma), .val (.int it)] [(.int (0 : Int32))]))
  refine OwnFin.step (fun tT kK => XS.ifNo X17.here hx rfl (hb hby d_method_2_109) rfl ((if0 _ _).trans (teq (rfl : (0 : Int32) = (0 : Int32))).2) kK) ?_
  show OwnFin p e below _ (T17.setTop (mkF m 112 #[.val (.ref a), .val (.int mi), .val (.int ma), .val (.int it)] []))
  refine OwnFin.step (fun tT kK => XS.iconst X17.here hx rfl (hb hby d_method_2_112) kK) ?_
  show OwnFin p e below _ (T17.setTop (mkF m 113 #[.val (.ref a), .val (.int mi), .val (.int ma), .val (.int it)] [(.int (1 : Int32))]))
  refine OwnFin.step (fun tT kK => XS.goto X17.here hx rfl (pc0 := 113) (pc' := 117) rfl (hb hby d_method_2_113) (by decide) (by decide) kK) ?_
  show OwnFin p e below _ (T17.setTop (mkF m 117 #[.val (.ref a), .val (.int mi), .val (.int ma), .val (.int it)] [(.int (1 : Int32))]))
  obtain ⟨fs18, hr18, hrun18, hended18, hW18, hsame18⟩ := X17.leave (v := (some (.int (1 : Int32)))) (fun h => by rw [Bd.returns] at h; cases h)
  refine ⟨_, _, retN X17 hx (t := .boolean) Bd.returns (by simp) (hb hby d_method_2_117) hr18, hrun18, hended18, _, _, rfl, ?_, ⟨_, rfl⟩, hW18, hsame18.mono (by decide) (by decide)⟩
  show Q3 Z a mi ma it kd no ch kc kn h0 n0 _ T17.heap _
  rw [e17]
  exact ⟨rfl, N0, rfl⟩
theorem pd_98 : parseMethodDescriptor "(III)Lcom/example/identifier_grammars/identifiergrammars/Node;" = some ⟨[.int, .int, .int], some (.object "com/example/identifier_grammars/identifiergrammars/Node")⟩ := by decide +kernel
theorem pd_99 : parseMethodDescriptor "(Lcom/example/identifier_grammars/identifiergrammars/Node;III)Z" = some ⟨[(.object "com/example/identifier_grammars/identifiergrammars/Node"), .int, .int, .int], some .boolean⟩ := by decide +kernel
theorem ef_0 (m : MethodId) (mi : Int32) (ma : Int32) (it : Int32) (ot : Int32) : entryFrame m #[(.int mi), (.int ma), (.int it), (.int ot)] maxLocals = mkF m 0 #[.val (.int mi), .val (.int ma), .val (.int it), .val (.int ot), .unset, .unset, .unset, .unset, .unset] [] := by first | (simp [entryFrame, mkF, argsToLocals, Value.category, maxLocals]; done) | rfl
def Q0 (Z : State) (mi : Int32) (ma : Int32) (it : Int32) (ot : Int32) (kd : Addr) (no : Addr) (kn : ClassId) (h0 : Heap) (n0 : Nat) (vV : Option Value) (hH : Heap) (LL : List Loc) : Prop := vV = some (.int (1 : Int32)) ∧ Fr n0 LL ∧ Keep h0 hH []
def R0 (Z : State) (mi : Int32) (ma : Int32) (it : Int32) (ot : Int32) (kd : Addr) (no : Addr) (kn : ClassId) (h0 : Heap) (n0 : Nat) (U : State) (o : Outcome) (U' : State) : Prop := ∃ vV LL, o = .returned vV ∧ Q0 Z mi ma it ot kd no kn h0 n0 vV U'.heap LL ∧ FrameEnd U o U' LL room_1.cells room_1.slots
set_option maxRecDepth 65536 in
set_option maxHeartbeats 40000000 in
theorem rm0 (l : Launch) (Z : State) (a0 : Array Value) (hw : ∀ d ∈ tables_1, d.before a0 Z = true) (ws : List Jvm.Cond) (mi : Int32) (ma : Int32) (it : Int32) (ot : Int32) (kd : Addr) (no : Addr) (kn : ClassId) (h0 : Heap) (n0 : Nat) (Z0 : n0 ≤ h0.size) (hp0 : Sta Z h0 "com/example/identifier_grammars/identifiergrammars/Node$Kind" "REPEAT" "Lcom/example/identifier_grammars/identifiergrammars/Node$Kind;" (.ref kd)) (hp1 : Sta Z h0 "com/example/identifier_grammars/identifiergrammars/Node" "NONE" "[I" (.ref no)) (hp2 : Arv Z h0 no kn .int (0 : Int32) [] (.int (0 : Int32))) :
    MetFree l x (head1 (Jvm.Cond.code x code maxLocals ret :: ws) room_1) (fun aA U => aA = #[(.int mi), (.int ma), (.int it), (.int ot)] ∧ Z.Warmed39 U.vm ∧ U.heap = h0) (fun _ _ _ _ _ => True) (fun _ U o U' => ∃ vV LL, o = .returned vV ∧ Q0 Z mi ma it ot kd no kn h0 n0 vV U'.heap LL ∧ FrameEnd U o U' LL room_1.cells room_1.slots) := by
  refine MetFree.of_bodySF (plainFor_of_name pn_46) hisR ?_
  intro p e s m args below meth cC s₁ Bd hml0 hP hK
  obtain ⟨rfl, hZ, hh⟩ := hP
  have hx := Bd.exec
  have hby := Bd.bytes
  have hml : cC.maxLocals = 9 := hml0
  have hown : s.vm.findClass "com/example/identifier_grammars/identifiergrammars/NodeRepeatPinLaw" = some m.cls := findClass_of_methodNamed Bd.named
  have hnm := (name_of_methodNamed Bd.named Bd.method).1
  have X0 : Stand p l e room_1 s m #[(.int mi), (.int ma), (.int it), (.int ot)] below meth cC s₁ [] 0 0 := Stand.of_body Bd
  have e0 : s₁.heap = h0 := by rw [← hh, Bd.state]; rfl
  have N0 := Fr.nil n0
  show OwnFin p e below (R0 Z mi ma it ot kd no kn h0 n0 s) (s₁.setTop (entryFrame m #[(.int mi), (.int ma), (.int it), (.int ot)] maxLocals))
  rw [ef_0 m mi ma it ot]
  refine OwnFin.step (fun tT kK => XS.iloadN X0.here hx rfl (hb hby at_0) rfl kK) ?_
  show OwnFin p e below _ (s₁.setTop (mkF m 1 #[.val (.int mi), .val (.int ma), .val (.int it), .val (.int ot), .unset, .unset, .unset, .unset, .unset] [(.int mi)]))
  refine OwnFin.step (fun tT kK => XS.iloadN X0.here hx rfl (hb hby at_1) rfl kK) ?_
  show OwnFin p e below _ (s₁.setTop (mkF m 2 #[.val (.int mi), .val (.int ma), .val (.int it), .val (.int ot), .unset, .unset, .unset, .unset, .unset] [(.int ma), (.int mi)]))
  refine OwnFin.step (fun tT kK => XS.iloadN X0.here hx rfl (hb hby at_2) rfl kK) ?_
  show OwnFin p e below _ (s₁.setTop (mkF m 3 #[.val (.int mi), .val (.int ma), .val (.int it), .val (.int ot), .unset, .unset, .unset, .unset, .unset] [(.int it), (.int ma), (.int mi)]))
  obtain ⟨_, _, ⟨T1, L1, k1, n1⟩, -, X1, ⟨Lc1, hQ1, l1, y1, z1⟩, st1⟩ := Jvm.LawKit.callS X0 hx (y := (⟨"com/example/identifier_grammars/identifiergrammars/Node", "repeat", "(III)Lcom/example/identifier_grammars/identifiergrammars/Node;"⟩ : MethodName)) hown (mvT hZ (hw _ (List.mem_of_getElem? (i := 0) rfl))) (mvT hZ (hw _ (List.mem_of_getElem? (i := 1) rfl))) (mvT hZ (hw _ (List.mem_of_getElem? (i := 2) rfl))) (mvT hZ (hw _ (List.mem_of_getElem? (i := 3) rfl))) (by decide) (backOf (W := 0) (rm2 l Z a0 hw [] mi ma it kd no h0 n0 Z0 hp0 hp1) hZ (hw _ (List.mem_of_getElem? (i := 3) rfl)) (hw _ (List.mem_of_getElem? (i := 2) rfl)) (by decide) (by decide)) (g := (mkF m 3 #[.val (.int mi), .val (.int ma), .val (.int it), .val (.int ot), .unset, .unset, .unset, .unset, .unset] [(.int it), (.int ma), (.int mi)])) rfl (by rw [hml]; rfl) (argsL := [(.int mi), (.int ma), (.int it)]) (rest := []) (lenOf pd_98 rfl) rfl (by show 2 * 0 + _ ≤ _; exact Nat.le_of_eq rfl) (hb hby at_3) (fun _ _ => ⟨rfl, e0, (by decide : 0 + 2 ≤ _), (by decide : 0 + 9 ≤ _)⟩)
  dsimp only [Pt.U, Pt.locs, Pt.cells, Pt.slots] at X1 l1 y1 z1 st1 hQ1
  subst l1 y1 z1
  obtain ⟨b2, ⟨ch3, ⟨kc4, ⟨rfl, N1q, K1, B1_0, B1_1, P1_0, P1_1, P1_2, P1_3, P1_4, P1_5, P1_6, P1_7, P1_8, P1_9⟩⟩⟩⟩ := hQ1
  have N1 := Fr.app N0 N1q
  refine OwnFin.step st1 ?_
  have E1 : Ext h0 T1.heap := ⟨K1.1, fun x c q => K1.2.1 x c q nin0⟩
  show OwnFin p e below _ (T1.setTop (mkF m 6 #[.val (.int mi), .val (.int ma), .val (.int it), .val (.int ot), .unset, .unset, .unset, .unset, .unset] [(.ref b2)]))
  refine OwnFin.step (fun tT kK => XS.astore X1.here hx rfl (hb hby at_6) rfl rfl (l' := #[.val (.int mi), .val (.int ma), .val (.int it), .val (.int ot), .val (.ref b2), .unset, .unset, .unset, .unset]) rfl kK) ?_
  show OwnFin p e below _ (T1.setTop (mkF m 8 #[.val (.int mi), .val (.int ma), .val (.int it), .val (.int ot), .val (.ref b2), .unset, .unset, .unset, .unset] []))
  refine OwnFin.step (fun tT kK => XS.aload X1.here hx rfl (hb hby at_8) rfl rfl kK) ?_
  show OwnFin p e below _ (T1.setTop (mkF m 10 #[.val (.int mi), .val (.int ma), .val (.int it), .val (.int ot), .val (.ref b2), .unset, .unset, .unset, .unset] [(.ref b2)]))
  refine OwnFin.step (fun tT kK => XS.iloadN X1.here hx rfl (hb hby at_10) rfl kK) ?_
  show OwnFin p e below _ (T1.setTop (mkF m 11 #[.val (.int mi), .val (.int ma), .val (.int it), .val (.int ot), .val (.ref b2), .unset, .unset, .unset, .unset] [(.int mi), (.ref b2)]))
  refine OwnFin.step (fun tT kK => XS.iloadN X1.here hx rfl (hb hby at_11) rfl kK) ?_
  show OwnFin p e below _ (T1.setTop (mkF m 12 #[.val (.int mi), .val (.int ma), .val (.int it), .val (.int ot), .val (.ref b2), .unset, .unset, .unset, .unset] [(.int ma), (.int mi), (.ref b2)]))
  refine OwnFin.step (fun tT kK => XS.iloadN X1.here hx rfl (hb hby at_12) rfl kK) ?_
  show OwnFin p e below _ (T1.setTop (mkF m 13 #[.val (.int mi), .val (.int ma), .val (.int it), .val (.int ot), .val (.ref b2), .unset, .unset, .unset, .unset] [(.int it), (.int ma), (.int mi), (.ref b2)]))
  have f5 : Sta Z T1.heap "com/example/identifier_grammars/identifiergrammars/Node$Kind" "REPEAT" "Lcom/example/identifier_grammars/identifiergrammars/Node$Kind;" (.ref kd) := (hp0.ext E1)
  have f6 : Arv Z T1.heap no kn .int (0 : Int32) [] (.int (0 : Int32)) := (hp2.ext E1)
  obtain ⟨_, _, ⟨T7, L7, k7, n7⟩, -, X7, ⟨Lc7, hQ7, l7, y7, z7⟩, st7⟩ := Jvm.LawKit.callS X1 hx (y := (⟨"com/example/identifier_grammars/identifiergrammars/NodeRepeatPinLaw", "isRepeatOf", "(Lcom/example/identifier_grammars/identifiergrammars/Node;III)Z"⟩ : MethodName)) hown (mvT hZ (hw _ (List.mem_of_getElem? (i := 34) rfl))) (mvT hZ (hw _ (List.mem_of_getElem? (i := 35) rfl))) (mvT hZ (hw _ (List.mem_of_getElem? (i := 36) rfl))) (mvT hZ (hw _ (List.mem_of_getElem? (i := 37) rfl))) (by decide) (backOf (W := 0) (rm3 l Z a0 hw [] b2 mi ma it kd no ch3 kc4 kn T1.heap n0 (Nat.le_trans Z0 E1.1) f5 P1_1 P1_2 P1_3 P1_4 P1_5 P1_6 P1_7 P1_8 P1_9 f6) hZ (hw _ (List.mem_of_getElem? (i := 37) rfl)) (hw _ (List.mem_of_getElem? (i := 36) rfl)) (by decide) (by decide)) (g := (mkF m 13 #[.val (.int mi), .val (.int ma), .val (.int it), .val (.int ot), .val (.ref b2), .unset, .unset, .unset, .unset] [(.int it), (.int ma), (.int mi), (.ref b2)])) rfl (by rw [hml]; rfl) (argsL := [(.ref b2), (.int mi), (.int ma), (.int it)]) (rest := []) (lenOf pd_99 rfl) rfl (by show 2 * 0 + _ ≤ _; exact Nat.le_of_eq rfl) (hb hby at_13) (fun _ _ => ⟨rfl, rfl, (by decide : 2 + 0 ≤ _), (by decide : 9 + 0 ≤ _)⟩)
  dsimp only [Pt.U, Pt.locs, Pt.cells, Pt.slots] at X7 l7 y7 z7 st7 hQ7
  subst l7 y7 z7
  obtain ⟨rfl, N7q, e7⟩ := hQ7
  have N7 := Fr.app N1 N7q
  refine OwnFin.step st7 ?_
  show OwnFin p e below _ (T7.setTop (mkF m 16 #[.val (.int mi), .val (.int ma), .val (.int it), .val (.int ot), .val (.ref b2), .unset, .unset, .unset, .unset] [(.int (1 : Int32))]))
  refine OwnFin.step (fun tT kK => XS.istore X7.here hx rfl (hb hby at_16) rfl (l' := #[.val (.int mi), .val (.int ma), .val (.int it), .val (.int ot), .val (.ref b2), .val (.int (1 : Int32)), .unset, .unset, .unset]) rfl kK) ?_
  show OwnFin p e below _ (T7.setTop (mkF m 18 #[.val (.int mi), .val (.int ma), .val (.int it), .val (.int ot), .val (.ref b2), .val (.int (1 : Int32)), .unset, .unset, .unset] []))
  refine OwnFin.step (fun tT kK => XS.iloadN X7.here hx rfl (hb hby at_18) rfl kK) ?_
  show OwnFin p e below _ (T7.setTop (mkF m 19 #[.val (.int mi), .val (.int ma), .val (.int it), .val (.int ot), .val (.ref b2), .val (.int (1 : Int32)), .unset, .unset, .unset] [(.int ma)]))
  refine OwnFin.step (fun tT kK => XS.iloadN X7.here hx rfl (hb hby at_19) rfl kK) ?_
  show OwnFin p e below _ (T7.setTop (mkF m 20 #[.val (.int mi), .val (.int ma), .val (.int it), .val (.int ot), .val (.ref b2), .val (.int (1 : Int32)), .unset, .unset, .unset] [(.int mi), (.int ma)]))
  refine OwnFin.step (fun tT kK => XS.iloadN X7.here hx rfl (hb hby at_20) rfl kK) ?_
  show OwnFin p e below _ (T7.setTop (mkF m 21 #[.val (.int mi), .val (.int ma), .val (.int it), .val (.int ot), .val (.ref b2), .val (.int (1 : Int32)), .unset, .unset, .unset] [(.int ot), (.int mi), (.int ma)]))
  have f8 : Sta Z T1.heap "com/example/identifier_grammars/identifiergrammars/Node" "NONE" "[I" (.ref no) := (hp1.ext E1)
  obtain ⟨_, _, ⟨T9, L9, k9, n9⟩, -, X9, ⟨Lc9, hQ9, l9, y9, z9⟩, st9⟩ := Jvm.LawKit.callS X7 hx (y := (⟨"com/example/identifier_grammars/identifiergrammars/Node", "repeat", "(III)Lcom/example/identifier_grammars/identifiergrammars/Node;"⟩ : MethodName)) hown (mvT hZ (hw _ (List.mem_of_getElem? (i := 0) rfl))) (mvT hZ (hw _ (List.mem_of_getElem? (i := 1) rfl))) (mvT hZ (hw _ (List.mem_of_getElem? (i := 2) rfl))) (mvT hZ (hw _ (List.mem_of_getElem? (i := 3) rfl))) (by decide) (backOf (W := 0) (rm2 l Z a0 hw [] ma mi ot kd no T1.heap n0 (Nat.le_trans Z0 E1.1) f5 f8) hZ (hw _ (List.mem_of_getElem? (i := 3) rfl)) (hw _ (List.mem_of_getElem? (i := 2) rfl)) (by decide) (by decide)) (g := (mkF m 21 #[.val (.int mi), .val (.int ma), .val (.int it), .val (.int ot), .val (.ref b2), .val (.int (1 : Int32)), .unset, .unset, .unset] [(.int ot), (.int mi), (.int ma)])) rfl (by rw [hml]; rfl) (argsL := [(.int ma), (.int mi), (.int ot)]) (rest := []) (lenOf pd_98 rfl) rfl (by show 2 * 0 + _ ≤ _; exact Nat.le_of_eq rfl) (hb hby at_21) (fun _ _ => ⟨rfl, e7, (by decide : 2 + 2 ≤ _), (by decide : 9 + 9 ≤ _)⟩)
  dsimp only [Pt.U, Pt.locs, Pt.cells, Pt.slots] at X9 l9 y9 z9 st9 hQ9
  subst l9 y9 z9
  obtain ⟨b10, ⟨ch11, ⟨kc12, ⟨rfl, N9q, K9, B9_0, B9_1, P9_0, P9_1, P9_2, P9_3, P9_4, P9_5, P9_6, P9_7, P9_8, P9_9⟩⟩⟩⟩ := hQ9
  have N9 := Fr.app N7 N9q
  refine OwnFin.step st9 ?_
  have E9 : Ext T1.heap T9.heap := ⟨K9.1, fun x c q => K9.2.1 x c q nin0⟩
  show OwnFin p e below _ (T9.setTop (mkF m 24 #[.val (.int mi), .val (.int ma), .val (.int it), .val (.int ot), .val (.ref b2), .val (.int (1 : Int32)), .unset, .unset, .unset] [(.ref b10)]))
  refine OwnFin.step (fun tT kK => XS.astore X9.here hx rfl (hb hby at_24) rfl rfl (l' := #[.val (.int mi), .val (.int ma), .val (.int it), .val (.int ot), .val (.ref b2), .val (.int (1 : Int32)), .val (.ref b10), .unset, .unset]) rfl kK) ?_
  show OwnFin p e below _ (T9.setTop (mkF m 26 #[.val (.int mi), .val (.int ma), .val (.int it), .val (.int ot), .val (.ref b2), .val (.int (1 : Int32)), .val (.ref b10), .unset, .unset] []))
  refine OwnFin.step (fun tT kK => XS.aload X9.here hx rfl (hb hby at_26) rfl rfl kK) ?_
  show OwnFin p e below _ (T9.setTop (mkF m 28 #[.val (.int mi), .val (.int ma), .val (.int it), .val (.int ot), .val (.ref b2), .val (.int (1 : Int32)), .val (.ref b10), .unset, .unset] [(.ref b10)]))
  refine OwnFin.step (fun tT kK => XS.iloadN X9.here hx rfl (hb hby at_28) rfl kK) ?_
  show OwnFin p e below _ (T9.setTop (mkF m 29 #[.val (.int mi), .val (.int ma), .val (.int it), .val (.int ot), .val (.ref b2), .val (.int (1 : Int32)), .val (.ref b10), .unset, .unset] [(.int ma), (.ref b10)]))
  refine OwnFin.step (fun tT kK => XS.iloadN X9.here hx rfl (hb hby at_29) rfl kK) ?_
  show OwnFin p e below _ (T9.setTop (mkF m 30 #[.val (.int mi), .val (.int ma), .val (.int it), .val (.int ot), .val (.ref b2), .val (.int (1 : Int32)), .val (.ref b10), .unset, .unset] [(.int mi), (.int ma), (.ref b10)]))
  refine OwnFin.step (fun tT kK => XS.iloadN X9.here hx rfl (hb hby at_30) rfl kK) ?_
  show OwnFin p e below _ (T9.setTop (mkF m 31 #[.val (.int mi), .val (.int ma), .val (.int it), .val (.int ot), .val (.ref b2), .val (.int (1 : Int32)), .val (.ref b10), .unset, .unset] [(.int ot), (.int mi), (.int ma), (.ref b10)]))
  have f13 : Sta Z T9.heap "com/example/identifier_grammars/identifiergrammars/Node$Kind" "REPEAT" "Lcom/example/identifier_grammars/identifiergrammars/Node$Kind;" (.ref kd) := (f5.ext E9)
  have f14 : Arv Z T9.heap no kn .int (0 : Int32) [] (.int (0 : Int32)) := (f6.ext E9)
  obtain ⟨_, _, ⟨T15, L15, k15, n15⟩, -, X15, ⟨Lc15, hQ15, l15, y15, z15⟩, st15⟩ := Jvm.LawKit.callS X9 hx (y := (⟨"com/example/identifier_grammars/identifiergrammars/NodeRepeatPinLaw", "isRepeatOf", "(Lcom/example/identifier_grammars/identifiergrammars/Node;III)Z"⟩ : MethodName)) hown (mvT hZ (hw _ (List.mem_of_getElem? (i := 34) rfl))) (mvT hZ (hw _ (List.mem_of_getElem? (i := 35) rfl))) (mvT hZ (hw _ (List.mem_of_getElem? (i := 36) rfl))) (mvT hZ (hw _ (List.mem_of_getElem? (i := 37) rfl))) (by decide) (backOf (W := 0) (rm3 l Z a0 hw [] b10 ma mi ot kd no ch11 kc12 kn T9.heap n0 (Nat.le_trans (Nat.le_trans Z0 E1.1) E9.1) f13 P9_1 P9_2 P9_3 P9_4 P9_5 P9_6 P9_7 P9_8 P9_9 f14) hZ (hw _ (List.mem_of_getElem? (i := 37) rfl)) (hw _ (List.mem_of_getElem? (i := 36) rfl)) (by decide) (by decide)) (g := (mkF m 31 #[.val (.int mi), .val (.int ma), .val (.int it), .val (.int ot), .val (.ref b2), .val (.int (1 : Int32)), .val (.ref b10), .unset, .unset] [(.int ot), (.int mi), (.int ma), (.ref b10)])) rfl (by rw [hml]; rfl) (argsL := [(.ref b10), (.int ma), (.int mi), (.int ot)]) (rest := []) (lenOf pd_99 rfl) rfl (by show 2 * 0 + _ ≤ _; exact Nat.le_of_eq rfl) (hb hby at_31) (fun _ _ => ⟨rfl, rfl, (by decide : 4 + 0 ≤ _), (by decide : 18 + 0 ≤ _)⟩)
  dsimp only [Pt.U, Pt.locs, Pt.cells, Pt.slots] at X15 l15 y15 z15 st15 hQ15
  subst l15 y15 z15
  obtain ⟨rfl, N15q, e15⟩ := hQ15
  have N15 := Fr.app N9 N15q
  refine OwnFin.step st15 ?_
  show OwnFin p e below _ (T15.setTop (mkF m 34 #[.val (.int mi), .val (.int ma), .val (.int it), .val (.int ot), .val (.ref b2), .val (.int (1 : Int32)), .val (.ref b10), .unset, .unset] [(.int (1 : Int32))]))
  refine OwnFin.step (fun tT kK => XS.istore X15.here hx rfl (hb hby at_34) rfl (l' := #[.val (.int mi), .val (.int ma), .val (.int it), .val (.int ot), .val (.ref b2), .val (.int (1 : Int32)), .val (.ref b10), .val (.int (1 : Int32)), .unset]) rfl kK) ?_
  show OwnFin p e below _ (T15.setTop (mkF m 36 #[.val (.int mi), .val (.int ma), .val (.int it), .val (.int ot), .val (.ref b2), .val (.int (1 : Int32)), .val (.ref b10), .val (.int (1 : Int32)), .unset] []))
  refine OwnFin.step (fun tT kK => XS.aload X15.here hx rfl (hb hby at_36) rfl rfl kK) ?_
  show OwnFin p e below _ (T15.setTop (mkF m 38 #[.val (.int mi), .val (.int ma), .val (.int it), .val (.int ot), .val (.ref b2), .val (.int (1 : Int32)), .val (.ref b10), .val (.int (1 : Int32)), .unset] [(.ref b2)]))
  refine OwnFin.step (fun tT kK => XS.iloadN X15.here hx rfl (hb hby at_38) rfl kK) ?_
  show OwnFin p e below _ (T15.setTop (mkF m 39 #[.val (.int mi), .val (.int ma), .val (.int it), .val (.int ot), .val (.ref b2), .val (.int (1 : Int32)), .val (.ref b10), .val (.int (1 : Int32)), .unset] [(.int mi), (.ref b2)]))
  refine OwnFin.step (fun tT kK => XS.iloadN X15.here hx rfl (hb hby at_39) rfl kK) ?_
  show OwnFin p e below _ (T15.setTop (mkF m 40 #[.val (.int mi), .val (.int ma), .val (.int it), .val (.int ot), .val (.ref b2), .val (.int (1 : Int32)), .val (.ref b10), .val (.int (1 : Int32)), .unset] [(.int ma), (.int mi), (.ref b2)]))
  refine OwnFin.step (fun tT kK => XS.iloadN X15.here hx rfl (hb hby at_40) rfl kK) ?_
  show OwnFin p e below _ (T15.setTop (mkF m 41 #[.val (.int mi), .val (.int ma), .val (.int it), .val (.int ot), .val (.ref b2), .val (.int (1 : Int32)), .val (.ref b10), .val (.int (1 : Int32)), .unset] [(.int it), (.int ma), (.int mi), (.ref b2)]))
  have f16 : Fld Z T9.heap b2 "com/example/identifier_grammars/identifiergrammars/Node" "kind" "Lcom/example/identifier_grammars/identifiergrammars/Node$Kind;" (.ref kd) := (P1_1.ext E9)
  have f17 : Fld Z T9.heap b2 "com/example/identifier_grammars/identifiergrammars/Node" "name" "Ljava/lang/String;" .null := (P1_2.ext E9)
  have f18 : Fld Z T9.heap b2 "com/example/identifier_grammars/identifiergrammars/Node" "children" "[I" (.ref ch3) := (P1_3.ext E9)
  have f19 : Fld Z T9.heap b2 "com/example/identifier_grammars/identifiergrammars/Node" "min" "I" (.int mi) := (P1_4.ext E9)
  have f20 : Fld Z T9.heap b2 "com/example/identifier_grammars/identifiergrammars/Node" "max" "I" (.int ma) := (P1_5.ext E9)
  have f21 : Fld Z T9.heap b2 "com/example/identifier_grammars/identifiergrammars/Node" "low" "[I" (.ref no) := (P1_6.ext E9)
  have f22 : Fld Z T9.heap b2 "com/example/identifier_grammars/identifiergrammars/Node" "high" "[I" (.ref no) := (P1_7.ext E9)
  have f23 : Fld Z T9.heap b2 "com/example/identifier_grammars/identifiergrammars/Node" "ignoreCase" "Z" (.int (0 : Int32)) := (P1_8.ext E9)
  have f24 : Arv Z T9.heap ch3 kc4 .int (1 : Int32) [(.int it)] (.int (0 : Int32)) := (P1_9.ext E9)
  obtain ⟨_, _, ⟨T25, L25, k25, n25⟩, -, X25, ⟨Lc25, hQ25, l25, y25, z25⟩, st25⟩ := Jvm.LawKit.callS X15 hx (y := (⟨"com/example/identifier_grammars/identifiergrammars/NodeRepeatPinLaw", "isRepeatOf", "(Lcom/example/identifier_grammars/identifiergrammars/Node;III)Z"⟩ : MethodName)) hown (mvT hZ (hw _ (List.mem_of_getElem? (i := 34) rfl))) (mvT hZ (hw _ (List.mem_of_getElem? (i := 35) rfl))) (mvT hZ (hw _ (List.mem_of_getElem? (i := 36) rfl))) (mvT hZ (hw _ (List.mem_of_getElem? (i := 37) rfl))) (by decide) (backOf (W := 0) (rm3 l Z a0 hw [] b2 mi ma it kd no ch3 kc4 kn T9.heap n0 (Nat.le_trans (Nat.le_trans Z0 E1.1) E9.1) f13 f16 f17 f18 f19 f20 f21 f22 f23 f24 f14) hZ (hw _ (List.mem_of_getElem? (i := 37) rfl)) (hw _ (List.mem_of_getElem? (i := 36) rfl)) (by decide) (by decide)) (g := (mkF m 41 #[.val (.int mi), .val (.int ma), .val (.int it), .val (.int ot), .val (.ref b2), .val (.int (1 : Int32)), .val (.ref b10), .val (.int (1 : Int32)), .unset] [(.int it), (.int ma), (.int mi), (.ref b2)])) rfl (by rw [hml]; rfl) (argsL := [(.ref b2), (.int mi), (.int ma), (.int it)]) (rest := []) (lenOf pd_99 rfl) rfl (by show 2 * 0 + _ ≤ _; exact Nat.le_of_eq rfl) (hb hby at_41) (fun _ _ => ⟨rfl, e15, (by decide : 4 + 0 ≤ _), (by decide : 18 + 0 ≤ _)⟩)
  dsimp only [Pt.U, Pt.locs, Pt.cells, Pt.slots] at X25 l25 y25 z25 st25 hQ25
  subst l25 y25 z25
  obtain ⟨rfl, N25q, e25⟩ := hQ25
  have N25 := Fr.app N15 N25q
  refine OwnFin.step st25 ?_
  show OwnFin p e below _ (T25.setTop (mkF m 44 #[.val (.int mi), .val (.int ma), .val (.int it), .val (.int ot), .val (.ref b2), .val (.int (1 : Int32)), .val (.ref b10), .val (.int (1 : Int32)), .unset] [(.int (1 : Int32))]))
  refine OwnFin.step (fun tT kK => XS.istore X25.here hx rfl (hb hby at_44) rfl (l' := #[.val (.int mi), .val (.int ma), .val (.int it), .val (.int ot), .val (.ref b2), .val (.int (1 : Int32)), .val (.ref b10), .val (.int (1 : Int32)), .val (.int (1 : Int32))]) rfl kK) ?_
  show OwnFin p e below _ (T25.setTop (mkF m 46 #[.val (.int mi), .val (.int ma), .val (.int it), .val (.int ot), .val (.ref b2), .val (.int (1 : Int32)), .val (.ref b10), .val (.int (1 : Int32)), .val (.int (1 : Int32))] []))
  refine OwnFin.step (fun tT kK => XS.iload X25.here hx rfl (hb hby at_46) rfl kK) ?_
  show OwnFin p e below _ (T25.setTop (mkF m 48 #[.val (.int mi), .val (.int ma), .val (.int it), .val (.int ot), .val (.ref b2), .val (.int (1 : Int32)), .val (.ref b10), .val (.int (1 : Int32)), .val (.int (1 : Int32))] [(.int (1 : Int32))]))
  refine OwnFin.step (fun tT kK => XS.ifNo X25.here hx rfl (hb hby at_48) rfl ((if0 _ _).trans (feq (by decide : ¬ ((1 : Int32) = (0 : Int32)))).1) kK) ?_
  show OwnFin p e below _ (T25.setTop (mkF m 51 #[.val (.int mi), .val (.int ma), .val (.int it), .val (.int ot), .val (.ref b2), .val (.int (1 : Int32)), .val (.ref b10), .val (.int (1 : Int32)), .val (.int (1 : Int32))] []))
  refine OwnFin.step (fun tT kK => XS.iload X25.here hx rfl (hb hby at_51) rfl kK) ?_
  show OwnFin p e below _ (T25.setTop (mkF m 53 #[.val (.int mi), .val (.int ma), .val (.int it), .val (.int ot), .val (.ref b2), .val (.int (1 : Int32)), .val (.ref b10), .val (.int (1 : Int32)), .val (.int (1 : Int32))] [(.int (1 : Int32))]))
  refine OwnFin.step (fun tT kK => XS.ifNo X25.here hx rfl (hb hby at_53) rfl ((if0 _ _).trans (feq (by decide : ¬ ((1 : Int32) = (0 : Int32)))).1) kK) ?_
  show OwnFin p e below _ (T25.setTop (mkF m 56 #[.val (.int mi), .val (.int ma), .val (.int it), .val (.int ot), .val (.ref b2), .val (.int (1 : Int32)), .val (.ref b10), .val (.int (1 : Int32)), .val (.int (1 : Int32))] []))
  refine OwnFin.step (fun tT kK => XS.iload X25.here hx rfl (hb hby at_56) rfl kK) ?_
  show OwnFin p e below _ (T25.setTop (mkF m 58 #[.val (.int mi), .val (.int ma), .val (.int it), .val (.int ot), .val (.ref b2), .val (.int (1 : Int32)), .val (.ref b10), .val (.int (1 : Int32)), .val (.int (1 : Int32))] [(.int (1 : Int32))]))
  refine OwnFin.step (fun tT kK => XS.ifNo X25.here hx rfl (hb hby at_58) rfl ((if0 _ _).trans (feq (by decide : ¬ ((1 : Int32) = (0 : Int32)))).1) kK) ?_
  show OwnFin p e below _ (T25.setTop (mkF m 61 #[.val (.int mi), .val (.int ma), .val (.int it), .val (.int ot), .val (.ref b2), .val (.int (1 : Int32)), .val (.ref b10), .val (.int (1 : Int32)), .val (.int (1 : Int32))] []))
  refine OwnFin.step (fun tT kK => XS.iconst X25.here hx rfl (hb hby at_61) kK) ?_
  show OwnFin p e below _ (T25.setTop (mkF m 62 #[.val (.int mi), .val (.int ma), .val (.int it), .val (.int ot), .val (.ref b2), .val (.int (1 : Int32)), .val (.ref b10), .val (.int (1 : Int32)), .val (.int (1 : Int32))] [(.int (1 : Int32))]))
  refine OwnFin.step (fun tT kK => XS.goto X25.here hx rfl (pc0 := 62) (pc' := 66) rfl (hb hby at_62) (by decide) (by decide) kK) ?_
  show OwnFin p e below _ (T25.setTop (mkF m 66 #[.val (.int mi), .val (.int ma), .val (.int it), .val (.int ot), .val (.ref b2), .val (.int (1 : Int32)), .val (.ref b10), .val (.int (1 : Int32)), .val (.int (1 : Int32))] [(.int (1 : Int32))]))
  obtain ⟨fs26, hr26, hrun26, hended26, hW26, hsame26⟩ := X25.leave (v := (some (.int (1 : Int32)))) (fun h => by rw [Bd.returns] at h; cases h)
  refine ⟨_, _, retN X25 hx (t := .boolean) Bd.returns (by simp) (hb hby at_66) hr26, hrun26, hended26, _, _, rfl, ?_, ⟨_, rfl⟩, hW26, hsame26.mono (by decide) (by decide)⟩
  show Q0 Z mi ma it ot kd no kn h0 n0 _ T25.heap _
  rw [e25]
  exact ⟨rfl, N25, (((Keep.refl h0 []).ext E1).ext E9)⟩
set_option maxRecDepth 65536 in
set_option maxHeartbeats 40000000 in
theorem comes_1 {Post : Tables → Env → Array Value → State → Outcome → State → Prop} (hpost : ∀ tb e args s v u, (limb_1_1.after args s (.returned v) u = true ∧ limb_1_2.after args s (.returned v) u = true ∧ True) → FrameEnd s (.returned v) u (Jvm.fieldLocs frame_1_writes args s ++ Jvm.arrayLocs frame_1_arrays args s ++ Jvm.staticLocs frame_1_statics s) 16 128 → Post tb e args s (.returned v) u) :
    ArmFor flags0 classFile x code maxLocals ret World_1 tables_1 room_1 Calls_1 rest_1 Pre_1 Post := by
  intro l hfl _ _ p e ha hc hk s m args below hf hA hF happ hP
  obtain ⟨hcalls, hrest, hpre⟩ := hP
  obtain ⟨-, -, -, hnamed, -, -, -, hat⟩ := (Spec.applies_iff hf).mp happ
  obtain ⟨hg, hn⟩ := and_e (Cond.before_iff.mp (show (Jvm.Cond.and given_1 narrow_1).before args s = true from hpre))
  obtain ⟨g1, g2⟩ := and_e hg
  obtain ⟨g3, g4⟩ := and_e g2
  obtain ⟨g5, g6⟩ := and_e g4
  obtain ⟨g7, g8⟩ := and_e g6
  obtain ⟨w_0, w_1, w_2, w_3, rfl⟩ : ∃ w_0 w_1 w_2 w_3 : Value, args = #[w_0, w_1, w_2, w_3] := by
    have hs : args.size = 4 := by simpa [Cond.value, given_1] using g1
    obtain ⟨L⟩ := args
    match L, hs with
    | [w_0, w_1, w_2, w_3], _ => exact ⟨w_0, w_1, w_2, w_3, rfl⟩
  have hw := fun d (hd : d ∈ tables_1) => atoms_spec (ws := Jvm.Cond.code x code maxLocals ret :: tables_1) hat d (List.mem_cons_of_mem _ hd)
  have hfit : Fit s := fun {y c} hc i hi => by
    obtain ⟨ha, rfl⟩ := Array.getElem?_eq_some_iff.mp hc
    have q := List.all_eq_true.mp ((Array.all_eq_true_iff_forall_mem.mp hF) _ (Array.getElem_mem ha)) i (List.mem_range.mpr hi)
    simpa [Array.getElem?_eq_getElem hi] using q
  obtain ⟨mi, ei0⟩ := is_v g3
  obtain rfl : w_0 = (.int mi) := Option.some.inj ei0
  obtain ⟨ma, ei1⟩ := is_v g5
  obtain rfl : w_1 = (.int ma) := Option.some.inj ei1
  obtain ⟨it, ei2⟩ := is_v g7
  obtain rfl : w_2 = (.int it) := Option.some.inj ei2
  obtain ⟨ot, ei3⟩ := is_v g8
  obtain rfl : w_3 = (.int ot) := Option.some.inj ei3
  obtain ⟨g9, g10⟩ := and_e hn
  obtain ⟨w11, ev_w11⟩ := exa_v g9
  have S_w11 := Sta.start ev_w11 (Or.inr ⟨(hw _ (List.mem_of_getElem? (i := 7) rfl)), (hw _ (List.mem_of_getElem? (i := 8) rfl))⟩)
  have E_w11_g9 := Exa.start ev_w11 g9
  obtain ⟨g12, g13⟩ := and_e g10
  obtain ⟨w14, ev_w14⟩ := arr_v g12
  have S_w14 := Sta.start ev_w14 (Or.inr ⟨(hw _ (List.mem_of_getElem? (i := 2) rfl)), (hw _ (List.mem_of_getElem? (i := 11) rfl))⟩)
  obtain ⟨cl_w14, A_w14⟩ := Arr.start ev_w14 g12
  have Len_w14 := own_eqI g13
  have V_no := own_arv (vs := []) (dv := .int (0 : Int32)) hfit A_w14 ev_w14 Len_w14 (by decide) rfl trivial
  obtain ⟨n, o, h1, h2, h3, _, L, rfl, ⟨rfl, N, -⟩, hq⟩ := rm0 l s _ hw tables_1 mi ma it ot w11 w14 _ s.heap s.heap.size (Nat.le_refl _) S_w11 S_w14 V_no p e ha hc hk s m _ below hf ((Spec.applies_iff_loose hf).mp happ).1 ⟨rfl, State.Warmed39.refl s, rfl⟩ trivial
  refine ⟨n, _, h1, h2, h3, hpost _ _ _ _ _ _ ⟨Cond.after_iff.mpr rfl, Cond.after_iff.mpr (eq_i res_at (Term.int_eval (1)) rfl), trivial⟩ ⟨hq.1, hq.2.1, (hq.2.2.sift fun y hy => Or.inr (N y hy)).mono (by decide) (by decide)⟩⟩
theorem main_1_1 : Claimed_1_1 := comes_1 fun _ _ _ _ _ _ h hF => ⟨h.1, hF⟩
theorem main_1_2 : Claimed_1_2 := comes_1 fun _ _ _ _ _ _ h hF => ⟨h.2.1, hF⟩
end Jvm.Pilot.@@N@@
namespace Jvm.Pilot.@@N@@
open Jvm Jvm.ClassFile Sem Op Lib Jvm.Free Jvm.Stand Jvm.Pilot.@@N@@.Jvm.D
/-! MADE BY PROGRAM (witnessworld.py) out of the Statement's table words and the real class files: 13 classes; the members and pool entries that the words name. The judged class is class 1, her method 2. -/
namespace start1
open Jvm.ClassFile
def u (s : String) : CpInfo := .utf8 (stringToUtf16 s)
/-- a pool by its gaps: so many unusable entries, then the entry; so many at the end -/
def gap : Nat → List CpInfo → List CpInfo
  | 0, r => r
  | n + 1, r => .unusable :: gap n r
def poolList (es : List (Nat × CpInfo)) (last : Nat) : List CpInfo := es.foldr (fun e r => gap e.1 (e.2 :: r)) (gap last [])
def pool (es : List (Nat × CpInfo)) (last : Nat) : Array CpInfo := ⟨poolList es last⟩
def fileOf (pool : Array CpInfo) (this : Nat) (attrs : Array Attribute := #[]) (ms : Array MethodInfo := #[]) (fl : Nat := 33) (sup : Nat := 0) (ifs : Array Nat := #[]) (fds : Array FieldInfo := #[]) : ClassFile where
  minorVersion := 0
  majorVersion := 65
  constantPool := pool
  accessFlags := fl
  thisClass := this
  superClass := sup
  interfaces := ifs
  fields := fds
  methods := ms
  attributes := attrs
def plain (name : String) (sup : Option ClassId) : Class where
  name := name
  kind := .ordinary
  loader := none
  accessFlags := 33
  super := sup
  interfaces := #[]
  cf := none
  fields := #[]
  methods := #[]
  instanceTypes := #[]
  staticTypes := #[]
  resolved := #[]
  callSites := []
  init := .initialized
  statics := none
  mirror := none

def pool0 : Array CpInfo := pool [(5, u "<init>"), (0, u "()V"), (1, .class_ 10), (1, u "java/lang/Object")] 113

def k0c0 : Code := { maxStack := 0, maxLocals := 1, code := object_method_1_code, exceptionTable := #[], attributes := #[] }
def k0m0 : Method := { name := "<init>", desc := "()V", sig := { parameters := [], returnType := none }, accessFlags := 1, code := some k0c0 }
/-- java/lang/Object -/
def k0 : Class := { plain "java/lang/Object" none with
  accessFlags := 33
  interfaces := #[]
  cf := some (fileOf pool0 8 #[] #[{ accessFlags := 1, nameIndex := 5, descriptorIndex := 6, attributes := #[] }] 33 0 #[] #[])
  fields := #[]
  methods := #[k0m0]
  instanceTypes := #[]
  staticTypes := #[]
  resolved := Array.replicate 124 none
  statics := none }

def pool1 : Array CpInfo := pool [(2, .class_ 4), (1, u "java/lang/Object"), (0, u "<init>"), (0, u "()V"), (0, .fieldref 8 9), (0, .class_ 10), (0, .nameAndType 11 12), (0, u "com/example/identifier_grammars/identifiergrammars/Node"), (0, u "kind"), (0, u "Lcom/example/identifier_grammars/identifiergrammars/Node$Kind;"), (0, .fieldref 14 15), (0, .class_ 16), (0, .nameAndType 17 12), (0, u "com/example/identifier_grammars/identifiergrammars/Node$Kind"), (0, u "REPEAT"), (0, .fieldref 8 19), (0, .nameAndType 20 21), (0, u "name"), (0, u "Ljava/lang/String;"), (0, .fieldref 8 23), (0, .nameAndType 24 25), (0, u "children"), (0, u "[I"), (0, .fieldref 8 27), (0, .nameAndType 28 29), (0, u "min"), (0, u "I"), (0, .fieldref 8 31), (0, .nameAndType 32 29), (0, u "max"), (0, .fieldref 8 34), (0, .nameAndType 35 25), (0, u "low"), (0, .fieldref 8 37), (0, .nameAndType 38 25), (0, u "high"), (0, .fieldref 8 40), (0, .nameAndType 41 42), (0, u "ignoreCase"), (0, u "Z"), (0, .methodref 8 44), (0, .nameAndType 45 46), (0, u "repeat"), (0, u "(III)Lcom/example/identifier_grammars/identifiergrammars/Node;"), (0, .methodref 48 49), (0, .class_ 50), (0, .nameAndType 51 52), (0, u "com/example/identifier_grammars/identifiergrammars/NodeRepeatPinLaw"), (0, u "isRepeatOf"), (0, u "(Lcom/example/identifier_grammars/identifiergrammars/Node;III)Z"), (3, u "law"), (0, u "(IIII)Z")] 4

def k1m0 : Method := { name := "<init>", desc := "()V", sig := { parameters := [], returnType := none }, accessFlags := 1, code := none }
def k1c1 : Code := { maxStack := 2, maxLocals := 4, code := method_2_code, exceptionTable := #[], attributes := #[] }
def k1m1 : Method := { name := "isRepeatOf", desc := "(Lcom/example/identifier_grammars/identifiergrammars/Node;III)Z", sig := { parameters := [(.object "com/example/identifier_grammars/identifiergrammars/Node"), .int, .int, .int], returnType := some .boolean }, accessFlags := 10, code := some k1c1 }
def k1c2 : Code := { maxStack := 4, maxLocals := 9, code := code, exceptionTable := #[], attributes := #[] }
def k1m2 : Method := { name := "law", desc := "(IIII)Z", sig := { parameters := [.int, .int, .int, .int], returnType := some .boolean }, accessFlags := 9, code := some k1c2 }
/-- com/example/identifier_grammars/identifiergrammars/NodeRepeatPinLaw -/
def k1 : Class := { plain "com/example/identifier_grammars/identifiergrammars/NodeRepeatPinLaw" (some 0) with
  accessFlags := 49
  interfaces := #[]
  cf := some (fileOf pool1 48 #[] #[{ accessFlags := 1, nameIndex := 5, descriptorIndex := 6, attributes := #[] }, { accessFlags := 10, nameIndex := 51, descriptorIndex := 52, attributes := #[] }, { accessFlags := 9, nameIndex := 56, descriptorIndex := 57, attributes := #[] }] 49 2 #[] #[])
  fields := #[]
  methods := #[k1m0, k1m1, k1m2]
  instanceTypes := #[]
  staticTypes := #[]
  resolved := Array.replicate 62 none
  statics := none }

def pool2 : Array CpInfo := pool [(3, .methodref 4 5), (0, .class_ 6), (0, .nameAndType 7 8), (0, u "java/lang/Object"), (0, u "<init>"), (0, u "()V"), (0, .fieldref 10 11), (0, .class_ 12), (0, .nameAndType 13 14), (0, u "com/example/identifier_grammars/identifiergrammars/Node"), (0, u "kind"), (0, u "Lcom/example/identifier_grammars/identifiergrammars/Node$Kind;"), (0, .fieldref 10 16), (0, .nameAndType 17 18), (0, u "name"), (0, u "Ljava/lang/String;"), (0, .fieldref 10 20), (0, .nameAndType 21 22), (0, u "children"), (0, u "[I"), (0, .fieldref 10 24), (0, .nameAndType 25 26), (0, u "min"), (0, u "I"), (0, .fieldref 10 28), (0, .nameAndType 29 26), (0, u "max"), (0, .fieldref 10 31), (0, .nameAndType 32 22), (0, u "low"), (0, .fieldref 10 34), (0, .nameAndType 35 22), (0, u "high"), (0, .fieldref 10 37), (0, .nameAndType 38 39), (0, u "ignoreCase"), (0, u "Z"), (1, .class_ 43), (1, u "com/example/identifier_grammars/identifiergrammars/Node$Kind"), (1, .fieldref 10 46), (0, .nameAndType 47 22), (0, u "NONE"), (0, .methodref 10 49), (0, .nameAndType 7 50), (0, u "(Lcom/example/identifier_grammars/identifiergrammars/Node$Kind;Ljava/lang/String;[III[I[IZ)V"), (6, .fieldref 41 58), (0, .nameAndType 59 14), (0, u "REPEAT"), (16, u "UNBOUNDED"), (9, u "repeat"), (0, u "(III)Lcom/example/identifier_grammars/identifiergrammars/Node;")] 15

def k2c0 : Code := { maxStack := 2, maxLocals := 9, code := prog_20_method_1_code, exceptionTable := #[], attributes := #[] }
def k2m0 : Method := { name := "<init>", desc := "(Lcom/example/identifier_grammars/identifiergrammars/Node$Kind;Ljava/lang/String;[III[I[IZ)V", sig := { parameters := [(.object "com/example/identifier_grammars/identifiergrammars/Node$Kind"), (.object "java/lang/String"), (.array .int), .int, .int, (.array .int), (.array .int), .boolean], returnType := none }, accessFlags := 2, code := some k2c0 }
def k2c1 : Code := { maxStack := 10, maxLocals := 3, code := prog_20_method_5_code, exceptionTable := #[], attributes := #[] }
def k2m1 : Method := { name := "repeat", desc := "(III)Lcom/example/identifier_grammars/identifiergrammars/Node;", sig := { parameters := [.int, .int, .int], returnType := some (.object "com/example/identifier_grammars/identifiergrammars/Node") }, accessFlags := 8, code := some k2c1 }
/-- com/example/identifier_grammars/identifiergrammars/Node -/
def k2 : Class := { plain "com/example/identifier_grammars/identifiergrammars/Node" (some 0) with
  accessFlags := 48
  interfaces := #[]
  cf := some (fileOf pool2 10 #[.nestMembers #[41]] #[{ accessFlags := 2, nameIndex := 7, descriptorIndex := 50, attributes := #[] }, { accessFlags := 8, nameIndex := 86, descriptorIndex := 87, attributes := #[] }] 48 4 #[] #[{ accessFlags := 24, nameIndex := 76, descriptorIndex := 26, attributes := #[] }, { accessFlags := 26, nameIndex := 47, descriptorIndex := 22, attributes := #[] }, { accessFlags := 16, nameIndex := 13, descriptorIndex := 14, attributes := #[] }, { accessFlags := 16, nameIndex := 17, descriptorIndex := 18, attributes := #[] }, { accessFlags := 16, nameIndex := 21, descriptorIndex := 22, attributes := #[] }, { accessFlags := 16, nameIndex := 25, descriptorIndex := 26, attributes := #[] }, { accessFlags := 16, nameIndex := 29, descriptorIndex := 26, attributes := #[] }, { accessFlags := 16, nameIndex := 32, descriptorIndex := 22, attributes := #[] }, { accessFlags := 16, nameIndex := 35, descriptorIndex := 22, attributes := #[] }, { accessFlags := 16, nameIndex := 38, descriptorIndex := 39, attributes := #[] }])
  fields := #[{ name := "UNBOUNDED", type := .int, accessFlags := 24, slot := 0, constantValue := 0 }, { name := "NONE", type := (.array .int), accessFlags := 26, slot := 1, constantValue := 0 }, { name := "kind", type := (.object "com/example/identifier_grammars/identifiergrammars/Node$Kind"), accessFlags := 16, slot := 0, constantValue := 0 }, { name := "name", type := (.object "java/lang/String"), accessFlags := 16, slot := 1, constantValue := 0 }, { name := "children", type := (.array .int), accessFlags := 16, slot := 2, constantValue := 0 }, { name := "min", type := .int, accessFlags := 16, slot := 3, constantValue := 0 }, { name := "max", type := .int, accessFlags := 16, slot := 4, constantValue := 0 }, { name := "low", type := (.array .int), accessFlags := 16, slot := 5, constantValue := 0 }, { name := "high", type := (.array .int), accessFlags := 16, slot := 6, constantValue := 0 }, { name := "ignoreCase", type := .boolean, accessFlags := 16, slot := 7, constantValue := 0 }]
  methods := #[k2m0, k2m1]
  instanceTypes := #[(.object "com/example/identifier_grammars/identifiergrammars/Node$Kind"), (.object "java/lang/String"), (.array .int), .int, .int, (.array .int), (.array .int), .boolean]
  staticTypes := #[.int, (.array .int)]
  resolved := Array.replicate 103 none
  statics := some 0 }

def pool3 : Array CpInfo := pool [(1, .class_ 2), (0, u "java/lang/constant/Constable"), (0, .class_ 4), (0, u "java/lang/Object")] 6

/-- java/lang/constant/Constable -/
def k3 : Class := { plain "java/lang/constant/Constable" (some 0) with
  accessFlags := 1537
  interfaces := #[]
  cf := some (fileOf pool3 1 #[] #[] 1537 3 #[] #[])
  fields := #[]
  methods := #[]
  instanceTypes := #[]
  staticTypes := #[]
  resolved := Array.replicate 11 none
  statics := none }

def pool4 : Array CpInfo := pool [(1, .class_ 2), (0, u "java/lang/Comparable"), (0, .class_ 4), (0, u "java/lang/Object")] 7

/-- java/lang/Comparable -/
def k4 : Class := { plain "java/lang/Comparable" (some 0) with
  accessFlags := 1537
  interfaces := #[]
  cf := some (fileOf pool4 1 #[] #[] 1537 3 #[] #[])
  fields := #[]
  methods := #[]
  instanceTypes := #[]
  staticTypes := #[]
  resolved := Array.replicate 12 none
  statics := none }

def pool5 : Array CpInfo := pool [(1, .class_ 2), (0, u "java/io/Serializable"), (0, .class_ 4), (0, u "java/lang/Object")] 2

/-- java/io/Serializable -/
def k5 : Class := { plain "java/io/Serializable" (some 0) with
  accessFlags := 1537
  interfaces := #[]
  cf := some (fileOf pool5 1 #[] #[] 1537 3 #[] #[])
  fields := #[]
  methods := #[]
  instanceTypes := #[]
  staticTypes := #[]
  resolved := Array.replicate 7 none
  statics := none }

def pool6 : Array CpInfo := pool [(2, .class_ 4), (1, u "java/lang/Enum"), (0, u "name"), (0, u "Ljava/lang/String;"), (2, u "ordinal"), (0, u "I"), (1, .class_ 14), (1, u "java/lang/Object"), (4, u "hash"), (86, .class_ 108), (1, u "java/lang/Enum$EnumDesc"), (2, .class_ 112), (0, u "java/lang/constant/Constable"), (0, .class_ 114), (0, u "java/lang/Comparable"), (0, .class_ 116), (0, u "java/io/Serializable")] 87

/-- java/lang/Enum -/
def k6 : Class := { plain "java/lang/Enum" (some 0) with
  accessFlags := 1057
  interfaces := #[3, 4, 5]
  cf := some (fileOf pool6 2 #[.nestMembers #[106]] #[] 1057 12 #[111, 113, 115] #[{ accessFlags := 18, nameIndex := 5, descriptorIndex := 6, attributes := #[] }, { accessFlags := 18, nameIndex := 9, descriptorIndex := 10, attributes := #[] }, { accessFlags := 2, nameIndex := 19, descriptorIndex := 10, attributes := #[] }])
  fields := #[{ name := "name", type := (.object "java/lang/String"), accessFlags := 18, slot := 0, constantValue := 0 }, { name := "ordinal", type := .int, accessFlags := 18, slot := 1, constantValue := 0 }, { name := "hash", type := .int, accessFlags := 2, slot := 2, constantValue := 0 }]
  methods := #[]
  instanceTypes := #[(.object "java/lang/String"), .int, .int]
  staticTypes := #[]
  resolved := Array.replicate 204 none
  statics := none }

def pool7 : Array CpInfo := pool [(1, .class_ 2), (0, u "com/example/identifier_grammars/identifiergrammars/Node$Kind"), (2, u "RULE"), (0, u "Lcom/example/identifier_grammars/identifiergrammars/Node$Kind;"), (2, u "SEQUENCE"), (2, u "CHOICE"), (2, u "REPEAT"), (2, u "TERMINALS"), (2, u "NOTHING"), (2, u "$VALUES"), (0, u "[Lcom/example/identifier_grammars/identifiergrammars/Node$Kind;"), (6, .class_ 34), (1, u "java/lang/Enum"), (29, .class_ 65), (0, u "com/example/identifier_grammars/identifiergrammars/Node")] 2

/-- com/example/identifier_grammars/identifiergrammars/Node$Kind -/
def k7 : Class := { plain "com/example/identifier_grammars/identifiergrammars/Node$Kind" (some 6) with
  accessFlags := 16432
  interfaces := #[]
  cf := some (fileOf pool7 1 #[.nestHost 64] #[] 16432 32 #[] #[{ accessFlags := 16409, nameIndex := 5, descriptorIndex := 6, attributes := #[] }, { accessFlags := 16409, nameIndex := 9, descriptorIndex := 6, attributes := #[] }, { accessFlags := 16409, nameIndex := 12, descriptorIndex := 6, attributes := #[] }, { accessFlags := 16409, nameIndex := 15, descriptorIndex := 6, attributes := #[] }, { accessFlags := 16409, nameIndex := 18, descriptorIndex := 6, attributes := #[] }, { accessFlags := 16409, nameIndex := 21, descriptorIndex := 6, attributes := #[] }, { accessFlags := 4122, nameIndex := 24, descriptorIndex := 25, attributes := #[] }])
  fields := #[{ name := "RULE", type := (.object "com/example/identifier_grammars/identifiergrammars/Node$Kind"), accessFlags := 16409, slot := 0, constantValue := 0 }, { name := "SEQUENCE", type := (.object "com/example/identifier_grammars/identifiergrammars/Node$Kind"), accessFlags := 16409, slot := 1, constantValue := 0 }, { name := "CHOICE", type := (.object "com/example/identifier_grammars/identifiergrammars/Node$Kind"), accessFlags := 16409, slot := 2, constantValue := 0 }, { name := "REPEAT", type := (.object "com/example/identifier_grammars/identifiergrammars/Node$Kind"), accessFlags := 16409, slot := 3, constantValue := 0 }, { name := "TERMINALS", type := (.object "com/example/identifier_grammars/identifiergrammars/Node$Kind"), accessFlags := 16409, slot := 4, constantValue := 0 }, { name := "NOTHING", type := (.object "com/example/identifier_grammars/identifiergrammars/Node$Kind"), accessFlags := 16409, slot := 5, constantValue := 0 }, { name := "$VALUES", type := (.array (.object "com/example/identifier_grammars/identifiergrammars/Node$Kind")), accessFlags := 4122, slot := 6, constantValue := 0 }]
  methods := #[]
  instanceTypes := #[(.object "java/lang/String"), .int, .int]
  staticTypes := #[(.object "com/example/identifier_grammars/identifiergrammars/Node$Kind"), (.object "com/example/identifier_grammars/identifiergrammars/Node$Kind"), (.object "com/example/identifier_grammars/identifiergrammars/Node$Kind"), (.object "com/example/identifier_grammars/identifiergrammars/Node$Kind"), (.object "com/example/identifier_grammars/identifiergrammars/Node$Kind"), (.object "com/example/identifier_grammars/identifiergrammars/Node$Kind"), (.array (.object "com/example/identifier_grammars/identifiergrammars/Node$Kind"))]
  resolved := Array.replicate 68 none
  statics := some 1 }

def pool8 : Array CpInfo := pool [(1, u "java/lang/Cloneable"), (0, .class_ 1), (0, u "java/lang/Object"), (0, .class_ 3)] 3

/-- java/lang/Cloneable -/
def k8 : Class := { plain "java/lang/Cloneable" (some 0) with
  accessFlags := 1537
  interfaces := #[]
  cf := some (fileOf pool8 2 #[] #[] 1537 4 #[] #[])
  fields := #[]
  methods := #[]
  instanceTypes := #[]
  staticTypes := #[]
  resolved := Array.replicate 8 none
  statics := none }

/-- the primitive byte -/
def k9 : Class := { plain "byte" none with kind := .primitive 'B', accessFlags := 0x411 }
/-- [B -/
def k10 : Class := { plain "[B" (some 0) with kind := .array 9 .byte, interfaces := #[8, 5], accessFlags := 1041 }

/-- the primitive int -/
def k11 : Class := { plain "int" none with kind := .primitive 'I', accessFlags := 0x411 }
/-- [I -/
def k12 : Class := { plain "[I" (some 0) with kind := .array 11 .int, interfaces := #[8, 5], accessFlags := 1041 }

def heap : Heap := #[{ cls := 2, slots := #[.int 0, .ref 3], vm := .statics 2 },
  { cls := 7, slots := #[.null, .null, .null, .ref 2, .null, .null, .null], vm := .statics 7 },
  { cls := 7, slots := #[.null, .int 3, .int 0], vm := .none },
  { cls := 12, slots := #[], vm := .none }]
def classes : Array Class := #[k0, k1, k2, k3, k4, k5, k6, k7, k8, k9, k10, k11, k12]
def interned : List (Array UInt16 × Addr) := []
def slotsUsed : Nat := 12
def theMethod : MethodId := ⟨1, 2⟩
def args0 : Array Value := #[.int 1, .int 2, .int 3, .int 4]
def aboutOver (below : List Frame) : State where
  vm := { classes := classes, interned := interned.toArray }
  heap := heap
  slotsUsed := slotsUsed
  threads := #[{ frames := .invoking theMethod args0 :: below }]
def below0 : List Frame := [.native { method := ⟨0, 0⟩, args := #[] }]
def about1 : State := aboutOver below0
def p0 : Program := .bare "" "" ""
def e0 : Env := launch0.env 0 0 0
theorem w_frames : about1.frames = Frame.invoking theMethod args0 :: below0 := rfl
set_option maxRecDepth 65536 in
theorem w_args : argsFit about1.vm theMethod args0 = true := by decide +kernel
set_option maxRecDepth 65536 in
theorem w_heap : heapFits about1 = true := by decide +kernel
set_option maxRecDepth 65536 in
theorem w_runnable : about1.curStatus? = some .runnable := by decide +kernel
set_option maxRecDepth 65536 in
theorem w_alone : about1.alone = true := by decide +kernel
set_option maxRecDepth 65536 in
theorem w_named : about1.methodNamed? x = some theMethod := by decide +kernel
set_option maxRecDepth 65536 in
theorem w_hears : about1.hears theMethod below0 = true := by decide +kernel
set_option maxRecDepth 65536 in
theorem w_ripe : about1.ripe theMethod args0 below0 = true := by decide +kernel
theorem w_running : about1.status = .running := rfl
set_option maxRecDepth 65536 in
theorem w_room : about1.hasRoom e0.platform room_1 = true :=
  launch0.hasRoom_least _ room_1 (by decide +kernel) (by decide +kernel) (by decide +kernel) (by decide +kernel) (by decide +kernel) (by decide +kernel)
theorem allAtoms_all (ts : List Jvm.Cond) (a : Array Jvm.Value) (st : Jvm.State) : (allAtoms ts).before a st = ts.all (fun c => c.before a st) := by
  induction ts with
  | nil => rfl
  | cons c t ih =>
    show (Jvm.Cond.and c (allAtoms t)).before a st = _
    rw [Jvm.Cond.before_and, ih, List.all_cons]
def words1 : List Jvm.Cond := Jvm.Cond.code x code maxLocals ret :: tables_1
/-- a 'code' word, met by the world's own term for the bytes: nothing is compared byte by byte -/
theorem code_word {y : MethodName} {bytes : ByteArray} {mx : Nat} {rt : Option FieldType} {a : Array Value} {s : State} {m : MethodId} {meth : Method} {c : Code} (h1 : s.methodNamed? y = some m) (h2 : s.vm.method? m = some meth) (h3 : meth.code = some c) (h4 : c.code = bytes)
    (h5 : (c.maxLocals == mx && c.exceptionTable.isEmpty && decide (c.maxStack ≤ mostOperands) && decide (meth.sig.returnType = rt) && !meth.locks && decide (parseMethodDescriptor y.desc = some meth.sig)) = true) : (Jvm.Cond.code y bytes mx rt).before a s = true := by
  simp only [Bool.and_eq_true, beq_iff_eq, Bool.not_eq_true', decide_eq_true_eq] at h5
  obtain ⟨⟨⟨⟨⟨g1, g2⟩, g3⟩, g4⟩, g5⟩, g6⟩ := h5
  simp [Cond.before, Cond.holds, Cond.value, h1, h2, h3, h4, g1, g2, g3, g4, g5, g6]
def isCode : Jvm.Cond → Bool
  | .code _ _ _ _ => true
  | _ => false
theorem all_split {L : List Jvm.Cond} {P : Jvm.Cond → Bool} (h1 : L.all (fun c => isCode c || P c) = true) (h2 : ∀ c ∈ L.filter isCode, P c = true) : L.all P = true := by
  refine List.all_eq_true.mpr fun c hc => ?_
  have h := List.all_eq_true.mp h1 c hc
  rcases Bool.eq_false_or_eq_true (isCode c) with hi | hi
  · exact h2 c (List.mem_filter.mpr ⟨hc, hi⟩)
  · simpa [hi] using h
set_option maxRecDepth 65536 in
theorem w_c0 : (Jvm.Cond.code x code maxLocals ret).before args0 about1 = true := code_word (m := ⟨1, 2⟩) (meth := k1m2) (c := k1c2) (by decide +kernel) rfl rfl rfl (by decide +kernel)
set_option maxRecDepth 65536 in
theorem w_c1 : (Jvm.Cond.code ({ cls := "com/example/identifier_grammars/identifiergrammars/Node", name := "repeat", desc := "(III)Lcom/example/identifier_grammars/identifiergrammars/Node;" } : Jvm.MethodName) prog_20_method_5_code (3 : Nat) (Option.some (Jvm.ClassFile.FieldType.object "com/example/identifier_grammars/identifiergrammars/Node"))).before args0 about1 = true := code_word (m := ⟨2, 1⟩) (meth := k2m1) (c := k2c1) (by decide +kernel) rfl rfl rfl (by decide +kernel)
set_option maxRecDepth 65536 in
theorem w_c2 : (Jvm.Cond.code ({ cls := "com/example/identifier_grammars/identifiergrammars/Node", name := "<init>", desc := "(Lcom/example/identifier_grammars/identifiergrammars/Node$Kind;Ljava/lang/String;[III[I[IZ)V" } : Jvm.MethodName) prog_20_method_1_code (9 : Nat) (Option.none : Option Jvm.ClassFile.FieldType)).before args0 about1 = true := code_word (m := ⟨2, 0⟩) (meth := k2m0) (c := k2c0) (by decide +kernel) rfl rfl rfl (by decide +kernel)
set_option maxRecDepth 65536 in
theorem w_c3 : (Jvm.Cond.code ({ cls := "java/lang/Object", name := "<init>", desc := "()V" } : Jvm.MethodName) object_method_1_code (1 : Nat) (Option.none : Option Jvm.ClassFile.FieldType)).before args0 about1 = true := code_word (m := ⟨0, 0⟩) (meth := k0m0) (c := k0c0) (by decide +kernel) rfl rfl rfl (by decide +kernel)
set_option maxRecDepth 65536 in
theorem w_c4 : (Jvm.Cond.code ({ cls := "com/example/identifier_grammars/identifiergrammars/NodeRepeatPinLaw", name := "isRepeatOf", desc := "(Lcom/example/identifier_grammars/identifiergrammars/Node;III)Z" } : Jvm.MethodName) method_2_code (4 : Nat) (Option.some Jvm.ClassFile.FieldType.boolean)).before args0 about1 = true := code_word (m := ⟨1, 1⟩) (meth := k1m1) (c := k1c1) (by decide +kernel) rfl rfl rfl (by decide +kernel)
def codes1 : List Jvm.Cond := [Jvm.Cond.code x code maxLocals ret, Jvm.Cond.code ({ cls := "com/example/identifier_grammars/identifiergrammars/Node", name := "repeat", desc := "(III)Lcom/example/identifier_grammars/identifiergrammars/Node;" } : Jvm.MethodName) prog_20_method_5_code (3 : Nat) (Option.some (Jvm.ClassFile.FieldType.object "com/example/identifier_grammars/identifiergrammars/Node")), Jvm.Cond.code ({ cls := "com/example/identifier_grammars/identifiergrammars/Node", name := "<init>", desc := "(Lcom/example/identifier_grammars/identifiergrammars/Node$Kind;Ljava/lang/String;[III[I[IZ)V" } : Jvm.MethodName) prog_20_method_1_code (9 : Nat) (Option.none : Option Jvm.ClassFile.FieldType), Jvm.Cond.code ({ cls := "java/lang/Object", name := "<init>", desc := "()V" } : Jvm.MethodName) object_method_1_code (1 : Nat) (Option.none : Option Jvm.ClassFile.FieldType), Jvm.Cond.code ({ cls := "com/example/identifier_grammars/identifiergrammars/NodeRepeatPinLaw", name := "isRepeatOf", desc := "(Lcom/example/identifier_grammars/identifiergrammars/Node;III)Z" } : Jvm.MethodName) method_2_code (4 : Nat) (Option.some Jvm.ClassFile.FieldType.boolean)]
set_option maxRecDepth 65536 in
theorem codes_eq : words1.filter isCode = codes1 := rfl
theorem w_codes : ∀ c ∈ words1.filter isCode, c.before args0 about1 = true := by
  rw [codes_eq]
  intro c hc
  simp only [codes1, List.mem_cons, List.not_mem_nil, or_false] at hc
  rcases hc with rfl | rfl | rfl | rfl | rfl
  · exact w_c0
  · exact w_c1
  · exact w_c2
  · exact w_c3
  · exact w_c4
set_option maxRecDepth 65536 in
theorem w_t1 : (words1.take 24).all (fun c => isCode c || c.before args0 about1) = true := by decide +kernel
set_option maxRecDepth 65536 in
theorem w_t2 : (words1.drop 24).all (fun c => isCode c || c.before args0 about1) = true := by decide +kernel
theorem w_tables : (allAtoms (Jvm.Cond.code x code maxLocals ret :: tables_1)).before args0 about1 = true := by
  rw [allAtoms_all]
  show words1.all (fun c => c.before args0 about1) = true
  refine all_split ?_ w_codes
  rw [← List.take_append_drop 24 words1, List.all_append, w_t1, w_t2]
  rfl
set_option maxRecDepth 65536 in
theorem w_case : (Jvm.Cond.and given_1 narrow_1).before args0 about1 = true := by decide +kernel
theorem w_applies : (headSpec (Jvm.Cond.code x code maxLocals ret :: tables_1) room_1).applies x e0.platform about1 = true :=
  (Spec.applies_iff w_frames).mpr ⟨w_running, w_runnable, w_alone, w_named, w_hears, w_ripe, w_room, w_tables⟩
theorem atStart : AtStart classFile x code maxLocals ret World_1 tables_1 room_1 Calls_1 rest_1 Pre_1 launch0 p0 e0 about1 theMethod args0 below0 :=
  ⟨lists_1, trivial, launch0.admits_env _ _ _, launch0.least_env, fairChoices_fair.cas, fairChoices_fair.clock, w_frames, w_args, w_heap, w_applies, trivial, trivial, w_case⟩
end start1
theorem witness_1 : WitnessClaimed_1 := ⟨start1.p0, start1.e0, start1.about1, start1.theMethod, start1.args0, start1.below0, start1.atStart⟩
end Jvm.Pilot.@@N@@
