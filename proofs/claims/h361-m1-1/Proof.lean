import JvmDerived
import JvmDerived.Pilot.@@N@@Statement
import JvmDerived.Pilot.@@N@@Code
set_option linter.unusedVariables false
set_option linter.unusedSimpArgs false

namespace Jvm.Pilot.@@N@@
open Jvm Jvm.ClassFile Sem Op Lib Jvm.Free Jvm.Stand Jvm.LawKit Jvm.RoadKit Bundle Jvm.Pilot.@@N@@.Jvm.D
def OwnFin (p : Program) (e : Env) (below : List Frame) (Q : Outcome → State → Prop) (T : State) : Prop := ∃ s₂ o, Steps p.tables e below T s₂ ∧ s₂.status = .running ∧ Ended s₂ below o ∧ Q o s₂
theorem OwnFin.step {p : Program} {e : Env} {below : List Frame} {Q : Outcome → State → Prop} {A B : State} (h : ∀ t, Steps p.tables e below A t → Steps p.tables e below B t) (k : OwnFin p e below Q A) : OwnFin p e below Q B := by
  obtain ⟨s₂, o, h1, h2⟩ := k
  exact ⟨s₂, o, h _ h1, h2⟩
theorem own_safe_nil {Z : State} {vm : Vm} {h : Heap} {x : Addr} : Safe Z [] vm h x := fun ⟨_, hp, _⟩ => nomatch hp
theorem own_safe_str {Z : State} {EL : List (String × Nat)} {vm : Vm} {h : Heap} {x : Addr} (hal : Z.vm.Alike vm) (E : Exa Z h x "java/lang/String") (F : Fld Z h x "java/lang/String" "value" "[B" .null) : Safe Z EL vm h x := fun B => by
  obtain ⟨p, -, u, a, -, q, -, G, rfl | rfl⟩ := B
  · obtain ⟨cell, cf, k, i, f, h1, h2, h3, h4, h5, h6, h7⟩ := F
    cases (show h[q.sa]? = some q.sC from G.ha).symm.trans h1
    obtain ⟨cS, ⟨⟨-, -, -, ⟨c1, k1, i1, f1, -⟩, -, -, -, v1, -⟩, -⟩, -⟩ := G
    obtain ⟨k3, e3, -⟩ := State.fieldFound?_setVm (s := Z) hal h2
    have e4 := (show (Wst Z vm h).fieldFound? _ _ _ = _ from e3).symm.trans f1
    simp only [Option.some.injEq, Prod.mk.injEq] at e4
    rw [← e4.2.2.2, h7] at v1
    simp at v1
  · obtain ⟨cell, k, e1, e2, e3, -, -⟩ := E
    cases (show h[q.sd]? = some q.SA from G.hd).symm.trans e1
    obtain ⟨cS, -, -, f, -⟩ := G
    have f : vm.findClass "[B" = some q.SA.cls := f
    rw [hal.findClass] at f
    obtain ⟨k1, q1, q2⟩ := Vm.findClass_spec f
    obtain ⟨k2, q3, q4⟩ := Vm.findClass_spec e2
    cases q1.symm.trans q3
    exact absurd (q2.symm.trans q4) (by decide)
theorem own_fits {C : String} {v : Value} (h : v.isRef = true) : fits (.object C) v = true := by cases v <;> simp_all [Value.isRef, fits]
theorem own_cat {v : Value} (h : v.isRef = true) : v.category = 1 := by cases v <;> simp_all [Value.isRef, Value.category]
theorem own_nonsta {Z : State} {h : Heap} {a : Addr} {C : String} (E : Exa Z h a C) : ∃ cell : Cell, h[a]? = some cell ∧ cell.vm.isStatics = false := by
  obtain ⟨cell, k, h1, -, -, h2, -⟩ := E
  exact ⟨cell, h1, h2⟩
theorem own_sta_keep {Z : State} {h h' : Heap} {ws : List Addr} {C n d : String} {v : Value} (F : Sta Z h C n d v) (K : Keep h h' ws) (q : ∀ x ∈ ws, ∃ cell : Cell, h[x]? = some cell ∧ cell.vm.isStatics = false) : Sta Z h' C n d v := by
  obtain ⟨cf, i, k, f, st, cell, h1, h2, h3, h4, h5, h6, h7⟩ := F
  refine ⟨cf, i, k, f, st, cell, h1, h2, h3, h4, K.2.1 _ _ h5 fun z => ?_, h6, h7⟩
  obtain ⟨c2, e1, e2⟩ := q st z
  rw [h5] at e1
  cases e1
  rw [h6] at e2
  cases e2
theorem own_arr_keep {Z : State} {h h' : Heap} {ws : List Addr} {a : Addr} {c : Cell} {ty : FieldType} (A : Arr Z h a c ty) (K : Keep h h' ws) (q : a ∉ ws) : Arr Z h' a c ty := ⟨K.2.1 a c A.1 q, A.2⟩
section OwnLen
variable {p : Program} {l : Launch} {e : Env} {R : Room} {s : State} {m : MethodId} {args : Array Value} {below : List Frame} {meth : Method} {c : Code} {T : State} {locs : List Loc} {cells slots : Nat} {Z : State} {h : Heap}
theorem own_len (X : Stand p l e R s m args below meth c T locs cells slots) (hx : p.tables.exec = Jvm.exec) (hZ : Z.Warmed39 s.vm) (eT : T.heap = h) {a : Addr} {cl : Cell} {ty : FieldType} (A : Arr Z h a cl ty) {z : Int32} (Sz : cl.slots.size = z.toNatClampNeg) (Ng : ¬ z < 0) {g : JFrame} (hg : g.method = m) {rest : List Value} (hs : g.stack = .ref a :: rest) (hd : decode c.code g.pc = .ok (.arraylength, 1)) {t : State}
    (k : Steps p.tables e below (T.setTop { g with pc := g.pc + 1, stack := .int z :: rest }) t) : Steps p.tables e below (T.setTop g) t := by
  refine X.arraylength hx (by rw [eT]; exact A.1) (State.isArrayOf_alike hZ.alike A.2.1) hg hs hd _ ?_
  rw [len_of Sz Ng]
  exact k
end OwnLen

section OwnStart
variable {args : Array Value} {s : State} {t : Term} {x : Addr}
theorem own_eqI {a : Term} {k : Int32} (h : (Jvm.Cond.eq a (Term.int k)).value args s none s [] = some true) : a.eval args s none [] s = some (.int k) := by
  obtain ⟨v, y, e1, e2, k1, k2⟩ := cmp_v (Or.inl h)
  have e3 : (Term.int k).eval args s none [] s = some (.int k) := Term.int_eval k
  rw [e3] at e2
  cases e2
  obtain ⟨z, rfl⟩ := k2
  simp [Cond.value, e1, e3] at h
  subst h
  exact e1
theorem own_fldI {C n d : String} {k : Int32} (ht : t.eval args s none [] s = some (.ref x)) (h : (Jvm.Cond.eq (Term.field t C n d) (Term.int k)).value args s none s [] = some true) : Fld s s.heap x C n d (.int k) := Fld.start (by rw [← fld_at ht (args := args) (first := s) (o := none) (idx := [])]; exact own_eqI h)
theorem own_neI {a : Term} {z k : Int32} (e1 : a.eval args s none [] s = some (.int z)) (h : (Jvm.Cond.not (Jvm.Cond.eq a (Term.int k))).value args s none s [] = some true) : ¬ z = k := by
  have h2 := not_v h
  have e3 : (Term.int k).eval args s none [] s = some (.int k) := Term.int_eval k
  intro e
  subst e
  simp [Cond.value, e1, e3] at h2
theorem own_eqR {a b : Term} {y : Addr} (hb : b.eval args s none [] s = some (.ref y)) (h : (Jvm.Cond.eq a b).value args s none s [] = some true) : a.eval args s none [] s = some (.ref y) := by
  obtain ⟨v, z, e1, e2, k1, k2⟩ := cmp_v (Or.inl h)
  rw [hb] at e2
  cases e2
  have hv : v.isRef = true := k2.2
  rw [eq_R e1 hb hv rfl] at h
  have := of_decide_eq_true (Option.some.inj h)
  subst this
  exact e1
theorem own_arv {t : Term} {a : Addr} {cl : Cell} {ty : FieldType} {z : Int32} {vs : List Value} {dv : Value} (hf : Fit s) (A : Arr s s.heap a cl ty) (ev : t.eval args s none [] s = some (.ref a)) (hl : (Term.length t).eval args s none [] s = some (.int z)) (hz : ¬ z < 0) (hn : z.toNatClampNeg = vs.length) (H : HasL cl 0 vs) : Arv s s.heap a cl.cls ty z vs dv := by
  obtain ⟨b, cell, h1, h2, h3⟩ := Term.length_spec hl
  cases ev.symm.trans h1
  obtain ⟨hcell, -⟩ := State.arrayAt?_spec h2
  cases A.1.symm.trans hcell
  have hsz : cl.slots.size < 2 ^ 31 := by
    simp only [Term.eval, ev, h2, Option.bind_eq_bind, Option.bind_some] at hl
    by_cases hlt : cl.slots.size < 2147483648
    · exact hlt
    · simp [hlt] at hl
  exact Arv.start hf A hsz (Value.int.inj h3).symm hz hn H
theorem own_elem {t : Term} {a : Addr} {cl : Cell} {ty : FieldType} {j : Int32} {v : Value} (A : Arr s s.heap a cl ty) (ev : t.eval args s none [] s = some (.ref a)) (h : (Term.elem t (Term.int j)).eval args s none [] s = some v) : cl.slots[j.toNatClampNeg]? = some v := (elem_in h ev (Term.int_eval j) A.1).2
end OwnStart

def OwnOp (c : Int32) (v0 v1 v2 v3 : Addr) : Value := if c = 43 then .ref v0 else if c = 45 then .ref v1 else if c = 42 then .ref v2 else if c = 47 then .ref v3 else .null
theorem own_op_ref (c : Int32) (v0 v1 v2 v3 : Addr) : (OwnOp c v0 v1 v2 v3).isRef = true := by
  unfold OwnOp
  repeat' split
  all_goals rfl
theorem own_op0 {v0 v1 v2 v3 : Addr} : OwnOp (43 : Int32) v0 v1 v2 v3 = .ref v0 := rfl
theorem own_op1 {v0 v1 v2 v3 : Addr} : OwnOp (45 : Int32) v0 v1 v2 v3 = .ref v1 := rfl
theorem own_op2 {v0 v1 v2 v3 : Addr} : OwnOp (42 : Int32) v0 v1 v2 v3 = .ref v2 := rfl
theorem own_op3 {v0 v1 v2 v3 : Addr} : OwnOp (47 : Int32) v0 v1 v2 v3 = .ref v3 := rfl
theorem own_op4 {c : Int32} {v0 v1 v2 v3 : Addr} (h0 : ¬ c = 43) (h1 : ¬ c = 45) (h2 : ¬ c = 42) (h3 : ¬ c = 47) : OwnOp c v0 v1 v2 v3 = .null := by simp [OwnOp, h0, h1, h2, h3]
theorem pn_0 : plainName "com/example/covenantry/covenantry/compute/Expression$Operator" = true := by first | (simp [plainName, overriddenIn]; done) | decide +kernel
theorem d_prog_10_method_1_0 : decode prog_10_method_1_code 0 = .ok (.getstatic 16, 3) := by decide +kernel
theorem d_prog_10_method_1_3 : decode prog_10_method_1_code 3 = .ok (.invokevirtual 20, 3) := by decide +kernel
theorem d_prog_10_method_1_6 : decode prog_10_method_1_code 6 = .ok (.checkcast 21, 3) := by decide +kernel
theorem d_prog_10_method_1_9 : decode prog_10_method_1_code 9 = .ok (.areturn, 1) := by decide +kernel
theorem ef_1 (m : MethodId)  : entryFrame m #[] 0 = mkF m 0 #[] [] := by first | (simp [entryFrame, mkF, argsToLocals, Value.category]; done) | rfl
def Q1 (Z : State) (va : Addr) (kv : ClassId) (v0 : Addr) (v1 : Addr) (v2 : Addr) (v3 : Addr) (h0 : Heap) (n0 : Nat) (vV : Option Value) (hH : Heap) (LL : List Loc) : Prop := ∃ b : Addr, vV = some (.ref b) ∧ Fr n0 LL ∧ Keep h0 hH [] ∧ h0.size ≤ b ∧ (Arv Z hH b kv (.object "com/example/covenantry/covenantry/compute/Expression$Operator") (4 : Int32) [(.ref v0), (.ref v1), (.ref v2), (.ref v3)] .null)
def R1 (Z : State) (va : Addr) (kv : ClassId) (v0 : Addr) (v1 : Addr) (v2 : Addr) (v3 : Addr) (h0 : Heap) (n0 : Nat) (U : State) (o : Outcome) (U' : State) : Prop := ∃ vV LL, o = .returned vV ∧ Q1 Z va kv v0 v1 v2 v3 h0 n0 vV U'.heap LL ∧ FrameEnd U o U' LL ({ frames := 1, cells := 1, slots := 4, locals := 14 } : Room).cells ({ frames := 1, cells := 1, slots := 4, locals := 14 } : Room).slots
set_option maxRecDepth 65536 in
set_option maxHeartbeats 40000000 in
theorem rm1 (l : Launch) (Z : State) (a0 : Array Value) (hw : ∀ d ∈ tables_1, d.before a0 Z = true) (ws : List Jvm.Cond) (va : Addr) (kv : ClassId) (v0 : Addr) (v1 : Addr) (v2 : Addr) (v3 : Addr) (h0 : Heap) (n0 : Nat) (Z0 : n0 ≤ h0.size) (hp0 : Sta Z h0 "com/example/covenantry/covenantry/compute/Expression$Operator" "$VALUES" "[Lcom/example/covenantry/covenantry/compute/Expression$Operator;" (.ref va)) (hp1 : Arv Z h0 va kv (.object "com/example/covenantry/covenantry/compute/Expression$Operator") (4 : Int32) [(.ref v0), (.ref v1), (.ref v2), (.ref v3)] .null) (hp2 : Exa Z h0 va "[Lcom/example/covenantry/covenantry/compute/Expression$Operator;") :
    MetFree l (⟨"com/example/covenantry/covenantry/compute/Expression$Operator", "values", "()[Lcom/example/covenantry/covenantry/compute/Expression$Operator;"⟩ : MethodName) (head1 (Jvm.Cond.code (⟨"com/example/covenantry/covenantry/compute/Expression$Operator", "values", "()[Lcom/example/covenantry/covenantry/compute/Expression$Operator;"⟩ : MethodName) prog_10_method_1_code 0 (some (.array (.object "com/example/covenantry/covenantry/compute/Expression$Operator"))) :: ws) ({ frames := 1, cells := 1, slots := 4, locals := 14 } : Room)) (fun aA U => aA = #[] ∧ Z.Warmed39 U.vm ∧ U.heap = h0) (fun _ _ _ _ _ => True) (fun _ U o U' => ∃ vV LL, o = .returned vV ∧ Q1 Z va kv v0 v1 v2 v3 h0 n0 vV U'.heap LL ∧ FrameEnd U o U' LL ({ frames := 1, cells := 1, slots := 4, locals := 14 } : Room).cells ({ frames := 1, cells := 1, slots := 4, locals := 14 } : Room).slots) := by
  refine MetFree.of_bodySF (plainFor_of_name pn_0) hisR ?_
  intro p e s m args below meth cC s₁ Bd hml0 hP hK
  obtain ⟨rfl, hZ, hh⟩ := hP
  have hx := Bd.exec
  have hby := Bd.bytes
  have hml : cC.maxLocals = 0 := hml0
  have hown : s.vm.findClass "com/example/covenantry/covenantry/compute/Expression$Operator" = some m.cls := findClass_of_methodNamed Bd.named
  have hnm := (name_of_methodNamed Bd.named Bd.method).1
  have X0 : Stand p l e ({ frames := 1, cells := 1, slots := 4, locals := 14 } : Room) s m #[] below meth cC s₁ [] 0 0 := Stand.of_body Bd
  have e0 : s₁.heap = h0 := by rw [← hh, Bd.state]; rfl
  have N0 := Fr.nil n0
  show OwnFin p e below (R1 Z va kv v0 v1 v2 v3 h0 n0 s) (s₁.setTop (entryFrame m #[] 0))
  rw [ef_1 m]
  obtain ⟨T1, X1, e1, st1⟩ := getS2 X0 hx hZ hown (host := "") (Or.inl (hw _ (List.mem_of_getElem? (i := 7) rfl))) Via.refl e0 hp0 (g := (mkF m 0 #[] [])) rfl (hb hby d_prog_10_method_1_0)
  refine OwnFin.step st1 ?_
  show OwnFin p e below _ (T1.setTop (mkF m 3 #[] [(.ref va)]))
  obtain ⟨T2, h2, X2, e2, E2, V2, A2, st2⟩ := cloneH X1 hx hZ hown (hw _ (List.mem_of_getElem? (i := 9) rfl)) (hw _ (List.mem_of_getElem? (i := 10) rfl)) (hw _ (List.mem_of_getElem? (i := 14) rfl)) (hw _ (List.mem_of_getElem? (i := 12) rfl)) (hw _ (List.mem_of_getElem? (i := 13) rfl)) (hw _ (List.mem_of_getElem? (i := 15) rfl)) e1 (Arv.arh hp1) hp2 (g := (mkF m 3 #[] [(.ref va)])) rfl (by rw [hml]; rfl) rfl (hb hby d_prog_10_method_1_3) (by decide) (W := 0) (cap := 4) (by show 2 * 0 + _ ≤ _; exact Nat.le_of_eq rfl) (by decide) (by decide) (by decide) (by decide)
  obtain ⟨b2, g2⟩ : ∃ z, z = h0.size := ⟨_, rfl⟩
  rw [← g2] at V2 A2 st2
  refine OwnFin.step st2 ?_
  have Vc2 : Arv Z h2 b2 kv (.object "com/example/covenantry/covenantry/compute/Expression$Operator") (4 : Int32) [(.ref v0), (.ref v1), (.ref v2), (.ref v3)] .null := V2
  show OwnFin p e below _ (T2.setTop (mkF m 6 #[] [(.ref b2)]))
  obtain ⟨T3, X3, e3, st3⟩ := castY X2 hx hZ hown (hw _ (List.mem_of_getElem? (i := 21) rfl)) e2 (Ins.self A2) (g := (mkF m 6 #[] [(.ref b2)])) rfl rfl (hb hby d_prog_10_method_1_6)
  refine OwnFin.step st3 ?_
  show OwnFin p e below _ (T3.setTop (mkF m 9 #[] [(.ref b2)]))
  obtain ⟨fs4, hr4, hrun4, hended4, hW4, hsame4⟩ := X3.leave (v := (some (.ref b2))) (fun h => by rw [Bd.returns] at h; cases h)
  refine ⟨_, _, retOut X3 hx Bd.returns rfl (Or.inr (Or.inr (Or.inr (Or.inr ⟨rfl, rfl, rfl⟩)))) (hb hby d_prog_10_method_1_9) hr4, hrun4, hended4, _, _, rfl, ?_, ⟨_, rfl⟩, hW4, hsame4.mono (by decide) (by decide)⟩
  show Q1 Z va kv v0 v1 v2 v3 h0 n0 _ T3.heap _
  rw [e3]
  exact ⟨b2, rfl, N0, ((Keep.refl h0 []).ext E2), (Nat.le_trans (Nat.le_refl _) (Nat.le_of_eq g2.symm)), Vc2⟩
theorem d_prog_10_method_4_0 : decode prog_10_method_4_code 0 = .ok (.invokestatic 39, 3) := by decide +kernel
theorem pd_6 : parseMethodDescriptor "()[Lcom/example/covenantry/covenantry/compute/Expression$Operator;" = some ⟨[], some (.array (.object "com/example/covenantry/covenantry/compute/Expression$Operator"))⟩ := by decide +kernel
theorem d_prog_10_method_4_3 : decode prog_10_method_4_code 3 = .ok (.astore_n 1, 1) := by decide +kernel
theorem d_prog_10_method_4_4 : decode prog_10_method_4_code 4 = .ok (.aload_n 1, 1) := by decide +kernel
theorem d_prog_10_method_4_5 : decode prog_10_method_4_code 5 = .ok (.arraylength, 1) := by decide +kernel
theorem d_prog_10_method_4_6 : decode prog_10_method_4_code 6 = .ok (.istore_n 2, 1) := by decide +kernel
theorem d_prog_10_method_4_7 : decode prog_10_method_4_code 7 = .ok (.iconst 0, 1) := by decide +kernel
theorem d_prog_10_method_4_8 : decode prog_10_method_4_code 8 = .ok (.istore_n 3, 1) := by decide +kernel
theorem d_prog_10_method_4_9 : decode prog_10_method_4_code 9 = .ok (.iload_n 3, 1) := by decide +kernel
theorem d_prog_10_method_4_10 : decode prog_10_method_4_code 10 = .ok (.iload_n 2, 1) := by decide +kernel
theorem d_prog_10_method_4_11 : decode prog_10_method_4_code 11 = .ok (.if_icmp .ge 26, 3) := by decide +kernel
theorem d_prog_10_method_4_14 : decode prog_10_method_4_code 14 = .ok (.aload_n 1, 1) := by decide +kernel
theorem d_prog_10_method_4_15 : decode prog_10_method_4_code 15 = .ok (.iload_n 3, 1) := by decide +kernel
theorem d_prog_10_method_4_16 : decode prog_10_method_4_code 16 = .ok (.aaload, 1) := by decide +kernel
theorem d_prog_10_method_4_17 : decode prog_10_method_4_code 17 = .ok (.astore 4, 2) := by decide +kernel
theorem d_prog_10_method_4_19 : decode prog_10_method_4_code 19 = .ok (.aload 4, 2) := by decide +kernel
theorem d_prog_10_method_4_21 : decode prog_10_method_4_code 21 = .ok (.getfield 35, 3) := by decide +kernel
theorem d_prog_10_method_4_24 : decode prog_10_method_4_code 24 = .ok (.iload_n 0, 1) := by decide +kernel
theorem d_prog_10_method_4_25 : decode prog_10_method_4_code 25 = .ok (.if_icmp .ne 6, 3) := by decide +kernel
theorem d_prog_10_method_4_28 : decode prog_10_method_4_code 28 = .ok (.aload 4, 2) := by decide +kernel
theorem d_prog_10_method_4_30 : decode prog_10_method_4_code 30 = .ok (.areturn, 1) := by decide +kernel
theorem d_prog_10_method_4_31 : decode prog_10_method_4_code 31 = .ok (.iinc 3 1, 3) := by decide +kernel
theorem d_prog_10_method_4_34 : decode prog_10_method_4_code 34 = .ok (.goto (-25), 3) := by decide +kernel
theorem d_prog_10_method_4_37 : decode prog_10_method_4_code 37 = .ok (.aconst_null, 1) := by decide +kernel
theorem d_prog_10_method_4_38 : decode prog_10_method_4_code 38 = .ok (.areturn, 1) := by decide +kernel
theorem ef_2 (m : MethodId) (c : Int32) : entryFrame m #[(.int c)] 5 = mkF m 0 #[.val (.int c), .unset, .unset, .unset, .unset] [] := by first | (simp [entryFrame, mkF, argsToLocals, Value.category]; done) | rfl
def Q2 (Z : State) (c : Int32) (va : Addr) (kv : ClassId) (v0 : Addr) (v1 : Addr) (v2 : Addr) (v3 : Addr) (h0 : Heap) (n0 : Nat) (vV : Option Value) (hH : Heap) (LL : List Loc) : Prop := vV = some (OwnOp c v0 v1 v2 v3) ∧ Fr n0 LL ∧ Keep h0 hH []
def R2 (Z : State) (c : Int32) (va : Addr) (kv : ClassId) (v0 : Addr) (v1 : Addr) (v2 : Addr) (v3 : Addr) (h0 : Heap) (n0 : Nat) (U : State) (o : Outcome) (U' : State) : Prop := ∃ vV LL, o = .returned vV ∧ Q2 Z c va kv v0 v1 v2 v3 h0 n0 vV U'.heap LL ∧ FrameEnd U o U' LL ({ frames := 2, cells := 1, slots := 4, locals := 25 } : Room).cells ({ frames := 2, cells := 1, slots := 4, locals := 25 } : Room).slots
set_option maxRecDepth 65536 in
set_option maxHeartbeats 40000000 in
theorem rm2 (l : Launch) (Z : State) (a0 : Array Value) (hw : ∀ d ∈ tables_1, d.before a0 Z = true) (ws : List Jvm.Cond) (c : Int32) (va : Addr) (kv : ClassId) (v0 : Addr) (v1 : Addr) (v2 : Addr) (v3 : Addr) (h0 : Heap) (n0 : Nat) (Z0 : n0 ≤ h0.size) (hp0 : Sta Z h0 "com/example/covenantry/covenantry/compute/Expression$Operator" "$VALUES" "[Lcom/example/covenantry/covenantry/compute/Expression$Operator;" (.ref va)) (hp1 : Arv Z h0 va kv (.object "com/example/covenantry/covenantry/compute/Expression$Operator") (4 : Int32) [(.ref v0), (.ref v1), (.ref v2), (.ref v3)] .null) (hp2 : Exa Z h0 va "[Lcom/example/covenantry/covenantry/compute/Expression$Operator;") (hp3 : Fld Z h0 v0 "com/example/covenantry/covenantry/compute/Expression$Operator" "symbol" "C" (.int (43 : Int32))) (hp4 : Fld Z h0 v1 "com/example/covenantry/covenantry/compute/Expression$Operator" "symbol" "C" (.int (45 : Int32))) (hp5 : Fld Z h0 v2 "com/example/covenantry/covenantry/compute/Expression$Operator" "symbol" "C" (.int (42 : Int32))) (hp6 : Fld Z h0 v3 "com/example/covenantry/covenantry/compute/Expression$Operator" "symbol" "C" (.int (47 : Int32))) :
    MetFree l (⟨"com/example/covenantry/covenantry/compute/Expression$Operator", "of", "(C)Lcom/example/covenantry/covenantry/compute/Expression$Operator;"⟩ : MethodName) (head1 (Jvm.Cond.code (⟨"com/example/covenantry/covenantry/compute/Expression$Operator", "of", "(C)Lcom/example/covenantry/covenantry/compute/Expression$Operator;"⟩ : MethodName) prog_10_method_4_code 5 (some (.object "com/example/covenantry/covenantry/compute/Expression$Operator")) :: ws) ({ frames := 2, cells := 1, slots := 4, locals := 25 } : Room)) (fun aA U => aA = #[(.int c)] ∧ Z.Warmed39 U.vm ∧ U.heap = h0) (fun _ _ _ _ _ => True) (fun _ U o U' => ∃ vV LL, o = .returned vV ∧ Q2 Z c va kv v0 v1 v2 v3 h0 n0 vV U'.heap LL ∧ FrameEnd U o U' LL ({ frames := 2, cells := 1, slots := 4, locals := 25 } : Room).cells ({ frames := 2, cells := 1, slots := 4, locals := 25 } : Room).slots) := by
  refine MetFree.of_bodySF (plainFor_of_name pn_0) hisR ?_
  intro p e s m args below meth cC s₁ Bd hml0 hP hK
  obtain ⟨rfl, hZ, hh⟩ := hP
  have hx := Bd.exec
  have hby := Bd.bytes
  have hml : cC.maxLocals = 5 := hml0
  have hown : s.vm.findClass "com/example/covenantry/covenantry/compute/Expression$Operator" = some m.cls := findClass_of_methodNamed Bd.named
  have hnm := (name_of_methodNamed Bd.named Bd.method).1
  have X0 : Stand p l e ({ frames := 2, cells := 1, slots := 4, locals := 25 } : Room) s m #[(.int c)] below meth cC s₁ [] 0 0 := Stand.of_body Bd
  have e0 : s₁.heap = h0 := by rw [← hh, Bd.state]; rfl
  have N0 := Fr.nil n0
  show OwnFin p e below (R2 Z c va kv v0 v1 v2 v3 h0 n0 s) (s₁.setTop (entryFrame m #[(.int c)] 5))
  rw [ef_2 m c]
  obtain ⟨_, _, ⟨T1, L1, k1, n1⟩, -, X1, ⟨Lc1, hQ1, l1, y1, z1⟩, st1⟩ := Jvm.LawKit.callS X0 hx (y := (⟨"com/example/covenantry/covenantry/compute/Expression$Operator", "values", "()[Lcom/example/covenantry/covenantry/compute/Expression$Operator;"⟩ : MethodName)) hown (mvT hZ (hw _ (List.mem_of_getElem? (i := 4) rfl))) (mvT hZ (hw _ (List.mem_of_getElem? (i := 5) rfl))) (mvT hZ (hw _ (List.mem_of_getElem? (i := 2) rfl))) (mvT hZ (hw _ (List.mem_of_getElem? (i := 6) rfl))) (by decide) (backOf (W := 0) (rm1 l Z a0 hw [] va kv v0 v1 v2 v3 h0 n0 Z0 hp0 hp1 hp2) hZ (hw _ (List.mem_of_getElem? (i := 6) rfl)) (hw _ (List.mem_of_getElem? (i := 2) rfl)) (by decide) (by decide)) (g := (mkF m 0 #[.val (.int c), .unset, .unset, .unset, .unset] [])) rfl (by rw [hml]; rfl) (argsL := []) (rest := []) (lenOf pd_6 rfl) rfl (by show 2 * 0 + _ ≤ _; exact Nat.le_of_eq rfl) (hb hby d_prog_10_method_4_0) (fun _ _ => ⟨rfl, e0, (by decide : 0 + 1 ≤ _), (by decide : 0 + 4 ≤ _)⟩)
  dsimp only [Pt.U, Pt.locs, Pt.cells, Pt.slots] at X1 l1 y1 z1 st1 hQ1
  subst l1 y1 z1
  obtain ⟨b2, ⟨rfl, N1q, K1, B1_0, P1_0⟩⟩ := hQ1
  have N1 := Fr.app N0 N1q
  refine OwnFin.step st1 ?_
  have E1 : Ext h0 T1.heap := ⟨K1.1, fun x c q => K1.2.1 x c q nin0⟩
  show OwnFin p e below _ (T1.setTop (mkF m 3 #[.val (.int c), .unset, .unset, .unset, .unset] [(.ref b2)]))
  refine OwnFin.step (fun tT kK => XS.astoreN X1.here hx rfl (hb hby d_prog_10_method_4_3) rfl rfl (l' := #[.val (.int c), .val (.ref b2), .unset, .unset, .unset]) rfl kK) ?_
  show OwnFin p e below _ (T1.setTop (mkF m 4 #[.val (.int c), .val (.ref b2), .unset, .unset, .unset] []))
  refine OwnFin.step (fun tT kK => XS.aloadN X1.here hx rfl (hb hby d_prog_10_method_4_4) rfl rfl kK) ?_
  show OwnFin p e below _ (T1.setTop (mkF m 5 #[.val (.int c), .val (.ref b2), .unset, .unset, .unset] [(.ref b2)]))
  obtain ⟨cl3, Ar3, -, Sz3, Ng3, -, -⟩ := id P1_0
  refine OwnFin.step (fun tT kK => own_len X1 hx hZ rfl Ar3 Sz3 Ng3 (g := (mkF m 5 #[.val (.int c), .val (.ref b2), .unset, .unset, .unset] [(.ref b2)])) rfl rfl (hb hby d_prog_10_method_4_5) kK) ?_
  show OwnFin p e below _ (T1.setTop (mkF m 6 #[.val (.int c), .val (.ref b2), .unset, .unset, .unset] [(.int (4 : Int32))]))
  refine OwnFin.step (fun tT kK => XS.istoreN X1.here hx rfl (hb hby d_prog_10_method_4_6) rfl (l' := #[.val (.int c), .val (.ref b2), .val (.int (4 : Int32)), .unset, .unset]) rfl kK) ?_
  show OwnFin p e below _ (T1.setTop (mkF m 7 #[.val (.int c), .val (.ref b2), .val (.int (4 : Int32)), .unset, .unset] []))
  refine OwnFin.step (fun tT kK => XS.iconst X1.here hx rfl (hb hby d_prog_10_method_4_7) kK) ?_
  show OwnFin p e below _ (T1.setTop (mkF m 8 #[.val (.int c), .val (.ref b2), .val (.int (4 : Int32)), .unset, .unset] [(.int (0 : Int32))]))
  refine OwnFin.step (fun tT kK => XS.istoreN X1.here hx rfl (hb hby d_prog_10_method_4_8) rfl (l' := #[.val (.int c), .val (.ref b2), .val (.int (4 : Int32)), .val (.int (0 : Int32)), .unset]) rfl kK) ?_
  show OwnFin p e below _ (T1.setTop (mkF m 9 #[.val (.int c), .val (.ref b2), .val (.int (4 : Int32)), .val (.int (0 : Int32)), .unset] []))
  refine OwnFin.step (fun tT kK => XS.iloadN X1.here hx rfl (hb hby d_prog_10_method_4_9) rfl kK) ?_
  show OwnFin p e below _ (T1.setTop (mkF m 10 #[.val (.int c), .val (.ref b2), .val (.int (4 : Int32)), .val (.int (0 : Int32)), .unset] [(.int (0 : Int32))]))
  refine OwnFin.step (fun tT kK => XS.iloadN X1.here hx rfl (hb hby d_prog_10_method_4_10) rfl kK) ?_
  show OwnFin p e below _ (T1.setTop (mkF m 11 #[.val (.int c), .val (.ref b2), .val (.int (4 : Int32)), .val (.int (0 : Int32)), .unset] [(.int (4 : Int32)), (.int (0 : Int32))]))
  refine OwnFin.step (fun tT kK => XS.icmpNo X1.here hx rfl (hb hby d_prog_10_method_4_11) rfl (tlt (by decide : (0 : Int32) < (4 : Int32))).2.1 kK) ?_
  show OwnFin p e below _ (T1.setTop (mkF m 14 #[.val (.int c), .val (.ref b2), .val (.int (4 : Int32)), .val (.int (0 : Int32)), .unset] []))
  refine OwnFin.step (fun tT kK => XS.aloadN X1.here hx rfl (hb hby d_prog_10_method_4_14) rfl rfl kK) ?_
  show OwnFin p e below _ (T1.setTop (mkF m 15 #[.val (.int c), .val (.ref b2), .val (.int (4 : Int32)), .val (.int (0 : Int32)), .unset] [(.ref b2)]))
  refine OwnFin.step (fun tT kK => XS.iloadN X1.here hx rfl (hb hby d_prog_10_method_4_15) rfl kK) ?_
  show OwnFin p e below _ (T1.setTop (mkF m 16 #[.val (.int c), .val (.ref b2), .val (.int (4 : Int32)), .val (.int (0 : Int32)), .unset] [(.int (0 : Int32)), (.ref b2)]))
  obtain ⟨cl4, Ar4, q4, Sz4, Ng4, H4, G4⟩ := id P1_0
  have hin4 : ¬ ((0 : Int32) < 0 ∨ cl4.slots.size ≤ ((0 : Int32)).toNatClampNeg) := inb_of Sz4 ⟨by decide, by decide⟩
  refine OwnFin.step (fun tT kK => X1.aaload hx (j := (0 : Int32)) (v := (.ref v0)) Ar4.1 (State.isArrayOf_alike hZ.alike Ar4.2.1) rfl Ar4.2.2 hin4 (H4.at hin4 rfl) (g := (mkF m 16 #[.val (.int c), .val (.ref b2), .val (.int (4 : Int32)), .val (.int (0 : Int32)), .unset] [(.int (0 : Int32)), (.ref b2)])) rfl rfl (hb hby d_prog_10_method_4_16) _ kK) ?_
  show OwnFin p e below _ (T1.setTop (mkF m 17 #[.val (.int c), .val (.ref b2), .val (.int (4 : Int32)), .val (.int (0 : Int32)), .unset] [(.ref v0)]))
  refine OwnFin.step (fun tT kK => XS.astore X1.here hx rfl (hb hby d_prog_10_method_4_17) rfl rfl (l' := #[.val (.int c), .val (.ref b2), .val (.int (4 : Int32)), .val (.int (0 : Int32)), .val (.ref v0)]) rfl kK) ?_
  show OwnFin p e below _ (T1.setTop (mkF m 19 #[.val (.int c), .val (.ref b2), .val (.int (4 : Int32)), .val (.int (0 : Int32)), .val (.ref v0)] []))
  refine OwnFin.step (fun tT kK => XS.aload X1.here hx rfl (hb hby d_prog_10_method_4_19) rfl rfl kK) ?_
  show OwnFin p e below _ (T1.setTop (mkF m 21 #[.val (.int c), .val (.ref b2), .val (.int (4 : Int32)), .val (.int (0 : Int32)), .val (.ref v0)] [(.ref v0)]))
  have f5 : Fld Z T1.heap v0 "com/example/covenantry/covenantry/compute/Expression$Operator" "symbol" "C" (.int (43 : Int32)) := (hp3.ext E1)
  obtain ⟨T6, X6, e6, st6⟩ := getF X1 hx hZ hown (host := "") (Or.inl (hw _ (List.mem_of_getElem? (i := 23) rfl))) Via.refl rfl f5 (g := (mkF m 21 #[.val (.int c), .val (.ref b2), .val (.int (4 : Int32)), .val (.int (0 : Int32)), .val (.ref v0)] [(.ref v0)])) rfl rfl (hb hby d_prog_10_method_4_21)
  refine OwnFin.step st6 ?_
  show OwnFin p e below _ (T6.setTop (mkF m 24 #[.val (.int c), .val (.ref b2), .val (.int (4 : Int32)), .val (.int (0 : Int32)), .val (.ref v0)] [(.int (43 : Int32))]))
  refine OwnFin.step (fun tT kK => XS.iloadN X6.here hx rfl (hb hby d_prog_10_method_4_24) rfl kK) ?_
  show OwnFin p e below _ (T6.setTop (mkF m 25 #[.val (.int c), .val (.ref b2), .val (.int (4 : Int32)), .val (.int (0 : Int32)), .val (.ref v0)] [(.int c), (.int (43 : Int32))]))
  by_cases hc7 : (43 : Int32) = c
  · skip
    refine OwnFin.step (fun tT kK => XS.icmpNo X6.here hx rfl (hb hby d_prog_10_method_4_25) rfl (teq (hc7 : (43 : Int32) = c)).2 kK) ?_
    show OwnFin p e below _ (T6.setTop (mkF m 28 #[.val (.int c), .val (.ref b2), .val (.int (4 : Int32)), .val (.int (0 : Int32)), .val (.ref v0)] []))
    refine OwnFin.step (fun tT kK => XS.aload X6.here hx rfl (hb hby d_prog_10_method_4_28) rfl rfl kK) ?_
    show OwnFin p e below _ (T6.setTop (mkF m 30 #[.val (.int c), .val (.ref b2), .val (.int (4 : Int32)), .val (.int (0 : Int32)), .val (.ref v0)] [(.ref v0)]))
    obtain ⟨fs8, hr8, hrun8, hended8, hW8, hsame8⟩ := X6.leave (v := (some (.ref v0))) (fun h => by rw [Bd.returns] at h; cases h)
    refine ⟨_, _, retOut X6 hx Bd.returns rfl (Or.inr (Or.inr (Or.inr (Or.inr ⟨rfl, rfl, rfl⟩)))) (hb hby d_prog_10_method_4_30) hr8, hrun8, hended8, _, _, rfl, ?_, ⟨_, rfl⟩, hW8, hsame8.mono (by decide) (by decide)⟩
    show Q2 Z c va kv v0 v1 v2 v3 h0 n0 _ T6.heap _
    rw [e6]
    exact ⟨(by rw [← hc7]; rfl), N1, ((Keep.refl h0 []).ext E1)⟩
  · skip
    refine OwnFin.step (fun tT kK => XS.icmpYes X6.here hx rfl (pc0 := 25) (pc' := 31) rfl (hb hby d_prog_10_method_4_25) rfl (feq (hc7 : ¬ ((43 : Int32) = c))).2 (by decide) (by decide) kK) ?_
    show OwnFin p e below _ (T6.setTop (mkF m 31 #[.val (.int c), .val (.ref b2), .val (.int (4 : Int32)), .val (.int (0 : Int32)), .val (.ref v0)] []))
    refine OwnFin.step (fun tT kK => XS.iinc X6.here hx rfl (hb hby d_prog_10_method_4_31) rfl (l' := #[.val (.int c), .val (.ref b2), .val (.int (4 : Int32)), .val (.int (1 : Int32)), .val (.ref v0)]) rfl kK) ?_
    show OwnFin p e below _ (T6.setTop (mkF m 34 #[.val (.int c), .val (.ref b2), .val (.int (4 : Int32)), .val (.int (1 : Int32)), .val (.ref v0)] []))
    refine OwnFin.step (fun tT kK => XS.goto X6.here hx rfl (pc0 := 34) (pc' := 9) rfl (hb hby d_prog_10_method_4_34) (by decide) (by decide) kK) ?_
    show OwnFin p e below _ (T6.setTop (mkF m 9 #[.val (.int c), .val (.ref b2), .val (.int (4 : Int32)), .val (.int (1 : Int32)), .val (.ref v0)] []))
    refine OwnFin.step (fun tT kK => XS.iloadN X6.here hx rfl (hb hby d_prog_10_method_4_9) rfl kK) ?_
    show OwnFin p e below _ (T6.setTop (mkF m 10 #[.val (.int c), .val (.ref b2), .val (.int (4 : Int32)), .val (.int (1 : Int32)), .val (.ref v0)] [(.int (1 : Int32))]))
    refine OwnFin.step (fun tT kK => XS.iloadN X6.here hx rfl (hb hby d_prog_10_method_4_10) rfl kK) ?_
    show OwnFin p e below _ (T6.setTop (mkF m 11 #[.val (.int c), .val (.ref b2), .val (.int (4 : Int32)), .val (.int (1 : Int32)), .val (.ref v0)] [(.int (4 : Int32)), (.int (1 : Int32))]))
    refine OwnFin.step (fun tT kK => XS.icmpNo X6.here hx rfl (hb hby d_prog_10_method_4_11) rfl (tlt (by decide : (1 : Int32) < (4 : Int32))).2.1 kK) ?_
    show OwnFin p e below _ (T6.setTop (mkF m 14 #[.val (.int c), .val (.ref b2), .val (.int (4 : Int32)), .val (.int (1 : Int32)), .val (.ref v0)] []))
    refine OwnFin.step (fun tT kK => XS.aloadN X6.here hx rfl (hb hby d_prog_10_method_4_14) rfl rfl kK) ?_
    show OwnFin p e below _ (T6.setTop (mkF m 15 #[.val (.int c), .val (.ref b2), .val (.int (4 : Int32)), .val (.int (1 : Int32)), .val (.ref v0)] [(.ref b2)]))
    refine OwnFin.step (fun tT kK => XS.iloadN X6.here hx rfl (hb hby d_prog_10_method_4_15) rfl kK) ?_
    show OwnFin p e below _ (T6.setTop (mkF m 16 #[.val (.int c), .val (.ref b2), .val (.int (4 : Int32)), .val (.int (1 : Int32)), .val (.ref v0)] [(.int (1 : Int32)), (.ref b2)]))
    obtain ⟨cl9, Ar9, q9, Sz9, Ng9, H9, G9⟩ := id P1_0
    have hin9 : ¬ ((1 : Int32) < 0 ∨ cl9.slots.size ≤ ((1 : Int32)).toNatClampNeg) := inb_of Sz9 ⟨by decide, by decide⟩
    refine OwnFin.step (fun tT kK => X6.aaload hx (j := (1 : Int32)) (v := (.ref v1)) (by rw [e6]; exact Ar9.1) (State.isArrayOf_alike hZ.alike Ar9.2.1) rfl Ar9.2.2 hin9 (H9.at hin9 rfl) (g := (mkF m 16 #[.val (.int c), .val (.ref b2), .val (.int (4 : Int32)), .val (.int (1 : Int32)), .val (.ref v0)] [(.int (1 : Int32)), (.ref b2)])) rfl rfl (hb hby d_prog_10_method_4_16) _ kK) ?_
    show OwnFin p e below _ (T6.setTop (mkF m 17 #[.val (.int c), .val (.ref b2), .val (.int (4 : Int32)), .val (.int (1 : Int32)), .val (.ref v0)] [(.ref v1)]))
    refine OwnFin.step (fun tT kK => XS.astore X6.here hx rfl (hb hby d_prog_10_method_4_17) rfl rfl (l' := #[.val (.int c), .val (.ref b2), .val (.int (4 : Int32)), .val (.int (1 : Int32)), .val (.ref v1)]) rfl kK) ?_
    show OwnFin p e below _ (T6.setTop (mkF m 19 #[.val (.int c), .val (.ref b2), .val (.int (4 : Int32)), .val (.int (1 : Int32)), .val (.ref v1)] []))
    refine OwnFin.step (fun tT kK => XS.aload X6.here hx rfl (hb hby d_prog_10_method_4_19) rfl rfl kK) ?_
    show OwnFin p e below _ (T6.setTop (mkF m 21 #[.val (.int c), .val (.ref b2), .val (.int (4 : Int32)), .val (.int (1 : Int32)), .val (.ref v1)] [(.ref v1)]))
    have f10 : Fld Z T1.heap v1 "com/example/covenantry/covenantry/compute/Expression$Operator" "symbol" "C" (.int (45 : Int32)) := (hp4.ext E1)
    obtain ⟨T11, X11, e11, st11⟩ := getF X6 hx hZ hown (host := "") (Or.inl (hw _ (List.mem_of_getElem? (i := 23) rfl))) Via.refl e6 f10 (g := (mkF m 21 #[.val (.int c), .val (.ref b2), .val (.int (4 : Int32)), .val (.int (1 : Int32)), .val (.ref v1)] [(.ref v1)])) rfl rfl (hb hby d_prog_10_method_4_21)
    refine OwnFin.step st11 ?_
    show OwnFin p e below _ (T11.setTop (mkF m 24 #[.val (.int c), .val (.ref b2), .val (.int (4 : Int32)), .val (.int (1 : Int32)), .val (.ref v1)] [(.int (45 : Int32))]))
    refine OwnFin.step (fun tT kK => XS.iloadN X11.here hx rfl (hb hby d_prog_10_method_4_24) rfl kK) ?_
    show OwnFin p e below _ (T11.setTop (mkF m 25 #[.val (.int c), .val (.ref b2), .val (.int (4 : Int32)), .val (.int (1 : Int32)), .val (.ref v1)] [(.int c), (.int (45 : Int32))]))
    by_cases hc12 : (45 : Int32) = c
    · skip
      refine OwnFin.step (fun tT kK => XS.icmpNo X11.here hx rfl (hb hby d_prog_10_method_4_25) rfl (teq (hc12 : (45 : Int32) = c)).2 kK) ?_
      show OwnFin p e below _ (T11.setTop (mkF m 28 #[.val (.int c), .val (.ref b2), .val (.int (4 : Int32)), .val (.int (1 : Int32)), .val (.ref v1)] []))
      refine OwnFin.step (fun tT kK => XS.aload X11.here hx rfl (hb hby d_prog_10_method_4_28) rfl rfl kK) ?_
      show OwnFin p e below _ (T11.setTop (mkF m 30 #[.val (.int c), .val (.ref b2), .val (.int (4 : Int32)), .val (.int (1 : Int32)), .val (.ref v1)] [(.ref v1)]))
      obtain ⟨fs13, hr13, hrun13, hended13, hW13, hsame13⟩ := X11.leave (v := (some (.ref v1))) (fun h => by rw [Bd.returns] at h; cases h)
      refine ⟨_, _, retOut X11 hx Bd.returns rfl (Or.inr (Or.inr (Or.inr (Or.inr ⟨rfl, rfl, rfl⟩)))) (hb hby d_prog_10_method_4_30) hr13, hrun13, hended13, _, _, rfl, ?_, ⟨_, rfl⟩, hW13, hsame13.mono (by decide) (by decide)⟩
      show Q2 Z c va kv v0 v1 v2 v3 h0 n0 _ T11.heap _
      rw [e11]
      exact ⟨(by rw [← hc12]; rfl), N1, ((Keep.refl h0 []).ext E1)⟩
    · skip
      refine OwnFin.step (fun tT kK => XS.icmpYes X11.here hx rfl (pc0 := 25) (pc' := 31) rfl (hb hby d_prog_10_method_4_25) rfl (feq (hc12 : ¬ ((45 : Int32) = c))).2 (by decide) (by decide) kK) ?_
      show OwnFin p e below _ (T11.setTop (mkF m 31 #[.val (.int c), .val (.ref b2), .val (.int (4 : Int32)), .val (.int (1 : Int32)), .val (.ref v1)] []))
      refine OwnFin.step (fun tT kK => XS.iinc X11.here hx rfl (hb hby d_prog_10_method_4_31) rfl (l' := #[.val (.int c), .val (.ref b2), .val (.int (4 : Int32)), .val (.int (2 : Int32)), .val (.ref v1)]) rfl kK) ?_
      show OwnFin p e below _ (T11.setTop (mkF m 34 #[.val (.int c), .val (.ref b2), .val (.int (4 : Int32)), .val (.int (2 : Int32)), .val (.ref v1)] []))
      refine OwnFin.step (fun tT kK => XS.goto X11.here hx rfl (pc0 := 34) (pc' := 9) rfl (hb hby d_prog_10_method_4_34) (by decide) (by decide) kK) ?_
      show OwnFin p e below _ (T11.setTop (mkF m 9 #[.val (.int c), .val (.ref b2), .val (.int (4 : Int32)), .val (.int (2 : Int32)), .val (.ref v1)] []))
      refine OwnFin.step (fun tT kK => XS.iloadN X11.here hx rfl (hb hby d_prog_10_method_4_9) rfl kK) ?_
      show OwnFin p e below _ (T11.setTop (mkF m 10 #[.val (.int c), .val (.ref b2), .val (.int (4 : Int32)), .val (.int (2 : Int32)), .val (.ref v1)] [(.int (2 : Int32))]))
      refine OwnFin.step (fun tT kK => XS.iloadN X11.here hx rfl (hb hby d_prog_10_method_4_10) rfl kK) ?_
      show OwnFin p e below _ (T11.setTop (mkF m 11 #[.val (.int c), .val (.ref b2), .val (.int (4 : Int32)), .val (.int (2 : Int32)), .val (.ref v1)] [(.int (4 : Int32)), (.int (2 : Int32))]))
      refine OwnFin.step (fun tT kK => XS.icmpNo X11.here hx rfl (hb hby d_prog_10_method_4_11) rfl (tlt (by decide : (2 : Int32) < (4 : Int32))).2.1 kK) ?_
      show OwnFin p e below _ (T11.setTop (mkF m 14 #[.val (.int c), .val (.ref b2), .val (.int (4 : Int32)), .val (.int (2 : Int32)), .val (.ref v1)] []))
      refine OwnFin.step (fun tT kK => XS.aloadN X11.here hx rfl (hb hby d_prog_10_method_4_14) rfl rfl kK) ?_
      show OwnFin p e below _ (T11.setTop (mkF m 15 #[.val (.int c), .val (.ref b2), .val (.int (4 : Int32)), .val (.int (2 : Int32)), .val (.ref v1)] [(.ref b2)]))
      refine OwnFin.step (fun tT kK => XS.iloadN X11.here hx rfl (hb hby d_prog_10_method_4_15) rfl kK) ?_
      show OwnFin p e below _ (T11.setTop (mkF m 16 #[.val (.int c), .val (.ref b2), .val (.int (4 : Int32)), .val (.int (2 : Int32)), .val (.ref v1)] [(.int (2 : Int32)), (.ref b2)]))
      obtain ⟨cl14, Ar14, q14, Sz14, Ng14, H14, G14⟩ := id P1_0
      have hin14 : ¬ ((2 : Int32) < 0 ∨ cl14.slots.size ≤ ((2 : Int32)).toNatClampNeg) := inb_of Sz14 ⟨by decide, by decide⟩
      refine OwnFin.step (fun tT kK => X11.aaload hx (j := (2 : Int32)) (v := (.ref v2)) (by rw [e11]; exact Ar14.1) (State.isArrayOf_alike hZ.alike Ar14.2.1) rfl Ar14.2.2 hin14 (H14.at hin14 rfl) (g := (mkF m 16 #[.val (.int c), .val (.ref b2), .val (.int (4 : Int32)), .val (.int (2 : Int32)), .val (.ref v1)] [(.int (2 : Int32)), (.ref b2)])) rfl rfl (hb hby d_prog_10_method_4_16) _ kK) ?_
      show OwnFin p e below _ (T11.setTop (mkF m 17 #[.val (.int c), .val (.ref b2), .val (.int (4 : Int32)), .val (.int (2 : Int32)), .val (.ref v1)] [(.ref v2)]))
      refine OwnFin.step (fun tT kK => XS.astore X11.here hx rfl (hb hby d_prog_10_method_4_17) rfl rfl (l' := #[.val (.int c), .val (.ref b2), .val (.int (4 : Int32)), .val (.int (2 : Int32)), .val (.ref v2)]) rfl kK) ?_
      show OwnFin p e below _ (T11.setTop (mkF m 19 #[.val (.int c), .val (.ref b2), .val (.int (4 : Int32)), .val (.int (2 : Int32)), .val (.ref v2)] []))
      refine OwnFin.step (fun tT kK => XS.aload X11.here hx rfl (hb hby d_prog_10_method_4_19) rfl rfl kK) ?_
      show OwnFin p e below _ (T11.setTop (mkF m 21 #[.val (.int c), .val (.ref b2), .val (.int (4 : Int32)), .val (.int (2 : Int32)), .val (.ref v2)] [(.ref v2)]))
      have f15 : Fld Z T1.heap v2 "com/example/covenantry/covenantry/compute/Expression$Operator" "symbol" "C" (.int (42 : Int32)) := (hp5.ext E1)
      obtain ⟨T16, X16, e16, st16⟩ := getF X11 hx hZ hown (host := "") (Or.inl (hw _ (List.mem_of_getElem? (i := 23) rfl))) Via.refl e11 f15 (g := (mkF m 21 #[.val (.int c), .val (.ref b2), .val (.int (4 : Int32)), .val (.int (2 : Int32)), .val (.ref v2)] [(.ref v2)])) rfl rfl (hb hby d_prog_10_method_4_21)
      refine OwnFin.step st16 ?_
      show OwnFin p e below _ (T16.setTop (mkF m 24 #[.val (.int c), .val (.ref b2), .val (.int (4 : Int32)), .val (.int (2 : Int32)), .val (.ref v2)] [(.int (42 : Int32))]))
      refine OwnFin.step (fun tT kK => XS.iloadN X16.here hx rfl (hb hby d_prog_10_method_4_24) rfl kK) ?_
      show OwnFin p e below _ (T16.setTop (mkF m 25 #[.val (.int c), .val (.ref b2), .val (.int (4 : Int32)), .val (.int (2 : Int32)), .val (.ref v2)] [(.int c), (.int (42 : Int32))]))
      by_cases hc17 : (42 : Int32) = c
      · skip
        refine OwnFin.step (fun tT kK => XS.icmpNo X16.here hx rfl (hb hby d_prog_10_method_4_25) rfl (teq (hc17 : (42 : Int32) = c)).2 kK) ?_
        show OwnFin p e below _ (T16.setTop (mkF m 28 #[.val (.int c), .val (.ref b2), .val (.int (4 : Int32)), .val (.int (2 : Int32)), .val (.ref v2)] []))
        refine OwnFin.step (fun tT kK => XS.aload X16.here hx rfl (hb hby d_prog_10_method_4_28) rfl rfl kK) ?_
        show OwnFin p e below _ (T16.setTop (mkF m 30 #[.val (.int c), .val (.ref b2), .val (.int (4 : Int32)), .val (.int (2 : Int32)), .val (.ref v2)] [(.ref v2)]))
        obtain ⟨fs18, hr18, hrun18, hended18, hW18, hsame18⟩ := X16.leave (v := (some (.ref v2))) (fun h => by rw [Bd.returns] at h; cases h)
        refine ⟨_, _, retOut X16 hx Bd.returns rfl (Or.inr (Or.inr (Or.inr (Or.inr ⟨rfl, rfl, rfl⟩)))) (hb hby d_prog_10_method_4_30) hr18, hrun18, hended18, _, _, rfl, ?_, ⟨_, rfl⟩, hW18, hsame18.mono (by decide) (by decide)⟩
        show Q2 Z c va kv v0 v1 v2 v3 h0 n0 _ T16.heap _
        rw [e16]
        exact ⟨(by rw [← hc17]; rfl), N1, ((Keep.refl h0 []).ext E1)⟩
      · skip
        refine OwnFin.step (fun tT kK => XS.icmpYes X16.here hx rfl (pc0 := 25) (pc' := 31) rfl (hb hby d_prog_10_method_4_25) rfl (feq (hc17 : ¬ ((42 : Int32) = c))).2 (by decide) (by decide) kK) ?_
        show OwnFin p e below _ (T16.setTop (mkF m 31 #[.val (.int c), .val (.ref b2), .val (.int (4 : Int32)), .val (.int (2 : Int32)), .val (.ref v2)] []))
        refine OwnFin.step (fun tT kK => XS.iinc X16.here hx rfl (hb hby d_prog_10_method_4_31) rfl (l' := #[.val (.int c), .val (.ref b2), .val (.int (4 : Int32)), .val (.int (3 : Int32)), .val (.ref v2)]) rfl kK) ?_
        show OwnFin p e below _ (T16.setTop (mkF m 34 #[.val (.int c), .val (.ref b2), .val (.int (4 : Int32)), .val (.int (3 : Int32)), .val (.ref v2)] []))
        refine OwnFin.step (fun tT kK => XS.goto X16.here hx rfl (pc0 := 34) (pc' := 9) rfl (hb hby d_prog_10_method_4_34) (by decide) (by decide) kK) ?_
        show OwnFin p e below _ (T16.setTop (mkF m 9 #[.val (.int c), .val (.ref b2), .val (.int (4 : Int32)), .val (.int (3 : Int32)), .val (.ref v2)] []))
        refine OwnFin.step (fun tT kK => XS.iloadN X16.here hx rfl (hb hby d_prog_10_method_4_9) rfl kK) ?_
        show OwnFin p e below _ (T16.setTop (mkF m 10 #[.val (.int c), .val (.ref b2), .val (.int (4 : Int32)), .val (.int (3 : Int32)), .val (.ref v2)] [(.int (3 : Int32))]))
        refine OwnFin.step (fun tT kK => XS.iloadN X16.here hx rfl (hb hby d_prog_10_method_4_10) rfl kK) ?_
        show OwnFin p e below _ (T16.setTop (mkF m 11 #[.val (.int c), .val (.ref b2), .val (.int (4 : Int32)), .val (.int (3 : Int32)), .val (.ref v2)] [(.int (4 : Int32)), (.int (3 : Int32))]))
        refine OwnFin.step (fun tT kK => XS.icmpNo X16.here hx rfl (hb hby d_prog_10_method_4_11) rfl (tlt (by decide : (3 : Int32) < (4 : Int32))).2.1 kK) ?_
        show OwnFin p e below _ (T16.setTop (mkF m 14 #[.val (.int c), .val (.ref b2), .val (.int (4 : Int32)), .val (.int (3 : Int32)), .val (.ref v2)] []))
        refine OwnFin.step (fun tT kK => XS.aloadN X16.here hx rfl (hb hby d_prog_10_method_4_14) rfl rfl kK) ?_
        show OwnFin p e below _ (T16.setTop (mkF m 15 #[.val (.int c), .val (.ref b2), .val (.int (4 : Int32)), .val (.int (3 : Int32)), .val (.ref v2)] [(.ref b2)]))
        refine OwnFin.step (fun tT kK => XS.iloadN X16.here hx rfl (hb hby d_prog_10_method_4_15) rfl kK) ?_
        show OwnFin p e below _ (T16.setTop (mkF m 16 #[.val (.int c), .val (.ref b2), .val (.int (4 : Int32)), .val (.int (3 : Int32)), .val (.ref v2)] [(.int (3 : Int32)), (.ref b2)]))
        obtain ⟨cl19, Ar19, q19, Sz19, Ng19, H19, G19⟩ := id P1_0
        have hin19 : ¬ ((3 : Int32) < 0 ∨ cl19.slots.size ≤ ((3 : Int32)).toNatClampNeg) := inb_of Sz19 ⟨by decide, by decide⟩
        refine OwnFin.step (fun tT kK => X16.aaload hx (j := (3 : Int32)) (v := (.ref v3)) (by rw [e16]; exact Ar19.1) (State.isArrayOf_alike hZ.alike Ar19.2.1) rfl Ar19.2.2 hin19 (H19.at hin19 rfl) (g := (mkF m 16 #[.val (.int c), .val (.ref b2), .val (.int (4 : Int32)), .val (.int (3 : Int32)), .val (.ref v2)] [(.int (3 : Int32)), (.ref b2)])) rfl rfl (hb hby d_prog_10_method_4_16) _ kK) ?_
        show OwnFin p e below _ (T16.setTop (mkF m 17 #[.val (.int c), .val (.ref b2), .val (.int (4 : Int32)), .val (.int (3 : Int32)), .val (.ref v2)] [(.ref v3)]))
        refine OwnFin.step (fun tT kK => XS.astore X16.here hx rfl (hb hby d_prog_10_method_4_17) rfl rfl (l' := #[.val (.int c), .val (.ref b2), .val (.int (4 : Int32)), .val (.int (3 : Int32)), .val (.ref v3)]) rfl kK) ?_
        show OwnFin p e below _ (T16.setTop (mkF m 19 #[.val (.int c), .val (.ref b2), .val (.int (4 : Int32)), .val (.int (3 : Int32)), .val (.ref v3)] []))
        refine OwnFin.step (fun tT kK => XS.aload X16.here hx rfl (hb hby d_prog_10_method_4_19) rfl rfl kK) ?_
        show OwnFin p e below _ (T16.setTop (mkF m 21 #[.val (.int c), .val (.ref b2), .val (.int (4 : Int32)), .val (.int (3 : Int32)), .val (.ref v3)] [(.ref v3)]))
        have f20 : Fld Z T1.heap v3 "com/example/covenantry/covenantry/compute/Expression$Operator" "symbol" "C" (.int (47 : Int32)) := (hp6.ext E1)
        obtain ⟨T21, X21, e21, st21⟩ := getF X16 hx hZ hown (host := "") (Or.inl (hw _ (List.mem_of_getElem? (i := 23) rfl))) Via.refl e16 f20 (g := (mkF m 21 #[.val (.int c), .val (.ref b2), .val (.int (4 : Int32)), .val (.int (3 : Int32)), .val (.ref v3)] [(.ref v3)])) rfl rfl (hb hby d_prog_10_method_4_21)
        refine OwnFin.step st21 ?_
        show OwnFin p e below _ (T21.setTop (mkF m 24 #[.val (.int c), .val (.ref b2), .val (.int (4 : Int32)), .val (.int (3 : Int32)), .val (.ref v3)] [(.int (47 : Int32))]))
        refine OwnFin.step (fun tT kK => XS.iloadN X21.here hx rfl (hb hby d_prog_10_method_4_24) rfl kK) ?_
        show OwnFin p e below _ (T21.setTop (mkF m 25 #[.val (.int c), .val (.ref b2), .val (.int (4 : Int32)), .val (.int (3 : Int32)), .val (.ref v3)] [(.int c), (.int (47 : Int32))]))
        by_cases hc22 : (47 : Int32) = c
        · skip
          refine OwnFin.step (fun tT kK => XS.icmpNo X21.here hx rfl (hb hby d_prog_10_method_4_25) rfl (teq (hc22 : (47 : Int32) = c)).2 kK) ?_
          show OwnFin p e below _ (T21.setTop (mkF m 28 #[.val (.int c), .val (.ref b2), .val (.int (4 : Int32)), .val (.int (3 : Int32)), .val (.ref v3)] []))
          refine OwnFin.step (fun tT kK => XS.aload X21.here hx rfl (hb hby d_prog_10_method_4_28) rfl rfl kK) ?_
          show OwnFin p e below _ (T21.setTop (mkF m 30 #[.val (.int c), .val (.ref b2), .val (.int (4 : Int32)), .val (.int (3 : Int32)), .val (.ref v3)] [(.ref v3)]))
          obtain ⟨fs23, hr23, hrun23, hended23, hW23, hsame23⟩ := X21.leave (v := (some (.ref v3))) (fun h => by rw [Bd.returns] at h; cases h)
          refine ⟨_, _, retOut X21 hx Bd.returns rfl (Or.inr (Or.inr (Or.inr (Or.inr ⟨rfl, rfl, rfl⟩)))) (hb hby d_prog_10_method_4_30) hr23, hrun23, hended23, _, _, rfl, ?_, ⟨_, rfl⟩, hW23, hsame23.mono (by decide) (by decide)⟩
          show Q2 Z c va kv v0 v1 v2 v3 h0 n0 _ T21.heap _
          rw [e21]
          exact ⟨(by rw [← hc22]; rfl), N1, ((Keep.refl h0 []).ext E1)⟩
        · skip
          refine OwnFin.step (fun tT kK => XS.icmpYes X21.here hx rfl (pc0 := 25) (pc' := 31) rfl (hb hby d_prog_10_method_4_25) rfl (feq (hc22 : ¬ ((47 : Int32) = c))).2 (by decide) (by decide) kK) ?_
          show OwnFin p e below _ (T21.setTop (mkF m 31 #[.val (.int c), .val (.ref b2), .val (.int (4 : Int32)), .val (.int (3 : Int32)), .val (.ref v3)] []))
          refine OwnFin.step (fun tT kK => XS.iinc X21.here hx rfl (hb hby d_prog_10_method_4_31) rfl (l' := #[.val (.int c), .val (.ref b2), .val (.int (4 : Int32)), .val (.int (4 : Int32)), .val (.ref v3)]) rfl kK) ?_
          show OwnFin p e below _ (T21.setTop (mkF m 34 #[.val (.int c), .val (.ref b2), .val (.int (4 : Int32)), .val (.int (4 : Int32)), .val (.ref v3)] []))
          refine OwnFin.step (fun tT kK => XS.goto X21.here hx rfl (pc0 := 34) (pc' := 9) rfl (hb hby d_prog_10_method_4_34) (by decide) (by decide) kK) ?_
          show OwnFin p e below _ (T21.setTop (mkF m 9 #[.val (.int c), .val (.ref b2), .val (.int (4 : Int32)), .val (.int (4 : Int32)), .val (.ref v3)] []))
          refine OwnFin.step (fun tT kK => XS.iloadN X21.here hx rfl (hb hby d_prog_10_method_4_9) rfl kK) ?_
          show OwnFin p e below _ (T21.setTop (mkF m 10 #[.val (.int c), .val (.ref b2), .val (.int (4 : Int32)), .val (.int (4 : Int32)), .val (.ref v3)] [(.int (4 : Int32))]))
          refine OwnFin.step (fun tT kK => XS.iloadN X21.here hx rfl (hb hby d_prog_10_method_4_10) rfl kK) ?_
          show OwnFin p e below _ (T21.setTop (mkF m 11 #[.val (.int c), .val (.ref b2), .val (.int (4 : Int32)), .val (.int (4 : Int32)), .val (.ref v3)] [(.int (4 : Int32)), (.int (4 : Int32))]))
          refine OwnFin.step (fun tT kK => XS.icmpYes X21.here hx rfl (pc0 := 11) (pc' := 37) rfl (hb hby d_prog_10_method_4_11) rfl (flt (by decide : ¬ ((4 : Int32) < (4 : Int32)))).2.1 (by decide) (by decide) kK) ?_
          show OwnFin p e below _ (T21.setTop (mkF m 37 #[.val (.int c), .val (.ref b2), .val (.int (4 : Int32)), .val (.int (4 : Int32)), .val (.ref v3)] []))
          refine OwnFin.step (fun tT kK => XS.aconstNull X21.here hx rfl (hb hby d_prog_10_method_4_37) kK) ?_
          show OwnFin p e below _ (T21.setTop (mkF m 38 #[.val (.int c), .val (.ref b2), .val (.int (4 : Int32)), .val (.int (4 : Int32)), .val (.ref v3)] [.null]))
          obtain ⟨fs24, hr24, hrun24, hended24, hW24, hsame24⟩ := X21.leave (v := (some .null)) (fun h => by rw [Bd.returns] at h; cases h)
          refine ⟨_, _, retOut X21 hx Bd.returns rfl (Or.inr (Or.inr (Or.inr (Or.inr ⟨rfl, rfl, rfl⟩)))) (hb hby d_prog_10_method_4_38) hr24, hrun24, hended24, _, _, rfl, ?_, ⟨_, rfl⟩, hW24, hsame24.mono (by decide) (by decide)⟩
          show Q2 Z c va kv v0 v1 v2 v3 h0 n0 _ T21.heap _
          rw [e21]
          exact ⟨(by rw [own_op4 (fun q => hc7 q.symm) (fun q => hc12 q.symm) (fun q => hc17 q.symm) (fun q => hc22 q.symm)]), N1, ((Keep.refl h0 []).ext E1)⟩
theorem pn_30 : plainName "com/example/covenantry/covenantry/compute/OperatorOfPinLaw" = true := by first | (simp [plainName, overriddenIn]; done) | decide +kernel
theorem d_method_3_0 : decode method_3_code 0 = .ok (.iload_n 0, 1) := by decide +kernel
theorem d_method_3_1 : decode method_3_code 1 = .ok (.bipush 43, 2) := by decide +kernel
theorem d_method_3_3 : decode method_3_code 3 = .ok (.if_icmp .ne 7, 3) := by decide +kernel
theorem d_method_3_6 : decode method_3_code 6 = .ok (.getstatic 18, 3) := by decide +kernel
theorem d_method_3_9 : decode method_3_code 9 = .ok (.areturn, 1) := by decide +kernel
theorem d_method_3_10 : decode method_3_code 10 = .ok (.iload_n 0, 1) := by decide +kernel
theorem d_method_3_11 : decode method_3_code 11 = .ok (.bipush 45, 2) := by decide +kernel
theorem d_method_3_13 : decode method_3_code 13 = .ok (.if_icmp .ne 7, 3) := by decide +kernel
theorem d_method_3_16 : decode method_3_code 16 = .ok (.getstatic 22, 3) := by decide +kernel
theorem d_method_3_19 : decode method_3_code 19 = .ok (.areturn, 1) := by decide +kernel
theorem d_method_3_20 : decode method_3_code 20 = .ok (.iload_n 0, 1) := by decide +kernel
theorem d_method_3_21 : decode method_3_code 21 = .ok (.bipush 42, 2) := by decide +kernel
theorem d_method_3_23 : decode method_3_code 23 = .ok (.if_icmp .ne 7, 3) := by decide +kernel
theorem d_method_3_26 : decode method_3_code 26 = .ok (.getstatic 25, 3) := by decide +kernel
theorem d_method_3_29 : decode method_3_code 29 = .ok (.areturn, 1) := by decide +kernel
theorem d_method_3_30 : decode method_3_code 30 = .ok (.iload_n 0, 1) := by decide +kernel
theorem d_method_3_31 : decode method_3_code 31 = .ok (.bipush 47, 2) := by decide +kernel
theorem d_method_3_33 : decode method_3_code 33 = .ok (.if_icmp .ne 7, 3) := by decide +kernel
theorem d_method_3_36 : decode method_3_code 36 = .ok (.getstatic 28, 3) := by decide +kernel
theorem d_method_3_39 : decode method_3_code 39 = .ok (.areturn, 1) := by decide +kernel
theorem d_method_3_40 : decode method_3_code 40 = .ok (.aconst_null, 1) := by decide +kernel
theorem d_method_3_41 : decode method_3_code 41 = .ok (.areturn, 1) := by decide +kernel
theorem ef_3 (m : MethodId) (c : Int32) : entryFrame m #[(.int c)] 1 = mkF m 0 #[.val (.int c)] [] := by first | (simp [entryFrame, mkF, argsToLocals, Value.category]; done) | rfl
def Q3 (Z : State) (c : Int32) (v0 : Addr) (v1 : Addr) (v2 : Addr) (v3 : Addr) (h0 : Heap) (n0 : Nat) (vV : Option Value) (hH : Heap) (LL : List Loc) : Prop := vV = some (OwnOp c v0 v1 v2 v3) ∧ Fr n0 LL ∧ hH = h0
def R3 (Z : State) (c : Int32) (v0 : Addr) (v1 : Addr) (v2 : Addr) (v3 : Addr) (h0 : Heap) (n0 : Nat) (U : State) (o : Outcome) (U' : State) : Prop := ∃ vV LL, o = .returned vV ∧ Q3 Z c v0 v1 v2 v3 h0 n0 vV U'.heap LL ∧ FrameEnd U o U' LL ({ frames := 0, cells := 0, slots := 0, locals := 0 } : Room).cells ({ frames := 0, cells := 0, slots := 0, locals := 0 } : Room).slots
set_option maxRecDepth 65536 in
set_option maxHeartbeats 40000000 in
theorem rm3 (l : Launch) (Z : State) (a0 : Array Value) (hw : ∀ d ∈ tables_1, d.before a0 Z = true) (ws : List Jvm.Cond) (c : Int32) (v0 : Addr) (v1 : Addr) (v2 : Addr) (v3 : Addr) (h0 : Heap) (n0 : Nat) (Z0 : n0 ≤ h0.size) (hp0 : Sta Z h0 "com/example/covenantry/covenantry/compute/Expression$Operator" "ADD" "Lcom/example/covenantry/covenantry/compute/Expression$Operator;" (.ref v0)) (hp1 : Sta Z h0 "com/example/covenantry/covenantry/compute/Expression$Operator" "SUBTRACT" "Lcom/example/covenantry/covenantry/compute/Expression$Operator;" (.ref v1)) (hp2 : Sta Z h0 "com/example/covenantry/covenantry/compute/Expression$Operator" "MULTIPLY" "Lcom/example/covenantry/covenantry/compute/Expression$Operator;" (.ref v2)) (hp3 : Sta Z h0 "com/example/covenantry/covenantry/compute/Expression$Operator" "DIVIDE" "Lcom/example/covenantry/covenantry/compute/Expression$Operator;" (.ref v3)) :
    MetFree l (⟨"com/example/covenantry/covenantry/compute/OperatorOfPinLaw", "expected", "(C)Lcom/example/covenantry/covenantry/compute/Expression$Operator;"⟩ : MethodName) (head1 (Jvm.Cond.code (⟨"com/example/covenantry/covenantry/compute/OperatorOfPinLaw", "expected", "(C)Lcom/example/covenantry/covenantry/compute/Expression$Operator;"⟩ : MethodName) method_3_code 1 (some (.object "com/example/covenantry/covenantry/compute/Expression$Operator")) :: ws) ({ frames := 0, cells := 0, slots := 0, locals := 0 } : Room)) (fun aA U => aA = #[(.int c)] ∧ Z.Warmed39 U.vm ∧ U.heap = h0) (fun _ _ _ _ _ => True) (fun _ U o U' => ∃ vV LL, o = .returned vV ∧ Q3 Z c v0 v1 v2 v3 h0 n0 vV U'.heap LL ∧ FrameEnd U o U' LL ({ frames := 0, cells := 0, slots := 0, locals := 0 } : Room).cells ({ frames := 0, cells := 0, slots := 0, locals := 0 } : Room).slots) := by
  refine MetFree.of_bodySF (plainFor_of_name pn_30) hisR ?_
  intro p e s m args below meth cC s₁ Bd hml0 hP hK
  obtain ⟨rfl, hZ, hh⟩ := hP
  have hx := Bd.exec
  have hby := Bd.bytes
  have hml : cC.maxLocals = 1 := hml0
  have hown : s.vm.findClass "com/example/covenantry/covenantry/compute/OperatorOfPinLaw" = some m.cls := findClass_of_methodNamed Bd.named
  have hnm := (name_of_methodNamed Bd.named Bd.method).1
  have X0 : Stand p l e ({ frames := 0, cells := 0, slots := 0, locals := 0 } : Room) s m #[(.int c)] below meth cC s₁ [] 0 0 := Stand.of_body Bd
  have e0 : s₁.heap = h0 := by rw [← hh, Bd.state]; rfl
  have N0 := Fr.nil n0
  show OwnFin p e below (R3 Z c v0 v1 v2 v3 h0 n0 s) (s₁.setTop (entryFrame m #[(.int c)] 1))
  rw [ef_3 m c]
  refine OwnFin.step (fun tT kK => XS.iloadN X0.here hx rfl (hb hby d_method_3_0) rfl kK) ?_
  show OwnFin p e below _ (s₁.setTop (mkF m 1 #[.val (.int c)] [(.int c)]))
  refine OwnFin.step (fun tT kK => XS.bipush X0.here hx rfl (hb hby d_method_3_1) kK) ?_
  show OwnFin p e below _ (s₁.setTop (mkF m 3 #[.val (.int c)] [(.int (43 : Int32)), (.int c)]))
  by_cases hc1 : c = (43 : Int32)
  · skip
    refine OwnFin.step (fun tT kK => XS.icmpNo X0.here hx rfl (hb hby d_method_3_3) rfl (teq (hc1 : c = (43 : Int32))).2 kK) ?_
    show OwnFin p e below _ (s₁.setTop (mkF m 6 #[.val (.int c)] []))
    obtain ⟨T2, X2, e2, st2⟩ := getS2 X0 hx hZ hown (host := "") (Or.inl (hw _ (List.mem_of_getElem? (i := 29) rfl))) Via.refl e0 hp0 (g := (mkF m 6 #[.val (.int c)] [])) rfl (hb hby d_method_3_6)
    refine OwnFin.step st2 ?_
    show OwnFin p e below _ (T2.setTop (mkF m 9 #[.val (.int c)] [(.ref v0)]))
    obtain ⟨fs3, hr3, hrun3, hended3, hW3, hsame3⟩ := X2.leave (v := (some (.ref v0))) (fun h => by rw [Bd.returns] at h; cases h)
    refine ⟨_, _, retOut X2 hx Bd.returns rfl (Or.inr (Or.inr (Or.inr (Or.inr ⟨rfl, rfl, rfl⟩)))) (hb hby d_method_3_9) hr3, hrun3, hended3, _, _, rfl, ?_, ⟨_, rfl⟩, hW3, hsame3.mono (by decide) (by decide)⟩
    show Q3 Z c v0 v1 v2 v3 h0 n0 _ T2.heap _
    rw [e2]
    exact ⟨(by rw [hc1]; rfl), N0, rfl⟩
  · skip
    refine OwnFin.step (fun tT kK => XS.icmpYes X0.here hx rfl (pc0 := 3) (pc' := 10) rfl (hb hby d_method_3_3) rfl (feq (hc1 : ¬ (c = (43 : Int32)))).2 (by decide) (by decide) kK) ?_
    show OwnFin p e below _ (s₁.setTop (mkF m 10 #[.val (.int c)] []))
    refine OwnFin.step (fun tT kK => XS.iloadN X0.here hx rfl (hb hby d_method_3_10) rfl kK) ?_
    show OwnFin p e below _ (s₁.setTop (mkF m 11 #[.val (.int c)] [(.int c)]))
    refine OwnFin.step (fun tT kK => XS.bipush X0.here hx rfl (hb hby d_method_3_11) kK) ?_
    show OwnFin p e below _ (s₁.setTop (mkF m 13 #[.val (.int c)] [(.int (45 : Int32)), (.int c)]))
    by_cases hc4 : c = (45 : Int32)
    · skip
      refine OwnFin.step (fun tT kK => XS.icmpNo X0.here hx rfl (hb hby d_method_3_13) rfl (teq (hc4 : c = (45 : Int32))).2 kK) ?_
      show OwnFin p e below _ (s₁.setTop (mkF m 16 #[.val (.int c)] []))
      obtain ⟨T5, X5, e5, st5⟩ := getS2 X0 hx hZ hown (host := "") (Or.inl (hw _ (List.mem_of_getElem? (i := 31) rfl))) Via.refl e0 hp1 (g := (mkF m 16 #[.val (.int c)] [])) rfl (hb hby d_method_3_16)
      refine OwnFin.step st5 ?_
      show OwnFin p e below _ (T5.setTop (mkF m 19 #[.val (.int c)] [(.ref v1)]))
      obtain ⟨fs6, hr6, hrun6, hended6, hW6, hsame6⟩ := X5.leave (v := (some (.ref v1))) (fun h => by rw [Bd.returns] at h; cases h)
      refine ⟨_, _, retOut X5 hx Bd.returns rfl (Or.inr (Or.inr (Or.inr (Or.inr ⟨rfl, rfl, rfl⟩)))) (hb hby d_method_3_19) hr6, hrun6, hended6, _, _, rfl, ?_, ⟨_, rfl⟩, hW6, hsame6.mono (by decide) (by decide)⟩
      show Q3 Z c v0 v1 v2 v3 h0 n0 _ T5.heap _
      rw [e5]
      exact ⟨(by rw [hc4]; rfl), N0, rfl⟩
    · skip
      refine OwnFin.step (fun tT kK => XS.icmpYes X0.here hx rfl (pc0 := 13) (pc' := 20) rfl (hb hby d_method_3_13) rfl (feq (hc4 : ¬ (c = (45 : Int32)))).2 (by decide) (by decide) kK) ?_
      show OwnFin p e below _ (s₁.setTop (mkF m 20 #[.val (.int c)] []))
      refine OwnFin.step (fun tT kK => XS.iloadN X0.here hx rfl (hb hby d_method_3_20) rfl kK) ?_
      show OwnFin p e below _ (s₁.setTop (mkF m 21 #[.val (.int c)] [(.int c)]))
      refine OwnFin.step (fun tT kK => XS.bipush X0.here hx rfl (hb hby d_method_3_21) kK) ?_
      show OwnFin p e below _ (s₁.setTop (mkF m 23 #[.val (.int c)] [(.int (42 : Int32)), (.int c)]))
      by_cases hc7 : c = (42 : Int32)
      · skip
        refine OwnFin.step (fun tT kK => XS.icmpNo X0.here hx rfl (hb hby d_method_3_23) rfl (teq (hc7 : c = (42 : Int32))).2 kK) ?_
        show OwnFin p e below _ (s₁.setTop (mkF m 26 #[.val (.int c)] []))
        obtain ⟨T8, X8, e8, st8⟩ := getS2 X0 hx hZ hown (host := "") (Or.inl (hw _ (List.mem_of_getElem? (i := 32) rfl))) Via.refl e0 hp2 (g := (mkF m 26 #[.val (.int c)] [])) rfl (hb hby d_method_3_26)
        refine OwnFin.step st8 ?_
        show OwnFin p e below _ (T8.setTop (mkF m 29 #[.val (.int c)] [(.ref v2)]))
        obtain ⟨fs9, hr9, hrun9, hended9, hW9, hsame9⟩ := X8.leave (v := (some (.ref v2))) (fun h => by rw [Bd.returns] at h; cases h)
        refine ⟨_, _, retOut X8 hx Bd.returns rfl (Or.inr (Or.inr (Or.inr (Or.inr ⟨rfl, rfl, rfl⟩)))) (hb hby d_method_3_29) hr9, hrun9, hended9, _, _, rfl, ?_, ⟨_, rfl⟩, hW9, hsame9.mono (by decide) (by decide)⟩
        show Q3 Z c v0 v1 v2 v3 h0 n0 _ T8.heap _
        rw [e8]
        exact ⟨(by rw [hc7]; rfl), N0, rfl⟩
      · skip
        refine OwnFin.step (fun tT kK => XS.icmpYes X0.here hx rfl (pc0 := 23) (pc' := 30) rfl (hb hby d_method_3_23) rfl (feq (hc7 : ¬ (c = (42 : Int32)))).2 (by decide) (by decide) kK) ?_
        show OwnFin p e below _ (s₁.setTop (mkF m 30 #[.val (.int c)] []))
        refine OwnFin.step (fun tT kK => XS.iloadN X0.here hx rfl (hb hby d_method_3_30) rfl kK) ?_
        show OwnFin p e below _ (s₁.setTop (mkF m 31 #[.val (.int c)] [(.int c)]))
        refine OwnFin.step (fun tT kK => XS.bipush X0.here hx rfl (hb hby d_method_3_31) kK) ?_
        show OwnFin p e below _ (s₁.setTop (mkF m 33 #[.val (.int c)] [(.int (47 : Int32)), (.int c)]))
        by_cases hc10 : c = (47 : Int32)
        · skip
          refine OwnFin.step (fun tT kK => XS.icmpNo X0.here hx rfl (hb hby d_method_3_33) rfl (teq (hc10 : c = (47 : Int32))).2 kK) ?_
          show OwnFin p e below _ (s₁.setTop (mkF m 36 #[.val (.int c)] []))
          obtain ⟨T11, X11, e11, st11⟩ := getS2 X0 hx hZ hown (host := "") (Or.inl (hw _ (List.mem_of_getElem? (i := 30) rfl))) Via.refl e0 hp3 (g := (mkF m 36 #[.val (.int c)] [])) rfl (hb hby d_method_3_36)
          refine OwnFin.step st11 ?_
          show OwnFin p e below _ (T11.setTop (mkF m 39 #[.val (.int c)] [(.ref v3)]))
          obtain ⟨fs12, hr12, hrun12, hended12, hW12, hsame12⟩ := X11.leave (v := (some (.ref v3))) (fun h => by rw [Bd.returns] at h; cases h)
          refine ⟨_, _, retOut X11 hx Bd.returns rfl (Or.inr (Or.inr (Or.inr (Or.inr ⟨rfl, rfl, rfl⟩)))) (hb hby d_method_3_39) hr12, hrun12, hended12, _, _, rfl, ?_, ⟨_, rfl⟩, hW12, hsame12.mono (by decide) (by decide)⟩
          show Q3 Z c v0 v1 v2 v3 h0 n0 _ T11.heap _
          rw [e11]
          exact ⟨(by rw [hc10]; rfl), N0, rfl⟩
        · skip
          refine OwnFin.step (fun tT kK => XS.icmpYes X0.here hx rfl (pc0 := 33) (pc' := 40) rfl (hb hby d_method_3_33) rfl (feq (hc10 : ¬ (c = (47 : Int32)))).2 (by decide) (by decide) kK) ?_
          show OwnFin p e below _ (s₁.setTop (mkF m 40 #[.val (.int c)] []))
          refine OwnFin.step (fun tT kK => XS.aconstNull X0.here hx rfl (hb hby d_method_3_40) kK) ?_
          show OwnFin p e below _ (s₁.setTop (mkF m 41 #[.val (.int c)] [.null]))
          obtain ⟨fs13, hr13, hrun13, hended13, hW13, hsame13⟩ := X0.leave (v := (some .null)) (fun h => by rw [Bd.returns] at h; cases h)
          refine ⟨_, _, retOut X0 hx Bd.returns rfl (Or.inr (Or.inr (Or.inr (Or.inr ⟨rfl, rfl, rfl⟩)))) (hb hby d_method_3_41) hr13, hrun13, hended13, _, _, rfl, ?_, ⟨_, rfl⟩, hW13, hsame13.mono (by decide) (by decide)⟩
          show Q3 Z c v0 v1 v2 v3 h0 n0 _ s₁.heap _
          rw [e0]
          exact ⟨(by rw [own_op4 hc1 hc4 hc7 hc10]), N0, rfl⟩
theorem pd_53 : parseMethodDescriptor "(C)Lcom/example/covenantry/covenantry/compute/Expression$Operator;" = some ⟨[.char], some (.object "com/example/covenantry/covenantry/compute/Expression$Operator")⟩ := by decide +kernel
theorem ef_0 (m : MethodId) (pk : Int32) (rw_ : Int32) : entryFrame m #[(.int pk), (.int rw_)] maxLocals = mkF m 0 #[.val (.int pk), .val (.int rw_), .unset, .unset, .unset] [] := by first | (simp [entryFrame, mkF, argsToLocals, Value.category, maxLocals]; done) | rfl
def Q0 (Z : State) (pk : Int32) (rw_ : Int32) (va : Addr) (kv : ClassId) (v0 : Addr) (v1 : Addr) (v2 : Addr) (v3 : Addr) (h0 : Heap) (n0 : Nat) (vV : Option Value) (hH : Heap) (LL : List Loc) : Prop := vV = some (.int (1 : Int32)) ∧ Fr n0 LL ∧ Keep h0 hH []
def R0 (Z : State) (pk : Int32) (rw_ : Int32) (va : Addr) (kv : ClassId) (v0 : Addr) (v1 : Addr) (v2 : Addr) (v3 : Addr) (h0 : Heap) (n0 : Nat) (U : State) (o : Outcome) (U' : State) : Prop := ∃ vV LL, o = .returned vV ∧ Q0 Z pk rw_ va kv v0 v1 v2 v3 h0 n0 vV U'.heap LL ∧ FrameEnd U o U' LL room_1.cells room_1.slots
set_option maxRecDepth 65536 in
set_option maxHeartbeats 40000000 in
theorem rm0 (l : Launch) (Z : State) (a0 : Array Value) (hw : ∀ d ∈ tables_1, d.before a0 Z = true) (ws : List Jvm.Cond) (pk : Int32) (rw_ : Int32) (va : Addr) (kv : ClassId) (v0 : Addr) (v1 : Addr) (v2 : Addr) (v3 : Addr) (h0 : Heap) (n0 : Nat) (Z0 : n0 ≤ h0.size) (hp0 : Sta Z h0 "com/example/covenantry/covenantry/compute/Expression$Operator" "$VALUES" "[Lcom/example/covenantry/covenantry/compute/Expression$Operator;" (.ref va)) (hp1 : Arv Z h0 va kv (.object "com/example/covenantry/covenantry/compute/Expression$Operator") (4 : Int32) [(.ref v0), (.ref v1), (.ref v2), (.ref v3)] .null) (hp2 : Exa Z h0 va "[Lcom/example/covenantry/covenantry/compute/Expression$Operator;") (hp3 : Fld Z h0 v0 "com/example/covenantry/covenantry/compute/Expression$Operator" "symbol" "C" (.int (43 : Int32))) (hp4 : Fld Z h0 v1 "com/example/covenantry/covenantry/compute/Expression$Operator" "symbol" "C" (.int (45 : Int32))) (hp5 : Fld Z h0 v2 "com/example/covenantry/covenantry/compute/Expression$Operator" "symbol" "C" (.int (42 : Int32))) (hp6 : Fld Z h0 v3 "com/example/covenantry/covenantry/compute/Expression$Operator" "symbol" "C" (.int (47 : Int32))) (hp7 : Sta Z h0 "com/example/covenantry/covenantry/compute/Expression$Operator" "ADD" "Lcom/example/covenantry/covenantry/compute/Expression$Operator;" (.ref v0)) (hp8 : Sta Z h0 "com/example/covenantry/covenantry/compute/Expression$Operator" "SUBTRACT" "Lcom/example/covenantry/covenantry/compute/Expression$Operator;" (.ref v1)) (hp9 : Sta Z h0 "com/example/covenantry/covenantry/compute/Expression$Operator" "MULTIPLY" "Lcom/example/covenantry/covenantry/compute/Expression$Operator;" (.ref v2)) (hp10 : Sta Z h0 "com/example/covenantry/covenantry/compute/Expression$Operator" "DIVIDE" "Lcom/example/covenantry/covenantry/compute/Expression$Operator;" (.ref v3)) :
    MetFree l x (head1 (Jvm.Cond.code x code maxLocals ret :: ws) room_1) (fun aA U => aA = #[(.int pk), (.int rw_)] ∧ Z.Warmed39 U.vm ∧ U.heap = h0) (fun _ _ _ _ _ => True) (fun _ U o U' => ∃ vV LL, o = .returned vV ∧ Q0 Z pk rw_ va kv v0 v1 v2 v3 h0 n0 vV U'.heap LL ∧ FrameEnd U o U' LL room_1.cells room_1.slots) := by
  refine MetFree.of_bodySF (plainFor_of_name pn_30) hisR ?_
  intro p e s m args below meth cC s₁ Bd hml0 hP hK
  obtain ⟨rfl, hZ, hh⟩ := hP
  have hx := Bd.exec
  have hby := Bd.bytes
  have hml : cC.maxLocals = 5 := hml0
  have hown : s.vm.findClass "com/example/covenantry/covenantry/compute/OperatorOfPinLaw" = some m.cls := findClass_of_methodNamed Bd.named
  have hnm := (name_of_methodNamed Bd.named Bd.method).1
  have X0 : Stand p l e room_1 s m #[(.int pk), (.int rw_)] below meth cC s₁ [] 0 0 := Stand.of_body Bd
  have e0 : s₁.heap = h0 := by rw [← hh, Bd.state]; rfl
  have N0 := Fr.nil n0
  show OwnFin p e below (R0 Z pk rw_ va kv v0 v1 v2 v3 h0 n0 s) (s₁.setTop (entryFrame m #[(.int pk), (.int rw_)] maxLocals))
  rw [ef_0 m pk rw_]
  refine OwnFin.step (fun tT kK => XS.iloadN X0.here hx rfl (hb hby at_0) rfl kK) ?_
  show OwnFin p e below _ (s₁.setTop (mkF m 1 #[.val (.int pk), .val (.int rw_), .unset, .unset, .unset] [(.int pk)]))
  refine OwnFin.step (fun tT kK => XS.bipush X0.here hx rfl (hb hby at_1) kK) ?_
  show OwnFin p e below _ (s₁.setTop (mkF m 3 #[.val (.int pk), .val (.int rw_), .unset, .unset, .unset] [(.int (7 : Int32)), (.int pk)]))
  refine OwnFin.step (fun tT kK => XS.iand X0.here hx rfl (hb hby at_3) rfl kK) ?_
  show OwnFin p e below _ (s₁.setTop (mkF m 4 #[.val (.int pk), .val (.int rw_), .unset, .unset, .unset] [(.int (pk &&& (7 : Int32)))]))
  refine OwnFin.step (fun tT kK => XS.istoreN X0.here hx rfl (hb hby at_4) rfl (l' := #[.val (.int pk), .val (.int rw_), .val (.int (pk &&& (7 : Int32))), .unset, .unset]) rfl kK) ?_
  show OwnFin p e below _ (s₁.setTop (mkF m 5 #[.val (.int pk), .val (.int rw_), .val (.int (pk &&& (7 : Int32))), .unset, .unset] []))
  refine OwnFin.step (fun tT kK => XS.iloadN X0.here hx rfl (hb hby at_5) rfl kK) ?_
  show OwnFin p e below _ (s₁.setTop (mkF m 6 #[.val (.int pk), .val (.int rw_), .val (.int (pk &&& (7 : Int32))), .unset, .unset] [(.int (pk &&& (7 : Int32)))]))
  by_cases hc1 : (pk &&& (7 : Int32)) = (0 : Int32)
  · skip
    refine OwnFin.step (fun tT kK => XS.ifNo X0.here hx rfl (hb hby at_6) rfl ((if0 _ _).trans (teq (hc1 : (pk &&& (7 : Int32)) = (0 : Int32))).2) kK) ?_
    show OwnFin p e below _ (s₁.setTop (mkF m 9 #[.val (.int pk), .val (.int rw_), .val (.int (pk &&& (7 : Int32))), .unset, .unset] []))
    refine OwnFin.step (fun tT kK => XS.bipush X0.here hx rfl (hb hby at_9) kK) ?_
    show OwnFin p e below _ (s₁.setTop (mkF m 11 #[.val (.int pk), .val (.int rw_), .val (.int (pk &&& (7 : Int32))), .unset, .unset] [(.int (43 : Int32))]))
    refine OwnFin.step (fun tT kK => XS.istoreN X0.here hx rfl (hb hby at_11) rfl (l' := #[.val (.int pk), .val (.int rw_), .val (.int (pk &&& (7 : Int32))), .val (.int (43 : Int32)), .unset]) rfl kK) ?_
    show OwnFin p e below _ (s₁.setTop (mkF m 12 #[.val (.int pk), .val (.int rw_), .val (.int (pk &&& (7 : Int32))), .val (.int (43 : Int32)), .unset] []))
    refine OwnFin.step (fun tT kK => XS.goto X0.here hx rfl (pc0 := 12) (pc' := 51) rfl (hb hby at_12) (by decide) (by decide) kK) ?_
    show OwnFin p e below _ (s₁.setTop (mkF m 51 #[.val (.int pk), .val (.int rw_), .val (.int (pk &&& (7 : Int32))), .val (.int (43 : Int32)), .unset] []))
    refine OwnFin.step (fun tT kK => XS.iloadN X0.here hx rfl (hb hby at_51) rfl kK) ?_
    show OwnFin p e below _ (s₁.setTop (mkF m 52 #[.val (.int pk), .val (.int rw_), .val (.int (pk &&& (7 : Int32))), .val (.int (43 : Int32)), .unset] [(.int (43 : Int32))]))
    obtain ⟨_, _, ⟨T2, L2, k2, n2⟩, -, X2, ⟨Lc2, hQ2, l2, y2, z2⟩, st2⟩ := Jvm.LawKit.callS X0 hx (y := (⟨"com/example/covenantry/covenantry/compute/Expression$Operator", "of", "(C)Lcom/example/covenantry/covenantry/compute/Expression$Operator;"⟩ : MethodName)) hown (mvT hZ (hw _ (List.mem_of_getElem? (i := 0) rfl))) (mvT hZ (hw _ (List.mem_of_getElem? (i := 1) rfl))) (mvT hZ (hw _ (List.mem_of_getElem? (i := 2) rfl))) (mvT hZ (hw _ (List.mem_of_getElem? (i := 3) rfl))) (by decide) (backOf (W := 0) (rm2 l Z a0 hw [] (43 : Int32) va kv v0 v1 v2 v3 h0 n0 Z0 hp0 hp1 hp2 hp3 hp4 hp5 hp6) hZ (hw _ (List.mem_of_getElem? (i := 3) rfl)) (hw _ (List.mem_of_getElem? (i := 2) rfl)) (by decide) (by decide)) (g := (mkF m 52 #[.val (.int pk), .val (.int rw_), .val (.int (pk &&& (7 : Int32))), .val (.int (43 : Int32)), .unset] [(.int (43 : Int32))])) rfl (by rw [hml]; rfl) (argsL := [(.int (43 : Int32))]) (rest := []) (lenOf pd_53 rfl) rfl (by show 2 * 0 + _ ≤ _; exact Nat.le_of_eq rfl) (hb hby at_52) (fun _ _ => ⟨rfl, e0, (by decide : 0 + 1 ≤ _), (by decide : 0 + 4 ≤ _)⟩)
    dsimp only [Pt.U, Pt.locs, Pt.cells, Pt.slots] at X2 l2 y2 z2 st2 hQ2
    subst l2 y2 z2
    obtain ⟨rfl, N2q, K2⟩ := hQ2
    have N2 := Fr.app N0 N2q
    refine OwnFin.step st2 ?_
    have E2 : Ext h0 T2.heap := ⟨K2.1, fun x c q => K2.2.1 x c q nin0⟩
    show OwnFin p e below _ (T2.setTop (mkF m 55 #[.val (.int pk), .val (.int rw_), .val (.int (pk &&& (7 : Int32))), .val (.int (43 : Int32)), .unset] [(OwnOp (43 : Int32) v0 v1 v2 v3)]))
    refine OwnFin.step (fun tT kK => XS.astoreS X2.here hx rfl (hb hby at_55) rfl (own_op_ref _ _ _ _ _) (own_cat (own_op_ref _ _ _ _ _)) rfl (Or.inl rfl) kK) ?_
    show OwnFin p e below _ (T2.setTop (mkF m 57 #[.val (.int pk), .val (.int rw_), .val (.int (pk &&& (7 : Int32))), .val (.int (43 : Int32)), .val (OwnOp (43 : Int32) v0 v1 v2 v3)] []))
    refine OwnFin.step (fun tT kK => XS.aload X2.here hx rfl (hb hby at_57) rfl (own_op_ref _ _ _ _ _) kK) ?_
    show OwnFin p e below _ (T2.setTop (mkF m 59 #[.val (.int pk), .val (.int rw_), .val (.int (pk &&& (7 : Int32))), .val (.int (43 : Int32)), .val (OwnOp (43 : Int32) v0 v1 v2 v3)] [(OwnOp (43 : Int32) v0 v1 v2 v3)]))
    refine OwnFin.step (fun tT kK => XS.iloadN X2.here hx rfl (hb hby at_59) rfl kK) ?_
    show OwnFin p e below _ (T2.setTop (mkF m 60 #[.val (.int pk), .val (.int rw_), .val (.int (pk &&& (7 : Int32))), .val (.int (43 : Int32)), .val (OwnOp (43 : Int32) v0 v1 v2 v3)] [(.int (43 : Int32)), (OwnOp (43 : Int32) v0 v1 v2 v3)]))
    have f3 : Sta Z T2.heap "com/example/covenantry/covenantry/compute/Expression$Operator" "ADD" "Lcom/example/covenantry/covenantry/compute/Expression$Operator;" (.ref v0) := (hp7.ext E2)
    have f4 : Sta Z T2.heap "com/example/covenantry/covenantry/compute/Expression$Operator" "SUBTRACT" "Lcom/example/covenantry/covenantry/compute/Expression$Operator;" (.ref v1) := (hp8.ext E2)
    have f5 : Sta Z T2.heap "com/example/covenantry/covenantry/compute/Expression$Operator" "MULTIPLY" "Lcom/example/covenantry/covenantry/compute/Expression$Operator;" (.ref v2) := (hp9.ext E2)
    have f6 : Sta Z T2.heap "com/example/covenantry/covenantry/compute/Expression$Operator" "DIVIDE" "Lcom/example/covenantry/covenantry/compute/Expression$Operator;" (.ref v3) := (hp10.ext E2)
    obtain ⟨_, _, ⟨T7, L7, k7, n7⟩, -, X7, ⟨Lc7, hQ7, l7, y7, z7⟩, st7⟩ := Jvm.LawKit.callS X2 hx (y := (⟨"com/example/covenantry/covenantry/compute/OperatorOfPinLaw", "expected", "(C)Lcom/example/covenantry/covenantry/compute/Expression$Operator;"⟩ : MethodName)) hown (mvT hZ (hw _ (List.mem_of_getElem? (i := 25) rfl))) (mvT hZ (hw _ (List.mem_of_getElem? (i := 26) rfl))) (mvT hZ (hw _ (List.mem_of_getElem? (i := 27) rfl))) (mvT hZ (hw _ (List.mem_of_getElem? (i := 28) rfl))) (by decide) (backOf (W := 1) (rm3 l Z a0 hw [] (43 : Int32) v0 v1 v2 v3 T2.heap n0 (Nat.le_trans Z0 E2.1) f3 f4 f5 f6) hZ (hw _ (List.mem_of_getElem? (i := 28) rfl)) (hw _ (List.mem_of_getElem? (i := 27) rfl)) (by decide) (by decide)) (g := (mkF m 60 #[.val (.int pk), .val (.int rw_), .val (.int (pk &&& (7 : Int32))), .val (.int (43 : Int32)), .val (OwnOp (43 : Int32) v0 v1 v2 v3)] [(.int (43 : Int32)), (OwnOp (43 : Int32) v0 v1 v2 v3)])) rfl (by rw [hml]; rfl) (argsL := [(.int (43 : Int32))]) (rest := [(OwnOp (43 : Int32) v0 v1 v2 v3)]) (lenOf pd_53 rfl) rfl (by show 2 * 0 + (List.map (fun v => Value.category v) [(OwnOp (43 : Int32) v0 v1 v2 v3)]).sum ≤ 1; simp only [List.map_cons, List.map_nil, List.sum_cons, List.sum_nil, own_cat (own_op_ref _ _ _ _ _)] <;> exact Nat.le_of_eq rfl) (hb hby at_60) (fun _ _ => ⟨rfl, rfl, (by decide : 1 + 0 ≤ _), (by decide : 4 + 0 ≤ _)⟩)
    dsimp only [Pt.U, Pt.locs, Pt.cells, Pt.slots] at X7 l7 y7 z7 st7 hQ7
    subst l7 y7 z7
    obtain ⟨rfl, N7q, e7⟩ := hQ7
    have N7 := Fr.app N2 N7q
    refine OwnFin.step st7 ?_
    show OwnFin p e below _ (T7.setTop (mkF m 63 #[.val (.int pk), .val (.int rw_), .val (.int (pk &&& (7 : Int32))), .val (.int (43 : Int32)), .val (OwnOp (43 : Int32) v0 v1 v2 v3)] [(OwnOp (43 : Int32) v0 v1 v2 v3), (OwnOp (43 : Int32) v0 v1 v2 v3)]))
    refine OwnFin.step (fun tT kK => Jvm.RoadKit.acmp (g := (mkF m 63 #[.val (.int pk), .val (.int rw_), .val (.int (pk &&& (7 : Int32))), .val (.int (43 : Int32)), .val (OwnOp (43 : Int32) v0 v1 v2 v3)] [(OwnOp (43 : Int32) v0 v1 v2 v3), (OwnOp (43 : Int32) v0 v1 v2 v3)])) X7 hx rfl (own_op_ref _ _ _ _ _) (own_op_ref _ _ _ _ _) (pc0 := 63) (pc' := 66) (same := true) rfl (hb hby at_63) rfl (decide_eq_true rfl) (by decide) (by decide) kK) ?_
    show OwnFin p e below _ (T7.setTop (mkF m 66 #[.val (.int pk), .val (.int rw_), .val (.int (pk &&& (7 : Int32))), .val (.int (43 : Int32)), .val (OwnOp (43 : Int32) v0 v1 v2 v3)] []))
    refine OwnFin.step (fun tT kK => XS.iconst X7.here hx rfl (hb hby at_66) kK) ?_
    show OwnFin p e below _ (T7.setTop (mkF m 67 #[.val (.int pk), .val (.int rw_), .val (.int (pk &&& (7 : Int32))), .val (.int (43 : Int32)), .val (OwnOp (43 : Int32) v0 v1 v2 v3)] [(.int (1 : Int32))]))
    refine OwnFin.step (fun tT kK => XS.goto X7.here hx rfl (pc0 := 67) (pc' := 71) rfl (hb hby at_67) (by decide) (by decide) kK) ?_
    show OwnFin p e below _ (T7.setTop (mkF m 71 #[.val (.int pk), .val (.int rw_), .val (.int (pk &&& (7 : Int32))), .val (.int (43 : Int32)), .val (OwnOp (43 : Int32) v0 v1 v2 v3)] [(.int (1 : Int32))]))
    obtain ⟨fs8, hr8, hrun8, hended8, hW8, hsame8⟩ := X7.leave (v := (some (.int (1 : Int32)))) (fun h => by rw [Bd.returns] at h; cases h)
    refine ⟨_, _, retN X7 hx (t := .boolean) Bd.returns (by simp) (hb hby at_71) hr8, hrun8, hended8, _, _, rfl, ?_, ⟨_, rfl⟩, hW8, hsame8.mono (by decide) (by decide)⟩
    show Q0 Z pk rw_ va kv v0 v1 v2 v3 h0 n0 _ T7.heap _
    rw [e7]
    exact ⟨rfl, N7, ((Keep.refl h0 []).ext E2)⟩
  · skip
    refine OwnFin.step (fun tT kK => XS.ifYes X0.here hx rfl (pc0 := 6) (pc' := 15) rfl (hb hby at_6) rfl ((if0 _ _).trans (feq (hc1 : ¬ ((pk &&& (7 : Int32)) = (0 : Int32)))).2) (by decide) (by decide) kK) ?_
    show OwnFin p e below _ (s₁.setTop (mkF m 15 #[.val (.int pk), .val (.int rw_), .val (.int (pk &&& (7 : Int32))), .unset, .unset] []))
    refine OwnFin.step (fun tT kK => XS.iloadN X0.here hx rfl (hb hby at_15) rfl kK) ?_
    show OwnFin p e below _ (s₁.setTop (mkF m 16 #[.val (.int pk), .val (.int rw_), .val (.int (pk &&& (7 : Int32))), .unset, .unset] [(.int (pk &&& (7 : Int32)))]))
    refine OwnFin.step (fun tT kK => XS.iconst X0.here hx rfl (hb hby at_16) kK) ?_
    show OwnFin p e below _ (s₁.setTop (mkF m 17 #[.val (.int pk), .val (.int rw_), .val (.int (pk &&& (7 : Int32))), .unset, .unset] [(.int (1 : Int32)), (.int (pk &&& (7 : Int32)))]))
    by_cases hc9 : (pk &&& (7 : Int32)) = (1 : Int32)
    · skip
      refine OwnFin.step (fun tT kK => XS.icmpNo X0.here hx rfl (hb hby at_17) rfl (teq (hc9 : (pk &&& (7 : Int32)) = (1 : Int32))).2 kK) ?_
      show OwnFin p e below _ (s₁.setTop (mkF m 20 #[.val (.int pk), .val (.int rw_), .val (.int (pk &&& (7 : Int32))), .unset, .unset] []))
      refine OwnFin.step (fun tT kK => XS.bipush X0.here hx rfl (hb hby at_20) kK) ?_
      show OwnFin p e below _ (s₁.setTop (mkF m 22 #[.val (.int pk), .val (.int rw_), .val (.int (pk &&& (7 : Int32))), .unset, .unset] [(.int (45 : Int32))]))
      refine OwnFin.step (fun tT kK => XS.istoreN X0.here hx rfl (hb hby at_22) rfl (l' := #[.val (.int pk), .val (.int rw_), .val (.int (pk &&& (7 : Int32))), .val (.int (45 : Int32)), .unset]) rfl kK) ?_
      show OwnFin p e below _ (s₁.setTop (mkF m 23 #[.val (.int pk), .val (.int rw_), .val (.int (pk &&& (7 : Int32))), .val (.int (45 : Int32)), .unset] []))
      refine OwnFin.step (fun tT kK => XS.goto X0.here hx rfl (pc0 := 23) (pc' := 51) rfl (hb hby at_23) (by decide) (by decide) kK) ?_
      show OwnFin p e below _ (s₁.setTop (mkF m 51 #[.val (.int pk), .val (.int rw_), .val (.int (pk &&& (7 : Int32))), .val (.int (45 : Int32)), .unset] []))
      refine OwnFin.step (fun tT kK => XS.iloadN X0.here hx rfl (hb hby at_51) rfl kK) ?_
      show OwnFin p e below _ (s₁.setTop (mkF m 52 #[.val (.int pk), .val (.int rw_), .val (.int (pk &&& (7 : Int32))), .val (.int (45 : Int32)), .unset] [(.int (45 : Int32))]))
      obtain ⟨_, _, ⟨T10, L10, k10, n10⟩, -, X10, ⟨Lc10, hQ10, l10, y10, z10⟩, st10⟩ := Jvm.LawKit.callS X0 hx (y := (⟨"com/example/covenantry/covenantry/compute/Expression$Operator", "of", "(C)Lcom/example/covenantry/covenantry/compute/Expression$Operator;"⟩ : MethodName)) hown (mvT hZ (hw _ (List.mem_of_getElem? (i := 0) rfl))) (mvT hZ (hw _ (List.mem_of_getElem? (i := 1) rfl))) (mvT hZ (hw _ (List.mem_of_getElem? (i := 2) rfl))) (mvT hZ (hw _ (List.mem_of_getElem? (i := 3) rfl))) (by decide) (backOf (W := 0) (rm2 l Z a0 hw [] (45 : Int32) va kv v0 v1 v2 v3 h0 n0 Z0 hp0 hp1 hp2 hp3 hp4 hp5 hp6) hZ (hw _ (List.mem_of_getElem? (i := 3) rfl)) (hw _ (List.mem_of_getElem? (i := 2) rfl)) (by decide) (by decide)) (g := (mkF m 52 #[.val (.int pk), .val (.int rw_), .val (.int (pk &&& (7 : Int32))), .val (.int (45 : Int32)), .unset] [(.int (45 : Int32))])) rfl (by rw [hml]; rfl) (argsL := [(.int (45 : Int32))]) (rest := []) (lenOf pd_53 rfl) rfl (by show 2 * 0 + _ ≤ _; exact Nat.le_of_eq rfl) (hb hby at_52) (fun _ _ => ⟨rfl, e0, (by decide : 0 + 1 ≤ _), (by decide : 0 + 4 ≤ _)⟩)
      dsimp only [Pt.U, Pt.locs, Pt.cells, Pt.slots] at X10 l10 y10 z10 st10 hQ10
      subst l10 y10 z10
      obtain ⟨rfl, N10q, K10⟩ := hQ10
      have N10 := Fr.app N0 N10q
      refine OwnFin.step st10 ?_
      have E10 : Ext h0 T10.heap := ⟨K10.1, fun x c q => K10.2.1 x c q nin0⟩
      show OwnFin p e below _ (T10.setTop (mkF m 55 #[.val (.int pk), .val (.int rw_), .val (.int (pk &&& (7 : Int32))), .val (.int (45 : Int32)), .unset] [(OwnOp (45 : Int32) v0 v1 v2 v3)]))
      refine OwnFin.step (fun tT kK => XS.astoreS X10.here hx rfl (hb hby at_55) rfl (own_op_ref _ _ _ _ _) (own_cat (own_op_ref _ _ _ _ _)) rfl (Or.inl rfl) kK) ?_
      show OwnFin p e below _ (T10.setTop (mkF m 57 #[.val (.int pk), .val (.int rw_), .val (.int (pk &&& (7 : Int32))), .val (.int (45 : Int32)), .val (OwnOp (45 : Int32) v0 v1 v2 v3)] []))
      refine OwnFin.step (fun tT kK => XS.aload X10.here hx rfl (hb hby at_57) rfl (own_op_ref _ _ _ _ _) kK) ?_
      show OwnFin p e below _ (T10.setTop (mkF m 59 #[.val (.int pk), .val (.int rw_), .val (.int (pk &&& (7 : Int32))), .val (.int (45 : Int32)), .val (OwnOp (45 : Int32) v0 v1 v2 v3)] [(OwnOp (45 : Int32) v0 v1 v2 v3)]))
      refine OwnFin.step (fun tT kK => XS.iloadN X10.here hx rfl (hb hby at_59) rfl kK) ?_
      show OwnFin p e below _ (T10.setTop (mkF m 60 #[.val (.int pk), .val (.int rw_), .val (.int (pk &&& (7 : Int32))), .val (.int (45 : Int32)), .val (OwnOp (45 : Int32) v0 v1 v2 v3)] [(.int (45 : Int32)), (OwnOp (45 : Int32) v0 v1 v2 v3)]))
      have f11 : Sta Z T10.heap "com/example/covenantry/covenantry/compute/Expression$Operator" "ADD" "Lcom/example/covenantry/covenantry/compute/Expression$Operator;" (.ref v0) := (hp7.ext E10)
      have f12 : Sta Z T10.heap "com/example/covenantry/covenantry/compute/Expression$Operator" "SUBTRACT" "Lcom/example/covenantry/covenantry/compute/Expression$Operator;" (.ref v1) := (hp8.ext E10)
      have f13 : Sta Z T10.heap "com/example/covenantry/covenantry/compute/Expression$Operator" "MULTIPLY" "Lcom/example/covenantry/covenantry/compute/Expression$Operator;" (.ref v2) := (hp9.ext E10)
      have f14 : Sta Z T10.heap "com/example/covenantry/covenantry/compute/Expression$Operator" "DIVIDE" "Lcom/example/covenantry/covenantry/compute/Expression$Operator;" (.ref v3) := (hp10.ext E10)
      obtain ⟨_, _, ⟨T15, L15, k15, n15⟩, -, X15, ⟨Lc15, hQ15, l15, y15, z15⟩, st15⟩ := Jvm.LawKit.callS X10 hx (y := (⟨"com/example/covenantry/covenantry/compute/OperatorOfPinLaw", "expected", "(C)Lcom/example/covenantry/covenantry/compute/Expression$Operator;"⟩ : MethodName)) hown (mvT hZ (hw _ (List.mem_of_getElem? (i := 25) rfl))) (mvT hZ (hw _ (List.mem_of_getElem? (i := 26) rfl))) (mvT hZ (hw _ (List.mem_of_getElem? (i := 27) rfl))) (mvT hZ (hw _ (List.mem_of_getElem? (i := 28) rfl))) (by decide) (backOf (W := 1) (rm3 l Z a0 hw [] (45 : Int32) v0 v1 v2 v3 T10.heap n0 (Nat.le_trans Z0 E10.1) f11 f12 f13 f14) hZ (hw _ (List.mem_of_getElem? (i := 28) rfl)) (hw _ (List.mem_of_getElem? (i := 27) rfl)) (by decide) (by decide)) (g := (mkF m 60 #[.val (.int pk), .val (.int rw_), .val (.int (pk &&& (7 : Int32))), .val (.int (45 : Int32)), .val (OwnOp (45 : Int32) v0 v1 v2 v3)] [(.int (45 : Int32)), (OwnOp (45 : Int32) v0 v1 v2 v3)])) rfl (by rw [hml]; rfl) (argsL := [(.int (45 : Int32))]) (rest := [(OwnOp (45 : Int32) v0 v1 v2 v3)]) (lenOf pd_53 rfl) rfl (by show 2 * 0 + (List.map (fun v => Value.category v) [(OwnOp (45 : Int32) v0 v1 v2 v3)]).sum ≤ 1; simp only [List.map_cons, List.map_nil, List.sum_cons, List.sum_nil, own_cat (own_op_ref _ _ _ _ _)] <;> exact Nat.le_of_eq rfl) (hb hby at_60) (fun _ _ => ⟨rfl, rfl, (by decide : 1 + 0 ≤ _), (by decide : 4 + 0 ≤ _)⟩)
      dsimp only [Pt.U, Pt.locs, Pt.cells, Pt.slots] at X15 l15 y15 z15 st15 hQ15
      subst l15 y15 z15
      obtain ⟨rfl, N15q, e15⟩ := hQ15
      have N15 := Fr.app N10 N15q
      refine OwnFin.step st15 ?_
      show OwnFin p e below _ (T15.setTop (mkF m 63 #[.val (.int pk), .val (.int rw_), .val (.int (pk &&& (7 : Int32))), .val (.int (45 : Int32)), .val (OwnOp (45 : Int32) v0 v1 v2 v3)] [(OwnOp (45 : Int32) v0 v1 v2 v3), (OwnOp (45 : Int32) v0 v1 v2 v3)]))
      refine OwnFin.step (fun tT kK => Jvm.RoadKit.acmp (g := (mkF m 63 #[.val (.int pk), .val (.int rw_), .val (.int (pk &&& (7 : Int32))), .val (.int (45 : Int32)), .val (OwnOp (45 : Int32) v0 v1 v2 v3)] [(OwnOp (45 : Int32) v0 v1 v2 v3), (OwnOp (45 : Int32) v0 v1 v2 v3)])) X15 hx rfl (own_op_ref _ _ _ _ _) (own_op_ref _ _ _ _ _) (pc0 := 63) (pc' := 66) (same := true) rfl (hb hby at_63) rfl (decide_eq_true rfl) (by decide) (by decide) kK) ?_
      show OwnFin p e below _ (T15.setTop (mkF m 66 #[.val (.int pk), .val (.int rw_), .val (.int (pk &&& (7 : Int32))), .val (.int (45 : Int32)), .val (OwnOp (45 : Int32) v0 v1 v2 v3)] []))
      refine OwnFin.step (fun tT kK => XS.iconst X15.here hx rfl (hb hby at_66) kK) ?_
      show OwnFin p e below _ (T15.setTop (mkF m 67 #[.val (.int pk), .val (.int rw_), .val (.int (pk &&& (7 : Int32))), .val (.int (45 : Int32)), .val (OwnOp (45 : Int32) v0 v1 v2 v3)] [(.int (1 : Int32))]))
      refine OwnFin.step (fun tT kK => XS.goto X15.here hx rfl (pc0 := 67) (pc' := 71) rfl (hb hby at_67) (by decide) (by decide) kK) ?_
      show OwnFin p e below _ (T15.setTop (mkF m 71 #[.val (.int pk), .val (.int rw_), .val (.int (pk &&& (7 : Int32))), .val (.int (45 : Int32)), .val (OwnOp (45 : Int32) v0 v1 v2 v3)] [(.int (1 : Int32))]))
      obtain ⟨fs16, hr16, hrun16, hended16, hW16, hsame16⟩ := X15.leave (v := (some (.int (1 : Int32)))) (fun h => by rw [Bd.returns] at h; cases h)
      refine ⟨_, _, retN X15 hx (t := .boolean) Bd.returns (by simp) (hb hby at_71) hr16, hrun16, hended16, _, _, rfl, ?_, ⟨_, rfl⟩, hW16, hsame16.mono (by decide) (by decide)⟩
      show Q0 Z pk rw_ va kv v0 v1 v2 v3 h0 n0 _ T15.heap _
      rw [e15]
      exact ⟨rfl, N15, ((Keep.refl h0 []).ext E10)⟩
    · skip
      refine OwnFin.step (fun tT kK => XS.icmpYes X0.here hx rfl (pc0 := 17) (pc' := 26) rfl (hb hby at_17) rfl (feq (hc9 : ¬ ((pk &&& (7 : Int32)) = (1 : Int32)))).2 (by decide) (by decide) kK) ?_
      show OwnFin p e below _ (s₁.setTop (mkF m 26 #[.val (.int pk), .val (.int rw_), .val (.int (pk &&& (7 : Int32))), .unset, .unset] []))
      refine OwnFin.step (fun tT kK => XS.iloadN X0.here hx rfl (hb hby at_26) rfl kK) ?_
      show OwnFin p e below _ (s₁.setTop (mkF m 27 #[.val (.int pk), .val (.int rw_), .val (.int (pk &&& (7 : Int32))), .unset, .unset] [(.int (pk &&& (7 : Int32)))]))
      refine OwnFin.step (fun tT kK => XS.iconst X0.here hx rfl (hb hby at_27) kK) ?_
      show OwnFin p e below _ (s₁.setTop (mkF m 28 #[.val (.int pk), .val (.int rw_), .val (.int (pk &&& (7 : Int32))), .unset, .unset] [(.int (2 : Int32)), (.int (pk &&& (7 : Int32)))]))
      by_cases hc17 : (pk &&& (7 : Int32)) = (2 : Int32)
      · skip
        refine OwnFin.step (fun tT kK => XS.icmpNo X0.here hx rfl (hb hby at_28) rfl (teq (hc17 : (pk &&& (7 : Int32)) = (2 : Int32))).2 kK) ?_
        show OwnFin p e below _ (s₁.setTop (mkF m 31 #[.val (.int pk), .val (.int rw_), .val (.int (pk &&& (7 : Int32))), .unset, .unset] []))
        refine OwnFin.step (fun tT kK => XS.bipush X0.here hx rfl (hb hby at_31) kK) ?_
        show OwnFin p e below _ (s₁.setTop (mkF m 33 #[.val (.int pk), .val (.int rw_), .val (.int (pk &&& (7 : Int32))), .unset, .unset] [(.int (42 : Int32))]))
        refine OwnFin.step (fun tT kK => XS.istoreN X0.here hx rfl (hb hby at_33) rfl (l' := #[.val (.int pk), .val (.int rw_), .val (.int (pk &&& (7 : Int32))), .val (.int (42 : Int32)), .unset]) rfl kK) ?_
        show OwnFin p e below _ (s₁.setTop (mkF m 34 #[.val (.int pk), .val (.int rw_), .val (.int (pk &&& (7 : Int32))), .val (.int (42 : Int32)), .unset] []))
        refine OwnFin.step (fun tT kK => XS.goto X0.here hx rfl (pc0 := 34) (pc' := 51) rfl (hb hby at_34) (by decide) (by decide) kK) ?_
        show OwnFin p e below _ (s₁.setTop (mkF m 51 #[.val (.int pk), .val (.int rw_), .val (.int (pk &&& (7 : Int32))), .val (.int (42 : Int32)), .unset] []))
        refine OwnFin.step (fun tT kK => XS.iloadN X0.here hx rfl (hb hby at_51) rfl kK) ?_
        show OwnFin p e below _ (s₁.setTop (mkF m 52 #[.val (.int pk), .val (.int rw_), .val (.int (pk &&& (7 : Int32))), .val (.int (42 : Int32)), .unset] [(.int (42 : Int32))]))
        obtain ⟨_, _, ⟨T18, L18, k18, n18⟩, -, X18, ⟨Lc18, hQ18, l18, y18, z18⟩, st18⟩ := Jvm.LawKit.callS X0 hx (y := (⟨"com/example/covenantry/covenantry/compute/Expression$Operator", "of", "(C)Lcom/example/covenantry/covenantry/compute/Expression$Operator;"⟩ : MethodName)) hown (mvT hZ (hw _ (List.mem_of_getElem? (i := 0) rfl))) (mvT hZ (hw _ (List.mem_of_getElem? (i := 1) rfl))) (mvT hZ (hw _ (List.mem_of_getElem? (i := 2) rfl))) (mvT hZ (hw _ (List.mem_of_getElem? (i := 3) rfl))) (by decide) (backOf (W := 0) (rm2 l Z a0 hw [] (42 : Int32) va kv v0 v1 v2 v3 h0 n0 Z0 hp0 hp1 hp2 hp3 hp4 hp5 hp6) hZ (hw _ (List.mem_of_getElem? (i := 3) rfl)) (hw _ (List.mem_of_getElem? (i := 2) rfl)) (by decide) (by decide)) (g := (mkF m 52 #[.val (.int pk), .val (.int rw_), .val (.int (pk &&& (7 : Int32))), .val (.int (42 : Int32)), .unset] [(.int (42 : Int32))])) rfl (by rw [hml]; rfl) (argsL := [(.int (42 : Int32))]) (rest := []) (lenOf pd_53 rfl) rfl (by show 2 * 0 + _ ≤ _; exact Nat.le_of_eq rfl) (hb hby at_52) (fun _ _ => ⟨rfl, e0, (by decide : 0 + 1 ≤ _), (by decide : 0 + 4 ≤ _)⟩)
        dsimp only [Pt.U, Pt.locs, Pt.cells, Pt.slots] at X18 l18 y18 z18 st18 hQ18
        subst l18 y18 z18
        obtain ⟨rfl, N18q, K18⟩ := hQ18
        have N18 := Fr.app N0 N18q
        refine OwnFin.step st18 ?_
        have E18 : Ext h0 T18.heap := ⟨K18.1, fun x c q => K18.2.1 x c q nin0⟩
        show OwnFin p e below _ (T18.setTop (mkF m 55 #[.val (.int pk), .val (.int rw_), .val (.int (pk &&& (7 : Int32))), .val (.int (42 : Int32)), .unset] [(OwnOp (42 : Int32) v0 v1 v2 v3)]))
        refine OwnFin.step (fun tT kK => XS.astoreS X18.here hx rfl (hb hby at_55) rfl (own_op_ref _ _ _ _ _) (own_cat (own_op_ref _ _ _ _ _)) rfl (Or.inl rfl) kK) ?_
        show OwnFin p e below _ (T18.setTop (mkF m 57 #[.val (.int pk), .val (.int rw_), .val (.int (pk &&& (7 : Int32))), .val (.int (42 : Int32)), .val (OwnOp (42 : Int32) v0 v1 v2 v3)] []))
        refine OwnFin.step (fun tT kK => XS.aload X18.here hx rfl (hb hby at_57) rfl (own_op_ref _ _ _ _ _) kK) ?_
        show OwnFin p e below _ (T18.setTop (mkF m 59 #[.val (.int pk), .val (.int rw_), .val (.int (pk &&& (7 : Int32))), .val (.int (42 : Int32)), .val (OwnOp (42 : Int32) v0 v1 v2 v3)] [(OwnOp (42 : Int32) v0 v1 v2 v3)]))
        refine OwnFin.step (fun tT kK => XS.iloadN X18.here hx rfl (hb hby at_59) rfl kK) ?_
        show OwnFin p e below _ (T18.setTop (mkF m 60 #[.val (.int pk), .val (.int rw_), .val (.int (pk &&& (7 : Int32))), .val (.int (42 : Int32)), .val (OwnOp (42 : Int32) v0 v1 v2 v3)] [(.int (42 : Int32)), (OwnOp (42 : Int32) v0 v1 v2 v3)]))
        have f19 : Sta Z T18.heap "com/example/covenantry/covenantry/compute/Expression$Operator" "ADD" "Lcom/example/covenantry/covenantry/compute/Expression$Operator;" (.ref v0) := (hp7.ext E18)
        have f20 : Sta Z T18.heap "com/example/covenantry/covenantry/compute/Expression$Operator" "SUBTRACT" "Lcom/example/covenantry/covenantry/compute/Expression$Operator;" (.ref v1) := (hp8.ext E18)
        have f21 : Sta Z T18.heap "com/example/covenantry/covenantry/compute/Expression$Operator" "MULTIPLY" "Lcom/example/covenantry/covenantry/compute/Expression$Operator;" (.ref v2) := (hp9.ext E18)
        have f22 : Sta Z T18.heap "com/example/covenantry/covenantry/compute/Expression$Operator" "DIVIDE" "Lcom/example/covenantry/covenantry/compute/Expression$Operator;" (.ref v3) := (hp10.ext E18)
        obtain ⟨_, _, ⟨T23, L23, k23, n23⟩, -, X23, ⟨Lc23, hQ23, l23, y23, z23⟩, st23⟩ := Jvm.LawKit.callS X18 hx (y := (⟨"com/example/covenantry/covenantry/compute/OperatorOfPinLaw", "expected", "(C)Lcom/example/covenantry/covenantry/compute/Expression$Operator;"⟩ : MethodName)) hown (mvT hZ (hw _ (List.mem_of_getElem? (i := 25) rfl))) (mvT hZ (hw _ (List.mem_of_getElem? (i := 26) rfl))) (mvT hZ (hw _ (List.mem_of_getElem? (i := 27) rfl))) (mvT hZ (hw _ (List.mem_of_getElem? (i := 28) rfl))) (by decide) (backOf (W := 1) (rm3 l Z a0 hw [] (42 : Int32) v0 v1 v2 v3 T18.heap n0 (Nat.le_trans Z0 E18.1) f19 f20 f21 f22) hZ (hw _ (List.mem_of_getElem? (i := 28) rfl)) (hw _ (List.mem_of_getElem? (i := 27) rfl)) (by decide) (by decide)) (g := (mkF m 60 #[.val (.int pk), .val (.int rw_), .val (.int (pk &&& (7 : Int32))), .val (.int (42 : Int32)), .val (OwnOp (42 : Int32) v0 v1 v2 v3)] [(.int (42 : Int32)), (OwnOp (42 : Int32) v0 v1 v2 v3)])) rfl (by rw [hml]; rfl) (argsL := [(.int (42 : Int32))]) (rest := [(OwnOp (42 : Int32) v0 v1 v2 v3)]) (lenOf pd_53 rfl) rfl (by show 2 * 0 + (List.map (fun v => Value.category v) [(OwnOp (42 : Int32) v0 v1 v2 v3)]).sum ≤ 1; simp only [List.map_cons, List.map_nil, List.sum_cons, List.sum_nil, own_cat (own_op_ref _ _ _ _ _)] <;> exact Nat.le_of_eq rfl) (hb hby at_60) (fun _ _ => ⟨rfl, rfl, (by decide : 1 + 0 ≤ _), (by decide : 4 + 0 ≤ _)⟩)
        dsimp only [Pt.U, Pt.locs, Pt.cells, Pt.slots] at X23 l23 y23 z23 st23 hQ23
        subst l23 y23 z23
        obtain ⟨rfl, N23q, e23⟩ := hQ23
        have N23 := Fr.app N18 N23q
        refine OwnFin.step st23 ?_
        show OwnFin p e below _ (T23.setTop (mkF m 63 #[.val (.int pk), .val (.int rw_), .val (.int (pk &&& (7 : Int32))), .val (.int (42 : Int32)), .val (OwnOp (42 : Int32) v0 v1 v2 v3)] [(OwnOp (42 : Int32) v0 v1 v2 v3), (OwnOp (42 : Int32) v0 v1 v2 v3)]))
        refine OwnFin.step (fun tT kK => Jvm.RoadKit.acmp (g := (mkF m 63 #[.val (.int pk), .val (.int rw_), .val (.int (pk &&& (7 : Int32))), .val (.int (42 : Int32)), .val (OwnOp (42 : Int32) v0 v1 v2 v3)] [(OwnOp (42 : Int32) v0 v1 v2 v3), (OwnOp (42 : Int32) v0 v1 v2 v3)])) X23 hx rfl (own_op_ref _ _ _ _ _) (own_op_ref _ _ _ _ _) (pc0 := 63) (pc' := 66) (same := true) rfl (hb hby at_63) rfl (decide_eq_true rfl) (by decide) (by decide) kK) ?_
        show OwnFin p e below _ (T23.setTop (mkF m 66 #[.val (.int pk), .val (.int rw_), .val (.int (pk &&& (7 : Int32))), .val (.int (42 : Int32)), .val (OwnOp (42 : Int32) v0 v1 v2 v3)] []))
        refine OwnFin.step (fun tT kK => XS.iconst X23.here hx rfl (hb hby at_66) kK) ?_
        show OwnFin p e below _ (T23.setTop (mkF m 67 #[.val (.int pk), .val (.int rw_), .val (.int (pk &&& (7 : Int32))), .val (.int (42 : Int32)), .val (OwnOp (42 : Int32) v0 v1 v2 v3)] [(.int (1 : Int32))]))
        refine OwnFin.step (fun tT kK => XS.goto X23.here hx rfl (pc0 := 67) (pc' := 71) rfl (hb hby at_67) (by decide) (by decide) kK) ?_
        show OwnFin p e below _ (T23.setTop (mkF m 71 #[.val (.int pk), .val (.int rw_), .val (.int (pk &&& (7 : Int32))), .val (.int (42 : Int32)), .val (OwnOp (42 : Int32) v0 v1 v2 v3)] [(.int (1 : Int32))]))
        obtain ⟨fs24, hr24, hrun24, hended24, hW24, hsame24⟩ := X23.leave (v := (some (.int (1 : Int32)))) (fun h => by rw [Bd.returns] at h; cases h)
        refine ⟨_, _, retN X23 hx (t := .boolean) Bd.returns (by simp) (hb hby at_71) hr24, hrun24, hended24, _, _, rfl, ?_, ⟨_, rfl⟩, hW24, hsame24.mono (by decide) (by decide)⟩
        show Q0 Z pk rw_ va kv v0 v1 v2 v3 h0 n0 _ T23.heap _
        rw [e23]
        exact ⟨rfl, N23, ((Keep.refl h0 []).ext E18)⟩
      · skip
        refine OwnFin.step (fun tT kK => XS.icmpYes X0.here hx rfl (pc0 := 28) (pc' := 37) rfl (hb hby at_28) rfl (feq (hc17 : ¬ ((pk &&& (7 : Int32)) = (2 : Int32)))).2 (by decide) (by decide) kK) ?_
        show OwnFin p e below _ (s₁.setTop (mkF m 37 #[.val (.int pk), .val (.int rw_), .val (.int (pk &&& (7 : Int32))), .unset, .unset] []))
        refine OwnFin.step (fun tT kK => XS.iloadN X0.here hx rfl (hb hby at_37) rfl kK) ?_
        show OwnFin p e below _ (s₁.setTop (mkF m 38 #[.val (.int pk), .val (.int rw_), .val (.int (pk &&& (7 : Int32))), .unset, .unset] [(.int (pk &&& (7 : Int32)))]))
        refine OwnFin.step (fun tT kK => XS.iconst X0.here hx rfl (hb hby at_38) kK) ?_
        show OwnFin p e below _ (s₁.setTop (mkF m 39 #[.val (.int pk), .val (.int rw_), .val (.int (pk &&& (7 : Int32))), .unset, .unset] [(.int (3 : Int32)), (.int (pk &&& (7 : Int32)))]))
        by_cases hc25 : (pk &&& (7 : Int32)) = (3 : Int32)
        · skip
          refine OwnFin.step (fun tT kK => XS.icmpNo X0.here hx rfl (hb hby at_39) rfl (teq (hc25 : (pk &&& (7 : Int32)) = (3 : Int32))).2 kK) ?_
          show OwnFin p e below _ (s₁.setTop (mkF m 42 #[.val (.int pk), .val (.int rw_), .val (.int (pk &&& (7 : Int32))), .unset, .unset] []))
          refine OwnFin.step (fun tT kK => XS.bipush X0.here hx rfl (hb hby at_42) kK) ?_
          show OwnFin p e below _ (s₁.setTop (mkF m 44 #[.val (.int pk), .val (.int rw_), .val (.int (pk &&& (7 : Int32))), .unset, .unset] [(.int (47 : Int32))]))
          refine OwnFin.step (fun tT kK => XS.istoreN X0.here hx rfl (hb hby at_44) rfl (l' := #[.val (.int pk), .val (.int rw_), .val (.int (pk &&& (7 : Int32))), .val (.int (47 : Int32)), .unset]) rfl kK) ?_
          show OwnFin p e below _ (s₁.setTop (mkF m 45 #[.val (.int pk), .val (.int rw_), .val (.int (pk &&& (7 : Int32))), .val (.int (47 : Int32)), .unset] []))
          refine OwnFin.step (fun tT kK => XS.goto X0.here hx rfl (pc0 := 45) (pc' := 51) rfl (hb hby at_45) (by decide) (by decide) kK) ?_
          show OwnFin p e below _ (s₁.setTop (mkF m 51 #[.val (.int pk), .val (.int rw_), .val (.int (pk &&& (7 : Int32))), .val (.int (47 : Int32)), .unset] []))
          refine OwnFin.step (fun tT kK => XS.iloadN X0.here hx rfl (hb hby at_51) rfl kK) ?_
          show OwnFin p e below _ (s₁.setTop (mkF m 52 #[.val (.int pk), .val (.int rw_), .val (.int (pk &&& (7 : Int32))), .val (.int (47 : Int32)), .unset] [(.int (47 : Int32))]))
          obtain ⟨_, _, ⟨T26, L26, k26, n26⟩, -, X26, ⟨Lc26, hQ26, l26, y26, z26⟩, st26⟩ := Jvm.LawKit.callS X0 hx (y := (⟨"com/example/covenantry/covenantry/compute/Expression$Operator", "of", "(C)Lcom/example/covenantry/covenantry/compute/Expression$Operator;"⟩ : MethodName)) hown (mvT hZ (hw _ (List.mem_of_getElem? (i := 0) rfl))) (mvT hZ (hw _ (List.mem_of_getElem? (i := 1) rfl))) (mvT hZ (hw _ (List.mem_of_getElem? (i := 2) rfl))) (mvT hZ (hw _ (List.mem_of_getElem? (i := 3) rfl))) (by decide) (backOf (W := 0) (rm2 l Z a0 hw [] (47 : Int32) va kv v0 v1 v2 v3 h0 n0 Z0 hp0 hp1 hp2 hp3 hp4 hp5 hp6) hZ (hw _ (List.mem_of_getElem? (i := 3) rfl)) (hw _ (List.mem_of_getElem? (i := 2) rfl)) (by decide) (by decide)) (g := (mkF m 52 #[.val (.int pk), .val (.int rw_), .val (.int (pk &&& (7 : Int32))), .val (.int (47 : Int32)), .unset] [(.int (47 : Int32))])) rfl (by rw [hml]; rfl) (argsL := [(.int (47 : Int32))]) (rest := []) (lenOf pd_53 rfl) rfl (by show 2 * 0 + _ ≤ _; exact Nat.le_of_eq rfl) (hb hby at_52) (fun _ _ => ⟨rfl, e0, (by decide : 0 + 1 ≤ _), (by decide : 0 + 4 ≤ _)⟩)
          dsimp only [Pt.U, Pt.locs, Pt.cells, Pt.slots] at X26 l26 y26 z26 st26 hQ26
          subst l26 y26 z26
          obtain ⟨rfl, N26q, K26⟩ := hQ26
          have N26 := Fr.app N0 N26q
          refine OwnFin.step st26 ?_
          have E26 : Ext h0 T26.heap := ⟨K26.1, fun x c q => K26.2.1 x c q nin0⟩
          show OwnFin p e below _ (T26.setTop (mkF m 55 #[.val (.int pk), .val (.int rw_), .val (.int (pk &&& (7 : Int32))), .val (.int (47 : Int32)), .unset] [(OwnOp (47 : Int32) v0 v1 v2 v3)]))
          refine OwnFin.step (fun tT kK => XS.astoreS X26.here hx rfl (hb hby at_55) rfl (own_op_ref _ _ _ _ _) (own_cat (own_op_ref _ _ _ _ _)) rfl (Or.inl rfl) kK) ?_
          show OwnFin p e below _ (T26.setTop (mkF m 57 #[.val (.int pk), .val (.int rw_), .val (.int (pk &&& (7 : Int32))), .val (.int (47 : Int32)), .val (OwnOp (47 : Int32) v0 v1 v2 v3)] []))
          refine OwnFin.step (fun tT kK => XS.aload X26.here hx rfl (hb hby at_57) rfl (own_op_ref _ _ _ _ _) kK) ?_
          show OwnFin p e below _ (T26.setTop (mkF m 59 #[.val (.int pk), .val (.int rw_), .val (.int (pk &&& (7 : Int32))), .val (.int (47 : Int32)), .val (OwnOp (47 : Int32) v0 v1 v2 v3)] [(OwnOp (47 : Int32) v0 v1 v2 v3)]))
          refine OwnFin.step (fun tT kK => XS.iloadN X26.here hx rfl (hb hby at_59) rfl kK) ?_
          show OwnFin p e below _ (T26.setTop (mkF m 60 #[.val (.int pk), .val (.int rw_), .val (.int (pk &&& (7 : Int32))), .val (.int (47 : Int32)), .val (OwnOp (47 : Int32) v0 v1 v2 v3)] [(.int (47 : Int32)), (OwnOp (47 : Int32) v0 v1 v2 v3)]))
          have f27 : Sta Z T26.heap "com/example/covenantry/covenantry/compute/Expression$Operator" "ADD" "Lcom/example/covenantry/covenantry/compute/Expression$Operator;" (.ref v0) := (hp7.ext E26)
          have f28 : Sta Z T26.heap "com/example/covenantry/covenantry/compute/Expression$Operator" "SUBTRACT" "Lcom/example/covenantry/covenantry/compute/Expression$Operator;" (.ref v1) := (hp8.ext E26)
          have f29 : Sta Z T26.heap "com/example/covenantry/covenantry/compute/Expression$Operator" "MULTIPLY" "Lcom/example/covenantry/covenantry/compute/Expression$Operator;" (.ref v2) := (hp9.ext E26)
          have f30 : Sta Z T26.heap "com/example/covenantry/covenantry/compute/Expression$Operator" "DIVIDE" "Lcom/example/covenantry/covenantry/compute/Expression$Operator;" (.ref v3) := (hp10.ext E26)
          obtain ⟨_, _, ⟨T31, L31, k31, n31⟩, -, X31, ⟨Lc31, hQ31, l31, y31, z31⟩, st31⟩ := Jvm.LawKit.callS X26 hx (y := (⟨"com/example/covenantry/covenantry/compute/OperatorOfPinLaw", "expected", "(C)Lcom/example/covenantry/covenantry/compute/Expression$Operator;"⟩ : MethodName)) hown (mvT hZ (hw _ (List.mem_of_getElem? (i := 25) rfl))) (mvT hZ (hw _ (List.mem_of_getElem? (i := 26) rfl))) (mvT hZ (hw _ (List.mem_of_getElem? (i := 27) rfl))) (mvT hZ (hw _ (List.mem_of_getElem? (i := 28) rfl))) (by decide) (backOf (W := 1) (rm3 l Z a0 hw [] (47 : Int32) v0 v1 v2 v3 T26.heap n0 (Nat.le_trans Z0 E26.1) f27 f28 f29 f30) hZ (hw _ (List.mem_of_getElem? (i := 28) rfl)) (hw _ (List.mem_of_getElem? (i := 27) rfl)) (by decide) (by decide)) (g := (mkF m 60 #[.val (.int pk), .val (.int rw_), .val (.int (pk &&& (7 : Int32))), .val (.int (47 : Int32)), .val (OwnOp (47 : Int32) v0 v1 v2 v3)] [(.int (47 : Int32)), (OwnOp (47 : Int32) v0 v1 v2 v3)])) rfl (by rw [hml]; rfl) (argsL := [(.int (47 : Int32))]) (rest := [(OwnOp (47 : Int32) v0 v1 v2 v3)]) (lenOf pd_53 rfl) rfl (by show 2 * 0 + (List.map (fun v => Value.category v) [(OwnOp (47 : Int32) v0 v1 v2 v3)]).sum ≤ 1; simp only [List.map_cons, List.map_nil, List.sum_cons, List.sum_nil, own_cat (own_op_ref _ _ _ _ _)] <;> exact Nat.le_of_eq rfl) (hb hby at_60) (fun _ _ => ⟨rfl, rfl, (by decide : 1 + 0 ≤ _), (by decide : 4 + 0 ≤ _)⟩)
          dsimp only [Pt.U, Pt.locs, Pt.cells, Pt.slots] at X31 l31 y31 z31 st31 hQ31
          subst l31 y31 z31
          obtain ⟨rfl, N31q, e31⟩ := hQ31
          have N31 := Fr.app N26 N31q
          refine OwnFin.step st31 ?_
          show OwnFin p e below _ (T31.setTop (mkF m 63 #[.val (.int pk), .val (.int rw_), .val (.int (pk &&& (7 : Int32))), .val (.int (47 : Int32)), .val (OwnOp (47 : Int32) v0 v1 v2 v3)] [(OwnOp (47 : Int32) v0 v1 v2 v3), (OwnOp (47 : Int32) v0 v1 v2 v3)]))
          refine OwnFin.step (fun tT kK => Jvm.RoadKit.acmp (g := (mkF m 63 #[.val (.int pk), .val (.int rw_), .val (.int (pk &&& (7 : Int32))), .val (.int (47 : Int32)), .val (OwnOp (47 : Int32) v0 v1 v2 v3)] [(OwnOp (47 : Int32) v0 v1 v2 v3), (OwnOp (47 : Int32) v0 v1 v2 v3)])) X31 hx rfl (own_op_ref _ _ _ _ _) (own_op_ref _ _ _ _ _) (pc0 := 63) (pc' := 66) (same := true) rfl (hb hby at_63) rfl (decide_eq_true rfl) (by decide) (by decide) kK) ?_
          show OwnFin p e below _ (T31.setTop (mkF m 66 #[.val (.int pk), .val (.int rw_), .val (.int (pk &&& (7 : Int32))), .val (.int (47 : Int32)), .val (OwnOp (47 : Int32) v0 v1 v2 v3)] []))
          refine OwnFin.step (fun tT kK => XS.iconst X31.here hx rfl (hb hby at_66) kK) ?_
          show OwnFin p e below _ (T31.setTop (mkF m 67 #[.val (.int pk), .val (.int rw_), .val (.int (pk &&& (7 : Int32))), .val (.int (47 : Int32)), .val (OwnOp (47 : Int32) v0 v1 v2 v3)] [(.int (1 : Int32))]))
          refine OwnFin.step (fun tT kK => XS.goto X31.here hx rfl (pc0 := 67) (pc' := 71) rfl (hb hby at_67) (by decide) (by decide) kK) ?_
          show OwnFin p e below _ (T31.setTop (mkF m 71 #[.val (.int pk), .val (.int rw_), .val (.int (pk &&& (7 : Int32))), .val (.int (47 : Int32)), .val (OwnOp (47 : Int32) v0 v1 v2 v3)] [(.int (1 : Int32))]))
          obtain ⟨fs32, hr32, hrun32, hended32, hW32, hsame32⟩ := X31.leave (v := (some (.int (1 : Int32)))) (fun h => by rw [Bd.returns] at h; cases h)
          refine ⟨_, _, retN X31 hx (t := .boolean) Bd.returns (by simp) (hb hby at_71) hr32, hrun32, hended32, _, _, rfl, ?_, ⟨_, rfl⟩, hW32, hsame32.mono (by decide) (by decide)⟩
          show Q0 Z pk rw_ va kv v0 v1 v2 v3 h0 n0 _ T31.heap _
          rw [e31]
          exact ⟨rfl, N31, ((Keep.refl h0 []).ext E26)⟩
        · skip
          refine OwnFin.step (fun tT kK => XS.icmpYes X0.here hx rfl (pc0 := 39) (pc' := 48) rfl (hb hby at_39) rfl (feq (hc25 : ¬ ((pk &&& (7 : Int32)) = (3 : Int32)))).2 (by decide) (by decide) kK) ?_
          show OwnFin p e below _ (s₁.setTop (mkF m 48 #[.val (.int pk), .val (.int rw_), .val (.int (pk &&& (7 : Int32))), .unset, .unset] []))
          refine OwnFin.step (fun tT kK => XS.iloadN X0.here hx rfl (hb hby at_48) rfl kK) ?_
          show OwnFin p e below _ (s₁.setTop (mkF m 49 #[.val (.int pk), .val (.int rw_), .val (.int (pk &&& (7 : Int32))), .unset, .unset] [(.int rw_)]))
          refine OwnFin.step (fun tT kK => XS.i2c X0.here hx rfl (hb hby at_49) rfl kK) ?_
          show OwnFin p e below _ (s₁.setTop (mkF m 50 #[.val (.int pk), .val (.int rw_), .val (.int (pk &&& (7 : Int32))), .unset, .unset] [(.int (rw_.toUInt32.toUInt16.toUInt32.toInt32))]))
          refine OwnFin.step (fun tT kK => XS.istoreN X0.here hx rfl (hb hby at_50) rfl (l' := #[.val (.int pk), .val (.int rw_), .val (.int (pk &&& (7 : Int32))), .val (.int (rw_.toUInt32.toUInt16.toUInt32.toInt32)), .unset]) rfl kK) ?_
          show OwnFin p e below _ (s₁.setTop (mkF m 51 #[.val (.int pk), .val (.int rw_), .val (.int (pk &&& (7 : Int32))), .val (.int (rw_.toUInt32.toUInt16.toUInt32.toInt32)), .unset] []))
          refine OwnFin.step (fun tT kK => XS.iloadN X0.here hx rfl (hb hby at_51) rfl kK) ?_
          show OwnFin p e below _ (s₁.setTop (mkF m 52 #[.val (.int pk), .val (.int rw_), .val (.int (pk &&& (7 : Int32))), .val (.int (rw_.toUInt32.toUInt16.toUInt32.toInt32)), .unset] [(.int (rw_.toUInt32.toUInt16.toUInt32.toInt32))]))
          obtain ⟨_, _, ⟨T33, L33, k33, n33⟩, -, X33, ⟨Lc33, hQ33, l33, y33, z33⟩, st33⟩ := Jvm.LawKit.callS X0 hx (y := (⟨"com/example/covenantry/covenantry/compute/Expression$Operator", "of", "(C)Lcom/example/covenantry/covenantry/compute/Expression$Operator;"⟩ : MethodName)) hown (mvT hZ (hw _ (List.mem_of_getElem? (i := 0) rfl))) (mvT hZ (hw _ (List.mem_of_getElem? (i := 1) rfl))) (mvT hZ (hw _ (List.mem_of_getElem? (i := 2) rfl))) (mvT hZ (hw _ (List.mem_of_getElem? (i := 3) rfl))) (by decide) (backOf (W := 0) (rm2 l Z a0 hw [] (rw_.toUInt32.toUInt16.toUInt32.toInt32) va kv v0 v1 v2 v3 h0 n0 Z0 hp0 hp1 hp2 hp3 hp4 hp5 hp6) hZ (hw _ (List.mem_of_getElem? (i := 3) rfl)) (hw _ (List.mem_of_getElem? (i := 2) rfl)) (by decide) (by decide)) (g := (mkF m 52 #[.val (.int pk), .val (.int rw_), .val (.int (pk &&& (7 : Int32))), .val (.int (rw_.toUInt32.toUInt16.toUInt32.toInt32)), .unset] [(.int (rw_.toUInt32.toUInt16.toUInt32.toInt32))])) rfl (by rw [hml]; rfl) (argsL := [(.int (rw_.toUInt32.toUInt16.toUInt32.toInt32))]) (rest := []) (lenOf pd_53 rfl) rfl (by show 2 * 0 + _ ≤ _; exact Nat.le_of_eq rfl) (hb hby at_52) (fun _ _ => ⟨rfl, e0, (by decide : 0 + 1 ≤ _), (by decide : 0 + 4 ≤ _)⟩)
          dsimp only [Pt.U, Pt.locs, Pt.cells, Pt.slots] at X33 l33 y33 z33 st33 hQ33
          subst l33 y33 z33
          obtain ⟨rfl, N33q, K33⟩ := hQ33
          have N33 := Fr.app N0 N33q
          refine OwnFin.step st33 ?_
          have E33 : Ext h0 T33.heap := ⟨K33.1, fun x c q => K33.2.1 x c q nin0⟩
          show OwnFin p e below _ (T33.setTop (mkF m 55 #[.val (.int pk), .val (.int rw_), .val (.int (pk &&& (7 : Int32))), .val (.int (rw_.toUInt32.toUInt16.toUInt32.toInt32)), .unset] [(OwnOp (rw_.toUInt32.toUInt16.toUInt32.toInt32) v0 v1 v2 v3)]))
          refine OwnFin.step (fun tT kK => XS.astoreS X33.here hx rfl (hb hby at_55) rfl (own_op_ref _ _ _ _ _) (own_cat (own_op_ref _ _ _ _ _)) rfl (Or.inl rfl) kK) ?_
          show OwnFin p e below _ (T33.setTop (mkF m 57 #[.val (.int pk), .val (.int rw_), .val (.int (pk &&& (7 : Int32))), .val (.int (rw_.toUInt32.toUInt16.toUInt32.toInt32)), .val (OwnOp (rw_.toUInt32.toUInt16.toUInt32.toInt32) v0 v1 v2 v3)] []))
          refine OwnFin.step (fun tT kK => XS.aload X33.here hx rfl (hb hby at_57) rfl (own_op_ref _ _ _ _ _) kK) ?_
          show OwnFin p e below _ (T33.setTop (mkF m 59 #[.val (.int pk), .val (.int rw_), .val (.int (pk &&& (7 : Int32))), .val (.int (rw_.toUInt32.toUInt16.toUInt32.toInt32)), .val (OwnOp (rw_.toUInt32.toUInt16.toUInt32.toInt32) v0 v1 v2 v3)] [(OwnOp (rw_.toUInt32.toUInt16.toUInt32.toInt32) v0 v1 v2 v3)]))
          refine OwnFin.step (fun tT kK => XS.iloadN X33.here hx rfl (hb hby at_59) rfl kK) ?_
          show OwnFin p e below _ (T33.setTop (mkF m 60 #[.val (.int pk), .val (.int rw_), .val (.int (pk &&& (7 : Int32))), .val (.int (rw_.toUInt32.toUInt16.toUInt32.toInt32)), .val (OwnOp (rw_.toUInt32.toUInt16.toUInt32.toInt32) v0 v1 v2 v3)] [(.int (rw_.toUInt32.toUInt16.toUInt32.toInt32)), (OwnOp (rw_.toUInt32.toUInt16.toUInt32.toInt32) v0 v1 v2 v3)]))
          have f34 : Sta Z T33.heap "com/example/covenantry/covenantry/compute/Expression$Operator" "ADD" "Lcom/example/covenantry/covenantry/compute/Expression$Operator;" (.ref v0) := (hp7.ext E33)
          have f35 : Sta Z T33.heap "com/example/covenantry/covenantry/compute/Expression$Operator" "SUBTRACT" "Lcom/example/covenantry/covenantry/compute/Expression$Operator;" (.ref v1) := (hp8.ext E33)
          have f36 : Sta Z T33.heap "com/example/covenantry/covenantry/compute/Expression$Operator" "MULTIPLY" "Lcom/example/covenantry/covenantry/compute/Expression$Operator;" (.ref v2) := (hp9.ext E33)
          have f37 : Sta Z T33.heap "com/example/covenantry/covenantry/compute/Expression$Operator" "DIVIDE" "Lcom/example/covenantry/covenantry/compute/Expression$Operator;" (.ref v3) := (hp10.ext E33)
          obtain ⟨_, _, ⟨T38, L38, k38, n38⟩, -, X38, ⟨Lc38, hQ38, l38, y38, z38⟩, st38⟩ := Jvm.LawKit.callS X33 hx (y := (⟨"com/example/covenantry/covenantry/compute/OperatorOfPinLaw", "expected", "(C)Lcom/example/covenantry/covenantry/compute/Expression$Operator;"⟩ : MethodName)) hown (mvT hZ (hw _ (List.mem_of_getElem? (i := 25) rfl))) (mvT hZ (hw _ (List.mem_of_getElem? (i := 26) rfl))) (mvT hZ (hw _ (List.mem_of_getElem? (i := 27) rfl))) (mvT hZ (hw _ (List.mem_of_getElem? (i := 28) rfl))) (by decide) (backOf (W := 1) (rm3 l Z a0 hw [] (rw_.toUInt32.toUInt16.toUInt32.toInt32) v0 v1 v2 v3 T33.heap n0 (Nat.le_trans Z0 E33.1) f34 f35 f36 f37) hZ (hw _ (List.mem_of_getElem? (i := 28) rfl)) (hw _ (List.mem_of_getElem? (i := 27) rfl)) (by decide) (by decide)) (g := (mkF m 60 #[.val (.int pk), .val (.int rw_), .val (.int (pk &&& (7 : Int32))), .val (.int (rw_.toUInt32.toUInt16.toUInt32.toInt32)), .val (OwnOp (rw_.toUInt32.toUInt16.toUInt32.toInt32) v0 v1 v2 v3)] [(.int (rw_.toUInt32.toUInt16.toUInt32.toInt32)), (OwnOp (rw_.toUInt32.toUInt16.toUInt32.toInt32) v0 v1 v2 v3)])) rfl (by rw [hml]; rfl) (argsL := [(.int (rw_.toUInt32.toUInt16.toUInt32.toInt32))]) (rest := [(OwnOp (rw_.toUInt32.toUInt16.toUInt32.toInt32) v0 v1 v2 v3)]) (lenOf pd_53 rfl) rfl (by show 2 * 0 + (List.map (fun v => Value.category v) [(OwnOp (rw_.toUInt32.toUInt16.toUInt32.toInt32) v0 v1 v2 v3)]).sum ≤ 1; simp only [List.map_cons, List.map_nil, List.sum_cons, List.sum_nil, own_cat (own_op_ref _ _ _ _ _)] <;> exact Nat.le_of_eq rfl) (hb hby at_60) (fun _ _ => ⟨rfl, rfl, (by decide : 1 + 0 ≤ _), (by decide : 4 + 0 ≤ _)⟩)
          dsimp only [Pt.U, Pt.locs, Pt.cells, Pt.slots] at X38 l38 y38 z38 st38 hQ38
          subst l38 y38 z38
          obtain ⟨rfl, N38q, e38⟩ := hQ38
          have N38 := Fr.app N33 N38q
          refine OwnFin.step st38 ?_
          show OwnFin p e below _ (T38.setTop (mkF m 63 #[.val (.int pk), .val (.int rw_), .val (.int (pk &&& (7 : Int32))), .val (.int (rw_.toUInt32.toUInt16.toUInt32.toInt32)), .val (OwnOp (rw_.toUInt32.toUInt16.toUInt32.toInt32) v0 v1 v2 v3)] [(OwnOp (rw_.toUInt32.toUInt16.toUInt32.toInt32) v0 v1 v2 v3), (OwnOp (rw_.toUInt32.toUInt16.toUInt32.toInt32) v0 v1 v2 v3)]))
          refine OwnFin.step (fun tT kK => Jvm.RoadKit.acmp (g := (mkF m 63 #[.val (.int pk), .val (.int rw_), .val (.int (pk &&& (7 : Int32))), .val (.int (rw_.toUInt32.toUInt16.toUInt32.toInt32)), .val (OwnOp (rw_.toUInt32.toUInt16.toUInt32.toInt32) v0 v1 v2 v3)] [(OwnOp (rw_.toUInt32.toUInt16.toUInt32.toInt32) v0 v1 v2 v3), (OwnOp (rw_.toUInt32.toUInt16.toUInt32.toInt32) v0 v1 v2 v3)])) X38 hx rfl (own_op_ref _ _ _ _ _) (own_op_ref _ _ _ _ _) (pc0 := 63) (pc' := 66) (same := true) rfl (hb hby at_63) rfl (decide_eq_true rfl) (by decide) (by decide) kK) ?_
          show OwnFin p e below _ (T38.setTop (mkF m 66 #[.val (.int pk), .val (.int rw_), .val (.int (pk &&& (7 : Int32))), .val (.int (rw_.toUInt32.toUInt16.toUInt32.toInt32)), .val (OwnOp (rw_.toUInt32.toUInt16.toUInt32.toInt32) v0 v1 v2 v3)] []))
          refine OwnFin.step (fun tT kK => XS.iconst X38.here hx rfl (hb hby at_66) kK) ?_
          show OwnFin p e below _ (T38.setTop (mkF m 67 #[.val (.int pk), .val (.int rw_), .val (.int (pk &&& (7 : Int32))), .val (.int (rw_.toUInt32.toUInt16.toUInt32.toInt32)), .val (OwnOp (rw_.toUInt32.toUInt16.toUInt32.toInt32) v0 v1 v2 v3)] [(.int (1 : Int32))]))
          refine OwnFin.step (fun tT kK => XS.goto X38.here hx rfl (pc0 := 67) (pc' := 71) rfl (hb hby at_67) (by decide) (by decide) kK) ?_
          show OwnFin p e below _ (T38.setTop (mkF m 71 #[.val (.int pk), .val (.int rw_), .val (.int (pk &&& (7 : Int32))), .val (.int (rw_.toUInt32.toUInt16.toUInt32.toInt32)), .val (OwnOp (rw_.toUInt32.toUInt16.toUInt32.toInt32) v0 v1 v2 v3)] [(.int (1 : Int32))]))
          obtain ⟨fs39, hr39, hrun39, hended39, hW39, hsame39⟩ := X38.leave (v := (some (.int (1 : Int32)))) (fun h => by rw [Bd.returns] at h; cases h)
          refine ⟨_, _, retN X38 hx (t := .boolean) Bd.returns (by simp) (hb hby at_71) hr39, hrun39, hended39, _, _, rfl, ?_, ⟨_, rfl⟩, hW39, hsame39.mono (by decide) (by decide)⟩
          show Q0 Z pk rw_ va kv v0 v1 v2 v3 h0 n0 _ T38.heap _
          rw [e38]
          exact ⟨rfl, N38, ((Keep.refl h0 []).ext E33)⟩
set_option maxRecDepth 65536 in
set_option maxHeartbeats 40000000 in
theorem comes_1 {Post : Tables → Env → Array Value → State → Outcome → State → Prop} (hpost : ∀ tb e args s v u, (limb_1_1.after args s (.returned v) u = true ∧ limb_1_2.after args s (.returned v) u = true ∧ True) → FrameEnd s (.returned v) u (Jvm.fieldLocs frame_1_writes args s ++ Jvm.arrayLocs frame_1_arrays args s ++ Jvm.staticLocs frame_1_statics s) 16 128 → Post tb e args s (.returned v) u) :
    ArmFor flags0 classFile x code maxLocals ret World_1 tables_1 room_1 Calls_1 rest_1 Pre_1 Post := by
  intro l hfl _ _ p e ha hc hk s m args below hf hA hF happ hP
  obtain ⟨hcalls, hrest, hpre⟩ := hP
  obtain ⟨-, -, -, hnamed, -, -, -, hat⟩ := (Spec.applies_iff hf).mp happ
  obtain ⟨hg, hn⟩ := and_e (Cond.before_iff.mp (show (Jvm.Cond.and given_1 narrow_1).before args s = true from hpre))
  obtain ⟨g1, g2⟩ := and_e hg
  obtain ⟨g3, g4⟩ := and_e g2
  obtain ⟨w_0, w_1, rfl⟩ : ∃ w_0 w_1 : Value, args = #[w_0, w_1] := by
    have hs : args.size = 2 := by simpa [Cond.value, given_1] using g1
    obtain ⟨L⟩ := args
    match L, hs with
    | [w_0, w_1], _ => exact ⟨w_0, w_1, rfl⟩
  have hw := fun d (hd : d ∈ tables_1) => atoms_spec (ws := Jvm.Cond.code x code maxLocals ret :: tables_1) hat d (List.mem_cons_of_mem _ hd)
  have hfit : Fit s := fun {y c} hc i hi => by
    obtain ⟨ha, rfl⟩ := Array.getElem?_eq_some_iff.mp hc
    have q := List.all_eq_true.mp ((Array.all_eq_true_iff_forall_mem.mp hF) _ (Array.getElem_mem ha)) i (List.mem_range.mpr hi)
    simpa [Array.getElem?_eq_getElem hi] using q
  obtain ⟨pk, ei0⟩ := is_v g3
  obtain rfl : w_0 = (.int pk) := Option.some.inj ei0
  obtain ⟨rw_, ei1⟩ := is_v g4
  obtain rfl : w_1 = (.int rw_) := Option.some.inj ei1
  obtain ⟨g5, g6⟩ := and_e hn
  obtain ⟨w7, ev_w7⟩ := arr_v g5
  have S_w7 := Sta.start ev_w7 (Or.inr ⟨(hw _ (List.mem_of_getElem? (i := 2) rfl)), (hw _ (List.mem_of_getElem? (i := 8) rfl))⟩)
  obtain ⟨cl_w7, A_w7⟩ := Arr.start ev_w7 g5
  obtain ⟨g8, g9⟩ := and_e g6
  have E_w7_g8 := Exa.start ev_w7 g8
  obtain ⟨g10, g11⟩ := and_e g9
  have Len_w7 := own_eqI g10
  obtain ⟨g12, g13⟩ := and_e g11
  obtain ⟨w14, ev_w14⟩ := exa_v g12
  have S_w14 := Sta.start ev_w14 (Or.inr ⟨(hw _ (List.mem_of_getElem? (i := 2) rfl)), (hw _ (List.mem_of_getElem? (i := 16) rfl))⟩)
  have E_w14_g12 := Exa.start ev_w14 g12
  obtain ⟨g15, g16⟩ := and_e g13
  have El_w7_0 := own_eqR ev_w14 g15
  obtain ⟨g17, g18⟩ := and_e g16
  obtain ⟨w19, ev_w19⟩ := exa_v g17
  have S_w19 := Sta.start ev_w19 (Or.inr ⟨(hw _ (List.mem_of_getElem? (i := 2) rfl)), (hw _ (List.mem_of_getElem? (i := 17) rfl))⟩)
  have E_w19_g17 := Exa.start ev_w19 g17
  obtain ⟨g20, g21⟩ := and_e g18
  have El_w7_1 := own_eqR ev_w19 g20
  obtain ⟨g22, g23⟩ := and_e g21
  obtain ⟨w24, ev_w24⟩ := exa_v g22
  have S_w24 := Sta.start ev_w24 (Or.inr ⟨(hw _ (List.mem_of_getElem? (i := 2) rfl)), (hw _ (List.mem_of_getElem? (i := 18) rfl))⟩)
  have E_w24_g22 := Exa.start ev_w24 g22
  obtain ⟨g25, g26⟩ := and_e g23
  have El_w7_2 := own_eqR ev_w24 g25
  obtain ⟨g27, g28⟩ := and_e g26
  obtain ⟨w29, ev_w29⟩ := exa_v g27
  have S_w29 := Sta.start ev_w29 (Or.inr ⟨(hw _ (List.mem_of_getElem? (i := 2) rfl)), (hw _ (List.mem_of_getElem? (i := 19) rfl))⟩)
  have E_w29_g27 := Exa.start ev_w29 g27
  obtain ⟨g30, g31⟩ := and_e g28
  have El_w7_3 := own_eqR ev_w29 g30
  obtain ⟨g32, g33⟩ := and_e g31
  have F_w14_g32 := own_fldI ev_w14 g32
  obtain ⟨g34, g35⟩ := and_e g33
  have F_w19_g34 := own_fldI ev_w19 g34
  obtain ⟨g36, g37⟩ := and_e g35
  have F_w24_g36 := own_fldI ev_w24 g36
  have F_w29_g37 := own_fldI ev_w29 g37
  have V_va := own_arv (vs := [.ref w14, .ref w19, .ref w24, .ref w29]) (dv := .null) hfit A_w7 ev_w7 Len_w7 (by decide) rfl ⟨own_elem A_w7 ev_w7 El_w7_0, own_elem A_w7 ev_w7 El_w7_1, own_elem A_w7 ev_w7 El_w7_2, own_elem A_w7 ev_w7 El_w7_3, trivial⟩
  obtain ⟨n, o, h1, h2, h3, _, L, rfl, ⟨rfl, N, -⟩, hq⟩ := rm0 l s _ hw tables_1 pk rw_ w7 _ w14 w19 w24 w29 s.heap s.heap.size (Nat.le_refl _) S_w7 V_va E_w7_g8 F_w14_g32 F_w19_g34 F_w24_g36 F_w29_g37 S_w14 S_w19 S_w24 S_w29 p e ha hc hk s m _ below hf ((Spec.applies_iff_loose hf).mp happ).1 ⟨rfl, State.Warmed39.refl s, rfl⟩ trivial
  refine ⟨n, _, h1, h2, h3, hpost _ _ _ _ _ _ ⟨Cond.after_iff.mpr rfl, Cond.after_iff.mpr (eq_i res_at (Term.int_eval (1)) rfl), trivial⟩ ⟨hq.1, hq.2.1, (hq.2.2.sift fun y hy => Or.inr (N y hy)).mono (by decide) (by decide)⟩⟩
theorem main_1_1 : Claimed_1_1 := comes_1 fun _ _ _ _ _ _ h hF => ⟨h.1, hF⟩
theorem main_1_2 : Claimed_1_2 := comes_1 fun _ _ _ _ _ _ h hF => ⟨h.2.1, hF⟩
end Jvm.Pilot.@@N@@
namespace Jvm.Pilot.@@N@@
open Jvm Jvm.ClassFile Sem Op Lib Jvm.Free Jvm.Stand Jvm.Pilot.@@N@@.Jvm.D
/-! MADE BY PROGRAM (witnessworld.py) out of the Statement's table words and the real class files: 13 classes; the members and pool entries that the words name. The judged class is class 1, her method 1. -/
namespace start1
open Jvm.ClassFile
def u (s : String) : CpInfo := .utf8 (stringToUtf16 s)
/-- a pool by its gaps: so many unusable entries, then the entry; so many at the end -/
def gap : Nat → List CpInfo → List CpInfo
  | 0, r => r
  | n + 1, r => .unusable :: gap n r
def poolList (es : List (Nat × CpInfo)) (last : Nat) : List CpInfo := es.foldr (fun e r => gap e.1 (e.2 :: r)) (gap last [])
def pool (es : List (Nat × CpInfo)) (last : Nat) : Array CpInfo := ⟨poolList es last⟩
def fileOf (pool : Array CpInfo) (this : Nat) (attrs : Array Attribute := #[]) (ms : Array MethodInfo := #[]) (fl : Nat := 33) (sup : Nat := 0) (ifs : Array Nat := #[]) (fds : Array FieldInfo := #[]) : ClassFile where
  minorVersion := 0
  majorVersion := 65
  constantPool := pool
  accessFlags := fl
  thisClass := this
  superClass := sup
  interfaces := ifs
  fields := fds
  methods := ms
  attributes := attrs
def plain (name : String) (sup : Option ClassId) : Class where
  name := name
  kind := .ordinary
  loader := none
  accessFlags := 33
  super := sup
  interfaces := #[]
  cf := none
  fields := #[]
  methods := #[]
  instanceTypes := #[]
  staticTypes := #[]
  resolved := #[]
  callSites := []
  init := .initialized
  statics := none
  mirror := none

def pool0 : Array CpInfo := pool [(5, u "<init>"), (0, u "()V"), (1, .class_ 10), (1, u "java/lang/Object"), (85, u "clone"), (0, u "()Ljava/lang/Object;")] 26

def k0m0 : Method := { name := "<init>", desc := "()V", sig := { parameters := [], returnType := none }, accessFlags := 1, code := none }
def k0m1 : Method := { name := "clone", desc := "()Ljava/lang/Object;", sig := { parameters := [], returnType := some (.object "java/lang/Object") }, accessFlags := 260, code := none }
/-- java/lang/Object -/
def k0 : Class := { plain "java/lang/Object" none with
  accessFlags := 33
  interfaces := #[]
  cf := some (fileOf pool0 8 #[] #[{ accessFlags := 1, nameIndex := 5, descriptorIndex := 6, attributes := #[] }, { accessFlags := 260, nameIndex := 96, descriptorIndex := 97, attributes := #[] }] 33 0 #[] #[])
  fields := #[]
  methods := #[k0m0, k0m1]
  instanceTypes := #[]
  staticTypes := #[]
  resolved := Array.replicate 124 none
  statics := none }

def pool1 : Array CpInfo := pool [(2, .class_ 4), (1, u "java/lang/Object"), (0, u "<init>"), (0, u "()V"), (0, .methodref 8 9), (0, .class_ 10), (0, .nameAndType 11 12), (0, u "com/example/covenantry/covenantry/compute/Expression$Operator"), (0, u "of"), (0, u "(C)Lcom/example/covenantry/covenantry/compute/Expression$Operator;"), (0, .methodref 14 15), (0, .class_ 16), (0, .nameAndType 17 12), (0, u "com/example/covenantry/covenantry/compute/OperatorOfPinLaw"), (0, u "expected"), (0, .fieldref 8 19), (0, .nameAndType 20 21), (0, u "ADD"), (0, u "Lcom/example/covenantry/covenantry/compute/Expression$Operator;"), (0, .fieldref 8 23), (0, .nameAndType 24 21), (0, u "SUBTRACT"), (0, .fieldref 8 26), (0, .nameAndType 27 21), (0, u "MULTIPLY"), (0, .fieldref 8 29), (0, .nameAndType 30 21), (0, u "DIVIDE"), (2, u "law"), (0, u "(II)Z")] 7

def k1m0 : Method := { name := "<init>", desc := "()V", sig := { parameters := [], returnType := none }, accessFlags := 1, code := none }
def k1c1 : Code := { maxStack := 2, maxLocals := 5, code := code, exceptionTable := #[], attributes := #[] }
def k1m1 : Method := { name := "law", desc := "(II)Z", sig := { parameters := [.int, .int], returnType := some .boolean }, accessFlags := 9, code := some k1c1 }
def k1c2 : Code := { maxStack := 2, maxLocals := 1, code := method_3_code, exceptionTable := #[], attributes := #[] }
def k1m2 : Method := { name := "expected", desc := "(C)Lcom/example/covenantry/covenantry/compute/Expression$Operator;", sig := { parameters := [.char], returnType := some (.object "com/example/covenantry/covenantry/compute/Expression$Operator") }, accessFlags := 10, code := some k1c2 }
/-- com/example/covenantry/covenantry/compute/OperatorOfPinLaw -/
def k1 : Class := { plain "com/example/covenantry/covenantry/compute/OperatorOfPinLaw" (some 0) with
  accessFlags := 49
  interfaces := #[]
  cf := some (fileOf pool1 14 #[] #[{ accessFlags := 1, nameIndex := 5, descriptorIndex := 6, attributes := #[] }, { accessFlags := 9, nameIndex := 33, descriptorIndex := 34, attributes := #[] }, { accessFlags := 10, nameIndex := 17, descriptorIndex := 12, attributes := #[] }] 49 2 #[] #[])
  fields := #[]
  methods := #[k1m0, k1m1, k1m2]
  instanceTypes := #[]
  staticTypes := #[]
  resolved := Array.replicate 42 none
  statics := none }

def pool2 : Array CpInfo := pool [(1, .class_ 2), (0, u "java/lang/constant/Constable"), (0, .class_ 4), (0, u "java/lang/Object")] 6

/-- java/lang/constant/Constable -/
def k2 : Class := { plain "java/lang/constant/Constable" (some 0) with
  accessFlags := 1537
  interfaces := #[]
  cf := some (fileOf pool2 1 #[] #[] 1537 3 #[] #[])
  fields := #[]
  methods := #[]
  instanceTypes := #[]
  staticTypes := #[]
  resolved := Array.replicate 11 none
  statics := none }

def pool3 : Array CpInfo := pool [(1, .class_ 2), (0, u "java/lang/Comparable"), (0, .class_ 4), (0, u "java/lang/Object")] 7

/-- java/lang/Comparable -/
def k3 : Class := { plain "java/lang/Comparable" (some 0) with
  accessFlags := 1537
  interfaces := #[]
  cf := some (fileOf pool3 1 #[] #[] 1537 3 #[] #[])
  fields := #[]
  methods := #[]
  instanceTypes := #[]
  staticTypes := #[]
  resolved := Array.replicate 12 none
  statics := none }

def pool4 : Array CpInfo := pool [(1, .class_ 2), (0, u "java/io/Serializable"), (0, .class_ 4), (0, u "java/lang/Object")] 2

/-- java/io/Serializable -/
def k4 : Class := { plain "java/io/Serializable" (some 0) with
  accessFlags := 1537
  interfaces := #[]
  cf := some (fileOf pool4 1 #[] #[] 1537 3 #[] #[])
  fields := #[]
  methods := #[]
  instanceTypes := #[]
  staticTypes := #[]
  resolved := Array.replicate 7 none
  statics := none }

def pool5 : Array CpInfo := pool [(2, .class_ 4), (1, u "java/lang/Enum"), (0, u "name"), (0, u "Ljava/lang/String;"), (2, u "ordinal"), (0, u "I"), (1, .class_ 14), (1, u "java/lang/Object"), (4, u "hash"), (86, .class_ 108), (1, u "java/lang/Enum$EnumDesc"), (2, .class_ 112), (0, u "java/lang/constant/Constable"), (0, .class_ 114), (0, u "java/lang/Comparable"), (0, .class_ 116), (0, u "java/io/Serializable")] 87

/-- java/lang/Enum -/
def k5 : Class := { plain "java/lang/Enum" (some 0) with
  accessFlags := 1057
  interfaces := #[2, 3, 4]
  cf := some (fileOf pool5 2 #[.nestMembers #[106]] #[] 1057 12 #[111, 113, 115] #[{ accessFlags := 18, nameIndex := 5, descriptorIndex := 6, attributes := #[] }, { accessFlags := 18, nameIndex := 9, descriptorIndex := 10, attributes := #[] }, { accessFlags := 2, nameIndex := 19, descriptorIndex := 10, attributes := #[] }])
  fields := #[{ name := "name", type := (.object "java/lang/String"), accessFlags := 18, slot := 0, constantValue := 0 }, { name := "ordinal", type := .int, accessFlags := 18, slot := 1, constantValue := 0 }, { name := "hash", type := .int, accessFlags := 2, slot := 2, constantValue := 0 }]
  methods := #[]
  instanceTypes := #[(.object "java/lang/String"), .int, .int]
  staticTypes := #[]
  resolved := Array.replicate 204 none
  statics := none }

def pool6 : Array CpInfo := pool [(1, .class_ 2), (0, u "com/example/covenantry/covenantry/compute/Expression$Operator"), (2, u "ADD"), (0, u "Lcom/example/covenantry/covenantry/compute/Expression$Operator;"), (2, u "SUBTRACT"), (2, u "MULTIPLY"), (2, u "DIVIDE"), (0, .fieldref 1 17), (0, .nameAndType 18 19), (0, u "$VALUES"), (0, u "[Lcom/example/covenantry/covenantry/compute/Expression$Operator;"), (0, .methodref 21 22), (0, .class_ 19), (0, .nameAndType 23 24), (0, u "clone"), (0, u "()Ljava/lang/Object;"), (1, .class_ 28), (1, u "java/lang/Enum"), (6, .fieldref 1 36), (0, .nameAndType 37 38), (0, u "symbol"), (0, u "C"), (0, .methodref 1 40), (0, .nameAndType 41 42), (0, u "values"), (0, u "()[Lcom/example/covenantry/covenantry/compute/Expression$Operator;"), (16, u "of"), (0, u "(C)Lcom/example/covenantry/covenantry/compute/Expression$Operator;"), (7, .class_ 69), (0, u "com/example/covenantry/covenantry/compute/Expression")] 2

def k6c0 : Code := { maxStack := 1, maxLocals := 0, code := prog_10_method_1_code, exceptionTable := #[], attributes := #[] }
def k6m0 : Method := { name := "values", desc := "()[Lcom/example/covenantry/covenantry/compute/Expression$Operator;", sig := { parameters := [], returnType := some (.array (.object "com/example/covenantry/covenantry/compute/Expression$Operator")) }, accessFlags := 9, code := some k6c0 }
def k6c1 : Code := { maxStack := 2, maxLocals := 5, code := prog_10_method_4_code, exceptionTable := #[], attributes := #[] }
def k6m1 : Method := { name := "of", desc := "(C)Lcom/example/covenantry/covenantry/compute/Expression$Operator;", sig := { parameters := [.char], returnType := some (.object "com/example/covenantry/covenantry/compute/Expression$Operator") }, accessFlags := 8, code := some k6c1 }
/-- com/example/covenantry/covenantry/compute/Expression$Operator -/
def k6 : Class := { plain "com/example/covenantry/covenantry/compute/Expression$Operator" (some 5) with
  accessFlags := 16433
  interfaces := #[]
  cf := some (fileOf pool6 1 #[.nestHost 68] #[{ accessFlags := 9, nameIndex := 41, descriptorIndex := 42, attributes := #[] }, { accessFlags := 8, nameIndex := 59, descriptorIndex := 60, attributes := #[] }] 16433 26 #[] #[{ accessFlags := 16409, nameIndex := 5, descriptorIndex := 6, attributes := #[] }, { accessFlags := 16409, nameIndex := 9, descriptorIndex := 6, attributes := #[] }, { accessFlags := 16409, nameIndex := 12, descriptorIndex := 6, attributes := #[] }, { accessFlags := 16409, nameIndex := 15, descriptorIndex := 6, attributes := #[] }, { accessFlags := 18, nameIndex := 37, descriptorIndex := 38, attributes := #[] }, { accessFlags := 4122, nameIndex := 18, descriptorIndex := 19, attributes := #[] }])
  fields := #[{ name := "ADD", type := (.object "com/example/covenantry/covenantry/compute/Expression$Operator"), accessFlags := 16409, slot := 0, constantValue := 0 }, { name := "SUBTRACT", type := (.object "com/example/covenantry/covenantry/compute/Expression$Operator"), accessFlags := 16409, slot := 1, constantValue := 0 }, { name := "MULTIPLY", type := (.object "com/example/covenantry/covenantry/compute/Expression$Operator"), accessFlags := 16409, slot := 2, constantValue := 0 }, { name := "DIVIDE", type := (.object "com/example/covenantry/covenantry/compute/Expression$Operator"), accessFlags := 16409, slot := 3, constantValue := 0 }, { name := "symbol", type := .char, accessFlags := 18, slot := 3, constantValue := 0 }, { name := "$VALUES", type := (.array (.object "com/example/covenantry/covenantry/compute/Expression$Operator")), accessFlags := 4122, slot := 4, constantValue := 0 }]
  methods := #[k6m0, k6m1]
  instanceTypes := #[(.object "java/lang/String"), .int, .int, .char]
  staticTypes := #[(.object "com/example/covenantry/covenantry/compute/Expression$Operator"), (.object "com/example/covenantry/covenantry/compute/Expression$Operator"), (.object "com/example/covenantry/covenantry/compute/Expression$Operator"), (.object "com/example/covenantry/covenantry/compute/Expression$Operator"), (.array (.object "com/example/covenantry/covenantry/compute/Expression$Operator"))]
  resolved := Array.replicate 72 none
  statics := some 0 }

def pool7 : Array CpInfo := pool [(1, .class_ 2), (0, u "java/lang/Cloneable"), (0, .class_ 4), (0, u "java/lang/Object")] 2

/-- java/lang/Cloneable -/
def k7 : Class := { plain "java/lang/Cloneable" (some 0) with
  accessFlags := 1537
  interfaces := #[]
  cf := some (fileOf pool7 1 #[] #[] 1537 3 #[] #[])
  fields := #[]
  methods := #[]
  instanceTypes := #[]
  staticTypes := #[]
  resolved := Array.replicate 7 none
  statics := none }

/-- the primitive byte -/
def k8 : Class := { plain "byte" none with kind := .primitive 'B', accessFlags := 0x411 }
/-- [B -/
def k9 : Class := { plain "[B" (some 0) with kind := .array 8 .byte, interfaces := #[7, 4], accessFlags := 1041 }

/-- the primitive int -/
def k10 : Class := { plain "int" none with kind := .primitive 'I', accessFlags := 0x411 }
/-- [I -/
def k11 : Class := { plain "[I" (some 0) with kind := .array 10 .int, interfaces := #[7, 4], accessFlags := 1041 }

/-- [Lcom/example/covenantry/covenantry/compute/Expression$Operator; -/
def k12 : Class := { plain "[Lcom/example/covenantry/covenantry/compute/Expression$Operator;" (some 0) with kind := .array 6 (.object "com/example/covenantry/covenantry/compute/Expression$Operator"), interfaces := #[7, 4], accessFlags := 1041 }

def heap : Heap := #[{ cls := 6, slots := #[.ref 2, .ref 3, .ref 4, .ref 5, .ref 1], vm := .statics 6 },
  { cls := 12, slots := #[.ref 2, .ref 3, .ref 4, .ref 5], vm := .none },
  { cls := 6, slots := #[.null, .int 0, .int 0, .int 43], vm := .none },
  { cls := 6, slots := #[.null, .int 1, .int 0, .int 45], vm := .none },
  { cls := 6, slots := #[.null, .int 2, .int 0, .int 42], vm := .none },
  { cls := 6, slots := #[.null, .int 3, .int 0, .int 47], vm := .none }]
def classes : Array Class := #[k0, k1, k2, k3, k4, k5, k6, k7, k8, k9, k10, k11, k12]
def interned : List (Array UInt16 × Addr) := []
def slotsUsed : Nat := 25
def theMethod : MethodId := ⟨1, 1⟩
def args0 : Array Value := #[.int 1, .int 2]
def aboutOver (below : List Frame) : State where
  vm := { classes := classes, interned := interned.toArray }
  heap := heap
  slotsUsed := slotsUsed
  threads := #[{ frames := .invoking theMethod args0 :: below }]
def below0 : List Frame := [.native { method := ⟨0, 0⟩, args := #[] }]
def about1 : State := aboutOver below0
def p0 : Program := .bare "" "" ""
def e0 : Env := launch0.env 0 0 0
theorem w_frames : about1.frames = Frame.invoking theMethod args0 :: below0 := rfl
set_option maxRecDepth 65536 in
theorem w_args : argsFit about1.vm theMethod args0 = true := by decide +kernel
set_option maxRecDepth 65536 in
theorem w_heap : heapFits about1 = true := by decide +kernel
set_option maxRecDepth 65536 in
theorem w_runnable : about1.curStatus? = some .runnable := by decide +kernel
set_option maxRecDepth 65536 in
theorem w_alone : about1.alone = true := by decide +kernel
set_option maxRecDepth 65536 in
theorem w_named : about1.methodNamed? x = some theMethod := by decide +kernel
set_option maxRecDepth 65536 in
theorem w_hears : about1.hears theMethod below0 = true := by decide +kernel
set_option maxRecDepth 65536 in
theorem w_ripe : about1.ripe theMethod args0 below0 = true := by decide +kernel
theorem w_running : about1.status = .running := rfl
set_option maxRecDepth 65536 in
theorem w_room : about1.hasRoom e0.platform room_1 = true :=
  launch0.hasRoom_least _ room_1 (by decide +kernel) (by decide +kernel) (by decide +kernel) (by decide +kernel) (by decide +kernel) (by decide +kernel)
theorem allAtoms_all (ts : List Jvm.Cond) (a : Array Jvm.Value) (st : Jvm.State) : (allAtoms ts).before a st = ts.all (fun c => c.before a st) := by
  induction ts with
  | nil => rfl
  | cons c t ih =>
    show (Jvm.Cond.and c (allAtoms t)).before a st = _
    rw [Jvm.Cond.before_and, ih, List.all_cons]
def words1 : List Jvm.Cond := Jvm.Cond.code x code maxLocals ret :: tables_1
/-- a 'code' word, met by the world's own term for the bytes: nothing is compared byte by byte -/
theorem code_word {y : MethodName} {bytes : ByteArray} {mx : Nat} {rt : Option FieldType} {a : Array Value} {s : State} {m : MethodId} {meth : Method} {c : Code} (h1 : s.methodNamed? y = some m) (h2 : s.vm.method? m = some meth) (h3 : meth.code = some c) (h4 : c.code = bytes)
    (h5 : (c.maxLocals == mx && c.exceptionTable.isEmpty && decide (c.maxStack ≤ mostOperands) && decide (meth.sig.returnType = rt) && !meth.locks && decide (parseMethodDescriptor y.desc = some meth.sig)) = true) : (Jvm.Cond.code y bytes mx rt).before a s = true := by
  simp only [Bool.and_eq_true, beq_iff_eq, Bool.not_eq_true', decide_eq_true_eq] at h5
  obtain ⟨⟨⟨⟨⟨g1, g2⟩, g3⟩, g4⟩, g5⟩, g6⟩ := h5
  simp [Cond.before, Cond.holds, Cond.value, h1, h2, h3, h4, g1, g2, g3, g4, g5, g6]
def isCode : Jvm.Cond → Bool
  | .code _ _ _ _ => true
  | _ => false
theorem all_split {L : List Jvm.Cond} {P : Jvm.Cond → Bool} (h1 : L.all (fun c => isCode c || P c) = true) (h2 : ∀ c ∈ L.filter isCode, P c = true) : L.all P = true := by
  refine List.all_eq_true.mpr fun c hc => ?_
  have h := List.all_eq_true.mp h1 c hc
  rcases Bool.eq_false_or_eq_true (isCode c) with hi | hi
  · exact h2 c (List.mem_filter.mpr ⟨hc, hi⟩)
  · simpa [hi] using h
set_option maxRecDepth 65536 in
theorem w_c0 : (Jvm.Cond.code x code maxLocals ret).before args0 about1 = true := code_word (m := ⟨1, 1⟩) (meth := k1m1) (c := k1c1) (by decide +kernel) rfl rfl rfl (by decide +kernel)
set_option maxRecDepth 65536 in
theorem w_c1 : (Jvm.Cond.code ({ cls := "com/example/covenantry/covenantry/compute/Expression$Operator", name := "of", desc := "(C)Lcom/example/covenantry/covenantry/compute/Expression$Operator;" } : Jvm.MethodName) prog_10_method_4_code (5 : Nat) (Option.some (Jvm.ClassFile.FieldType.object "com/example/covenantry/covenantry/compute/Expression$Operator"))).before args0 about1 = true := code_word (m := ⟨6, 1⟩) (meth := k6m1) (c := k6c1) (by decide +kernel) rfl rfl rfl (by decide +kernel)
set_option maxRecDepth 65536 in
theorem w_c2 : (Jvm.Cond.code ({ cls := "com/example/covenantry/covenantry/compute/Expression$Operator", name := "values", desc := "()[Lcom/example/covenantry/covenantry/compute/Expression$Operator;" } : Jvm.MethodName) prog_10_method_1_code (0 : Nat) (Option.some (Jvm.ClassFile.FieldType.array (Jvm.ClassFile.FieldType.object "com/example/covenantry/covenantry/compute/Expression$Operator")))).before args0 about1 = true := code_word (m := ⟨6, 0⟩) (meth := k6m0) (c := k6c0) (by decide +kernel) rfl rfl rfl (by decide +kernel)
set_option maxRecDepth 65536 in
theorem w_c3 : (Jvm.Cond.code ({ cls := "com/example/covenantry/covenantry/compute/OperatorOfPinLaw", name := "expected", desc := "(C)Lcom/example/covenantry/covenantry/compute/Expression$Operator;" } : Jvm.MethodName) method_3_code (1 : Nat) (Option.some (Jvm.ClassFile.FieldType.object "com/example/covenantry/covenantry/compute/Expression$Operator"))).before args0 about1 = true := code_word (m := ⟨1, 2⟩) (meth := k1m2) (c := k1c2) (by decide +kernel) rfl rfl rfl (by decide +kernel)
def codes1 : List Jvm.Cond := [Jvm.Cond.code x code maxLocals ret, Jvm.Cond.code ({ cls := "com/example/covenantry/covenantry/compute/Expression$Operator", name := "of", desc := "(C)Lcom/example/covenantry/covenantry/compute/Expression$Operator;" } : Jvm.MethodName) prog_10_method_4_code (5 : Nat) (Option.some (Jvm.ClassFile.FieldType.object "com/example/covenantry/covenantry/compute/Expression$Operator")), Jvm.Cond.code ({ cls := "com/example/covenantry/covenantry/compute/Expression$Operator", name := "values", desc := "()[Lcom/example/covenantry/covenantry/compute/Expression$Operator;" } : Jvm.MethodName) prog_10_method_1_code (0 : Nat) (Option.some (Jvm.ClassFile.FieldType.array (Jvm.ClassFile.FieldType.object "com/example/covenantry/covenantry/compute/Expression$Operator"))), Jvm.Cond.code ({ cls := "com/example/covenantry/covenantry/compute/OperatorOfPinLaw", name := "expected", desc := "(C)Lcom/example/covenantry/covenantry/compute/Expression$Operator;" } : Jvm.MethodName) method_3_code (1 : Nat) (Option.some (Jvm.ClassFile.FieldType.object "com/example/covenantry/covenantry/compute/Expression$Operator"))]
set_option maxRecDepth 65536 in
theorem codes_eq : words1.filter isCode = codes1 := rfl
theorem w_codes : ∀ c ∈ words1.filter isCode, c.before args0 about1 = true := by
  rw [codes_eq]
  intro c hc
  simp only [codes1, List.mem_cons, List.not_mem_nil, or_false] at hc
  rcases hc with rfl | rfl | rfl | rfl
  · exact w_c0
  · exact w_c1
  · exact w_c2
  · exact w_c3
set_option maxRecDepth 65536 in
theorem w_t1 : (words1.take 24).all (fun c => isCode c || c.before args0 about1) = true := by decide +kernel
set_option maxRecDepth 65536 in
theorem w_t2 : (words1.drop 24).all (fun c => isCode c || c.before args0 about1) = true := by decide +kernel
theorem w_tables : (allAtoms (Jvm.Cond.code x code maxLocals ret :: tables_1)).before args0 about1 = true := by
  rw [allAtoms_all]
  show words1.all (fun c => c.before args0 about1) = true
  refine all_split ?_ w_codes
  rw [← List.take_append_drop 24 words1, List.all_append, w_t1, w_t2]
  rfl
set_option maxRecDepth 65536 in
theorem w_case : (Jvm.Cond.and given_1 narrow_1).before args0 about1 = true := by decide +kernel
theorem w_applies : (headSpec (Jvm.Cond.code x code maxLocals ret :: tables_1) room_1).applies x e0.platform about1 = true :=
  (Spec.applies_iff w_frames).mpr ⟨w_running, w_runnable, w_alone, w_named, w_hears, w_ripe, w_room, w_tables⟩
theorem atStart : AtStart classFile x code maxLocals ret World_1 tables_1 room_1 Calls_1 rest_1 Pre_1 launch0 p0 e0 about1 theMethod args0 below0 :=
  ⟨lists_1, trivial, launch0.admits_env _ _ _, launch0.least_env, fairChoices_fair.cas, fairChoices_fair.clock, w_frames, w_args, w_heap, w_applies, trivial, trivial, w_case⟩
end start1
theorem witness_1 : WitnessClaimed_1 := ⟨start1.p0, start1.e0, start1.about1, start1.theMethod, start1.args0, start1.below0, start1.atStart⟩
end Jvm.Pilot.@@N@@
