import JvmDerived
import JvmDerived.Pilot.@@N@@Statement
import JvmDerived.Pilot.@@N@@Code
set_option linter.unusedVariables false
set_option linter.unusedSimpArgs false

namespace Jvm.Pilot.@@N@@
open Jvm Jvm.ClassFile Sem Op Lib Jvm.Free Jvm.Stand Jvm.LawKit Jvm.RoadKit Bundle Jvm.Pilot.@@N@@.Jvm.D
def OwnFin (p : Program) (e : Env) (below : List Frame) (Q : Outcome → State → Prop) (T : State) : Prop := ∃ s₂ o, Steps p.tables e below T s₂ ∧ s₂.status = .running ∧ Ended s₂ below o ∧ Q o s₂
theorem OwnFin.step {p : Program} {e : Env} {below : List Frame} {Q : Outcome → State → Prop} {A B : State} (h : ∀ t, Steps p.tables e below A t → Steps p.tables e below B t) (k : OwnFin p e below Q A) : OwnFin p e below Q B := by
  obtain ⟨s₂, o, h1, h2⟩ := k
  exact ⟨s₂, o, h _ h1, h2⟩
theorem own_safe_nil {Z : State} {vm : Vm} {h : Heap} {x : Addr} : Safe Z [] vm h x := fun ⟨_, hp, _⟩ => nomatch hp
theorem own_safe_str {Z : State} {EL : List (String × Nat)} {vm : Vm} {h : Heap} {x : Addr} (hal : Z.vm.Alike vm) (E : Exa Z h x "java/lang/String") (F : Fld Z h x "java/lang/String" "value" "[B" .null) : Safe Z EL vm h x := fun B => by
  obtain ⟨p, -, u, a, -, q, -, G, rfl | rfl⟩ := B
  · obtain ⟨cell, cf, k, i, f, h1, h2, h3, h4, h5, h6, h7⟩ := F
    cases (show h[q.sa]? = some q.sC from G.ha).symm.trans h1
    obtain ⟨cS, ⟨⟨-, -, -, ⟨c1, k1, i1, f1, -⟩, -, -, -, v1, -⟩, -⟩, -⟩ := G
    obtain ⟨k3, e3, -⟩ := State.fieldFound?_setVm (s := Z) hal h2
    have e4 := (show (Wst Z vm h).fieldFound? _ _ _ = _ from e3).symm.trans f1
    simp only [Option.some.injEq, Prod.mk.injEq] at e4
    rw [← e4.2.2.2, h7] at v1
    simp at v1
  · obtain ⟨cell, k, e1, e2, e3, -, -⟩ := E
    cases (show h[q.sd]? = some q.SA from G.hd).symm.trans e1
    obtain ⟨cS, -, -, f, -⟩ := G
    have f : vm.findClass "[B" = some q.SA.cls := f
    rw [hal.findClass] at f
    obtain ⟨k1, q1, q2⟩ := Vm.findClass_spec f
    obtain ⟨k2, q3, q4⟩ := Vm.findClass_spec e2
    cases q1.symm.trans q3
    exact absurd (q2.symm.trans q4) (by decide)
section OwnNo
variable {Z : State} {a0 : Array Value}
theorem own_ns_root {O K : String} {n : Nat} (w : (Jvm.Cond.noSuperclass O).before a0 Z = true) (wk : (Jvm.Cond.instantiable K n).before a0 Z = true) (hn : O ≠ K) : NS Z O K := by
  obtain ⟨c, k, h1, h2, h3, -, -⟩ := Cond.noSuperclass_spec w
  obtain ⟨t, kt, g1, -⟩ := Cond.instantiable_spec wk
  have ne := ids_ne h1 g1 hn
  refine ⟨c, t, h1, g1, fun fuel => ?_⟩
  cases fuel with
  | zero => rfl
  | succ f => simp [Vm.isSubclassAux, ne, h2, h3]
theorem own_ns_no {C S K : String} {n : Nat} (w : (Jvm.Cond.superclass C S).before a0 Z = true) (wk : (Jvm.Cond.instantiable K n).before a0 Z = true) (m : NS Z C K) (hn : C ≠ K) : ∃ c t, Z.vm.findClass C = some c ∧ Z.vm.findClass K = some t ∧ Z.vm.assignable c t = false := by
  obtain ⟨c, t, h0, g0, n3⟩ := m
  obtain ⟨p, k, kp, h1, h2, h3, h4, h5, -, h7⟩ := Cond.superclass_spec h0 w
  obtain ⟨t', k', g1, g2, g5, g7, -⟩ := Cond.instantiable_spec wk
  cases g0.symm.trans g1
  have g8 : k'.isInterface = false := (Bool.or_eq_false_iff.mp g7).1
  have ne := ids_ne h0 g0 hn
  refine ⟨c, t, h0, g0, ?_⟩
  show Z.vm.assignableAux (255 + 1) c t = false
  simp [Vm.assignableAux, ne, h2, g2, h5, g5, g8, Vm.isSubclass, n3]
end OwnNo
theorem own_fits {C : String} {v : Value} (h : v.isRef = true) : fits (.object C) v = true := by cases v <;> simp_all [Value.isRef, fits]
theorem own_cat {v : Value} (h : v.isRef = true) : v.category = 1 := by cases v <;> simp_all [Value.isRef, Value.category]
theorem own_nonsta {Z : State} {h : Heap} {a : Addr} {C : String} (E : Exa Z h a C) : ∃ cell : Cell, h[a]? = some cell ∧ cell.vm.isStatics = false := by
  obtain ⟨cell, k, h1, -, -, h2, -⟩ := E
  exact ⟨cell, h1, h2⟩
theorem own_sta_keep {Z : State} {h h' : Heap} {ws : List Addr} {C n d : String} {v : Value} (F : Sta Z h C n d v) (K : Keep h h' ws) (q : ∀ x ∈ ws, ∃ cell : Cell, h[x]? = some cell ∧ cell.vm.isStatics = false) : Sta Z h' C n d v := by
  obtain ⟨cf, i, k, f, st, cell, h1, h2, h3, h4, h5, h6, h7⟩ := F
  refine ⟨cf, i, k, f, st, cell, h1, h2, h3, h4, K.2.1 _ _ h5 fun z => ?_, h6, h7⟩
  obtain ⟨c2, e1, e2⟩ := q st z
  rw [h5] at e1
  cases e1
  rw [h6] at e2
  cases e2
theorem own_arr_keep {Z : State} {h h' : Heap} {ws : List Addr} {a : Addr} {c : Cell} {ty : FieldType} (A : Arr Z h a c ty) (K : Keep h h' ws) (q : a ∉ ws) : Arr Z h' a c ty := ⟨K.2.1 a c A.1 q, A.2⟩
section OwnLen
variable {p : Program} {l : Launch} {e : Env} {R : Room} {s : State} {m : MethodId} {args : Array Value} {below : List Frame} {meth : Method} {c : Code} {T : State} {locs : List Loc} {cells slots : Nat} {Z : State} {h : Heap}
theorem own_len (X : Stand p l e R s m args below meth c T locs cells slots) (hx : p.tables.exec = Jvm.exec) (hZ : Z.Warmed39 s.vm) (eT : T.heap = h) {a : Addr} {cl : Cell} {ty : FieldType} (A : Arr Z h a cl ty) {z : Int32} (Sz : cl.slots.size = z.toNatClampNeg) (Ng : ¬ z < 0) {g : JFrame} (hg : g.method = m) {rest : List Value} (hs : g.stack = .ref a :: rest) (hd : decode c.code g.pc = .ok (.arraylength, 1)) {t : State}
    (k : Steps p.tables e below (T.setTop { g with pc := g.pc + 1, stack := .int z :: rest }) t) : Steps p.tables e below (T.setTop g) t := by
  refine X.arraylength hx (by rw [eT]; exact A.1) (State.isArrayOf_alike hZ.alike A.2.1) hg hs hd _ ?_
  rw [len_of Sz Ng]
  exact k
end OwnLen

section OwnStart
variable {args : Array Value} {s : State} {t : Term} {x : Addr}
theorem own_eqI {a : Term} {k : Int32} (h : (Jvm.Cond.eq a (Term.int k)).value args s none s [] = some true) : a.eval args s none [] s = some (.int k) := by
  obtain ⟨v, y, e1, e2, k1, k2⟩ := cmp_v (Or.inl h)
  have e3 : (Term.int k).eval args s none [] s = some (.int k) := Term.int_eval k
  rw [e3] at e2
  cases e2
  obtain ⟨z, rfl⟩ := k2
  simp [Cond.value, e1, e3] at h
  subst h
  exact e1
theorem own_fldI {C n d : String} {k : Int32} (ht : t.eval args s none [] s = some (.ref x)) (h : (Jvm.Cond.eq (Term.field t C n d) (Term.int k)).value args s none s [] = some true) : Fld s s.heap x C n d (.int k) := Fld.start (by rw [← fld_at ht (args := args) (first := s) (o := none) (idx := [])]; exact own_eqI h)
theorem own_neI {a : Term} {z k : Int32} (e1 : a.eval args s none [] s = some (.int z)) (h : (Jvm.Cond.not (Jvm.Cond.eq a (Term.int k))).value args s none s [] = some true) : ¬ z = k := by
  have h2 := not_v h
  have e3 : (Term.int k).eval args s none [] s = some (.int k) := Term.int_eval k
  intro e
  subst e
  simp [Cond.value, e1, e3] at h2
theorem own_eqR {a b : Term} {y : Addr} (hb : b.eval args s none [] s = some (.ref y)) (h : (Jvm.Cond.eq a b).value args s none s [] = some true) : a.eval args s none [] s = some (.ref y) := by
  obtain ⟨v, z, e1, e2, k1, k2⟩ := cmp_v (Or.inl h)
  rw [hb] at e2
  cases e2
  have hv : v.isRef = true := k2.2
  rw [eq_R e1 hb hv rfl] at h
  have := of_decide_eq_true (Option.some.inj h)
  subst this
  exact e1
theorem own_arv {t : Term} {a : Addr} {cl : Cell} {ty : FieldType} {z : Int32} {vs : List Value} {dv : Value} (hf : Fit s) (A : Arr s s.heap a cl ty) (ev : t.eval args s none [] s = some (.ref a)) (hl : (Term.length t).eval args s none [] s = some (.int z)) (hz : ¬ z < 0) (hn : z.toNatClampNeg = vs.length) (H : HasL cl 0 vs) : Arv s s.heap a cl.cls ty z vs dv := by
  obtain ⟨b, cell, h1, h2, h3⟩ := Term.length_spec hl
  cases ev.symm.trans h1
  obtain ⟨hcell, -⟩ := State.arrayAt?_spec h2
  cases A.1.symm.trans hcell
  have hsz : cl.slots.size < 2 ^ 31 := by
    simp only [Term.eval, ev, h2, Option.bind_eq_bind, Option.bind_some] at hl
    by_cases hlt : cl.slots.size < 2147483648
    · exact hlt
    · simp [hlt] at hl
  exact Arv.start hf A hsz (Value.int.inj h3).symm hz hn H
theorem own_elem {t : Term} {a : Addr} {cl : Cell} {ty : FieldType} {j : Int32} {v : Value} (A : Arr s s.heap a cl ty) (ev : t.eval args s none [] s = some (.ref a)) (h : (Term.elem t (Term.int j)).eval args s none [] s = some v) : cl.slots[j.toNatClampNeg]? = some v := (elem_in h ev (Term.int_eval j) A.1).2
end OwnStart

theorem own_mod (k : Int32) (d : Int32) (D : Int) (hd : d.toInt = D) (hD : 0 < D) : 0 ≤ ((k &&& (2147483647 : Int32)) % d).toInt ∧ ((k &&& (2147483647 : Int32)) % d).toInt < D := by
  have h1 := c_mask k (2147483647 : Int32) 31 (by decide) (by decide)
  have h2 := (c_irem (k &&& (2147483647 : Int32)) d D hd).1 (by rw [h1]; exact Int.emod_nonneg _ (by decide))
  rw [h2]
  exact ⟨Int.emod_nonneg _ (by omega), Int.emod_lt_of_pos _ hD⟩

theorem own_cases19 {i : Int32} (h0 : 0 ≤ i.toInt) (h1 : i.toInt < 19) : i = (0 : Int32) ∨ i = (1 : Int32) ∨ i = (2 : Int32) ∨ i = (3 : Int32) ∨ i = (4 : Int32) ∨ i = (5 : Int32) ∨ i = (6 : Int32) ∨ i = (7 : Int32) ∨ i = (8 : Int32) ∨ i = (9 : Int32) ∨ i = (10 : Int32) ∨ i = (11 : Int32) ∨ i = (12 : Int32) ∨ i = (13 : Int32) ∨ i = (14 : Int32) ∨ i = (15 : Int32) ∨ i = (16 : Int32) ∨ i = (17 : Int32) ∨ i = (18 : Int32) := by
  simp only [← Int32.toInt_inj]
  simp
  omega
theorem pn_0 : plainName "com/example/cairn/cairn/engine/BinaryOperator" = true := by first | (simp [plainName, overriddenIn]; done) | decide +kernel
theorem d_prog_5_method_7_0 : decode prog_5_method_7_code 0 = .ok (.aload_n 0, 1) := by decide +kernel
theorem d_prog_5_method_7_1 : decode prog_5_method_7_code 1 = .ok (.getstatic 7, 3) := by decide +kernel
theorem d_prog_5_method_7_4 : decode prog_5_method_7_code 4 = .ok (.if_acmp .eq 10, 3) := by decide +kernel
theorem d_prog_5_method_7_14 : decode prog_5_method_7_code 14 = .ok (.iconst 1, 1) := by decide +kernel
theorem d_prog_5_method_7_15 : decode prog_5_method_7_code 15 = .ok (.goto 4, 3) := by decide +kernel
theorem d_prog_5_method_7_19 : decode prog_5_method_7_code 19 = .ok (.ireturn, 1) := by decide +kernel
theorem d_prog_5_method_7_7 : decode prog_5_method_7_code 7 = .ok (.aload_n 0, 1) := by decide +kernel
theorem d_prog_5_method_7_8 : decode prog_5_method_7_code 8 = .ok (.getstatic 3, 3) := by decide +kernel
theorem d_prog_5_method_7_11 : decode prog_5_method_7_code 11 = .ok (.if_acmp .ne 7, 3) := by decide +kernel
theorem d_prog_5_method_7_18 : decode prog_5_method_7_code 18 = .ok (.iconst 0, 1) := by decide +kernel
theorem ef_1 (m : MethodId) (a : Addr) : entryFrame m #[(.ref a)] 1 = mkF m 0 #[.val (.ref a)] [] := by first | (simp [entryFrame, mkF, argsToLocals, Value.category]; done) | rfl
def Q1 (Z : State) (a : Addr) (x : Addr) (y : Addr) (h0 : Heap) (n0 : Nat) (vV : Option Value) (hH : Heap) (LL : List Loc) : Prop := vV = some (.int (if a = x ∨ a = y then 1 else 0)) ∧ Fr n0 LL ∧ hH = h0
def R1 (Z : State) (a : Addr) (x : Addr) (y : Addr) (h0 : Heap) (n0 : Nat) (U : State) (oO : Outcome) (U' : State) : Prop := ∃ vV LL, oO = .returned vV ∧ Q1 Z a x y h0 n0 vV U'.heap LL ∧ FrameEnd U oO U' LL ({ frames := 0, cells := 0, slots := 0, locals := 0 } : Room).cells ({ frames := 0, cells := 0, slots := 0, locals := 0 } : Room).slots
set_option maxRecDepth 65536 in
set_option maxHeartbeats 40000000 in
theorem rm1 (l : Launch) (Z : State) (a0 : Array Value) (hw : ∀ d ∈ tables_1, d.before a0 Z = true) (ws : List Jvm.Cond) (a : Addr) (x : Addr) (y : Addr) (h0 : Heap) (n0 : Nat) (Z0 : n0 ≤ h0.size) (hp0 : Sta Z h0 "com/example/cairn/cairn/engine/BinaryOperator" "AND" "Lcom/example/cairn/cairn/engine/BinaryOperator;" (.ref x)) (hp1 : Sta Z h0 "com/example/cairn/cairn/engine/BinaryOperator" "OR" "Lcom/example/cairn/cairn/engine/BinaryOperator;" (.ref y)) :
    MetFree l (⟨"com/example/cairn/cairn/engine/BinaryOperator", "shortCircuits", "()Z"⟩ : MethodName) (head1 (Jvm.Cond.code (⟨"com/example/cairn/cairn/engine/BinaryOperator", "shortCircuits", "()Z"⟩ : MethodName) prog_5_method_7_code 1 (some .boolean) :: ws) ({ frames := 0, cells := 0, slots := 0, locals := 0 } : Room)) (fun aA U => aA = #[(.ref a)] ∧ Z.Warmed39 U.vm ∧ U.heap = h0) (fun _ _ _ _ _ => True) (fun _ U oO U' => ∃ vV LL, oO = .returned vV ∧ Q1 Z a x y h0 n0 vV U'.heap LL ∧ FrameEnd U oO U' LL ({ frames := 0, cells := 0, slots := 0, locals := 0 } : Room).cells ({ frames := 0, cells := 0, slots := 0, locals := 0 } : Room).slots) := by
  refine MetFree.of_bodySF (plainFor_of_name pn_0) hisR ?_
  intro p e s m args below meth cC s₁ Bd hml0 hP hK
  obtain ⟨rfl, hZ, hh⟩ := hP
  have hx := Bd.exec
  have hby := Bd.bytes
  have hml : cC.maxLocals = 1 := hml0
  have hown : s.vm.findClass "com/example/cairn/cairn/engine/BinaryOperator" = some m.cls := findClass_of_methodNamed Bd.named
  have hnm := (name_of_methodNamed Bd.named Bd.method).1
  have X0 : Stand p l e ({ frames := 0, cells := 0, slots := 0, locals := 0 } : Room) s m #[(.ref a)] below meth cC s₁ [] 0 0 := Stand.of_body Bd
  have e0 : s₁.heap = h0 := by rw [← hh, Bd.state]; rfl
  have N0 := Fr.nil n0
  have Kp0 := Keep.refl h0 []
  show OwnFin p e below (R1 Z a x y h0 n0 s) (s₁.setTop (entryFrame m #[(.ref a)] 1))
  rw [ef_1 m a]
  refine OwnFin.step (fun tT kK => XS.aloadN X0.here hx rfl (hb hby d_prog_5_method_7_0) rfl rfl kK) ?_
  show OwnFin p e below _ (s₁.setTop (mkF m 1 #[.val (.ref a)] [(.ref a)]))
  obtain ⟨T1, X1, e1, st1⟩ := getS2 X0 hx hZ hown (host := "") (Or.inl (hw _ (List.mem_of_getElem? (i := 48) rfl))) Via.refl e0 hp0 (g := (mkF m 1 #[.val (.ref a)] [(.ref a)])) rfl (hb hby d_prog_5_method_7_1)
  refine OwnFin.step st1 ?_
  show OwnFin p e below _ (T1.setTop (mkF m 4 #[.val (.ref a)] [(.ref x), (.ref a)]))
  by_cases hc2 : a = x
  · skip
    refine OwnFin.step (fun tT kK => Jvm.RoadKit.acmp (g := (mkF m 4 #[.val (.ref a)] [(.ref x), (.ref a)])) X1 hx rfl rfl rfl (pc0 := 4) (pc' := 14) (same := true) rfl (hb hby d_prog_5_method_7_4) rfl (decide_eq_true (congrArg Value.ref (hc2 : a = x))) (by decide) (by decide) kK) ?_
    show OwnFin p e below _ (T1.setTop (mkF m 14 #[.val (.ref a)] []))
    refine OwnFin.step (fun tT kK => XS.iconst X1.here hx rfl (hb hby d_prog_5_method_7_14) kK) ?_
    show OwnFin p e below _ (T1.setTop (mkF m 15 #[.val (.ref a)] [(.int (1 : Int32))]))
    refine OwnFin.step (fun tT kK => XS.goto X1.here hx rfl (pc0 := 15) (pc' := 19) rfl (hb hby d_prog_5_method_7_15) (by decide) (by decide) kK) ?_
    show OwnFin p e below _ (T1.setTop (mkF m 19 #[.val (.ref a)] [(.int (1 : Int32))]))
    obtain ⟨fs3, hr3, hrun3, hended3, hW3, hsame3⟩ := X1.leave (v := (some (.int (1 : Int32)))) (fun h => by rw [Bd.returns] at h; cases h)
    refine ⟨_, _, retN X1 hx (t := .boolean) Bd.returns (by simp) (hb hby d_prog_5_method_7_19) hr3, hrun3, hended3, _, _, rfl, ?_, ⟨_, rfl⟩, hW3, hsame3.mono (by decide) (by decide)⟩
    show Q1 Z a x y h0 n0 _ T1.heap _
    rw [e1]
    exact ⟨(by rw [if_pos (Or.inl hc2)]), N0, rfl⟩
  · skip
    refine OwnFin.step (fun tT kK => Jvm.RoadKit.acmp (g := (mkF m 4 #[.val (.ref a)] [(.ref x), (.ref a)])) X1 hx rfl rfl rfl (pc0 := 4) (pc' := 7) (same := false) rfl (hb hby d_prog_5_method_7_4) rfl (decide_eq_false fun q => (hc2 : ¬ (a = x)) (Value.ref.inj q)) (by decide) (by decide) kK) ?_
    show OwnFin p e below _ (T1.setTop (mkF m 7 #[.val (.ref a)] []))
    refine OwnFin.step (fun tT kK => XS.aloadN X1.here hx rfl (hb hby d_prog_5_method_7_7) rfl rfl kK) ?_
    show OwnFin p e below _ (T1.setTop (mkF m 8 #[.val (.ref a)] [(.ref a)]))
    obtain ⟨T4, X4, e4, st4⟩ := getS2 X1 hx hZ hown (host := "") (Or.inl (hw _ (List.mem_of_getElem? (i := 49) rfl))) Via.refl e1 hp1 (g := (mkF m 8 #[.val (.ref a)] [(.ref a)])) rfl (hb hby d_prog_5_method_7_8)
    refine OwnFin.step st4 ?_
    show OwnFin p e below _ (T4.setTop (mkF m 11 #[.val (.ref a)] [(.ref y), (.ref a)]))
    by_cases hc5 : a = y
    · skip
      refine OwnFin.step (fun tT kK => Jvm.RoadKit.acmp (g := (mkF m 11 #[.val (.ref a)] [(.ref y), (.ref a)])) X4 hx rfl rfl rfl (pc0 := 11) (pc' := 14) (same := true) rfl (hb hby d_prog_5_method_7_11) rfl (decide_eq_true (congrArg Value.ref (hc5 : a = y))) (by decide) (by decide) kK) ?_
      show OwnFin p e below _ (T4.setTop (mkF m 14 #[.val (.ref a)] []))
      refine OwnFin.step (fun tT kK => XS.iconst X4.here hx rfl (hb hby d_prog_5_method_7_14) kK) ?_
      show OwnFin p e below _ (T4.setTop (mkF m 15 #[.val (.ref a)] [(.int (1 : Int32))]))
      refine OwnFin.step (fun tT kK => XS.goto X4.here hx rfl (pc0 := 15) (pc' := 19) rfl (hb hby d_prog_5_method_7_15) (by decide) (by decide) kK) ?_
      show OwnFin p e below _ (T4.setTop (mkF m 19 #[.val (.ref a)] [(.int (1 : Int32))]))
      obtain ⟨fs6, hr6, hrun6, hended6, hW6, hsame6⟩ := X4.leave (v := (some (.int (1 : Int32)))) (fun h => by rw [Bd.returns] at h; cases h)
      refine ⟨_, _, retN X4 hx (t := .boolean) Bd.returns (by simp) (hb hby d_prog_5_method_7_19) hr6, hrun6, hended6, _, _, rfl, ?_, ⟨_, rfl⟩, hW6, hsame6.mono (by decide) (by decide)⟩
      show Q1 Z a x y h0 n0 _ T4.heap _
      rw [e4]
      exact ⟨(by rw [if_pos (Or.inr hc5)]), N0, rfl⟩
    · skip
      refine OwnFin.step (fun tT kK => Jvm.RoadKit.acmp (g := (mkF m 11 #[.val (.ref a)] [(.ref y), (.ref a)])) X4 hx rfl rfl rfl (pc0 := 11) (pc' := 18) (same := false) rfl (hb hby d_prog_5_method_7_11) rfl (decide_eq_false fun q => (hc5 : ¬ (a = y)) (Value.ref.inj q)) (by decide) (by decide) kK) ?_
      show OwnFin p e below _ (T4.setTop (mkF m 18 #[.val (.ref a)] []))
      refine OwnFin.step (fun tT kK => XS.iconst X4.here hx rfl (hb hby d_prog_5_method_7_18) kK) ?_
      show OwnFin p e below _ (T4.setTop (mkF m 19 #[.val (.ref a)] [(.int (0 : Int32))]))
      obtain ⟨fs7, hr7, hrun7, hended7, hW7, hsame7⟩ := X4.leave (v := (some (.int (0 : Int32)))) (fun h => by rw [Bd.returns] at h; cases h)
      refine ⟨_, _, retN X4 hx (t := .boolean) Bd.returns (by simp) (hb hby d_prog_5_method_7_19) hr7, hrun7, hended7, _, _, rfl, ?_, ⟨_, rfl⟩, hW7, hsame7.mono (by decide) (by decide)⟩
      show Q1 Z a x y h0 n0 _ T4.heap _
      rw [e4]
      exact ⟨(by rw [if_neg (fun q => q.elim hc2 hc5)]), N0, rfl⟩
theorem d_prog_5_method_8_0 : decode prog_5_method_8_code 0 = .ok (.aload_n 0, 1) := by decide +kernel
theorem d_prog_5_method_8_1 : decode prog_5_method_8_code 1 = .ok (.getfield 91, 3) := by decide +kernel
theorem d_prog_5_method_8_4 : decode prog_5_method_8_code 4 = .ok (.ireturn, 1) := by decide +kernel
theorem ef_2 (m : MethodId) (a : Addr) : entryFrame m #[(.ref a)] 1 = mkF m 0 #[.val (.ref a)] [] := by first | (simp [entryFrame, mkF, argsToLocals, Value.category]; done) | rfl
def Q2 (Z : State) (a : Addr) (r : Int32) (h0 : Heap) (n0 : Nat) (vV : Option Value) (hH : Heap) (LL : List Loc) : Prop := vV = some (.int r) ∧ Fr n0 LL ∧ hH = h0
def R2 (Z : State) (a : Addr) (r : Int32) (h0 : Heap) (n0 : Nat) (U : State) (oO : Outcome) (U' : State) : Prop := ∃ vV LL, oO = .returned vV ∧ Q2 Z a r h0 n0 vV U'.heap LL ∧ FrameEnd U oO U' LL ({ frames := 0, cells := 0, slots := 0, locals := 0 } : Room).cells ({ frames := 0, cells := 0, slots := 0, locals := 0 } : Room).slots
set_option maxRecDepth 65536 in
set_option maxHeartbeats 40000000 in
theorem rm2 (l : Launch) (Z : State) (a0 : Array Value) (hw : ∀ d ∈ tables_1, d.before a0 Z = true) (ws : List Jvm.Cond) (a : Addr) (r : Int32) (h0 : Heap) (n0 : Nat) (Z0 : n0 ≤ h0.size) (hp0 : Fld Z h0 a "com/example/cairn/cairn/engine/BinaryOperator" "opcode" "I" (.int r)) :
    MetFree l (⟨"com/example/cairn/cairn/engine/BinaryOperator", "opcode", "()I"⟩ : MethodName) (head1 (Jvm.Cond.code (⟨"com/example/cairn/cairn/engine/BinaryOperator", "opcode", "()I"⟩ : MethodName) prog_5_method_8_code 1 (some .int) :: ws) ({ frames := 0, cells := 0, slots := 0, locals := 0 } : Room)) (fun aA U => aA = #[(.ref a)] ∧ Z.Warmed39 U.vm ∧ U.heap = h0) (fun _ _ _ _ _ => True) (fun _ U oO U' => ∃ vV LL, oO = .returned vV ∧ Q2 Z a r h0 n0 vV U'.heap LL ∧ FrameEnd U oO U' LL ({ frames := 0, cells := 0, slots := 0, locals := 0 } : Room).cells ({ frames := 0, cells := 0, slots := 0, locals := 0 } : Room).slots) := by
  refine MetFree.of_bodySF (plainFor_of_name pn_0) hisR ?_
  intro p e s m args below meth cC s₁ Bd hml0 hP hK
  obtain ⟨rfl, hZ, hh⟩ := hP
  have hx := Bd.exec
  have hby := Bd.bytes
  have hml : cC.maxLocals = 1 := hml0
  have hown : s.vm.findClass "com/example/cairn/cairn/engine/BinaryOperator" = some m.cls := findClass_of_methodNamed Bd.named
  have hnm := (name_of_methodNamed Bd.named Bd.method).1
  have X0 : Stand p l e ({ frames := 0, cells := 0, slots := 0, locals := 0 } : Room) s m #[(.ref a)] below meth cC s₁ [] 0 0 := Stand.of_body Bd
  have e0 : s₁.heap = h0 := by rw [← hh, Bd.state]; rfl
  have N0 := Fr.nil n0
  have Kp0 := Keep.refl h0 []
  show OwnFin p e below (R2 Z a r h0 n0 s) (s₁.setTop (entryFrame m #[(.ref a)] 1))
  rw [ef_2 m a]
  refine OwnFin.step (fun tT kK => XS.aloadN X0.here hx rfl (hb hby d_prog_5_method_8_0) rfl rfl kK) ?_
  show OwnFin p e below _ (s₁.setTop (mkF m 1 #[.val (.ref a)] [(.ref a)]))
  obtain ⟨T1, X1, e1, st1⟩ := getF X0 hx hZ hown (host := "") (Or.inl (hw _ (List.mem_of_getElem? (i := 55) rfl))) Via.refl e0 hp0 (g := (mkF m 1 #[.val (.ref a)] [(.ref a)])) rfl rfl (hb hby d_prog_5_method_8_1)
  refine OwnFin.step st1 ?_
  show OwnFin p e below _ (T1.setTop (mkF m 4 #[.val (.ref a)] [(.int r)]))
  obtain ⟨fs2, hr2, hrun2, hended2, hW2, hsame2⟩ := X1.leave (v := (some (.int r))) (fun h => by rw [Bd.returns] at h; cases h)
  refine ⟨_, _, retOut X1 hx Bd.returns rfl (Or.inl ⟨rfl, Or.inl rfl, _, rfl⟩) (hb hby d_prog_5_method_8_4) hr2, hrun2, hended2, _, _, rfl, ?_, ⟨_, rfl⟩, hW2, hsame2.mono (by decide) (by decide)⟩
  show Q2 Z a r h0 n0 _ T1.heap _
  rw [e1]
  exact ⟨rfl, N0, rfl⟩
theorem d_prog_5_method_6_0 : decode prog_5_method_6_code 0 = .ok (.aload_n 0, 1) := by decide +kernel
theorem d_prog_5_method_6_1 : decode prog_5_method_6_code 1 = .ok (.getfield 87, 3) := by decide +kernel
theorem d_prog_5_method_6_4 : decode prog_5_method_6_code 4 = .ok (.ireturn, 1) := by decide +kernel
theorem ef_3 (m : MethodId) (a : Addr) : entryFrame m #[(.ref a)] 1 = mkF m 0 #[.val (.ref a)] [] := by first | (simp [entryFrame, mkF, argsToLocals, Value.category]; done) | rfl
def Q3 (Z : State) (a : Addr) (r : Int32) (h0 : Heap) (n0 : Nat) (vV : Option Value) (hH : Heap) (LL : List Loc) : Prop := vV = some (.int r) ∧ Fr n0 LL ∧ hH = h0
def R3 (Z : State) (a : Addr) (r : Int32) (h0 : Heap) (n0 : Nat) (U : State) (oO : Outcome) (U' : State) : Prop := ∃ vV LL, oO = .returned vV ∧ Q3 Z a r h0 n0 vV U'.heap LL ∧ FrameEnd U oO U' LL ({ frames := 0, cells := 0, slots := 0, locals := 0 } : Room).cells ({ frames := 0, cells := 0, slots := 0, locals := 0 } : Room).slots
set_option maxRecDepth 65536 in
set_option maxHeartbeats 40000000 in
theorem rm3 (l : Launch) (Z : State) (a0 : Array Value) (hw : ∀ d ∈ tables_1, d.before a0 Z = true) (ws : List Jvm.Cond) (a : Addr) (r : Int32) (h0 : Heap) (n0 : Nat) (Z0 : n0 ≤ h0.size) (hp0 : Fld Z h0 a "com/example/cairn/cairn/engine/BinaryOperator" "precedence" "I" (.int r)) :
    MetFree l (⟨"com/example/cairn/cairn/engine/BinaryOperator", "precedence", "()I"⟩ : MethodName) (head1 (Jvm.Cond.code (⟨"com/example/cairn/cairn/engine/BinaryOperator", "precedence", "()I"⟩ : MethodName) prog_5_method_6_code 1 (some .int) :: ws) ({ frames := 0, cells := 0, slots := 0, locals := 0 } : Room)) (fun aA U => aA = #[(.ref a)] ∧ Z.Warmed39 U.vm ∧ U.heap = h0) (fun _ _ _ _ _ => True) (fun _ U oO U' => ∃ vV LL, oO = .returned vV ∧ Q3 Z a r h0 n0 vV U'.heap LL ∧ FrameEnd U oO U' LL ({ frames := 0, cells := 0, slots := 0, locals := 0 } : Room).cells ({ frames := 0, cells := 0, slots := 0, locals := 0 } : Room).slots) := by
  refine MetFree.of_bodySF (plainFor_of_name pn_0) hisR ?_
  intro p e s m args below meth cC s₁ Bd hml0 hP hK
  obtain ⟨rfl, hZ, hh⟩ := hP
  have hx := Bd.exec
  have hby := Bd.bytes
  have hml : cC.maxLocals = 1 := hml0
  have hown : s.vm.findClass "com/example/cairn/cairn/engine/BinaryOperator" = some m.cls := findClass_of_methodNamed Bd.named
  have hnm := (name_of_methodNamed Bd.named Bd.method).1
  have X0 : Stand p l e ({ frames := 0, cells := 0, slots := 0, locals := 0 } : Room) s m #[(.ref a)] below meth cC s₁ [] 0 0 := Stand.of_body Bd
  have e0 : s₁.heap = h0 := by rw [← hh, Bd.state]; rfl
  have N0 := Fr.nil n0
  have Kp0 := Keep.refl h0 []
  show OwnFin p e below (R3 Z a r h0 n0 s) (s₁.setTop (entryFrame m #[(.ref a)] 1))
  rw [ef_3 m a]
  refine OwnFin.step (fun tT kK => XS.aloadN X0.here hx rfl (hb hby d_prog_5_method_6_0) rfl rfl kK) ?_
  show OwnFin p e below _ (s₁.setTop (mkF m 1 #[.val (.ref a)] [(.ref a)]))
  obtain ⟨T1, X1, e1, st1⟩ := getF X0 hx hZ hown (host := "") (Or.inl (hw _ (List.mem_of_getElem? (i := 62) rfl))) Via.refl e0 hp0 (g := (mkF m 1 #[.val (.ref a)] [(.ref a)])) rfl rfl (hb hby d_prog_5_method_6_1)
  refine OwnFin.step st1 ?_
  show OwnFin p e below _ (T1.setTop (mkF m 4 #[.val (.ref a)] [(.int r)]))
  obtain ⟨fs2, hr2, hrun2, hended2, hW2, hsame2⟩ := X1.leave (v := (some (.int r))) (fun h => by rw [Bd.returns] at h; cases h)
  refine ⟨_, _, retOut X1 hx Bd.returns rfl (Or.inl ⟨rfl, Or.inl rfl, _, rfl⟩) (hb hby d_prog_5_method_6_4) hr2, hrun2, hended2, _, _, rfl, ?_, ⟨_, rfl⟩, hW2, hsame2.mono (by decide) (by decide)⟩
  show Q3 Z a r h0 n0 _ T1.heap _
  rw [e1]
  exact ⟨rfl, N0, rfl⟩
theorem pn_17 : plainName "com/example/cairn/cairn/engine/BinaryOperatorShortCircuitsPinLaw" = true := by first | (simp [plainName, overriddenIn]; done) | decide +kernel
theorem pd_18 : parseMethodDescriptor "()Z" = some ⟨[], some .boolean⟩ := by decide +kernel
theorem pd_19 : parseMethodDescriptor "()I" = some ⟨[], some .int⟩ := by decide +kernel
theorem ef_0 (m : MethodId) (k : Int32) : entryFrame m #[(.int k)] maxLocals = mkF m 0 #[.val (.int k), .unset, .unset, .unset, .unset, .unset, .unset, .unset, .unset] [] := by first | (simp [entryFrame, mkF, argsToLocals, Value.category, maxLocals]; done) | rfl
def Q0 (Z : State) (k : Int32) (v0 : Addr) (v1 : Addr) (v2 : Addr) (v3 : Addr) (v4 : Addr) (v5 : Addr) (v6 : Addr) (v7 : Addr) (v8 : Addr) (v9 : Addr) (v10 : Addr) (v11 : Addr) (v12 : Addr) (v13 : Addr) (v14 : Addr) (v15 : Addr) (v16 : Addr) (v17 : Addr) (v18 : Addr) (h0 : Heap) (n0 : Nat) (vV : Option Value) (hH : Heap) (LL : List Loc) : Prop := vV = some (.int (1 : Int32)) ∧ Fr n0 LL ∧ Keep h0 hH []
def R0 (Z : State) (k : Int32) (v0 : Addr) (v1 : Addr) (v2 : Addr) (v3 : Addr) (v4 : Addr) (v5 : Addr) (v6 : Addr) (v7 : Addr) (v8 : Addr) (v9 : Addr) (v10 : Addr) (v11 : Addr) (v12 : Addr) (v13 : Addr) (v14 : Addr) (v15 : Addr) (v16 : Addr) (v17 : Addr) (v18 : Addr) (h0 : Heap) (n0 : Nat) (U : State) (oO : Outcome) (U' : State) : Prop := ∃ vV LL, oO = .returned vV ∧ Q0 Z k v0 v1 v2 v3 v4 v5 v6 v7 v8 v9 v10 v11 v12 v13 v14 v15 v16 v17 v18 h0 n0 vV U'.heap LL ∧ FrameEnd U oO U' LL room_1.cells room_1.slots
set_option maxRecDepth 65536 in
set_option maxHeartbeats 40000000 in
theorem rm0 (l : Launch) (Z : State) (a0 : Array Value) (hw : ∀ d ∈ tables_1, d.before a0 Z = true) (ws : List Jvm.Cond) (k : Int32) (v0 : Addr) (v1 : Addr) (v2 : Addr) (v3 : Addr) (v4 : Addr) (v5 : Addr) (v6 : Addr) (v7 : Addr) (v8 : Addr) (v9 : Addr) (v10 : Addr) (v11 : Addr) (v12 : Addr) (v13 : Addr) (v14 : Addr) (v15 : Addr) (v16 : Addr) (v17 : Addr) (v18 : Addr) (h0 : Heap) (n0 : Nat) (Z0 : n0 ≤ h0.size) (hp0 : Sta Z h0 "com/example/cairn/cairn/engine/BinaryOperator" "OR" "Lcom/example/cairn/cairn/engine/BinaryOperator;" (.ref v0)) (hp1 : Sta Z h0 "com/example/cairn/cairn/engine/BinaryOperator" "AND" "Lcom/example/cairn/cairn/engine/BinaryOperator;" (.ref v1)) (hp2 : Sta Z h0 "com/example/cairn/cairn/engine/BinaryOperator" "EQUAL" "Lcom/example/cairn/cairn/engine/BinaryOperator;" (.ref v2)) (hp3 : Sta Z h0 "com/example/cairn/cairn/engine/BinaryOperator" "NOT_EQUAL" "Lcom/example/cairn/cairn/engine/BinaryOperator;" (.ref v3)) (hp4 : Sta Z h0 "com/example/cairn/cairn/engine/BinaryOperator" "LESS" "Lcom/example/cairn/cairn/engine/BinaryOperator;" (.ref v4)) (hp5 : Sta Z h0 "com/example/cairn/cairn/engine/BinaryOperator" "LESS_EQUAL" "Lcom/example/cairn/cairn/engine/BinaryOperator;" (.ref v5)) (hp6 : Sta Z h0 "com/example/cairn/cairn/engine/BinaryOperator" "GREATER" "Lcom/example/cairn/cairn/engine/BinaryOperator;" (.ref v6)) (hp7 : Sta Z h0 "com/example/cairn/cairn/engine/BinaryOperator" "GREATER_EQUAL" "Lcom/example/cairn/cairn/engine/BinaryOperator;" (.ref v7)) (hp8 : Sta Z h0 "com/example/cairn/cairn/engine/BinaryOperator" "BIT_OR" "Lcom/example/cairn/cairn/engine/BinaryOperator;" (.ref v8)) (hp9 : Sta Z h0 "com/example/cairn/cairn/engine/BinaryOperator" "BIT_XOR" "Lcom/example/cairn/cairn/engine/BinaryOperator;" (.ref v9)) (hp10 : Sta Z h0 "com/example/cairn/cairn/engine/BinaryOperator" "BIT_AND" "Lcom/example/cairn/cairn/engine/BinaryOperator;" (.ref v10)) (hp11 : Sta Z h0 "com/example/cairn/cairn/engine/BinaryOperator" "SHIFT_LEFT" "Lcom/example/cairn/cairn/engine/BinaryOperator;" (.ref v11)) (hp12 : Sta Z h0 "com/example/cairn/cairn/engine/BinaryOperator" "SHIFT_RIGHT" "Lcom/example/cairn/cairn/engine/BinaryOperator;" (.ref v12)) (hp13 : Sta Z h0 "com/example/cairn/cairn/engine/BinaryOperator" "SHIFT_RIGHT_UNSIGNED" "Lcom/example/cairn/cairn/engine/BinaryOperator;" (.ref v13)) (hp14 : Sta Z h0 "com/example/cairn/cairn/engine/BinaryOperator" "ADD" "Lcom/example/cairn/cairn/engine/BinaryOperator;" (.ref v14)) (hp15 : Sta Z h0 "com/example/cairn/cairn/engine/BinaryOperator" "SUBTRACT" "Lcom/example/cairn/cairn/engine/BinaryOperator;" (.ref v15)) (hp16 : Sta Z h0 "com/example/cairn/cairn/engine/BinaryOperator" "MULTIPLY" "Lcom/example/cairn/cairn/engine/BinaryOperator;" (.ref v16)) (hp17 : Sta Z h0 "com/example/cairn/cairn/engine/BinaryOperator" "DIVIDE" "Lcom/example/cairn/cairn/engine/BinaryOperator;" (.ref v17)) (hp18 : Sta Z h0 "com/example/cairn/cairn/engine/BinaryOperator" "REMAINDER" "Lcom/example/cairn/cairn/engine/BinaryOperator;" (.ref v18)) (hp19 : Exa Z h0 v0 "com/example/cairn/cairn/engine/BinaryOperator") (hp20 : Exa Z h0 v1 "com/example/cairn/cairn/engine/BinaryOperator") (hp21 : Exa Z h0 v2 "com/example/cairn/cairn/engine/BinaryOperator") (hp22 : Exa Z h0 v3 "com/example/cairn/cairn/engine/BinaryOperator") (hp23 : Exa Z h0 v4 "com/example/cairn/cairn/engine/BinaryOperator") (hp24 : Exa Z h0 v5 "com/example/cairn/cairn/engine/BinaryOperator") (hp25 : Exa Z h0 v6 "com/example/cairn/cairn/engine/BinaryOperator") (hp26 : Exa Z h0 v7 "com/example/cairn/cairn/engine/BinaryOperator") (hp27 : Exa Z h0 v8 "com/example/cairn/cairn/engine/BinaryOperator") (hp28 : Exa Z h0 v9 "com/example/cairn/cairn/engine/BinaryOperator") (hp29 : Exa Z h0 v10 "com/example/cairn/cairn/engine/BinaryOperator") (hp30 : Exa Z h0 v11 "com/example/cairn/cairn/engine/BinaryOperator") (hp31 : Exa Z h0 v12 "com/example/cairn/cairn/engine/BinaryOperator") (hp32 : Exa Z h0 v13 "com/example/cairn/cairn/engine/BinaryOperator") (hp33 : Exa Z h0 v14 "com/example/cairn/cairn/engine/BinaryOperator") (hp34 : Exa Z h0 v15 "com/example/cairn/cairn/engine/BinaryOperator") (hp35 : Exa Z h0 v16 "com/example/cairn/cairn/engine/BinaryOperator") (hp36 : Exa Z h0 v17 "com/example/cairn/cairn/engine/BinaryOperator") (hp37 : Exa Z h0 v18 "com/example/cairn/cairn/engine/BinaryOperator") (hp38 : Fld Z h0 v0 "com/example/cairn/cairn/engine/BinaryOperator" "opcode" "I" (.int (38 : Int32))) (hp39 : Fld Z h0 v1 "com/example/cairn/cairn/engine/BinaryOperator" "opcode" "I" (.int (37 : Int32))) (hp40 : Fld Z h0 v2 "com/example/cairn/cairn/engine/BinaryOperator" "opcode" "I" (.int (10 : Int32))) (hp41 : Fld Z h0 v3 "com/example/cairn/cairn/engine/BinaryOperator" "opcode" "I" (.int (32 : Int32))) (hp42 : Fld Z h0 v4 "com/example/cairn/cairn/engine/BinaryOperator" "opcode" "I" (.int (11 : Int32))) (hp43 : Fld Z h0 v5 "com/example/cairn/cairn/engine/BinaryOperator" "opcode" "I" (.int (33 : Int32))) (hp44 : Fld Z h0 v6 "com/example/cairn/cairn/engine/BinaryOperator" "opcode" "I" (.int (12 : Int32))) (hp45 : Fld Z h0 v7 "com/example/cairn/cairn/engine/BinaryOperator" "opcode" "I" (.int (34 : Int32))) (hp46 : Fld Z h0 v8 "com/example/cairn/cairn/engine/BinaryOperator" "opcode" "I" (.int (50 : Int32))) (hp47 : Fld Z h0 v9 "com/example/cairn/cairn/engine/BinaryOperator" "opcode" "I" (.int (51 : Int32))) (hp48 : Fld Z h0 v10 "com/example/cairn/cairn/engine/BinaryOperator" "opcode" "I" (.int (49 : Int32))) (hp49 : Fld Z h0 v11 "com/example/cairn/cairn/engine/BinaryOperator" "opcode" "I" (.int (52 : Int32))) (hp50 : Fld Z h0 v12 "com/example/cairn/cairn/engine/BinaryOperator" "opcode" "I" (.int (53 : Int32))) (hp51 : Fld Z h0 v13 "com/example/cairn/cairn/engine/BinaryOperator" "opcode" "I" (.int (54 : Int32))) (hp52 : Fld Z h0 v14 "com/example/cairn/cairn/engine/BinaryOperator" "opcode" "I" (.int (4 : Int32))) (hp53 : Fld Z h0 v15 "com/example/cairn/cairn/engine/BinaryOperator" "opcode" "I" (.int (5 : Int32))) (hp54 : Fld Z h0 v16 "com/example/cairn/cairn/engine/BinaryOperator" "opcode" "I" (.int (6 : Int32))) (hp55 : Fld Z h0 v17 "com/example/cairn/cairn/engine/BinaryOperator" "opcode" "I" (.int (7 : Int32))) (hp56 : Fld Z h0 v18 "com/example/cairn/cairn/engine/BinaryOperator" "opcode" "I" (.int (8 : Int32))) (hp57 : Fld Z h0 v0 "com/example/cairn/cairn/engine/BinaryOperator" "precedence" "I" (.int (1 : Int32))) (hp58 : Fld Z h0 v1 "com/example/cairn/cairn/engine/BinaryOperator" "precedence" "I" (.int (2 : Int32))) (hp59 : Fld Z h0 v2 "com/example/cairn/cairn/engine/BinaryOperator" "precedence" "I" (.int (3 : Int32))) (hp60 : Fld Z h0 v3 "com/example/cairn/cairn/engine/BinaryOperator" "precedence" "I" (.int (3 : Int32))) (hp61 : Fld Z h0 v4 "com/example/cairn/cairn/engine/BinaryOperator" "precedence" "I" (.int (3 : Int32))) (hp62 : Fld Z h0 v5 "com/example/cairn/cairn/engine/BinaryOperator" "precedence" "I" (.int (3 : Int32))) (hp63 : Fld Z h0 v6 "com/example/cairn/cairn/engine/BinaryOperator" "precedence" "I" (.int (3 : Int32))) (hp64 : Fld Z h0 v7 "com/example/cairn/cairn/engine/BinaryOperator" "precedence" "I" (.int (3 : Int32))) (hp65 : Fld Z h0 v8 "com/example/cairn/cairn/engine/BinaryOperator" "precedence" "I" (.int (4 : Int32))) (hp66 : Fld Z h0 v9 "com/example/cairn/cairn/engine/BinaryOperator" "precedence" "I" (.int (5 : Int32))) (hp67 : Fld Z h0 v10 "com/example/cairn/cairn/engine/BinaryOperator" "precedence" "I" (.int (6 : Int32))) (hp68 : Fld Z h0 v11 "com/example/cairn/cairn/engine/BinaryOperator" "precedence" "I" (.int (7 : Int32))) (hp69 : Fld Z h0 v12 "com/example/cairn/cairn/engine/BinaryOperator" "precedence" "I" (.int (7 : Int32))) (hp70 : Fld Z h0 v13 "com/example/cairn/cairn/engine/BinaryOperator" "precedence" "I" (.int (7 : Int32))) (hp71 : Fld Z h0 v14 "com/example/cairn/cairn/engine/BinaryOperator" "precedence" "I" (.int (8 : Int32))) (hp72 : Fld Z h0 v15 "com/example/cairn/cairn/engine/BinaryOperator" "precedence" "I" (.int (8 : Int32))) (hp73 : Fld Z h0 v16 "com/example/cairn/cairn/engine/BinaryOperator" "precedence" "I" (.int (9 : Int32))) (hp74 : Fld Z h0 v17 "com/example/cairn/cairn/engine/BinaryOperator" "precedence" "I" (.int (9 : Int32))) (hp75 : Fld Z h0 v18 "com/example/cairn/cairn/engine/BinaryOperator" "precedence" "I" (.int (9 : Int32))) (hp76 : v2 ≠ v0) (hp77 : v2 ≠ v1) (hp78 : v3 ≠ v0) (hp79 : v3 ≠ v1) (hp80 : v4 ≠ v0) (hp81 : v4 ≠ v1) (hp82 : v5 ≠ v0) (hp83 : v5 ≠ v1) (hp84 : v6 ≠ v0) (hp85 : v6 ≠ v1) (hp86 : v7 ≠ v0) (hp87 : v7 ≠ v1) (hp88 : v8 ≠ v0) (hp89 : v8 ≠ v1) (hp90 : v9 ≠ v0) (hp91 : v9 ≠ v1) (hp92 : v10 ≠ v0) (hp93 : v10 ≠ v1) (hp94 : v11 ≠ v0) (hp95 : v11 ≠ v1) (hp96 : v12 ≠ v0) (hp97 : v12 ≠ v1) (hp98 : v13 ≠ v0) (hp99 : v13 ≠ v1) (hp100 : v14 ≠ v0) (hp101 : v14 ≠ v1) (hp102 : v15 ≠ v0) (hp103 : v15 ≠ v1) (hp104 : v16 ≠ v0) (hp105 : v16 ≠ v1) (hp106 : v17 ≠ v0) (hp107 : v17 ≠ v1) (hp108 : v18 ≠ v0) (hp109 : v18 ≠ v1) :
    MetFree l x (head1 (Jvm.Cond.code x code maxLocals ret :: ws) room_1) (fun aA U => aA = #[(.int k)] ∧ Z.Warmed39 U.vm ∧ U.heap = h0) (fun _ _ _ _ _ => True) (fun _ U oO U' => ∃ vV LL, oO = .returned vV ∧ Q0 Z k v0 v1 v2 v3 v4 v5 v6 v7 v8 v9 v10 v11 v12 v13 v14 v15 v16 v17 v18 h0 n0 vV U'.heap LL ∧ FrameEnd U oO U' LL room_1.cells room_1.slots) := by
  refine MetFree.of_bodySF (plainFor_of_name pn_17) hisR ?_
  intro p e s m args below meth cC s₁ Bd hml0 hP hK
  obtain ⟨rfl, hZ, hh⟩ := hP
  have hx := Bd.exec
  have hby := Bd.bytes
  have hml : cC.maxLocals = 9 := hml0
  have hown : s.vm.findClass "com/example/cairn/cairn/engine/BinaryOperatorShortCircuitsPinLaw" = some m.cls := findClass_of_methodNamed Bd.named
  have hnm := (name_of_methodNamed Bd.named Bd.method).1
  have X0 : Stand p l e room_1 s m #[(.int k)] below meth cC s₁ [] 0 0 := Stand.of_body Bd
  have e0 : s₁.heap = h0 := by rw [← hh, Bd.state]; rfl
  have N0 := Fr.nil n0
  have Kp0 := Keep.refl h0 []
  show OwnFin p e below (R0 Z k v0 v1 v2 v3 v4 v5 v6 v7 v8 v9 v10 v11 v12 v13 v14 v15 v16 v17 v18 h0 n0 s) (s₁.setTop (entryFrame m #[(.int k)] maxLocals))
  rw [ef_0 m k]
  refine OwnFin.step (fun tT kK => XS.bipush X0.here hx rfl (hb hby at_0) kK) ?_
  show OwnFin p e below _ (s₁.setTop (mkF m 2 #[.val (.int k), .unset, .unset, .unset, .unset, .unset, .unset, .unset, .unset] [(.int (19 : Int32))]))
  obtain ⟨T1, h1, k1, X1, e1, E1, A1, O1, st1⟩ := newR X0 hx hZ hown (hw _ (List.mem_of_getElem? (i := 0) rfl)) (hw _ (List.mem_of_getElem? (i := 1) rfl)) e0 (g := (mkF m 2 #[.val (.int k), .unset, .unset, .unset, .unset, .unset, .unset, .unset, .unset] [(.int (19 : Int32))])) rfl (hb hby at_2) rfl (by decide) (cap := 19) (by decide) (by decide) (by decide) (by decide)
  obtain ⟨b1, g1⟩ : ∃ z, z = h0.size := ⟨_, rfl⟩
  rw [← g1] at A1 st1
  refine OwnFin.step st1 ?_
  have sz_b1 : h0.size ≤ b1 := Nat.le_trans Kp0.1 (Nat.le_of_eq g1.symm)
  have Kp2 := Kp0.ext E1
  have V1 : Arv Z h1 b1 k1 (.object "com/example/cairn/cairn/engine/BinaryOperator") (19 : Int32) [.null, .null, .null, .null, .null, .null, .null, .null, .null, .null, .null, .null, .null, .null, .null, .null, .null, .null, .null] .null := (Arv.new A1 (by decide)).pad (pad_rep [] .null 19)
  show OwnFin p e below _ (T1.setTop (mkF m 5 #[.val (.int k), .unset, .unset, .unset, .unset, .unset, .unset, .unset, .unset] [(.ref b1)]))
  refine OwnFin.step (fun tT kK => XS.dup X1.here hx rfl (hb hby at_5) rfl rfl kK) ?_
  show OwnFin p e below _ (T1.setTop (mkF m 6 #[.val (.int k), .unset, .unset, .unset, .unset, .unset, .unset, .unset, .unset] [(.ref b1), (.ref b1)]))
  refine OwnFin.step (fun tT kK => XS.iconst X1.here hx rfl (hb hby at_6) kK) ?_
  show OwnFin p e below _ (T1.setTop (mkF m 7 #[.val (.int k), .unset, .unset, .unset, .unset, .unset, .unset, .unset, .unset] [(.int (0 : Int32)), (.ref b1), (.ref b1)]))
  have f3 : Sta Z h1 "com/example/cairn/cairn/engine/BinaryOperator" "OR" "Lcom/example/cairn/cairn/engine/BinaryOperator;" (.ref v0) := (own_sta_keep hp0 Kp2 all0)
  obtain ⟨T4, X4, e4, st4⟩ := getS2 X1 hx hZ hown (host := "") (Or.inl (hw _ (List.mem_of_getElem? (i := 2) rfl))) Via.refl e1 f3 (g := (mkF m 7 #[.val (.int k), .unset, .unset, .unset, .unset, .unset, .unset, .unset, .unset] [(.int (0 : Int32)), (.ref b1), (.ref b1)])) rfl (hb hby at_7)
  refine OwnFin.step st4 ?_
  show OwnFin p e below _ (T4.setTop (mkF m 10 #[.val (.int k), .unset, .unset, .unset, .unset, .unset, .unset, .unset, .unset] [(.ref v0), (.int (0 : Int32)), (.ref b1), (.ref b1)]))
  have f5 : Exa Z h1 v0 "com/example/cairn/cairn/engine/BinaryOperator" := (hp19.keep Kp2)
  obtain ⟨cl6, Ar6, q6, Sz6, Ng6, H6, G6⟩ := id V1
  have hin6 : ¬ ((0 : Int32) < 0 ∨ cl6.slots.size ≤ ((0 : Int32)).toNatClampNeg) := inb_of Sz6 ⟨by decide, by decide⟩
  obtain ⟨T7, h7, X7, e7, W7, st7⟩ := stR X4 hx hZ e4 Ar6 (j := (0 : Int32)) hin6 rfl (Sto.ofV Ar6 q6 O1 (Ins.self f5)) (g := (mkF m 10 #[.val (.int k), .unset, .unset, .unset, .unset, .unset, .unset, .unset, .unset] [(.ref v0), (.int (0 : Int32)), (.ref b1), (.ref b1)])) rfl rfl (hb hby at_10)
  refine OwnFin.step st7 ?_
  have N7 := Fr.snoc X7 N0 (Nat.le_trans Z0 sz_b1)
  have Kp8 := Kp2.wr W7 (Or.inr sz_b1)
  have V7 : Arv Z h7 b1 k1 (.object "com/example/cairn/cairn/engine/BinaryOperator") (19 : Int32) [(.ref v0), .null, .null, .null, .null, .null, .null, .null, .null, .null, .null, .null, .null, .null, .null, .null, .null, .null, .null] .null := Arv.set Ar6 q6 Sz6 Ng6 H6 G6 rfl W7 0 rfl (Nat.le_of_ble_eq_true rfl)
  show OwnFin p e below _ (T7.setTop (mkF m 11 #[.val (.int k), .unset, .unset, .unset, .unset, .unset, .unset, .unset, .unset] [(.ref b1)]))
  refine OwnFin.step (fun tT kK => XS.dup X7.here hx rfl (hb hby at_11) rfl rfl kK) ?_
  show OwnFin p e below _ (T7.setTop (mkF m 12 #[.val (.int k), .unset, .unset, .unset, .unset, .unset, .unset, .unset, .unset] [(.ref b1), (.ref b1)]))
  refine OwnFin.step (fun tT kK => XS.iconst X7.here hx rfl (hb hby at_12) kK) ?_
  show OwnFin p e below _ (T7.setTop (mkF m 13 #[.val (.int k), .unset, .unset, .unset, .unset, .unset, .unset, .unset, .unset] [(.int (1 : Int32)), (.ref b1), (.ref b1)]))
  have f9 : Sta Z h7 "com/example/cairn/cairn/engine/BinaryOperator" "AND" "Lcom/example/cairn/cairn/engine/BinaryOperator;" (.ref v1) := (own_sta_keep hp1 Kp8 all0)
  obtain ⟨T10, X10, e10, st10⟩ := getS2 X7 hx hZ hown (host := "") (Or.inl (hw _ (List.mem_of_getElem? (i := 6) rfl))) Via.refl e7 f9 (g := (mkF m 13 #[.val (.int k), .unset, .unset, .unset, .unset, .unset, .unset, .unset, .unset] [(.int (1 : Int32)), (.ref b1), (.ref b1)])) rfl (hb hby at_13)
  refine OwnFin.step st10 ?_
  show OwnFin p e below _ (T10.setTop (mkF m 16 #[.val (.int k), .unset, .unset, .unset, .unset, .unset, .unset, .unset, .unset] [(.ref v1), (.int (1 : Int32)), (.ref b1), (.ref b1)]))
  have f11 : Exa Z h7 v1 "com/example/cairn/cairn/engine/BinaryOperator" := (hp20.keep Kp8)
  obtain ⟨cl12, Ar12, q12, Sz12, Ng12, H12, G12⟩ := id V7
  have hin12 : ¬ ((1 : Int32) < 0 ∨ cl12.slots.size ≤ ((1 : Int32)).toNatClampNeg) := inb_of Sz12 ⟨by decide, by decide⟩
  obtain ⟨T13, h13, X13, e13, W13, st13⟩ := stR X10 hx hZ e10 Ar12 (j := (1 : Int32)) hin12 rfl (Sto.ofV Ar12 q12 O1 (Ins.self f11)) (g := (mkF m 16 #[.val (.int k), .unset, .unset, .unset, .unset, .unset, .unset, .unset, .unset] [(.ref v1), (.int (1 : Int32)), (.ref b1), (.ref b1)])) rfl rfl (hb hby at_16)
  refine OwnFin.step st13 ?_
  have N13 := Fr.snoc X13 N7 (Nat.le_trans Z0 sz_b1)
  have Kp14 := Kp8.wr W13 (Or.inr sz_b1)
  have V13 : Arv Z h13 b1 k1 (.object "com/example/cairn/cairn/engine/BinaryOperator") (19 : Int32) [(.ref v0), (.ref v1), .null, .null, .null, .null, .null, .null, .null, .null, .null, .null, .null, .null, .null, .null, .null, .null, .null] .null := Arv.set Ar12 q12 Sz12 Ng12 H12 G12 rfl W13 1 rfl (Nat.le_of_ble_eq_true rfl)
  show OwnFin p e below _ (T13.setTop (mkF m 17 #[.val (.int k), .unset, .unset, .unset, .unset, .unset, .unset, .unset, .unset] [(.ref b1)]))
  refine OwnFin.step (fun tT kK => XS.dup X13.here hx rfl (hb hby at_17) rfl rfl kK) ?_
  show OwnFin p e below _ (T13.setTop (mkF m 18 #[.val (.int k), .unset, .unset, .unset, .unset, .unset, .unset, .unset, .unset] [(.ref b1), (.ref b1)]))
  refine OwnFin.step (fun tT kK => XS.iconst X13.here hx rfl (hb hby at_18) kK) ?_
  show OwnFin p e below _ (T13.setTop (mkF m 19 #[.val (.int k), .unset, .unset, .unset, .unset, .unset, .unset, .unset, .unset] [(.int (2 : Int32)), (.ref b1), (.ref b1)]))
  have f15 : Sta Z h13 "com/example/cairn/cairn/engine/BinaryOperator" "EQUAL" "Lcom/example/cairn/cairn/engine/BinaryOperator;" (.ref v2) := (own_sta_keep hp2 Kp14 all0)
  obtain ⟨T16, X16, e16, st16⟩ := getS2 X13 hx hZ hown (host := "") (Or.inl (hw _ (List.mem_of_getElem? (i := 8) rfl))) Via.refl e13 f15 (g := (mkF m 19 #[.val (.int k), .unset, .unset, .unset, .unset, .unset, .unset, .unset, .unset] [(.int (2 : Int32)), (.ref b1), (.ref b1)])) rfl (hb hby at_19)
  refine OwnFin.step st16 ?_
  show OwnFin p e below _ (T16.setTop (mkF m 22 #[.val (.int k), .unset, .unset, .unset, .unset, .unset, .unset, .unset, .unset] [(.ref v2), (.int (2 : Int32)), (.ref b1), (.ref b1)]))
  have f17 : Exa Z h13 v2 "com/example/cairn/cairn/engine/BinaryOperator" := (hp21.keep Kp14)
  obtain ⟨cl18, Ar18, q18, Sz18, Ng18, H18, G18⟩ := id V13
  have hin18 : ¬ ((2 : Int32) < 0 ∨ cl18.slots.size ≤ ((2 : Int32)).toNatClampNeg) := inb_of Sz18 ⟨by decide, by decide⟩
  obtain ⟨T19, h19, X19, e19, W19, st19⟩ := stR X16 hx hZ e16 Ar18 (j := (2 : Int32)) hin18 rfl (Sto.ofV Ar18 q18 O1 (Ins.self f17)) (g := (mkF m 22 #[.val (.int k), .unset, .unset, .unset, .unset, .unset, .unset, .unset, .unset] [(.ref v2), (.int (2 : Int32)), (.ref b1), (.ref b1)])) rfl rfl (hb hby at_22)
  refine OwnFin.step st19 ?_
  have N19 := Fr.snoc X19 N13 (Nat.le_trans Z0 sz_b1)
  have Kp20 := Kp14.wr W19 (Or.inr sz_b1)
  have V19 : Arv Z h19 b1 k1 (.object "com/example/cairn/cairn/engine/BinaryOperator") (19 : Int32) [(.ref v0), (.ref v1), (.ref v2), .null, .null, .null, .null, .null, .null, .null, .null, .null, .null, .null, .null, .null, .null, .null, .null] .null := Arv.set Ar18 q18 Sz18 Ng18 H18 G18 rfl W19 2 rfl (Nat.le_of_ble_eq_true rfl)
  show OwnFin p e below _ (T19.setTop (mkF m 23 #[.val (.int k), .unset, .unset, .unset, .unset, .unset, .unset, .unset, .unset] [(.ref b1)]))
  refine OwnFin.step (fun tT kK => XS.dup X19.here hx rfl (hb hby at_23) rfl rfl kK) ?_
  show OwnFin p e below _ (T19.setTop (mkF m 24 #[.val (.int k), .unset, .unset, .unset, .unset, .unset, .unset, .unset, .unset] [(.ref b1), (.ref b1)]))
  refine OwnFin.step (fun tT kK => XS.iconst X19.here hx rfl (hb hby at_24) kK) ?_
  show OwnFin p e below _ (T19.setTop (mkF m 25 #[.val (.int k), .unset, .unset, .unset, .unset, .unset, .unset, .unset, .unset] [(.int (3 : Int32)), (.ref b1), (.ref b1)]))
  have f21 : Sta Z h19 "com/example/cairn/cairn/engine/BinaryOperator" "NOT_EQUAL" "Lcom/example/cairn/cairn/engine/BinaryOperator;" (.ref v3) := (own_sta_keep hp3 Kp20 all0)
  obtain ⟨T22, X22, e22, st22⟩ := getS2 X19 hx hZ hown (host := "") (Or.inl (hw _ (List.mem_of_getElem? (i := 10) rfl))) Via.refl e19 f21 (g := (mkF m 25 #[.val (.int k), .unset, .unset, .unset, .unset, .unset, .unset, .unset, .unset] [(.int (3 : Int32)), (.ref b1), (.ref b1)])) rfl (hb hby at_25)
  refine OwnFin.step st22 ?_
  show OwnFin p e below _ (T22.setTop (mkF m 28 #[.val (.int k), .unset, .unset, .unset, .unset, .unset, .unset, .unset, .unset] [(.ref v3), (.int (3 : Int32)), (.ref b1), (.ref b1)]))
  have f23 : Exa Z h19 v3 "com/example/cairn/cairn/engine/BinaryOperator" := (hp22.keep Kp20)
  obtain ⟨cl24, Ar24, q24, Sz24, Ng24, H24, G24⟩ := id V19
  have hin24 : ¬ ((3 : Int32) < 0 ∨ cl24.slots.size ≤ ((3 : Int32)).toNatClampNeg) := inb_of Sz24 ⟨by decide, by decide⟩
  obtain ⟨T25, h25, X25, e25, W25, st25⟩ := stR X22 hx hZ e22 Ar24 (j := (3 : Int32)) hin24 rfl (Sto.ofV Ar24 q24 O1 (Ins.self f23)) (g := (mkF m 28 #[.val (.int k), .unset, .unset, .unset, .unset, .unset, .unset, .unset, .unset] [(.ref v3), (.int (3 : Int32)), (.ref b1), (.ref b1)])) rfl rfl (hb hby at_28)
  refine OwnFin.step st25 ?_
  have N25 := Fr.snoc X25 N19 (Nat.le_trans Z0 sz_b1)
  have Kp26 := Kp20.wr W25 (Or.inr sz_b1)
  have V25 : Arv Z h25 b1 k1 (.object "com/example/cairn/cairn/engine/BinaryOperator") (19 : Int32) [(.ref v0), (.ref v1), (.ref v2), (.ref v3), .null, .null, .null, .null, .null, .null, .null, .null, .null, .null, .null, .null, .null, .null, .null] .null := Arv.set Ar24 q24 Sz24 Ng24 H24 G24 rfl W25 3 rfl (Nat.le_of_ble_eq_true rfl)
  show OwnFin p e below _ (T25.setTop (mkF m 29 #[.val (.int k), .unset, .unset, .unset, .unset, .unset, .unset, .unset, .unset] [(.ref b1)]))
  refine OwnFin.step (fun tT kK => XS.dup X25.here hx rfl (hb hby at_29) rfl rfl kK) ?_
  show OwnFin p e below _ (T25.setTop (mkF m 30 #[.val (.int k), .unset, .unset, .unset, .unset, .unset, .unset, .unset, .unset] [(.ref b1), (.ref b1)]))
  refine OwnFin.step (fun tT kK => XS.iconst X25.here hx rfl (hb hby at_30) kK) ?_
  show OwnFin p e below _ (T25.setTop (mkF m 31 #[.val (.int k), .unset, .unset, .unset, .unset, .unset, .unset, .unset, .unset] [(.int (4 : Int32)), (.ref b1), (.ref b1)]))
  have f27 : Sta Z h25 "com/example/cairn/cairn/engine/BinaryOperator" "LESS" "Lcom/example/cairn/cairn/engine/BinaryOperator;" (.ref v4) := (own_sta_keep hp4 Kp26 all0)
  obtain ⟨T28, X28, e28, st28⟩ := getS2 X25 hx hZ hown (host := "") (Or.inl (hw _ (List.mem_of_getElem? (i := 12) rfl))) Via.refl e25 f27 (g := (mkF m 31 #[.val (.int k), .unset, .unset, .unset, .unset, .unset, .unset, .unset, .unset] [(.int (4 : Int32)), (.ref b1), (.ref b1)])) rfl (hb hby at_31)
  refine OwnFin.step st28 ?_
  show OwnFin p e below _ (T28.setTop (mkF m 34 #[.val (.int k), .unset, .unset, .unset, .unset, .unset, .unset, .unset, .unset] [(.ref v4), (.int (4 : Int32)), (.ref b1), (.ref b1)]))
  have f29 : Exa Z h25 v4 "com/example/cairn/cairn/engine/BinaryOperator" := (hp23.keep Kp26)
  obtain ⟨cl30, Ar30, q30, Sz30, Ng30, H30, G30⟩ := id V25
  have hin30 : ¬ ((4 : Int32) < 0 ∨ cl30.slots.size ≤ ((4 : Int32)).toNatClampNeg) := inb_of Sz30 ⟨by decide, by decide⟩
  obtain ⟨T31, h31, X31, e31, W31, st31⟩ := stR X28 hx hZ e28 Ar30 (j := (4 : Int32)) hin30 rfl (Sto.ofV Ar30 q30 O1 (Ins.self f29)) (g := (mkF m 34 #[.val (.int k), .unset, .unset, .unset, .unset, .unset, .unset, .unset, .unset] [(.ref v4), (.int (4 : Int32)), (.ref b1), (.ref b1)])) rfl rfl (hb hby at_34)
  refine OwnFin.step st31 ?_
  have N31 := Fr.snoc X31 N25 (Nat.le_trans Z0 sz_b1)
  have Kp32 := Kp26.wr W31 (Or.inr sz_b1)
  have V31 : Arv Z h31 b1 k1 (.object "com/example/cairn/cairn/engine/BinaryOperator") (19 : Int32) [(.ref v0), (.ref v1), (.ref v2), (.ref v3), (.ref v4), .null, .null, .null, .null, .null, .null, .null, .null, .null, .null, .null, .null, .null, .null] .null := Arv.set Ar30 q30 Sz30 Ng30 H30 G30 rfl W31 4 rfl (Nat.le_of_ble_eq_true rfl)
  show OwnFin p e below _ (T31.setTop (mkF m 35 #[.val (.int k), .unset, .unset, .unset, .unset, .unset, .unset, .unset, .unset] [(.ref b1)]))
  refine OwnFin.step (fun tT kK => XS.dup X31.here hx rfl (hb hby at_35) rfl rfl kK) ?_
  show OwnFin p e below _ (T31.setTop (mkF m 36 #[.val (.int k), .unset, .unset, .unset, .unset, .unset, .unset, .unset, .unset] [(.ref b1), (.ref b1)]))
  refine OwnFin.step (fun tT kK => XS.iconst X31.here hx rfl (hb hby at_36) kK) ?_
  show OwnFin p e below _ (T31.setTop (mkF m 37 #[.val (.int k), .unset, .unset, .unset, .unset, .unset, .unset, .unset, .unset] [(.int (5 : Int32)), (.ref b1), (.ref b1)]))
  have f33 : Sta Z h31 "com/example/cairn/cairn/engine/BinaryOperator" "LESS_EQUAL" "Lcom/example/cairn/cairn/engine/BinaryOperator;" (.ref v5) := (own_sta_keep hp5 Kp32 all0)
  obtain ⟨T34, X34, e34, st34⟩ := getS2 X31 hx hZ hown (host := "") (Or.inl (hw _ (List.mem_of_getElem? (i := 14) rfl))) Via.refl e31 f33 (g := (mkF m 37 #[.val (.int k), .unset, .unset, .unset, .unset, .unset, .unset, .unset, .unset] [(.int (5 : Int32)), (.ref b1), (.ref b1)])) rfl (hb hby at_37)
  refine OwnFin.step st34 ?_
  show OwnFin p e below _ (T34.setTop (mkF m 40 #[.val (.int k), .unset, .unset, .unset, .unset, .unset, .unset, .unset, .unset] [(.ref v5), (.int (5 : Int32)), (.ref b1), (.ref b1)]))
  have f35 : Exa Z h31 v5 "com/example/cairn/cairn/engine/BinaryOperator" := (hp24.keep Kp32)
  obtain ⟨cl36, Ar36, q36, Sz36, Ng36, H36, G36⟩ := id V31
  have hin36 : ¬ ((5 : Int32) < 0 ∨ cl36.slots.size ≤ ((5 : Int32)).toNatClampNeg) := inb_of Sz36 ⟨by decide, by decide⟩
  obtain ⟨T37, h37, X37, e37, W37, st37⟩ := stR X34 hx hZ e34 Ar36 (j := (5 : Int32)) hin36 rfl (Sto.ofV Ar36 q36 O1 (Ins.self f35)) (g := (mkF m 40 #[.val (.int k), .unset, .unset, .unset, .unset, .unset, .unset, .unset, .unset] [(.ref v5), (.int (5 : Int32)), (.ref b1), (.ref b1)])) rfl rfl (hb hby at_40)
  refine OwnFin.step st37 ?_
  have N37 := Fr.snoc X37 N31 (Nat.le_trans Z0 sz_b1)
  have Kp38 := Kp32.wr W37 (Or.inr sz_b1)
  have V37 : Arv Z h37 b1 k1 (.object "com/example/cairn/cairn/engine/BinaryOperator") (19 : Int32) [(.ref v0), (.ref v1), (.ref v2), (.ref v3), (.ref v4), (.ref v5), .null, .null, .null, .null, .null, .null, .null, .null, .null, .null, .null, .null, .null] .null := Arv.set Ar36 q36 Sz36 Ng36 H36 G36 rfl W37 5 rfl (Nat.le_of_ble_eq_true rfl)
  show OwnFin p e below _ (T37.setTop (mkF m 41 #[.val (.int k), .unset, .unset, .unset, .unset, .unset, .unset, .unset, .unset] [(.ref b1)]))
  refine OwnFin.step (fun tT kK => XS.dup X37.here hx rfl (hb hby at_41) rfl rfl kK) ?_
  show OwnFin p e below _ (T37.setTop (mkF m 42 #[.val (.int k), .unset, .unset, .unset, .unset, .unset, .unset, .unset, .unset] [(.ref b1), (.ref b1)]))
  refine OwnFin.step (fun tT kK => XS.bipush X37.here hx rfl (hb hby at_42) kK) ?_
  show OwnFin p e below _ (T37.setTop (mkF m 44 #[.val (.int k), .unset, .unset, .unset, .unset, .unset, .unset, .unset, .unset] [(.int (6 : Int32)), (.ref b1), (.ref b1)]))
  have f39 : Sta Z h37 "com/example/cairn/cairn/engine/BinaryOperator" "GREATER" "Lcom/example/cairn/cairn/engine/BinaryOperator;" (.ref v6) := (own_sta_keep hp6 Kp38 all0)
  obtain ⟨T40, X40, e40, st40⟩ := getS2 X37 hx hZ hown (host := "") (Or.inl (hw _ (List.mem_of_getElem? (i := 16) rfl))) Via.refl e37 f39 (g := (mkF m 44 #[.val (.int k), .unset, .unset, .unset, .unset, .unset, .unset, .unset, .unset] [(.int (6 : Int32)), (.ref b1), (.ref b1)])) rfl (hb hby at_44)
  refine OwnFin.step st40 ?_
  show OwnFin p e below _ (T40.setTop (mkF m 47 #[.val (.int k), .unset, .unset, .unset, .unset, .unset, .unset, .unset, .unset] [(.ref v6), (.int (6 : Int32)), (.ref b1), (.ref b1)]))
  have f41 : Exa Z h37 v6 "com/example/cairn/cairn/engine/BinaryOperator" := (hp25.keep Kp38)
  obtain ⟨cl42, Ar42, q42, Sz42, Ng42, H42, G42⟩ := id V37
  have hin42 : ¬ ((6 : Int32) < 0 ∨ cl42.slots.size ≤ ((6 : Int32)).toNatClampNeg) := inb_of Sz42 ⟨by decide, by decide⟩
  obtain ⟨T43, h43, X43, e43, W43, st43⟩ := stR X40 hx hZ e40 Ar42 (j := (6 : Int32)) hin42 rfl (Sto.ofV Ar42 q42 O1 (Ins.self f41)) (g := (mkF m 47 #[.val (.int k), .unset, .unset, .unset, .unset, .unset, .unset, .unset, .unset] [(.ref v6), (.int (6 : Int32)), (.ref b1), (.ref b1)])) rfl rfl (hb hby at_47)
  refine OwnFin.step st43 ?_
  have N43 := Fr.snoc X43 N37 (Nat.le_trans Z0 sz_b1)
  have Kp44 := Kp38.wr W43 (Or.inr sz_b1)
  have V43 : Arv Z h43 b1 k1 (.object "com/example/cairn/cairn/engine/BinaryOperator") (19 : Int32) [(.ref v0), (.ref v1), (.ref v2), (.ref v3), (.ref v4), (.ref v5), (.ref v6), .null, .null, .null, .null, .null, .null, .null, .null, .null, .null, .null, .null] .null := Arv.set Ar42 q42 Sz42 Ng42 H42 G42 rfl W43 6 rfl (Nat.le_of_ble_eq_true rfl)
  show OwnFin p e below _ (T43.setTop (mkF m 48 #[.val (.int k), .unset, .unset, .unset, .unset, .unset, .unset, .unset, .unset] [(.ref b1)]))
  refine OwnFin.step (fun tT kK => XS.dup X43.here hx rfl (hb hby at_48) rfl rfl kK) ?_
  show OwnFin p e below _ (T43.setTop (mkF m 49 #[.val (.int k), .unset, .unset, .unset, .unset, .unset, .unset, .unset, .unset] [(.ref b1), (.ref b1)]))
  refine OwnFin.step (fun tT kK => XS.bipush X43.here hx rfl (hb hby at_49) kK) ?_
  show OwnFin p e below _ (T43.setTop (mkF m 51 #[.val (.int k), .unset, .unset, .unset, .unset, .unset, .unset, .unset, .unset] [(.int (7 : Int32)), (.ref b1), (.ref b1)]))
  have f45 : Sta Z h43 "com/example/cairn/cairn/engine/BinaryOperator" "GREATER_EQUAL" "Lcom/example/cairn/cairn/engine/BinaryOperator;" (.ref v7) := (own_sta_keep hp7 Kp44 all0)
  obtain ⟨T46, X46, e46, st46⟩ := getS2 X43 hx hZ hown (host := "") (Or.inl (hw _ (List.mem_of_getElem? (i := 18) rfl))) Via.refl e43 f45 (g := (mkF m 51 #[.val (.int k), .unset, .unset, .unset, .unset, .unset, .unset, .unset, .unset] [(.int (7 : Int32)), (.ref b1), (.ref b1)])) rfl (hb hby at_51)
  refine OwnFin.step st46 ?_
  show OwnFin p e below _ (T46.setTop (mkF m 54 #[.val (.int k), .unset, .unset, .unset, .unset, .unset, .unset, .unset, .unset] [(.ref v7), (.int (7 : Int32)), (.ref b1), (.ref b1)]))
  have f47 : Exa Z h43 v7 "com/example/cairn/cairn/engine/BinaryOperator" := (hp26.keep Kp44)
  obtain ⟨cl48, Ar48, q48, Sz48, Ng48, H48, G48⟩ := id V43
  have hin48 : ¬ ((7 : Int32) < 0 ∨ cl48.slots.size ≤ ((7 : Int32)).toNatClampNeg) := inb_of Sz48 ⟨by decide, by decide⟩
  obtain ⟨T49, h49, X49, e49, W49, st49⟩ := stR X46 hx hZ e46 Ar48 (j := (7 : Int32)) hin48 rfl (Sto.ofV Ar48 q48 O1 (Ins.self f47)) (g := (mkF m 54 #[.val (.int k), .unset, .unset, .unset, .unset, .unset, .unset, .unset, .unset] [(.ref v7), (.int (7 : Int32)), (.ref b1), (.ref b1)])) rfl rfl (hb hby at_54)
  refine OwnFin.step st49 ?_
  have N49 := Fr.snoc X49 N43 (Nat.le_trans Z0 sz_b1)
  have Kp50 := Kp44.wr W49 (Or.inr sz_b1)
  have V49 : Arv Z h49 b1 k1 (.object "com/example/cairn/cairn/engine/BinaryOperator") (19 : Int32) [(.ref v0), (.ref v1), (.ref v2), (.ref v3), (.ref v4), (.ref v5), (.ref v6), (.ref v7), .null, .null, .null, .null, .null, .null, .null, .null, .null, .null, .null] .null := Arv.set Ar48 q48 Sz48 Ng48 H48 G48 rfl W49 7 rfl (Nat.le_of_ble_eq_true rfl)
  show OwnFin p e below _ (T49.setTop (mkF m 55 #[.val (.int k), .unset, .unset, .unset, .unset, .unset, .unset, .unset, .unset] [(.ref b1)]))
  refine OwnFin.step (fun tT kK => XS.dup X49.here hx rfl (hb hby at_55) rfl rfl kK) ?_
  show OwnFin p e below _ (T49.setTop (mkF m 56 #[.val (.int k), .unset, .unset, .unset, .unset, .unset, .unset, .unset, .unset] [(.ref b1), (.ref b1)]))
  refine OwnFin.step (fun tT kK => XS.bipush X49.here hx rfl (hb hby at_56) kK) ?_
  show OwnFin p e below _ (T49.setTop (mkF m 58 #[.val (.int k), .unset, .unset, .unset, .unset, .unset, .unset, .unset, .unset] [(.int (8 : Int32)), (.ref b1), (.ref b1)]))
  have f51 : Sta Z h49 "com/example/cairn/cairn/engine/BinaryOperator" "BIT_OR" "Lcom/example/cairn/cairn/engine/BinaryOperator;" (.ref v8) := (own_sta_keep hp8 Kp50 all0)
  obtain ⟨T52, X52, e52, st52⟩ := getS2 X49 hx hZ hown (host := "") (Or.inl (hw _ (List.mem_of_getElem? (i := 20) rfl))) Via.refl e49 f51 (g := (mkF m 58 #[.val (.int k), .unset, .unset, .unset, .unset, .unset, .unset, .unset, .unset] [(.int (8 : Int32)), (.ref b1), (.ref b1)])) rfl (hb hby at_58)
  refine OwnFin.step st52 ?_
  show OwnFin p e below _ (T52.setTop (mkF m 61 #[.val (.int k), .unset, .unset, .unset, .unset, .unset, .unset, .unset, .unset] [(.ref v8), (.int (8 : Int32)), (.ref b1), (.ref b1)]))
  have f53 : Exa Z h49 v8 "com/example/cairn/cairn/engine/BinaryOperator" := (hp27.keep Kp50)
  obtain ⟨cl54, Ar54, q54, Sz54, Ng54, H54, G54⟩ := id V49
  have hin54 : ¬ ((8 : Int32) < 0 ∨ cl54.slots.size ≤ ((8 : Int32)).toNatClampNeg) := inb_of Sz54 ⟨by decide, by decide⟩
  obtain ⟨T55, h55, X55, e55, W55, st55⟩ := stR X52 hx hZ e52 Ar54 (j := (8 : Int32)) hin54 rfl (Sto.ofV Ar54 q54 O1 (Ins.self f53)) (g := (mkF m 61 #[.val (.int k), .unset, .unset, .unset, .unset, .unset, .unset, .unset, .unset] [(.ref v8), (.int (8 : Int32)), (.ref b1), (.ref b1)])) rfl rfl (hb hby at_61)
  refine OwnFin.step st55 ?_
  have N55 := Fr.snoc X55 N49 (Nat.le_trans Z0 sz_b1)
  have Kp56 := Kp50.wr W55 (Or.inr sz_b1)
  have V55 : Arv Z h55 b1 k1 (.object "com/example/cairn/cairn/engine/BinaryOperator") (19 : Int32) [(.ref v0), (.ref v1), (.ref v2), (.ref v3), (.ref v4), (.ref v5), (.ref v6), (.ref v7), (.ref v8), .null, .null, .null, .null, .null, .null, .null, .null, .null, .null] .null := Arv.set Ar54 q54 Sz54 Ng54 H54 G54 rfl W55 8 rfl (Nat.le_of_ble_eq_true rfl)
  show OwnFin p e below _ (T55.setTop (mkF m 62 #[.val (.int k), .unset, .unset, .unset, .unset, .unset, .unset, .unset, .unset] [(.ref b1)]))
  refine OwnFin.step (fun tT kK => XS.dup X55.here hx rfl (hb hby at_62) rfl rfl kK) ?_
  show OwnFin p e below _ (T55.setTop (mkF m 63 #[.val (.int k), .unset, .unset, .unset, .unset, .unset, .unset, .unset, .unset] [(.ref b1), (.ref b1)]))
  refine OwnFin.step (fun tT kK => XS.bipush X55.here hx rfl (hb hby at_63) kK) ?_
  show OwnFin p e below _ (T55.setTop (mkF m 65 #[.val (.int k), .unset, .unset, .unset, .unset, .unset, .unset, .unset, .unset] [(.int (9 : Int32)), (.ref b1), (.ref b1)]))
  have f57 : Sta Z h55 "com/example/cairn/cairn/engine/BinaryOperator" "BIT_XOR" "Lcom/example/cairn/cairn/engine/BinaryOperator;" (.ref v9) := (own_sta_keep hp9 Kp56 all0)
  obtain ⟨T58, X58, e58, st58⟩ := getS2 X55 hx hZ hown (host := "") (Or.inl (hw _ (List.mem_of_getElem? (i := 22) rfl))) Via.refl e55 f57 (g := (mkF m 65 #[.val (.int k), .unset, .unset, .unset, .unset, .unset, .unset, .unset, .unset] [(.int (9 : Int32)), (.ref b1), (.ref b1)])) rfl (hb hby at_65)
  refine OwnFin.step st58 ?_
  show OwnFin p e below _ (T58.setTop (mkF m 68 #[.val (.int k), .unset, .unset, .unset, .unset, .unset, .unset, .unset, .unset] [(.ref v9), (.int (9 : Int32)), (.ref b1), (.ref b1)]))
  have f59 : Exa Z h55 v9 "com/example/cairn/cairn/engine/BinaryOperator" := (hp28.keep Kp56)
  obtain ⟨cl60, Ar60, q60, Sz60, Ng60, H60, G60⟩ := id V55
  have hin60 : ¬ ((9 : Int32) < 0 ∨ cl60.slots.size ≤ ((9 : Int32)).toNatClampNeg) := inb_of Sz60 ⟨by decide, by decide⟩
  obtain ⟨T61, h61, X61, e61, W61, st61⟩ := stR X58 hx hZ e58 Ar60 (j := (9 : Int32)) hin60 rfl (Sto.ofV Ar60 q60 O1 (Ins.self f59)) (g := (mkF m 68 #[.val (.int k), .unset, .unset, .unset, .unset, .unset, .unset, .unset, .unset] [(.ref v9), (.int (9 : Int32)), (.ref b1), (.ref b1)])) rfl rfl (hb hby at_68)
  refine OwnFin.step st61 ?_
  have N61 := Fr.snoc X61 N55 (Nat.le_trans Z0 sz_b1)
  have Kp62 := Kp56.wr W61 (Or.inr sz_b1)
  have V61 : Arv Z h61 b1 k1 (.object "com/example/cairn/cairn/engine/BinaryOperator") (19 : Int32) [(.ref v0), (.ref v1), (.ref v2), (.ref v3), (.ref v4), (.ref v5), (.ref v6), (.ref v7), (.ref v8), (.ref v9), .null, .null, .null, .null, .null, .null, .null, .null, .null] .null := Arv.set Ar60 q60 Sz60 Ng60 H60 G60 rfl W61 9 rfl (Nat.le_of_ble_eq_true rfl)
  show OwnFin p e below _ (T61.setTop (mkF m 69 #[.val (.int k), .unset, .unset, .unset, .unset, .unset, .unset, .unset, .unset] [(.ref b1)]))
  refine OwnFin.step (fun tT kK => XS.dup X61.here hx rfl (hb hby at_69) rfl rfl kK) ?_
  show OwnFin p e below _ (T61.setTop (mkF m 70 #[.val (.int k), .unset, .unset, .unset, .unset, .unset, .unset, .unset, .unset] [(.ref b1), (.ref b1)]))
  refine OwnFin.step (fun tT kK => XS.bipush X61.here hx rfl (hb hby at_70) kK) ?_
  show OwnFin p e below _ (T61.setTop (mkF m 72 #[.val (.int k), .unset, .unset, .unset, .unset, .unset, .unset, .unset, .unset] [(.int (10 : Int32)), (.ref b1), (.ref b1)]))
  have f63 : Sta Z h61 "com/example/cairn/cairn/engine/BinaryOperator" "BIT_AND" "Lcom/example/cairn/cairn/engine/BinaryOperator;" (.ref v10) := (own_sta_keep hp10 Kp62 all0)
  obtain ⟨T64, X64, e64, st64⟩ := getS2 X61 hx hZ hown (host := "") (Or.inl (hw _ (List.mem_of_getElem? (i := 24) rfl))) Via.refl e61 f63 (g := (mkF m 72 #[.val (.int k), .unset, .unset, .unset, .unset, .unset, .unset, .unset, .unset] [(.int (10 : Int32)), (.ref b1), (.ref b1)])) rfl (hb hby at_72)
  refine OwnFin.step st64 ?_
  show OwnFin p e below _ (T64.setTop (mkF m 75 #[.val (.int k), .unset, .unset, .unset, .unset, .unset, .unset, .unset, .unset] [(.ref v10), (.int (10 : Int32)), (.ref b1), (.ref b1)]))
  have f65 : Exa Z h61 v10 "com/example/cairn/cairn/engine/BinaryOperator" := (hp29.keep Kp62)
  obtain ⟨cl66, Ar66, q66, Sz66, Ng66, H66, G66⟩ := id V61
  have hin66 : ¬ ((10 : Int32) < 0 ∨ cl66.slots.size ≤ ((10 : Int32)).toNatClampNeg) := inb_of Sz66 ⟨by decide, by decide⟩
  obtain ⟨T67, h67, X67, e67, W67, st67⟩ := stR X64 hx hZ e64 Ar66 (j := (10 : Int32)) hin66 rfl (Sto.ofV Ar66 q66 O1 (Ins.self f65)) (g := (mkF m 75 #[.val (.int k), .unset, .unset, .unset, .unset, .unset, .unset, .unset, .unset] [(.ref v10), (.int (10 : Int32)), (.ref b1), (.ref b1)])) rfl rfl (hb hby at_75)
  refine OwnFin.step st67 ?_
  have N67 := Fr.snoc X67 N61 (Nat.le_trans Z0 sz_b1)
  have Kp68 := Kp62.wr W67 (Or.inr sz_b1)
  have V67 : Arv Z h67 b1 k1 (.object "com/example/cairn/cairn/engine/BinaryOperator") (19 : Int32) [(.ref v0), (.ref v1), (.ref v2), (.ref v3), (.ref v4), (.ref v5), (.ref v6), (.ref v7), (.ref v8), (.ref v9), (.ref v10), .null, .null, .null, .null, .null, .null, .null, .null] .null := Arv.set Ar66 q66 Sz66 Ng66 H66 G66 rfl W67 10 rfl (Nat.le_of_ble_eq_true rfl)
  show OwnFin p e below _ (T67.setTop (mkF m 76 #[.val (.int k), .unset, .unset, .unset, .unset, .unset, .unset, .unset, .unset] [(.ref b1)]))
  refine OwnFin.step (fun tT kK => XS.dup X67.here hx rfl (hb hby at_76) rfl rfl kK) ?_
  show OwnFin p e below _ (T67.setTop (mkF m 77 #[.val (.int k), .unset, .unset, .unset, .unset, .unset, .unset, .unset, .unset] [(.ref b1), (.ref b1)]))
  refine OwnFin.step (fun tT kK => XS.bipush X67.here hx rfl (hb hby at_77) kK) ?_
  show OwnFin p e below _ (T67.setTop (mkF m 79 #[.val (.int k), .unset, .unset, .unset, .unset, .unset, .unset, .unset, .unset] [(.int (11 : Int32)), (.ref b1), (.ref b1)]))
  have f69 : Sta Z h67 "com/example/cairn/cairn/engine/BinaryOperator" "SHIFT_LEFT" "Lcom/example/cairn/cairn/engine/BinaryOperator;" (.ref v11) := (own_sta_keep hp11 Kp68 all0)
  obtain ⟨T70, X70, e70, st70⟩ := getS2 X67 hx hZ hown (host := "") (Or.inl (hw _ (List.mem_of_getElem? (i := 26) rfl))) Via.refl e67 f69 (g := (mkF m 79 #[.val (.int k), .unset, .unset, .unset, .unset, .unset, .unset, .unset, .unset] [(.int (11 : Int32)), (.ref b1), (.ref b1)])) rfl (hb hby at_79)
  refine OwnFin.step st70 ?_
  show OwnFin p e below _ (T70.setTop (mkF m 82 #[.val (.int k), .unset, .unset, .unset, .unset, .unset, .unset, .unset, .unset] [(.ref v11), (.int (11 : Int32)), (.ref b1), (.ref b1)]))
  have f71 : Exa Z h67 v11 "com/example/cairn/cairn/engine/BinaryOperator" := (hp30.keep Kp68)
  obtain ⟨cl72, Ar72, q72, Sz72, Ng72, H72, G72⟩ := id V67
  have hin72 : ¬ ((11 : Int32) < 0 ∨ cl72.slots.size ≤ ((11 : Int32)).toNatClampNeg) := inb_of Sz72 ⟨by decide, by decide⟩
  obtain ⟨T73, h73, X73, e73, W73, st73⟩ := stR X70 hx hZ e70 Ar72 (j := (11 : Int32)) hin72 rfl (Sto.ofV Ar72 q72 O1 (Ins.self f71)) (g := (mkF m 82 #[.val (.int k), .unset, .unset, .unset, .unset, .unset, .unset, .unset, .unset] [(.ref v11), (.int (11 : Int32)), (.ref b1), (.ref b1)])) rfl rfl (hb hby at_82)
  refine OwnFin.step st73 ?_
  have N73 := Fr.snoc X73 N67 (Nat.le_trans Z0 sz_b1)
  have Kp74 := Kp68.wr W73 (Or.inr sz_b1)
  have V73 : Arv Z h73 b1 k1 (.object "com/example/cairn/cairn/engine/BinaryOperator") (19 : Int32) [(.ref v0), (.ref v1), (.ref v2), (.ref v3), (.ref v4), (.ref v5), (.ref v6), (.ref v7), (.ref v8), (.ref v9), (.ref v10), (.ref v11), .null, .null, .null, .null, .null, .null, .null] .null := Arv.set Ar72 q72 Sz72 Ng72 H72 G72 rfl W73 11 rfl (Nat.le_of_ble_eq_true rfl)
  show OwnFin p e below _ (T73.setTop (mkF m 83 #[.val (.int k), .unset, .unset, .unset, .unset, .unset, .unset, .unset, .unset] [(.ref b1)]))
  refine OwnFin.step (fun tT kK => XS.dup X73.here hx rfl (hb hby at_83) rfl rfl kK) ?_
  show OwnFin p e below _ (T73.setTop (mkF m 84 #[.val (.int k), .unset, .unset, .unset, .unset, .unset, .unset, .unset, .unset] [(.ref b1), (.ref b1)]))
  refine OwnFin.step (fun tT kK => XS.bipush X73.here hx rfl (hb hby at_84) kK) ?_
  show OwnFin p e below _ (T73.setTop (mkF m 86 #[.val (.int k), .unset, .unset, .unset, .unset, .unset, .unset, .unset, .unset] [(.int (12 : Int32)), (.ref b1), (.ref b1)]))
  have f75 : Sta Z h73 "com/example/cairn/cairn/engine/BinaryOperator" "SHIFT_RIGHT" "Lcom/example/cairn/cairn/engine/BinaryOperator;" (.ref v12) := (own_sta_keep hp12 Kp74 all0)
  obtain ⟨T76, X76, e76, st76⟩ := getS2 X73 hx hZ hown (host := "") (Or.inl (hw _ (List.mem_of_getElem? (i := 28) rfl))) Via.refl e73 f75 (g := (mkF m 86 #[.val (.int k), .unset, .unset, .unset, .unset, .unset, .unset, .unset, .unset] [(.int (12 : Int32)), (.ref b1), (.ref b1)])) rfl (hb hby at_86)
  refine OwnFin.step st76 ?_
  show OwnFin p e below _ (T76.setTop (mkF m 89 #[.val (.int k), .unset, .unset, .unset, .unset, .unset, .unset, .unset, .unset] [(.ref v12), (.int (12 : Int32)), (.ref b1), (.ref b1)]))
  have f77 : Exa Z h73 v12 "com/example/cairn/cairn/engine/BinaryOperator" := (hp31.keep Kp74)
  obtain ⟨cl78, Ar78, q78, Sz78, Ng78, H78, G78⟩ := id V73
  have hin78 : ¬ ((12 : Int32) < 0 ∨ cl78.slots.size ≤ ((12 : Int32)).toNatClampNeg) := inb_of Sz78 ⟨by decide, by decide⟩
  obtain ⟨T79, h79, X79, e79, W79, st79⟩ := stR X76 hx hZ e76 Ar78 (j := (12 : Int32)) hin78 rfl (Sto.ofV Ar78 q78 O1 (Ins.self f77)) (g := (mkF m 89 #[.val (.int k), .unset, .unset, .unset, .unset, .unset, .unset, .unset, .unset] [(.ref v12), (.int (12 : Int32)), (.ref b1), (.ref b1)])) rfl rfl (hb hby at_89)
  refine OwnFin.step st79 ?_
  have N79 := Fr.snoc X79 N73 (Nat.le_trans Z0 sz_b1)
  have Kp80 := Kp74.wr W79 (Or.inr sz_b1)
  have V79 : Arv Z h79 b1 k1 (.object "com/example/cairn/cairn/engine/BinaryOperator") (19 : Int32) [(.ref v0), (.ref v1), (.ref v2), (.ref v3), (.ref v4), (.ref v5), (.ref v6), (.ref v7), (.ref v8), (.ref v9), (.ref v10), (.ref v11), (.ref v12), .null, .null, .null, .null, .null, .null] .null := Arv.set Ar78 q78 Sz78 Ng78 H78 G78 rfl W79 12 rfl (Nat.le_of_ble_eq_true rfl)
  show OwnFin p e below _ (T79.setTop (mkF m 90 #[.val (.int k), .unset, .unset, .unset, .unset, .unset, .unset, .unset, .unset] [(.ref b1)]))
  refine OwnFin.step (fun tT kK => XS.dup X79.here hx rfl (hb hby at_90) rfl rfl kK) ?_
  show OwnFin p e below _ (T79.setTop (mkF m 91 #[.val (.int k), .unset, .unset, .unset, .unset, .unset, .unset, .unset, .unset] [(.ref b1), (.ref b1)]))
  refine OwnFin.step (fun tT kK => XS.bipush X79.here hx rfl (hb hby at_91) kK) ?_
  show OwnFin p e below _ (T79.setTop (mkF m 93 #[.val (.int k), .unset, .unset, .unset, .unset, .unset, .unset, .unset, .unset] [(.int (13 : Int32)), (.ref b1), (.ref b1)]))
  have f81 : Sta Z h79 "com/example/cairn/cairn/engine/BinaryOperator" "SHIFT_RIGHT_UNSIGNED" "Lcom/example/cairn/cairn/engine/BinaryOperator;" (.ref v13) := (own_sta_keep hp13 Kp80 all0)
  obtain ⟨T82, X82, e82, st82⟩ := getS2 X79 hx hZ hown (host := "") (Or.inl (hw _ (List.mem_of_getElem? (i := 30) rfl))) Via.refl e79 f81 (g := (mkF m 93 #[.val (.int k), .unset, .unset, .unset, .unset, .unset, .unset, .unset, .unset] [(.int (13 : Int32)), (.ref b1), (.ref b1)])) rfl (hb hby at_93)
  refine OwnFin.step st82 ?_
  show OwnFin p e below _ (T82.setTop (mkF m 96 #[.val (.int k), .unset, .unset, .unset, .unset, .unset, .unset, .unset, .unset] [(.ref v13), (.int (13 : Int32)), (.ref b1), (.ref b1)]))
  have f83 : Exa Z h79 v13 "com/example/cairn/cairn/engine/BinaryOperator" := (hp32.keep Kp80)
  obtain ⟨cl84, Ar84, q84, Sz84, Ng84, H84, G84⟩ := id V79
  have hin84 : ¬ ((13 : Int32) < 0 ∨ cl84.slots.size ≤ ((13 : Int32)).toNatClampNeg) := inb_of Sz84 ⟨by decide, by decide⟩
  obtain ⟨T85, h85, X85, e85, W85, st85⟩ := stR X82 hx hZ e82 Ar84 (j := (13 : Int32)) hin84 rfl (Sto.ofV Ar84 q84 O1 (Ins.self f83)) (g := (mkF m 96 #[.val (.int k), .unset, .unset, .unset, .unset, .unset, .unset, .unset, .unset] [(.ref v13), (.int (13 : Int32)), (.ref b1), (.ref b1)])) rfl rfl (hb hby at_96)
  refine OwnFin.step st85 ?_
  have N85 := Fr.snoc X85 N79 (Nat.le_trans Z0 sz_b1)
  have Kp86 := Kp80.wr W85 (Or.inr sz_b1)
  have V85 : Arv Z h85 b1 k1 (.object "com/example/cairn/cairn/engine/BinaryOperator") (19 : Int32) [(.ref v0), (.ref v1), (.ref v2), (.ref v3), (.ref v4), (.ref v5), (.ref v6), (.ref v7), (.ref v8), (.ref v9), (.ref v10), (.ref v11), (.ref v12), (.ref v13), .null, .null, .null, .null, .null] .null := Arv.set Ar84 q84 Sz84 Ng84 H84 G84 rfl W85 13 rfl (Nat.le_of_ble_eq_true rfl)
  show OwnFin p e below _ (T85.setTop (mkF m 97 #[.val (.int k), .unset, .unset, .unset, .unset, .unset, .unset, .unset, .unset] [(.ref b1)]))
  refine OwnFin.step (fun tT kK => XS.dup X85.here hx rfl (hb hby at_97) rfl rfl kK) ?_
  show OwnFin p e below _ (T85.setTop (mkF m 98 #[.val (.int k), .unset, .unset, .unset, .unset, .unset, .unset, .unset, .unset] [(.ref b1), (.ref b1)]))
  refine OwnFin.step (fun tT kK => XS.bipush X85.here hx rfl (hb hby at_98) kK) ?_
  show OwnFin p e below _ (T85.setTop (mkF m 100 #[.val (.int k), .unset, .unset, .unset, .unset, .unset, .unset, .unset, .unset] [(.int (14 : Int32)), (.ref b1), (.ref b1)]))
  have f87 : Sta Z h85 "com/example/cairn/cairn/engine/BinaryOperator" "ADD" "Lcom/example/cairn/cairn/engine/BinaryOperator;" (.ref v14) := (own_sta_keep hp14 Kp86 all0)
  obtain ⟨T88, X88, e88, st88⟩ := getS2 X85 hx hZ hown (host := "") (Or.inl (hw _ (List.mem_of_getElem? (i := 32) rfl))) Via.refl e85 f87 (g := (mkF m 100 #[.val (.int k), .unset, .unset, .unset, .unset, .unset, .unset, .unset, .unset] [(.int (14 : Int32)), (.ref b1), (.ref b1)])) rfl (hb hby at_100)
  refine OwnFin.step st88 ?_
  show OwnFin p e below _ (T88.setTop (mkF m 103 #[.val (.int k), .unset, .unset, .unset, .unset, .unset, .unset, .unset, .unset] [(.ref v14), (.int (14 : Int32)), (.ref b1), (.ref b1)]))
  have f89 : Exa Z h85 v14 "com/example/cairn/cairn/engine/BinaryOperator" := (hp33.keep Kp86)
  obtain ⟨cl90, Ar90, q90, Sz90, Ng90, H90, G90⟩ := id V85
  have hin90 : ¬ ((14 : Int32) < 0 ∨ cl90.slots.size ≤ ((14 : Int32)).toNatClampNeg) := inb_of Sz90 ⟨by decide, by decide⟩
  obtain ⟨T91, h91, X91, e91, W91, st91⟩ := stR X88 hx hZ e88 Ar90 (j := (14 : Int32)) hin90 rfl (Sto.ofV Ar90 q90 O1 (Ins.self f89)) (g := (mkF m 103 #[.val (.int k), .unset, .unset, .unset, .unset, .unset, .unset, .unset, .unset] [(.ref v14), (.int (14 : Int32)), (.ref b1), (.ref b1)])) rfl rfl (hb hby at_103)
  refine OwnFin.step st91 ?_
  have N91 := Fr.snoc X91 N85 (Nat.le_trans Z0 sz_b1)
  have Kp92 := Kp86.wr W91 (Or.inr sz_b1)
  have V91 : Arv Z h91 b1 k1 (.object "com/example/cairn/cairn/engine/BinaryOperator") (19 : Int32) [(.ref v0), (.ref v1), (.ref v2), (.ref v3), (.ref v4), (.ref v5), (.ref v6), (.ref v7), (.ref v8), (.ref v9), (.ref v10), (.ref v11), (.ref v12), (.ref v13), (.ref v14), .null, .null, .null, .null] .null := Arv.set Ar90 q90 Sz90 Ng90 H90 G90 rfl W91 14 rfl (Nat.le_of_ble_eq_true rfl)
  show OwnFin p e below _ (T91.setTop (mkF m 104 #[.val (.int k), .unset, .unset, .unset, .unset, .unset, .unset, .unset, .unset] [(.ref b1)]))
  refine OwnFin.step (fun tT kK => XS.dup X91.here hx rfl (hb hby at_104) rfl rfl kK) ?_
  show OwnFin p e below _ (T91.setTop (mkF m 105 #[.val (.int k), .unset, .unset, .unset, .unset, .unset, .unset, .unset, .unset] [(.ref b1), (.ref b1)]))
  refine OwnFin.step (fun tT kK => XS.bipush X91.here hx rfl (hb hby at_105) kK) ?_
  show OwnFin p e below _ (T91.setTop (mkF m 107 #[.val (.int k), .unset, .unset, .unset, .unset, .unset, .unset, .unset, .unset] [(.int (15 : Int32)), (.ref b1), (.ref b1)]))
  have f93 : Sta Z h91 "com/example/cairn/cairn/engine/BinaryOperator" "SUBTRACT" "Lcom/example/cairn/cairn/engine/BinaryOperator;" (.ref v15) := (own_sta_keep hp15 Kp92 all0)
  obtain ⟨T94, X94, e94, st94⟩ := getS2 X91 hx hZ hown (host := "") (Or.inl (hw _ (List.mem_of_getElem? (i := 34) rfl))) Via.refl e91 f93 (g := (mkF m 107 #[.val (.int k), .unset, .unset, .unset, .unset, .unset, .unset, .unset, .unset] [(.int (15 : Int32)), (.ref b1), (.ref b1)])) rfl (hb hby at_107)
  refine OwnFin.step st94 ?_
  show OwnFin p e below _ (T94.setTop (mkF m 110 #[.val (.int k), .unset, .unset, .unset, .unset, .unset, .unset, .unset, .unset] [(.ref v15), (.int (15 : Int32)), (.ref b1), (.ref b1)]))
  have f95 : Exa Z h91 v15 "com/example/cairn/cairn/engine/BinaryOperator" := (hp34.keep Kp92)
  obtain ⟨cl96, Ar96, q96, Sz96, Ng96, H96, G96⟩ := id V91
  have hin96 : ¬ ((15 : Int32) < 0 ∨ cl96.slots.size ≤ ((15 : Int32)).toNatClampNeg) := inb_of Sz96 ⟨by decide, by decide⟩
  obtain ⟨T97, h97, X97, e97, W97, st97⟩ := stR X94 hx hZ e94 Ar96 (j := (15 : Int32)) hin96 rfl (Sto.ofV Ar96 q96 O1 (Ins.self f95)) (g := (mkF m 110 #[.val (.int k), .unset, .unset, .unset, .unset, .unset, .unset, .unset, .unset] [(.ref v15), (.int (15 : Int32)), (.ref b1), (.ref b1)])) rfl rfl (hb hby at_110)
  refine OwnFin.step st97 ?_
  have N97 := Fr.snoc X97 N91 (Nat.le_trans Z0 sz_b1)
  have Kp98 := Kp92.wr W97 (Or.inr sz_b1)
  have V97 : Arv Z h97 b1 k1 (.object "com/example/cairn/cairn/engine/BinaryOperator") (19 : Int32) [(.ref v0), (.ref v1), (.ref v2), (.ref v3), (.ref v4), (.ref v5), (.ref v6), (.ref v7), (.ref v8), (.ref v9), (.ref v10), (.ref v11), (.ref v12), (.ref v13), (.ref v14), (.ref v15), .null, .null, .null] .null := Arv.set Ar96 q96 Sz96 Ng96 H96 G96 rfl W97 15 rfl (Nat.le_of_ble_eq_true rfl)
  show OwnFin p e below _ (T97.setTop (mkF m 111 #[.val (.int k), .unset, .unset, .unset, .unset, .unset, .unset, .unset, .unset] [(.ref b1)]))
  refine OwnFin.step (fun tT kK => XS.dup X97.here hx rfl (hb hby at_111) rfl rfl kK) ?_
  show OwnFin p e below _ (T97.setTop (mkF m 112 #[.val (.int k), .unset, .unset, .unset, .unset, .unset, .unset, .unset, .unset] [(.ref b1), (.ref b1)]))
  refine OwnFin.step (fun tT kK => XS.bipush X97.here hx rfl (hb hby at_112) kK) ?_
  show OwnFin p e below _ (T97.setTop (mkF m 114 #[.val (.int k), .unset, .unset, .unset, .unset, .unset, .unset, .unset, .unset] [(.int (16 : Int32)), (.ref b1), (.ref b1)]))
  have f99 : Sta Z h97 "com/example/cairn/cairn/engine/BinaryOperator" "MULTIPLY" "Lcom/example/cairn/cairn/engine/BinaryOperator;" (.ref v16) := (own_sta_keep hp16 Kp98 all0)
  obtain ⟨T100, X100, e100, st100⟩ := getS2 X97 hx hZ hown (host := "") (Or.inl (hw _ (List.mem_of_getElem? (i := 36) rfl))) Via.refl e97 f99 (g := (mkF m 114 #[.val (.int k), .unset, .unset, .unset, .unset, .unset, .unset, .unset, .unset] [(.int (16 : Int32)), (.ref b1), (.ref b1)])) rfl (hb hby at_114)
  refine OwnFin.step st100 ?_
  show OwnFin p e below _ (T100.setTop (mkF m 117 #[.val (.int k), .unset, .unset, .unset, .unset, .unset, .unset, .unset, .unset] [(.ref v16), (.int (16 : Int32)), (.ref b1), (.ref b1)]))
  have f101 : Exa Z h97 v16 "com/example/cairn/cairn/engine/BinaryOperator" := (hp35.keep Kp98)
  obtain ⟨cl102, Ar102, q102, Sz102, Ng102, H102, G102⟩ := id V97
  have hin102 : ¬ ((16 : Int32) < 0 ∨ cl102.slots.size ≤ ((16 : Int32)).toNatClampNeg) := inb_of Sz102 ⟨by decide, by decide⟩
  obtain ⟨T103, h103, X103, e103, W103, st103⟩ := stR X100 hx hZ e100 Ar102 (j := (16 : Int32)) hin102 rfl (Sto.ofV Ar102 q102 O1 (Ins.self f101)) (g := (mkF m 117 #[.val (.int k), .unset, .unset, .unset, .unset, .unset, .unset, .unset, .unset] [(.ref v16), (.int (16 : Int32)), (.ref b1), (.ref b1)])) rfl rfl (hb hby at_117)
  refine OwnFin.step st103 ?_
  have N103 := Fr.snoc X103 N97 (Nat.le_trans Z0 sz_b1)
  have Kp104 := Kp98.wr W103 (Or.inr sz_b1)
  have V103 : Arv Z h103 b1 k1 (.object "com/example/cairn/cairn/engine/BinaryOperator") (19 : Int32) [(.ref v0), (.ref v1), (.ref v2), (.ref v3), (.ref v4), (.ref v5), (.ref v6), (.ref v7), (.ref v8), (.ref v9), (.ref v10), (.ref v11), (.ref v12), (.ref v13), (.ref v14), (.ref v15), (.ref v16), .null, .null] .null := Arv.set Ar102 q102 Sz102 Ng102 H102 G102 rfl W103 16 rfl (Nat.le_of_ble_eq_true rfl)
  show OwnFin p e below _ (T103.setTop (mkF m 118 #[.val (.int k), .unset, .unset, .unset, .unset, .unset, .unset, .unset, .unset] [(.ref b1)]))
  refine OwnFin.step (fun tT kK => XS.dup X103.here hx rfl (hb hby at_118) rfl rfl kK) ?_
  show OwnFin p e below _ (T103.setTop (mkF m 119 #[.val (.int k), .unset, .unset, .unset, .unset, .unset, .unset, .unset, .unset] [(.ref b1), (.ref b1)]))
  refine OwnFin.step (fun tT kK => XS.bipush X103.here hx rfl (hb hby at_119) kK) ?_
  show OwnFin p e below _ (T103.setTop (mkF m 121 #[.val (.int k), .unset, .unset, .unset, .unset, .unset, .unset, .unset, .unset] [(.int (17 : Int32)), (.ref b1), (.ref b1)]))
  have f105 : Sta Z h103 "com/example/cairn/cairn/engine/BinaryOperator" "DIVIDE" "Lcom/example/cairn/cairn/engine/BinaryOperator;" (.ref v17) := (own_sta_keep hp17 Kp104 all0)
  obtain ⟨T106, X106, e106, st106⟩ := getS2 X103 hx hZ hown (host := "") (Or.inl (hw _ (List.mem_of_getElem? (i := 38) rfl))) Via.refl e103 f105 (g := (mkF m 121 #[.val (.int k), .unset, .unset, .unset, .unset, .unset, .unset, .unset, .unset] [(.int (17 : Int32)), (.ref b1), (.ref b1)])) rfl (hb hby at_121)
  refine OwnFin.step st106 ?_
  show OwnFin p e below _ (T106.setTop (mkF m 124 #[.val (.int k), .unset, .unset, .unset, .unset, .unset, .unset, .unset, .unset] [(.ref v17), (.int (17 : Int32)), (.ref b1), (.ref b1)]))
  have f107 : Exa Z h103 v17 "com/example/cairn/cairn/engine/BinaryOperator" := (hp36.keep Kp104)
  obtain ⟨cl108, Ar108, q108, Sz108, Ng108, H108, G108⟩ := id V103
  have hin108 : ¬ ((17 : Int32) < 0 ∨ cl108.slots.size ≤ ((17 : Int32)).toNatClampNeg) := inb_of Sz108 ⟨by decide, by decide⟩
  obtain ⟨T109, h109, X109, e109, W109, st109⟩ := stR X106 hx hZ e106 Ar108 (j := (17 : Int32)) hin108 rfl (Sto.ofV Ar108 q108 O1 (Ins.self f107)) (g := (mkF m 124 #[.val (.int k), .unset, .unset, .unset, .unset, .unset, .unset, .unset, .unset] [(.ref v17), (.int (17 : Int32)), (.ref b1), (.ref b1)])) rfl rfl (hb hby at_124)
  refine OwnFin.step st109 ?_
  have N109 := Fr.snoc X109 N103 (Nat.le_trans Z0 sz_b1)
  have Kp110 := Kp104.wr W109 (Or.inr sz_b1)
  have V109 : Arv Z h109 b1 k1 (.object "com/example/cairn/cairn/engine/BinaryOperator") (19 : Int32) [(.ref v0), (.ref v1), (.ref v2), (.ref v3), (.ref v4), (.ref v5), (.ref v6), (.ref v7), (.ref v8), (.ref v9), (.ref v10), (.ref v11), (.ref v12), (.ref v13), (.ref v14), (.ref v15), (.ref v16), (.ref v17), .null] .null := Arv.set Ar108 q108 Sz108 Ng108 H108 G108 rfl W109 17 rfl (Nat.le_of_ble_eq_true rfl)
  show OwnFin p e below _ (T109.setTop (mkF m 125 #[.val (.int k), .unset, .unset, .unset, .unset, .unset, .unset, .unset, .unset] [(.ref b1)]))
  refine OwnFin.step (fun tT kK => XS.dup X109.here hx rfl (hb hby at_125) rfl rfl kK) ?_
  show OwnFin p e below _ (T109.setTop (mkF m 126 #[.val (.int k), .unset, .unset, .unset, .unset, .unset, .unset, .unset, .unset] [(.ref b1), (.ref b1)]))
  refine OwnFin.step (fun tT kK => XS.bipush X109.here hx rfl (hb hby at_126) kK) ?_
  show OwnFin p e below _ (T109.setTop (mkF m 128 #[.val (.int k), .unset, .unset, .unset, .unset, .unset, .unset, .unset, .unset] [(.int (18 : Int32)), (.ref b1), (.ref b1)]))
  have f111 : Sta Z h109 "com/example/cairn/cairn/engine/BinaryOperator" "REMAINDER" "Lcom/example/cairn/cairn/engine/BinaryOperator;" (.ref v18) := (own_sta_keep hp18 Kp110 all0)
  obtain ⟨T112, X112, e112, st112⟩ := getS2 X109 hx hZ hown (host := "") (Or.inl (hw _ (List.mem_of_getElem? (i := 40) rfl))) Via.refl e109 f111 (g := (mkF m 128 #[.val (.int k), .unset, .unset, .unset, .unset, .unset, .unset, .unset, .unset] [(.int (18 : Int32)), (.ref b1), (.ref b1)])) rfl (hb hby at_128)
  refine OwnFin.step st112 ?_
  show OwnFin p e below _ (T112.setTop (mkF m 131 #[.val (.int k), .unset, .unset, .unset, .unset, .unset, .unset, .unset, .unset] [(.ref v18), (.int (18 : Int32)), (.ref b1), (.ref b1)]))
  have f113 : Exa Z h109 v18 "com/example/cairn/cairn/engine/BinaryOperator" := (hp37.keep Kp110)
  obtain ⟨cl114, Ar114, q114, Sz114, Ng114, H114, G114⟩ := id V109
  have hin114 : ¬ ((18 : Int32) < 0 ∨ cl114.slots.size ≤ ((18 : Int32)).toNatClampNeg) := inb_of Sz114 ⟨by decide, by decide⟩
  obtain ⟨T115, h115, X115, e115, W115, st115⟩ := stR X112 hx hZ e112 Ar114 (j := (18 : Int32)) hin114 rfl (Sto.ofV Ar114 q114 O1 (Ins.self f113)) (g := (mkF m 131 #[.val (.int k), .unset, .unset, .unset, .unset, .unset, .unset, .unset, .unset] [(.ref v18), (.int (18 : Int32)), (.ref b1), (.ref b1)])) rfl rfl (hb hby at_131)
  refine OwnFin.step st115 ?_
  have N115 := Fr.snoc X115 N109 (Nat.le_trans Z0 sz_b1)
  have Kp116 := Kp110.wr W115 (Or.inr sz_b1)
  have V115 : Arv Z h115 b1 k1 (.object "com/example/cairn/cairn/engine/BinaryOperator") (19 : Int32) [(.ref v0), (.ref v1), (.ref v2), (.ref v3), (.ref v4), (.ref v5), (.ref v6), (.ref v7), (.ref v8), (.ref v9), (.ref v10), (.ref v11), (.ref v12), (.ref v13), (.ref v14), (.ref v15), (.ref v16), (.ref v17), (.ref v18)] .null := Arv.set Ar114 q114 Sz114 Ng114 H114 G114 rfl W115 18 rfl (Nat.le_of_ble_eq_true rfl)
  show OwnFin p e below _ (T115.setTop (mkF m 132 #[.val (.int k), .unset, .unset, .unset, .unset, .unset, .unset, .unset, .unset] [(.ref b1)]))
  refine OwnFin.step (fun tT kK => XS.astoreN X115.here hx rfl (hb hby at_132) rfl rfl (l' := #[.val (.int k), .val (.ref b1), .unset, .unset, .unset, .unset, .unset, .unset, .unset]) rfl kK) ?_
  show OwnFin p e below _ (T115.setTop (mkF m 133 #[.val (.int k), .val (.ref b1), .unset, .unset, .unset, .unset, .unset, .unset, .unset] []))
  refine OwnFin.step (fun tT kK => XS.iloadN X115.here hx rfl (hb hby at_133) rfl kK) ?_
  show OwnFin p e below _ (T115.setTop (mkF m 134 #[.val (.int k), .val (.ref b1), .unset, .unset, .unset, .unset, .unset, .unset, .unset] [(.int k)]))
  refine OwnFin.step (fun tT kK => X115.ldcI hx hown (mvT hZ (hw _ (List.mem_of_getElem? (i := 42) rfl))) (g := (mkF m 134 #[.val (.int k), .val (.ref b1), .unset, .unset, .unset, .unset, .unset, .unset, .unset] [(.int k)])) rfl (hb hby at_134) kK) ?_
  show OwnFin p e below _ (T115.setTop (mkF m 136 #[.val (.int k), .val (.ref b1), .unset, .unset, .unset, .unset, .unset, .unset, .unset] [(.int (2147483647 : Int32)), (.int k)]))
  refine OwnFin.step (fun tT kK => XS.iand X115.here hx rfl (hb hby at_136) rfl kK) ?_
  show OwnFin p e below _ (T115.setTop (mkF m 137 #[.val (.int k), .val (.ref b1), .unset, .unset, .unset, .unset, .unset, .unset, .unset] [(.int (k &&& (2147483647 : Int32)))]))
  refine OwnFin.step (fun tT kK => XS.bipush X115.here hx rfl (hb hby at_137) kK) ?_
  show OwnFin p e below _ (T115.setTop (mkF m 139 #[.val (.int k), .val (.ref b1), .unset, .unset, .unset, .unset, .unset, .unset, .unset] [(.int (19 : Int32)), (.int (k &&& (2147483647 : Int32)))]))
  refine OwnFin.step (fun tT kK => iremM (g := (mkF m 139 #[.val (.int k), .val (.ref b1), .unset, .unset, .unset, .unset, .unset, .unset, .unset] [(.int (19 : Int32)), (.int (k &&& (2147483647 : Int32)))])) X115 hx rfl (hb hby at_139) rfl (by decide) kK) ?_
  show OwnFin p e below _ (T115.setTop (mkF m 140 #[.val (.int k), .val (.ref b1), .unset, .unset, .unset, .unset, .unset, .unset, .unset] [(.int ((k &&& (2147483647 : Int32)) % (19 : Int32)))]))
  refine OwnFin.step (fun tT kK => XS.istoreN X115.here hx rfl (hb hby at_140) rfl (l' := #[.val (.int k), .val (.ref b1), .val (.int ((k &&& (2147483647 : Int32)) % (19 : Int32))), .unset, .unset, .unset, .unset, .unset, .unset]) rfl kK) ?_
  show OwnFin p e below _ (T115.setTop (mkF m 141 #[.val (.int k), .val (.ref b1), .val (.int ((k &&& (2147483647 : Int32)) % (19 : Int32))), .unset, .unset, .unset, .unset, .unset, .unset] []))
  have f117 : Exa Z h115 v0 "com/example/cairn/cairn/engine/BinaryOperator" := (hp19.keep Kp116)
  have f118 : Exa Z h115 v1 "com/example/cairn/cairn/engine/BinaryOperator" := (hp20.keep Kp116)
  have f119 : Exa Z h115 v2 "com/example/cairn/cairn/engine/BinaryOperator" := (hp21.keep Kp116)
  have f120 : Exa Z h115 v3 "com/example/cairn/cairn/engine/BinaryOperator" := (hp22.keep Kp116)
  have f121 : Exa Z h115 v4 "com/example/cairn/cairn/engine/BinaryOperator" := (hp23.keep Kp116)
  have f122 : Exa Z h115 v5 "com/example/cairn/cairn/engine/BinaryOperator" := (hp24.keep Kp116)
  have f123 : Exa Z h115 v6 "com/example/cairn/cairn/engine/BinaryOperator" := (hp25.keep Kp116)
  have f124 : Exa Z h115 v7 "com/example/cairn/cairn/engine/BinaryOperator" := (hp26.keep Kp116)
  have f125 : Exa Z h115 v8 "com/example/cairn/cairn/engine/BinaryOperator" := (hp27.keep Kp116)
  have f126 : Exa Z h115 v9 "com/example/cairn/cairn/engine/BinaryOperator" := (hp28.keep Kp116)
  have f127 : Exa Z h115 v10 "com/example/cairn/cairn/engine/BinaryOperator" := (hp29.keep Kp116)
  have f128 : Exa Z h115 v11 "com/example/cairn/cairn/engine/BinaryOperator" := (hp30.keep Kp116)
  have f129 : Exa Z h115 v12 "com/example/cairn/cairn/engine/BinaryOperator" := (hp31.keep Kp116)
  have f130 : Exa Z h115 v13 "com/example/cairn/cairn/engine/BinaryOperator" := (hp32.keep Kp116)
  have f131 : Exa Z h115 v14 "com/example/cairn/cairn/engine/BinaryOperator" := (hp33.keep Kp116)
  have f132 : Exa Z h115 v15 "com/example/cairn/cairn/engine/BinaryOperator" := (hp34.keep Kp116)
  have f133 : Exa Z h115 v16 "com/example/cairn/cairn/engine/BinaryOperator" := (hp35.keep Kp116)
  have f134 : Exa Z h115 v17 "com/example/cairn/cairn/engine/BinaryOperator" := (hp36.keep Kp116)
  have f135 : Exa Z h115 v18 "com/example/cairn/cairn/engine/BinaryOperator" := (hp37.keep Kp116)
  have f136 : Sta Z h115 "com/example/cairn/cairn/engine/BinaryOperator" "AND" "Lcom/example/cairn/cairn/engine/BinaryOperator;" (.ref v1) := (own_sta_keep hp1 Kp116 all0)
  have f137 : Sta Z h115 "com/example/cairn/cairn/engine/BinaryOperator" "OR" "Lcom/example/cairn/cairn/engine/BinaryOperator;" (.ref v0) := (own_sta_keep hp0 Kp116 all0)
  have key138 : ∀ (T139 : State) (L139 : List Loc), Stand p l e room_1 s m #[(.int k)] below meth cC T139 L139 1 19 → T139.heap = h115 → Fr n0 L139 → OwnFin p e below (R0 Z k v0 v1 v2 v3 v4 v5 v6 v7 v8 v9 v10 v11 v12 v13 v14 v15 v16 v17 v18 h0 n0 s) (T139.setTop (mkF m 141 #[.val (.int k), .val (.ref b1), .val (.int ((k &&& (2147483647 : Int32)) % (19 : Int32))), .unset, .unset, .unset, .unset, .unset, .unset] [])) := by
    intro T139 L139 X139 e139 N139
    obtain ⟨i, hi⟩ : ∃ z : Int32, z = ((k &&& (2147483647 : Int32)) % (19 : Int32)) := ⟨_, rfl⟩
    rw [← hi]
    show OwnFin p e below _ (T139.setTop (mkF m 141 #[.val (.int k), .val (.ref b1), .val (.int i), .unset, .unset, .unset, .unset, .unset, .unset] []))
    rcases own_cases19 (hi ▸ own_mod k (19 : Int32) 19 rfl (by decide)).1 (hi ▸ own_mod k (19 : Int32) 19 rfl (by decide)).2 with rfl | rfl | rfl | rfl | rfl | rfl | rfl | rfl | rfl | rfl | rfl | rfl | rfl | rfl | rfl | rfl | rfl | rfl | rfl
    · skip
      show OwnFin p e below _ (T139.setTop (mkF m 141 #[.val (.int k), .val (.ref b1), .val (.int (0 : Int32)), .unset, .unset, .unset, .unset, .unset, .unset] []))
      refine OwnFin.step (fun tT kK => XS.aloadN X139.here hx rfl (hb hby at_141) rfl rfl kK) ?_
      show OwnFin p e below _ (T139.setTop (mkF m 142 #[.val (.int k), .val (.ref b1), .val (.int (0 : Int32)), .unset, .unset, .unset, .unset, .unset, .unset] [(.ref b1)]))
      refine OwnFin.step (fun tT kK => XS.iloadN X139.here hx rfl (hb hby at_142) rfl kK) ?_
      show OwnFin p e below _ (T139.setTop (mkF m 143 #[.val (.int k), .val (.ref b1), .val (.int (0 : Int32)), .unset, .unset, .unset, .unset, .unset, .unset] [(.int (0 : Int32)), (.ref b1)]))
      obtain ⟨cl140, Ar140, q140, Sz140, Ng140, H140, G140⟩ := id V115
      have hin140 : ¬ ((0 : Int32) < 0 ∨ cl140.slots.size ≤ ((0 : Int32)).toNatClampNeg) := inb_of Sz140 ⟨by decide, by decide⟩
      refine OwnFin.step (fun tT kK => X139.aaload hx (j := (0 : Int32)) (v := (.ref v0)) (by rw [e139]; exact Ar140.1) (State.isArrayOf_alike hZ.alike Ar140.2.1) rfl Ar140.2.2 hin140 (H140.at hin140 rfl) (g := (mkF m 143 #[.val (.int k), .val (.ref b1), .val (.int (0 : Int32)), .unset, .unset, .unset, .unset, .unset, .unset] [(.int (0 : Int32)), (.ref b1)])) rfl rfl (hb hby at_143) _ kK) ?_
      show OwnFin p e below _ (T139.setTop (mkF m 144 #[.val (.int k), .val (.ref b1), .val (.int (0 : Int32)), .unset, .unset, .unset, .unset, .unset, .unset] [(.ref v0)]))
      refine OwnFin.step (fun tT kK => XS.astoreN X139.here hx rfl (hb hby at_144) rfl rfl (l' := #[.val (.int k), .val (.ref b1), .val (.int (0 : Int32)), .val (.ref v0), .unset, .unset, .unset, .unset, .unset]) rfl kK) ?_
      show OwnFin p e below _ (T139.setTop (mkF m 145 #[.val (.int k), .val (.ref b1), .val (.int (0 : Int32)), .val (.ref v0), .unset, .unset, .unset, .unset, .unset] []))
      refine OwnFin.step (fun tT kK => XS.aloadN X139.here hx rfl (hb hby at_145) rfl rfl kK) ?_
      show OwnFin p e below _ (T139.setTop (mkF m 146 #[.val (.int k), .val (.ref b1), .val (.int (0 : Int32)), .val (.ref v0), .unset, .unset, .unset, .unset, .unset] [(.ref v0)]))
      obtain ⟨cq141, kq141, q141a, q141b, q141c⟩ := isOf hZ e139 f117
      obtain ⟨_, _, ⟨T141, L141, k141, n141⟩, -, X141, ⟨Lc141, hQ141, l141, y141, z141⟩, st141⟩ := X139.virtualBack hx (y := (⟨"com/example/cairn/cairn/engine/BinaryOperator", "shortCircuits", "()Z"⟩ : MethodName)) (z := (⟨"com/example/cairn/cairn/engine/BinaryOperator", "shortCircuits", "()Z"⟩ : MethodName)) hown (mvT hZ (hw _ (List.mem_of_getElem? (i := 43) rfl))) (mvT hZ (hw _ (List.mem_of_getElem? (i := 44) rfl))) (notFace_of_selects (args := #[]) (mvT hZ (hw _ (List.mem_of_getElem? (i := 46) rfl)))) (mvT hZ (hw _ (List.mem_of_getElem? (i := 46) rfl))) (mvT hZ (hw _ (List.mem_of_getElem? (i := 45) rfl))) (by decide) (backOf (W := 0) (rm1 l Z a0 hw [] v0 v1 v0 h115 n0 (Nat.le_trans Z0 Kp116.1) f136 f137) hZ (hw _ (List.mem_of_getElem? (i := 47) rfl)) (hw _ (List.mem_of_getElem? (i := 3) rfl)) (by decide) (by decide)) q141a q141c (g := (mkF m 146 #[.val (.int k), .val (.ref b1), .val (.int (0 : Int32)), .val (.ref v0), .unset, .unset, .unset, .unset, .unset] [(.ref v0)])) rfl (by rw [hml]; rfl) (Steps.refl _) (argsL := []) (rest := []) (lenOf pd_18 rfl) rfl (by show 2 * 0 + _ ≤ _; exact Nat.le_of_eq rfl) (hb hby at_146) (fun _ _ => ⟨rfl, e139, (by decide : 1 + 0 ≤ _), (by decide : 19 + 0 ≤ _)⟩)
      dsimp only [Pt.U, Pt.locs, Pt.cells, Pt.slots] at X141 l141 y141 z141 st141 hQ141
      subst l141 y141 z141
      obtain ⟨rfl, N141q, e141⟩ := hQ141
      have N141 := Fr.app N139 N141q
      refine OwnFin.step (fun tT kK => st141.trans kK) ?_
      show OwnFin p e below _ (T141.setTop (mkF m 149 #[.val (.int k), .val (.ref b1), .val (.int (0 : Int32)), .val (.ref v0), .unset, .unset, .unset, .unset, .unset] [(.int (if v0 = v1 ∨ v0 = v0 then 1 else 0))]))
      rw [show (if v0 = v1 ∨ v0 = v0 then (1 : Int32) else 0) = 1 from if_pos (Or.inr rfl)]
      show OwnFin p e below _ (T141.setTop (mkF m 149 #[.val (.int k), .val (.ref b1), .val (.int (0 : Int32)), .val (.ref v0), .unset, .unset, .unset, .unset, .unset] [(.int (1 : Int32))]))
      refine OwnFin.step (fun tT kK => XS.istore X141.here hx rfl (hb hby at_149) rfl (l' := #[.val (.int k), .val (.ref b1), .val (.int (0 : Int32)), .val (.ref v0), .val (.int (1 : Int32)), .unset, .unset, .unset, .unset]) rfl kK) ?_
      show OwnFin p e below _ (T141.setTop (mkF m 151 #[.val (.int k), .val (.ref b1), .val (.int (0 : Int32)), .val (.ref v0), .val (.int (1 : Int32)), .unset, .unset, .unset, .unset] []))
      refine OwnFin.step (fun tT kK => XS.iloadN X141.here hx rfl (hb hby at_151) rfl kK) ?_
      show OwnFin p e below _ (T141.setTop (mkF m 152 #[.val (.int k), .val (.ref b1), .val (.int (0 : Int32)), .val (.ref v0), .val (.int (1 : Int32)), .unset, .unset, .unset, .unset] [(.int (0 : Int32))]))
      refine OwnFin.step (fun tT kK => XS.ifYes X141.here hx rfl (pc0 := 152) (pc' := 160) rfl (hb hby at_152) rfl ((if0 _ _).trans (teq (rfl : (0 : Int32) = (0 : Int32))).1) (by decide) (by decide) kK) ?_
      show OwnFin p e below _ (T141.setTop (mkF m 160 #[.val (.int k), .val (.ref b1), .val (.int (0 : Int32)), .val (.ref v0), .val (.int (1 : Int32)), .unset, .unset, .unset, .unset] []))
      refine OwnFin.step (fun tT kK => XS.iconst X141.here hx rfl (hb hby at_160) kK) ?_
      show OwnFin p e below _ (T141.setTop (mkF m 161 #[.val (.int k), .val (.ref b1), .val (.int (0 : Int32)), .val (.ref v0), .val (.int (1 : Int32)), .unset, .unset, .unset, .unset] [(.int (1 : Int32))]))
      refine OwnFin.step (fun tT kK => XS.goto X141.here hx rfl (pc0 := 161) (pc' := 165) rfl (hb hby at_161) (by decide) (by decide) kK) ?_
      show OwnFin p e below _ (T141.setTop (mkF m 165 #[.val (.int k), .val (.ref b1), .val (.int (0 : Int32)), .val (.ref v0), .val (.int (1 : Int32)), .unset, .unset, .unset, .unset] [(.int (1 : Int32))]))
      refine OwnFin.step (fun tT kK => XS.istore X141.here hx rfl (hb hby at_165) rfl (l' := #[.val (.int k), .val (.ref b1), .val (.int (0 : Int32)), .val (.ref v0), .val (.int (1 : Int32)), .val (.int (1 : Int32)), .unset, .unset, .unset]) rfl kK) ?_
      show OwnFin p e below _ (T141.setTop (mkF m 167 #[.val (.int k), .val (.ref b1), .val (.int (0 : Int32)), .val (.ref v0), .val (.int (1 : Int32)), .val (.int (1 : Int32)), .unset, .unset, .unset] []))
      refine OwnFin.step (fun tT kK => XS.aloadN X141.here hx rfl (hb hby at_167) rfl rfl kK) ?_
      show OwnFin p e below _ (T141.setTop (mkF m 168 #[.val (.int k), .val (.ref b1), .val (.int (0 : Int32)), .val (.ref v0), .val (.int (1 : Int32)), .val (.int (1 : Int32)), .unset, .unset, .unset] [(.ref v0)]))
      have f142 : Fld Z h115 v0 "com/example/cairn/cairn/engine/BinaryOperator" "opcode" "I" (.int (38 : Int32)) := (hp38.keep Kp116 nin0)
      obtain ⟨cq143, kq143, q143a, q143b, q143c⟩ := isOf hZ e141 f117
      obtain ⟨_, _, ⟨T143, L143, k143, n143⟩, -, X143, ⟨Lc143, hQ143, l143, y143, z143⟩, st143⟩ := X141.virtualBack hx (y := (⟨"com/example/cairn/cairn/engine/BinaryOperator", "opcode", "()I"⟩ : MethodName)) (z := (⟨"com/example/cairn/cairn/engine/BinaryOperator", "opcode", "()I"⟩ : MethodName)) hown (mvT hZ (hw _ (List.mem_of_getElem? (i := 50) rfl))) (mvT hZ (hw _ (List.mem_of_getElem? (i := 51) rfl))) (notFace_of_selects (args := #[]) (mvT hZ (hw _ (List.mem_of_getElem? (i := 53) rfl)))) (mvT hZ (hw _ (List.mem_of_getElem? (i := 53) rfl))) (mvT hZ (hw _ (List.mem_of_getElem? (i := 52) rfl))) (by decide) (backOf (W := 0) (rm2 l Z a0 hw [] v0 (38 : Int32) h115 n0 (Nat.le_trans Z0 Kp116.1) f142) hZ (hw _ (List.mem_of_getElem? (i := 54) rfl)) (hw _ (List.mem_of_getElem? (i := 3) rfl)) (by decide) (by decide)) q143a q143c (g := (mkF m 168 #[.val (.int k), .val (.ref b1), .val (.int (0 : Int32)), .val (.ref v0), .val (.int (1 : Int32)), .val (.int (1 : Int32)), .unset, .unset, .unset] [(.ref v0)])) rfl (by rw [hml]; rfl) (Steps.refl _) (argsL := []) (rest := []) (lenOf pd_19 rfl) rfl (by show 2 * 0 + _ ≤ _; exact Nat.le_of_eq rfl) (hb hby at_168) (fun _ _ => ⟨rfl, e141, (by decide : 1 + 0 ≤ _), (by decide : 19 + 0 ≤ _)⟩)
      dsimp only [Pt.U, Pt.locs, Pt.cells, Pt.slots] at X143 l143 y143 z143 st143 hQ143
      subst l143 y143 z143
      obtain ⟨rfl, N143q, e143⟩ := hQ143
      have N143 := Fr.app N141 N143q
      refine OwnFin.step (fun tT kK => st143.trans kK) ?_
      show OwnFin p e below _ (T143.setTop (mkF m 171 #[.val (.int k), .val (.ref b1), .val (.int (0 : Int32)), .val (.ref v0), .val (.int (1 : Int32)), .val (.int (1 : Int32)), .unset, .unset, .unset] [(.int (38 : Int32))]))
      refine OwnFin.step (fun tT kK => XS.istore X143.here hx rfl (hb hby at_171) rfl (l' := #[.val (.int k), .val (.ref b1), .val (.int (0 : Int32)), .val (.ref v0), .val (.int (1 : Int32)), .val (.int (1 : Int32)), .val (.int (38 : Int32)), .unset, .unset]) rfl kK) ?_
      show OwnFin p e below _ (T143.setTop (mkF m 173 #[.val (.int k), .val (.ref b1), .val (.int (0 : Int32)), .val (.ref v0), .val (.int (1 : Int32)), .val (.int (1 : Int32)), .val (.int (38 : Int32)), .unset, .unset] []))
      refine OwnFin.step (fun tT kK => XS.iload X143.here hx rfl (hb hby at_173) rfl kK) ?_
      show OwnFin p e below _ (T143.setTop (mkF m 175 #[.val (.int k), .val (.ref b1), .val (.int (0 : Int32)), .val (.ref v0), .val (.int (1 : Int32)), .val (.int (1 : Int32)), .val (.int (38 : Int32)), .unset, .unset] [(.int (38 : Int32))]))
      refine OwnFin.step (fun tT kK => XS.bipush X143.here hx rfl (hb hby at_175) kK) ?_
      show OwnFin p e below _ (T143.setTop (mkF m 177 #[.val (.int k), .val (.ref b1), .val (.int (0 : Int32)), .val (.ref v0), .val (.int (1 : Int32)), .val (.int (1 : Int32)), .val (.int (38 : Int32)), .unset, .unset] [(.int (37 : Int32)), (.int (38 : Int32))]))
      refine OwnFin.step (fun tT kK => XS.icmpNo X143.here hx rfl (hb hby at_177) rfl (feq (by decide : ¬ ((38 : Int32) = (37 : Int32)))).1 kK) ?_
      show OwnFin p e below _ (T143.setTop (mkF m 180 #[.val (.int k), .val (.ref b1), .val (.int (0 : Int32)), .val (.ref v0), .val (.int (1 : Int32)), .val (.int (1 : Int32)), .val (.int (38 : Int32)), .unset, .unset] []))
      refine OwnFin.step (fun tT kK => XS.iload X143.here hx rfl (hb hby at_180) rfl kK) ?_
      show OwnFin p e below _ (T143.setTop (mkF m 182 #[.val (.int k), .val (.ref b1), .val (.int (0 : Int32)), .val (.ref v0), .val (.int (1 : Int32)), .val (.int (1 : Int32)), .val (.int (38 : Int32)), .unset, .unset] [(.int (38 : Int32))]))
      refine OwnFin.step (fun tT kK => XS.bipush X143.here hx rfl (hb hby at_182) kK) ?_
      show OwnFin p e below _ (T143.setTop (mkF m 184 #[.val (.int k), .val (.ref b1), .val (.int (0 : Int32)), .val (.ref v0), .val (.int (1 : Int32)), .val (.int (1 : Int32)), .val (.int (38 : Int32)), .unset, .unset] [(.int (38 : Int32)), (.int (38 : Int32))]))
      refine OwnFin.step (fun tT kK => XS.icmpNo X143.here hx rfl (hb hby at_184) rfl (teq (rfl : (38 : Int32) = (38 : Int32))).2 kK) ?_
      show OwnFin p e below _ (T143.setTop (mkF m 187 #[.val (.int k), .val (.ref b1), .val (.int (0 : Int32)), .val (.ref v0), .val (.int (1 : Int32)), .val (.int (1 : Int32)), .val (.int (38 : Int32)), .unset, .unset] []))
      refine OwnFin.step (fun tT kK => XS.iconst X143.here hx rfl (hb hby at_187) kK) ?_
      show OwnFin p e below _ (T143.setTop (mkF m 188 #[.val (.int k), .val (.ref b1), .val (.int (0 : Int32)), .val (.ref v0), .val (.int (1 : Int32)), .val (.int (1 : Int32)), .val (.int (38 : Int32)), .unset, .unset] [(.int (1 : Int32))]))
      refine OwnFin.step (fun tT kK => XS.goto X143.here hx rfl (pc0 := 188) (pc' := 192) rfl (hb hby at_188) (by decide) (by decide) kK) ?_
      show OwnFin p e below _ (T143.setTop (mkF m 192 #[.val (.int k), .val (.ref b1), .val (.int (0 : Int32)), .val (.ref v0), .val (.int (1 : Int32)), .val (.int (1 : Int32)), .val (.int (38 : Int32)), .unset, .unset] [(.int (1 : Int32))]))
      refine OwnFin.step (fun tT kK => XS.istore X143.here hx rfl (hb hby at_192) rfl (l' := #[.val (.int k), .val (.ref b1), .val (.int (0 : Int32)), .val (.ref v0), .val (.int (1 : Int32)), .val (.int (1 : Int32)), .val (.int (38 : Int32)), .val (.int (1 : Int32)), .unset]) rfl kK) ?_
      show OwnFin p e below _ (T143.setTop (mkF m 194 #[.val (.int k), .val (.ref b1), .val (.int (0 : Int32)), .val (.ref v0), .val (.int (1 : Int32)), .val (.int (1 : Int32)), .val (.int (38 : Int32)), .val (.int (1 : Int32)), .unset] []))
      refine OwnFin.step (fun tT kK => XS.aloadN X143.here hx rfl (hb hby at_194) rfl rfl kK) ?_
      show OwnFin p e below _ (T143.setTop (mkF m 195 #[.val (.int k), .val (.ref b1), .val (.int (0 : Int32)), .val (.ref v0), .val (.int (1 : Int32)), .val (.int (1 : Int32)), .val (.int (38 : Int32)), .val (.int (1 : Int32)), .unset] [(.ref v0)]))
      have f144 : Fld Z h115 v0 "com/example/cairn/cairn/engine/BinaryOperator" "precedence" "I" (.int (1 : Int32)) := (hp57.keep Kp116 nin0)
      obtain ⟨cq145, kq145, q145a, q145b, q145c⟩ := isOf hZ e143 f117
      obtain ⟨_, _, ⟨T145, L145, k145, n145⟩, -, X145, ⟨Lc145, hQ145, l145, y145, z145⟩, st145⟩ := X143.virtualBack hx (y := (⟨"com/example/cairn/cairn/engine/BinaryOperator", "precedence", "()I"⟩ : MethodName)) (z := (⟨"com/example/cairn/cairn/engine/BinaryOperator", "precedence", "()I"⟩ : MethodName)) hown (mvT hZ (hw _ (List.mem_of_getElem? (i := 57) rfl))) (mvT hZ (hw _ (List.mem_of_getElem? (i := 58) rfl))) (notFace_of_selects (args := #[]) (mvT hZ (hw _ (List.mem_of_getElem? (i := 60) rfl)))) (mvT hZ (hw _ (List.mem_of_getElem? (i := 60) rfl))) (mvT hZ (hw _ (List.mem_of_getElem? (i := 59) rfl))) (by decide) (backOf (W := 0) (rm3 l Z a0 hw [] v0 (1 : Int32) h115 n0 (Nat.le_trans Z0 Kp116.1) f144) hZ (hw _ (List.mem_of_getElem? (i := 61) rfl)) (hw _ (List.mem_of_getElem? (i := 3) rfl)) (by decide) (by decide)) q145a q145c (g := (mkF m 195 #[.val (.int k), .val (.ref b1), .val (.int (0 : Int32)), .val (.ref v0), .val (.int (1 : Int32)), .val (.int (1 : Int32)), .val (.int (38 : Int32)), .val (.int (1 : Int32)), .unset] [(.ref v0)])) rfl (by rw [hml]; rfl) (Steps.refl _) (argsL := []) (rest := []) (lenOf pd_19 rfl) rfl (by show 2 * 0 + _ ≤ _; exact Nat.le_of_eq rfl) (hb hby at_195) (fun _ _ => ⟨rfl, e143, (by decide : 1 + 0 ≤ _), (by decide : 19 + 0 ≤ _)⟩)
      dsimp only [Pt.U, Pt.locs, Pt.cells, Pt.slots] at X145 l145 y145 z145 st145 hQ145
      subst l145 y145 z145
      obtain ⟨rfl, N145q, e145⟩ := hQ145
      have N145 := Fr.app N143 N145q
      refine OwnFin.step (fun tT kK => st145.trans kK) ?_
      show OwnFin p e below _ (T145.setTop (mkF m 198 #[.val (.int k), .val (.ref b1), .val (.int (0 : Int32)), .val (.ref v0), .val (.int (1 : Int32)), .val (.int (1 : Int32)), .val (.int (38 : Int32)), .val (.int (1 : Int32)), .unset] [(.int (1 : Int32))]))
      refine OwnFin.step (fun tT kK => XS.iconst X145.here hx rfl (hb hby at_198) kK) ?_
      show OwnFin p e below _ (T145.setTop (mkF m 199 #[.val (.int k), .val (.ref b1), .val (.int (0 : Int32)), .val (.ref v0), .val (.int (1 : Int32)), .val (.int (1 : Int32)), .val (.int (38 : Int32)), .val (.int (1 : Int32)), .unset] [(.int (2 : Int32)), (.int (1 : Int32))]))
      refine OwnFin.step (fun tT kK => XS.icmpNo X145.here hx rfl (hb hby at_199) rfl (flt (by decide : ¬ ((2 : Int32) < (1 : Int32)))).2.2.1 kK) ?_
      show OwnFin p e below _ (T145.setTop (mkF m 202 #[.val (.int k), .val (.ref b1), .val (.int (0 : Int32)), .val (.ref v0), .val (.int (1 : Int32)), .val (.int (1 : Int32)), .val (.int (38 : Int32)), .val (.int (1 : Int32)), .unset] []))
      refine OwnFin.step (fun tT kK => XS.iconst X145.here hx rfl (hb hby at_202) kK) ?_
      show OwnFin p e below _ (T145.setTop (mkF m 203 #[.val (.int k), .val (.ref b1), .val (.int (0 : Int32)), .val (.ref v0), .val (.int (1 : Int32)), .val (.int (1 : Int32)), .val (.int (38 : Int32)), .val (.int (1 : Int32)), .unset] [(.int (1 : Int32))]))
      refine OwnFin.step (fun tT kK => XS.goto X145.here hx rfl (pc0 := 203) (pc' := 207) rfl (hb hby at_203) (by decide) (by decide) kK) ?_
      show OwnFin p e below _ (T145.setTop (mkF m 207 #[.val (.int k), .val (.ref b1), .val (.int (0 : Int32)), .val (.ref v0), .val (.int (1 : Int32)), .val (.int (1 : Int32)), .val (.int (38 : Int32)), .val (.int (1 : Int32)), .unset] [(.int (1 : Int32))]))
      refine OwnFin.step (fun tT kK => XS.istore X145.here hx rfl (hb hby at_207) rfl (l' := #[.val (.int k), .val (.ref b1), .val (.int (0 : Int32)), .val (.ref v0), .val (.int (1 : Int32)), .val (.int (1 : Int32)), .val (.int (38 : Int32)), .val (.int (1 : Int32)), .val (.int (1 : Int32))]) rfl kK) ?_
      show OwnFin p e below _ (T145.setTop (mkF m 209 #[.val (.int k), .val (.ref b1), .val (.int (0 : Int32)), .val (.ref v0), .val (.int (1 : Int32)), .val (.int (1 : Int32)), .val (.int (38 : Int32)), .val (.int (1 : Int32)), .val (.int (1 : Int32))] []))
      refine OwnFin.step (fun tT kK => XS.iload X145.here hx rfl (hb hby at_209) rfl kK) ?_
      show OwnFin p e below _ (T145.setTop (mkF m 211 #[.val (.int k), .val (.ref b1), .val (.int (0 : Int32)), .val (.ref v0), .val (.int (1 : Int32)), .val (.int (1 : Int32)), .val (.int (38 : Int32)), .val (.int (1 : Int32)), .val (.int (1 : Int32))] [(.int (1 : Int32))]))
      refine OwnFin.step (fun tT kK => XS.iload X145.here hx rfl (hb hby at_211) rfl kK) ?_
      show OwnFin p e below _ (T145.setTop (mkF m 213 #[.val (.int k), .val (.ref b1), .val (.int (0 : Int32)), .val (.ref v0), .val (.int (1 : Int32)), .val (.int (1 : Int32)), .val (.int (38 : Int32)), .val (.int (1 : Int32)), .val (.int (1 : Int32))] [(.int (1 : Int32)), (.int (1 : Int32))]))
      refine OwnFin.step (fun tT kK => XS.icmpNo X145.here hx rfl (hb hby at_213) rfl (teq (rfl : (1 : Int32) = (1 : Int32))).2 kK) ?_
      show OwnFin p e below _ (T145.setTop (mkF m 216 #[.val (.int k), .val (.ref b1), .val (.int (0 : Int32)), .val (.ref v0), .val (.int (1 : Int32)), .val (.int (1 : Int32)), .val (.int (38 : Int32)), .val (.int (1 : Int32)), .val (.int (1 : Int32))] []))
      refine OwnFin.step (fun tT kK => XS.iload X145.here hx rfl (hb hby at_216) rfl kK) ?_
      show OwnFin p e below _ (T145.setTop (mkF m 218 #[.val (.int k), .val (.ref b1), .val (.int (0 : Int32)), .val (.ref v0), .val (.int (1 : Int32)), .val (.int (1 : Int32)), .val (.int (38 : Int32)), .val (.int (1 : Int32)), .val (.int (1 : Int32))] [(.int (1 : Int32))]))
      refine OwnFin.step (fun tT kK => XS.iload X145.here hx rfl (hb hby at_218) rfl kK) ?_
      show OwnFin p e below _ (T145.setTop (mkF m 220 #[.val (.int k), .val (.ref b1), .val (.int (0 : Int32)), .val (.ref v0), .val (.int (1 : Int32)), .val (.int (1 : Int32)), .val (.int (38 : Int32)), .val (.int (1 : Int32)), .val (.int (1 : Int32))] [(.int (1 : Int32)), (.int (1 : Int32))]))
      refine OwnFin.step (fun tT kK => XS.icmpNo X145.here hx rfl (hb hby at_220) rfl (teq (rfl : (1 : Int32) = (1 : Int32))).2 kK) ?_
      show OwnFin p e below _ (T145.setTop (mkF m 223 #[.val (.int k), .val (.ref b1), .val (.int (0 : Int32)), .val (.ref v0), .val (.int (1 : Int32)), .val (.int (1 : Int32)), .val (.int (38 : Int32)), .val (.int (1 : Int32)), .val (.int (1 : Int32))] []))
      refine OwnFin.step (fun tT kK => XS.iload X145.here hx rfl (hb hby at_223) rfl kK) ?_
      show OwnFin p e below _ (T145.setTop (mkF m 225 #[.val (.int k), .val (.ref b1), .val (.int (0 : Int32)), .val (.ref v0), .val (.int (1 : Int32)), .val (.int (1 : Int32)), .val (.int (38 : Int32)), .val (.int (1 : Int32)), .val (.int (1 : Int32))] [(.int (1 : Int32))]))
      refine OwnFin.step (fun tT kK => XS.iload X145.here hx rfl (hb hby at_225) rfl kK) ?_
      show OwnFin p e below _ (T145.setTop (mkF m 227 #[.val (.int k), .val (.ref b1), .val (.int (0 : Int32)), .val (.ref v0), .val (.int (1 : Int32)), .val (.int (1 : Int32)), .val (.int (38 : Int32)), .val (.int (1 : Int32)), .val (.int (1 : Int32))] [(.int (1 : Int32)), (.int (1 : Int32))]))
      refine OwnFin.step (fun tT kK => XS.icmpNo X145.here hx rfl (hb hby at_227) rfl (teq (rfl : (1 : Int32) = (1 : Int32))).2 kK) ?_
      show OwnFin p e below _ (T145.setTop (mkF m 230 #[.val (.int k), .val (.ref b1), .val (.int (0 : Int32)), .val (.ref v0), .val (.int (1 : Int32)), .val (.int (1 : Int32)), .val (.int (38 : Int32)), .val (.int (1 : Int32)), .val (.int (1 : Int32))] []))
      refine OwnFin.step (fun tT kK => XS.iconst X145.here hx rfl (hb hby at_230) kK) ?_
      show OwnFin p e below _ (T145.setTop (mkF m 231 #[.val (.int k), .val (.ref b1), .val (.int (0 : Int32)), .val (.ref v0), .val (.int (1 : Int32)), .val (.int (1 : Int32)), .val (.int (38 : Int32)), .val (.int (1 : Int32)), .val (.int (1 : Int32))] [(.int (1 : Int32))]))
      refine OwnFin.step (fun tT kK => XS.goto X145.here hx rfl (pc0 := 231) (pc' := 235) rfl (hb hby at_231) (by decide) (by decide) kK) ?_
      show OwnFin p e below _ (T145.setTop (mkF m 235 #[.val (.int k), .val (.ref b1), .val (.int (0 : Int32)), .val (.ref v0), .val (.int (1 : Int32)), .val (.int (1 : Int32)), .val (.int (38 : Int32)), .val (.int (1 : Int32)), .val (.int (1 : Int32))] [(.int (1 : Int32))]))
      obtain ⟨fs146, hr146, hrun146, hended146, hW146, hsame146⟩ := X145.leave (v := (some (.int (1 : Int32)))) (fun h => by rw [Bd.returns] at h; cases h)
      refine ⟨_, _, retN X145 hx (t := .boolean) Bd.returns (by simp) (hb hby at_235) hr146, hrun146, hended146, _, _, rfl, ?_, ⟨_, rfl⟩, hW146, hsame146.mono (by decide) (by decide)⟩
      show Q0 Z k v0 v1 v2 v3 v4 v5 v6 v7 v8 v9 v10 v11 v12 v13 v14 v15 v16 v17 v18 h0 n0 _ T145.heap _
      rw [e145]
      exact ⟨rfl, N145, Kp116⟩
    · skip
      show OwnFin p e below _ (T139.setTop (mkF m 141 #[.val (.int k), .val (.ref b1), .val (.int (1 : Int32)), .unset, .unset, .unset, .unset, .unset, .unset] []))
      refine OwnFin.step (fun tT kK => XS.aloadN X139.here hx rfl (hb hby at_141) rfl rfl kK) ?_
      show OwnFin p e below _ (T139.setTop (mkF m 142 #[.val (.int k), .val (.ref b1), .val (.int (1 : Int32)), .unset, .unset, .unset, .unset, .unset, .unset] [(.ref b1)]))
      refine OwnFin.step (fun tT kK => XS.iloadN X139.here hx rfl (hb hby at_142) rfl kK) ?_
      show OwnFin p e below _ (T139.setTop (mkF m 143 #[.val (.int k), .val (.ref b1), .val (.int (1 : Int32)), .unset, .unset, .unset, .unset, .unset, .unset] [(.int (1 : Int32)), (.ref b1)]))
      obtain ⟨cl147, Ar147, q147, Sz147, Ng147, H147, G147⟩ := id V115
      have hin147 : ¬ ((1 : Int32) < 0 ∨ cl147.slots.size ≤ ((1 : Int32)).toNatClampNeg) := inb_of Sz147 ⟨by decide, by decide⟩
      refine OwnFin.step (fun tT kK => X139.aaload hx (j := (1 : Int32)) (v := (.ref v1)) (by rw [e139]; exact Ar147.1) (State.isArrayOf_alike hZ.alike Ar147.2.1) rfl Ar147.2.2 hin147 (H147.at hin147 rfl) (g := (mkF m 143 #[.val (.int k), .val (.ref b1), .val (.int (1 : Int32)), .unset, .unset, .unset, .unset, .unset, .unset] [(.int (1 : Int32)), (.ref b1)])) rfl rfl (hb hby at_143) _ kK) ?_
      show OwnFin p e below _ (T139.setTop (mkF m 144 #[.val (.int k), .val (.ref b1), .val (.int (1 : Int32)), .unset, .unset, .unset, .unset, .unset, .unset] [(.ref v1)]))
      refine OwnFin.step (fun tT kK => XS.astoreN X139.here hx rfl (hb hby at_144) rfl rfl (l' := #[.val (.int k), .val (.ref b1), .val (.int (1 : Int32)), .val (.ref v1), .unset, .unset, .unset, .unset, .unset]) rfl kK) ?_
      show OwnFin p e below _ (T139.setTop (mkF m 145 #[.val (.int k), .val (.ref b1), .val (.int (1 : Int32)), .val (.ref v1), .unset, .unset, .unset, .unset, .unset] []))
      refine OwnFin.step (fun tT kK => XS.aloadN X139.here hx rfl (hb hby at_145) rfl rfl kK) ?_
      show OwnFin p e below _ (T139.setTop (mkF m 146 #[.val (.int k), .val (.ref b1), .val (.int (1 : Int32)), .val (.ref v1), .unset, .unset, .unset, .unset, .unset] [(.ref v1)]))
      obtain ⟨cq148, kq148, q148a, q148b, q148c⟩ := isOf hZ e139 f118
      obtain ⟨_, _, ⟨T148, L148, k148, n148⟩, -, X148, ⟨Lc148, hQ148, l148, y148, z148⟩, st148⟩ := X139.virtualBack hx (y := (⟨"com/example/cairn/cairn/engine/BinaryOperator", "shortCircuits", "()Z"⟩ : MethodName)) (z := (⟨"com/example/cairn/cairn/engine/BinaryOperator", "shortCircuits", "()Z"⟩ : MethodName)) hown (mvT hZ (hw _ (List.mem_of_getElem? (i := 43) rfl))) (mvT hZ (hw _ (List.mem_of_getElem? (i := 44) rfl))) (notFace_of_selects (args := #[]) (mvT hZ (hw _ (List.mem_of_getElem? (i := 46) rfl)))) (mvT hZ (hw _ (List.mem_of_getElem? (i := 46) rfl))) (mvT hZ (hw _ (List.mem_of_getElem? (i := 45) rfl))) (by decide) (backOf (W := 0) (rm1 l Z a0 hw [] v1 v1 v0 h115 n0 (Nat.le_trans Z0 Kp116.1) f136 f137) hZ (hw _ (List.mem_of_getElem? (i := 47) rfl)) (hw _ (List.mem_of_getElem? (i := 3) rfl)) (by decide) (by decide)) q148a q148c (g := (mkF m 146 #[.val (.int k), .val (.ref b1), .val (.int (1 : Int32)), .val (.ref v1), .unset, .unset, .unset, .unset, .unset] [(.ref v1)])) rfl (by rw [hml]; rfl) (Steps.refl _) (argsL := []) (rest := []) (lenOf pd_18 rfl) rfl (by show 2 * 0 + _ ≤ _; exact Nat.le_of_eq rfl) (hb hby at_146) (fun _ _ => ⟨rfl, e139, (by decide : 1 + 0 ≤ _), (by decide : 19 + 0 ≤ _)⟩)
      dsimp only [Pt.U, Pt.locs, Pt.cells, Pt.slots] at X148 l148 y148 z148 st148 hQ148
      subst l148 y148 z148
      obtain ⟨rfl, N148q, e148⟩ := hQ148
      have N148 := Fr.app N139 N148q
      refine OwnFin.step (fun tT kK => st148.trans kK) ?_
      show OwnFin p e below _ (T148.setTop (mkF m 149 #[.val (.int k), .val (.ref b1), .val (.int (1 : Int32)), .val (.ref v1), .unset, .unset, .unset, .unset, .unset] [(.int (if v1 = v1 ∨ v1 = v0 then 1 else 0))]))
      rw [show (if v1 = v1 ∨ v1 = v0 then (1 : Int32) else 0) = 1 from if_pos (Or.inl rfl)]
      show OwnFin p e below _ (T148.setTop (mkF m 149 #[.val (.int k), .val (.ref b1), .val (.int (1 : Int32)), .val (.ref v1), .unset, .unset, .unset, .unset, .unset] [(.int (1 : Int32))]))
      refine OwnFin.step (fun tT kK => XS.istore X148.here hx rfl (hb hby at_149) rfl (l' := #[.val (.int k), .val (.ref b1), .val (.int (1 : Int32)), .val (.ref v1), .val (.int (1 : Int32)), .unset, .unset, .unset, .unset]) rfl kK) ?_
      show OwnFin p e below _ (T148.setTop (mkF m 151 #[.val (.int k), .val (.ref b1), .val (.int (1 : Int32)), .val (.ref v1), .val (.int (1 : Int32)), .unset, .unset, .unset, .unset] []))
      refine OwnFin.step (fun tT kK => XS.iloadN X148.here hx rfl (hb hby at_151) rfl kK) ?_
      show OwnFin p e below _ (T148.setTop (mkF m 152 #[.val (.int k), .val (.ref b1), .val (.int (1 : Int32)), .val (.ref v1), .val (.int (1 : Int32)), .unset, .unset, .unset, .unset] [(.int (1 : Int32))]))
      refine OwnFin.step (fun tT kK => XS.ifNo X148.here hx rfl (hb hby at_152) rfl ((if0 _ _).trans (feq (by decide : ¬ ((1 : Int32) = (0 : Int32)))).1) kK) ?_
      show OwnFin p e below _ (T148.setTop (mkF m 155 #[.val (.int k), .val (.ref b1), .val (.int (1 : Int32)), .val (.ref v1), .val (.int (1 : Int32)), .unset, .unset, .unset, .unset] []))
      refine OwnFin.step (fun tT kK => XS.iloadN X148.here hx rfl (hb hby at_155) rfl kK) ?_
      show OwnFin p e below _ (T148.setTop (mkF m 156 #[.val (.int k), .val (.ref b1), .val (.int (1 : Int32)), .val (.ref v1), .val (.int (1 : Int32)), .unset, .unset, .unset, .unset] [(.int (1 : Int32))]))
      refine OwnFin.step (fun tT kK => XS.iconst X148.here hx rfl (hb hby at_156) kK) ?_
      show OwnFin p e below _ (T148.setTop (mkF m 157 #[.val (.int k), .val (.ref b1), .val (.int (1 : Int32)), .val (.ref v1), .val (.int (1 : Int32)), .unset, .unset, .unset, .unset] [(.int (1 : Int32)), (.int (1 : Int32))]))
      refine OwnFin.step (fun tT kK => XS.icmpNo X148.here hx rfl (hb hby at_157) rfl (teq (rfl : (1 : Int32) = (1 : Int32))).2 kK) ?_
      show OwnFin p e below _ (T148.setTop (mkF m 160 #[.val (.int k), .val (.ref b1), .val (.int (1 : Int32)), .val (.ref v1), .val (.int (1 : Int32)), .unset, .unset, .unset, .unset] []))
      refine OwnFin.step (fun tT kK => XS.iconst X148.here hx rfl (hb hby at_160) kK) ?_
      show OwnFin p e below _ (T148.setTop (mkF m 161 #[.val (.int k), .val (.ref b1), .val (.int (1 : Int32)), .val (.ref v1), .val (.int (1 : Int32)), .unset, .unset, .unset, .unset] [(.int (1 : Int32))]))
      refine OwnFin.step (fun tT kK => XS.goto X148.here hx rfl (pc0 := 161) (pc' := 165) rfl (hb hby at_161) (by decide) (by decide) kK) ?_
      show OwnFin p e below _ (T148.setTop (mkF m 165 #[.val (.int k), .val (.ref b1), .val (.int (1 : Int32)), .val (.ref v1), .val (.int (1 : Int32)), .unset, .unset, .unset, .unset] [(.int (1 : Int32))]))
      refine OwnFin.step (fun tT kK => XS.istore X148.here hx rfl (hb hby at_165) rfl (l' := #[.val (.int k), .val (.ref b1), .val (.int (1 : Int32)), .val (.ref v1), .val (.int (1 : Int32)), .val (.int (1 : Int32)), .unset, .unset, .unset]) rfl kK) ?_
      show OwnFin p e below _ (T148.setTop (mkF m 167 #[.val (.int k), .val (.ref b1), .val (.int (1 : Int32)), .val (.ref v1), .val (.int (1 : Int32)), .val (.int (1 : Int32)), .unset, .unset, .unset] []))
      refine OwnFin.step (fun tT kK => XS.aloadN X148.here hx rfl (hb hby at_167) rfl rfl kK) ?_
      show OwnFin p e below _ (T148.setTop (mkF m 168 #[.val (.int k), .val (.ref b1), .val (.int (1 : Int32)), .val (.ref v1), .val (.int (1 : Int32)), .val (.int (1 : Int32)), .unset, .unset, .unset] [(.ref v1)]))
      have f149 : Fld Z h115 v1 "com/example/cairn/cairn/engine/BinaryOperator" "opcode" "I" (.int (37 : Int32)) := (hp39.keep Kp116 nin0)
      obtain ⟨cq150, kq150, q150a, q150b, q150c⟩ := isOf hZ e148 f118
      obtain ⟨_, _, ⟨T150, L150, k150, n150⟩, -, X150, ⟨Lc150, hQ150, l150, y150, z150⟩, st150⟩ := X148.virtualBack hx (y := (⟨"com/example/cairn/cairn/engine/BinaryOperator", "opcode", "()I"⟩ : MethodName)) (z := (⟨"com/example/cairn/cairn/engine/BinaryOperator", "opcode", "()I"⟩ : MethodName)) hown (mvT hZ (hw _ (List.mem_of_getElem? (i := 50) rfl))) (mvT hZ (hw _ (List.mem_of_getElem? (i := 51) rfl))) (notFace_of_selects (args := #[]) (mvT hZ (hw _ (List.mem_of_getElem? (i := 53) rfl)))) (mvT hZ (hw _ (List.mem_of_getElem? (i := 53) rfl))) (mvT hZ (hw _ (List.mem_of_getElem? (i := 52) rfl))) (by decide) (backOf (W := 0) (rm2 l Z a0 hw [] v1 (37 : Int32) h115 n0 (Nat.le_trans Z0 Kp116.1) f149) hZ (hw _ (List.mem_of_getElem? (i := 54) rfl)) (hw _ (List.mem_of_getElem? (i := 3) rfl)) (by decide) (by decide)) q150a q150c (g := (mkF m 168 #[.val (.int k), .val (.ref b1), .val (.int (1 : Int32)), .val (.ref v1), .val (.int (1 : Int32)), .val (.int (1 : Int32)), .unset, .unset, .unset] [(.ref v1)])) rfl (by rw [hml]; rfl) (Steps.refl _) (argsL := []) (rest := []) (lenOf pd_19 rfl) rfl (by show 2 * 0 + _ ≤ _; exact Nat.le_of_eq rfl) (hb hby at_168) (fun _ _ => ⟨rfl, e148, (by decide : 1 + 0 ≤ _), (by decide : 19 + 0 ≤ _)⟩)
      dsimp only [Pt.U, Pt.locs, Pt.cells, Pt.slots] at X150 l150 y150 z150 st150 hQ150
      subst l150 y150 z150
      obtain ⟨rfl, N150q, e150⟩ := hQ150
      have N150 := Fr.app N148 N150q
      refine OwnFin.step (fun tT kK => st150.trans kK) ?_
      show OwnFin p e below _ (T150.setTop (mkF m 171 #[.val (.int k), .val (.ref b1), .val (.int (1 : Int32)), .val (.ref v1), .val (.int (1 : Int32)), .val (.int (1 : Int32)), .unset, .unset, .unset] [(.int (37 : Int32))]))
      refine OwnFin.step (fun tT kK => XS.istore X150.here hx rfl (hb hby at_171) rfl (l' := #[.val (.int k), .val (.ref b1), .val (.int (1 : Int32)), .val (.ref v1), .val (.int (1 : Int32)), .val (.int (1 : Int32)), .val (.int (37 : Int32)), .unset, .unset]) rfl kK) ?_
      show OwnFin p e below _ (T150.setTop (mkF m 173 #[.val (.int k), .val (.ref b1), .val (.int (1 : Int32)), .val (.ref v1), .val (.int (1 : Int32)), .val (.int (1 : Int32)), .val (.int (37 : Int32)), .unset, .unset] []))
      refine OwnFin.step (fun tT kK => XS.iload X150.here hx rfl (hb hby at_173) rfl kK) ?_
      show OwnFin p e below _ (T150.setTop (mkF m 175 #[.val (.int k), .val (.ref b1), .val (.int (1 : Int32)), .val (.ref v1), .val (.int (1 : Int32)), .val (.int (1 : Int32)), .val (.int (37 : Int32)), .unset, .unset] [(.int (37 : Int32))]))
      refine OwnFin.step (fun tT kK => XS.bipush X150.here hx rfl (hb hby at_175) kK) ?_
      show OwnFin p e below _ (T150.setTop (mkF m 177 #[.val (.int k), .val (.ref b1), .val (.int (1 : Int32)), .val (.ref v1), .val (.int (1 : Int32)), .val (.int (1 : Int32)), .val (.int (37 : Int32)), .unset, .unset] [(.int (37 : Int32)), (.int (37 : Int32))]))
      refine OwnFin.step (fun tT kK => XS.icmpYes X150.here hx rfl (pc0 := 177) (pc' := 187) rfl (hb hby at_177) rfl (teq (rfl : (37 : Int32) = (37 : Int32))).1 (by decide) (by decide) kK) ?_
      show OwnFin p e below _ (T150.setTop (mkF m 187 #[.val (.int k), .val (.ref b1), .val (.int (1 : Int32)), .val (.ref v1), .val (.int (1 : Int32)), .val (.int (1 : Int32)), .val (.int (37 : Int32)), .unset, .unset] []))
      refine OwnFin.step (fun tT kK => XS.iconst X150.here hx rfl (hb hby at_187) kK) ?_
      show OwnFin p e below _ (T150.setTop (mkF m 188 #[.val (.int k), .val (.ref b1), .val (.int (1 : Int32)), .val (.ref v1), .val (.int (1 : Int32)), .val (.int (1 : Int32)), .val (.int (37 : Int32)), .unset, .unset] [(.int (1 : Int32))]))
      refine OwnFin.step (fun tT kK => XS.goto X150.here hx rfl (pc0 := 188) (pc' := 192) rfl (hb hby at_188) (by decide) (by decide) kK) ?_
      show OwnFin p e below _ (T150.setTop (mkF m 192 #[.val (.int k), .val (.ref b1), .val (.int (1 : Int32)), .val (.ref v1), .val (.int (1 : Int32)), .val (.int (1 : Int32)), .val (.int (37 : Int32)), .unset, .unset] [(.int (1 : Int32))]))
      refine OwnFin.step (fun tT kK => XS.istore X150.here hx rfl (hb hby at_192) rfl (l' := #[.val (.int k), .val (.ref b1), .val (.int (1 : Int32)), .val (.ref v1), .val (.int (1 : Int32)), .val (.int (1 : Int32)), .val (.int (37 : Int32)), .val (.int (1 : Int32)), .unset]) rfl kK) ?_
      show OwnFin p e below _ (T150.setTop (mkF m 194 #[.val (.int k), .val (.ref b1), .val (.int (1 : Int32)), .val (.ref v1), .val (.int (1 : Int32)), .val (.int (1 : Int32)), .val (.int (37 : Int32)), .val (.int (1 : Int32)), .unset] []))
      refine OwnFin.step (fun tT kK => XS.aloadN X150.here hx rfl (hb hby at_194) rfl rfl kK) ?_
      show OwnFin p e below _ (T150.setTop (mkF m 195 #[.val (.int k), .val (.ref b1), .val (.int (1 : Int32)), .val (.ref v1), .val (.int (1 : Int32)), .val (.int (1 : Int32)), .val (.int (37 : Int32)), .val (.int (1 : Int32)), .unset] [(.ref v1)]))
      have f151 : Fld Z h115 v1 "com/example/cairn/cairn/engine/BinaryOperator" "precedence" "I" (.int (2 : Int32)) := (hp58.keep Kp116 nin0)
      obtain ⟨cq152, kq152, q152a, q152b, q152c⟩ := isOf hZ e150 f118
      obtain ⟨_, _, ⟨T152, L152, k152, n152⟩, -, X152, ⟨Lc152, hQ152, l152, y152, z152⟩, st152⟩ := X150.virtualBack hx (y := (⟨"com/example/cairn/cairn/engine/BinaryOperator", "precedence", "()I"⟩ : MethodName)) (z := (⟨"com/example/cairn/cairn/engine/BinaryOperator", "precedence", "()I"⟩ : MethodName)) hown (mvT hZ (hw _ (List.mem_of_getElem? (i := 57) rfl))) (mvT hZ (hw _ (List.mem_of_getElem? (i := 58) rfl))) (notFace_of_selects (args := #[]) (mvT hZ (hw _ (List.mem_of_getElem? (i := 60) rfl)))) (mvT hZ (hw _ (List.mem_of_getElem? (i := 60) rfl))) (mvT hZ (hw _ (List.mem_of_getElem? (i := 59) rfl))) (by decide) (backOf (W := 0) (rm3 l Z a0 hw [] v1 (2 : Int32) h115 n0 (Nat.le_trans Z0 Kp116.1) f151) hZ (hw _ (List.mem_of_getElem? (i := 61) rfl)) (hw _ (List.mem_of_getElem? (i := 3) rfl)) (by decide) (by decide)) q152a q152c (g := (mkF m 195 #[.val (.int k), .val (.ref b1), .val (.int (1 : Int32)), .val (.ref v1), .val (.int (1 : Int32)), .val (.int (1 : Int32)), .val (.int (37 : Int32)), .val (.int (1 : Int32)), .unset] [(.ref v1)])) rfl (by rw [hml]; rfl) (Steps.refl _) (argsL := []) (rest := []) (lenOf pd_19 rfl) rfl (by show 2 * 0 + _ ≤ _; exact Nat.le_of_eq rfl) (hb hby at_195) (fun _ _ => ⟨rfl, e150, (by decide : 1 + 0 ≤ _), (by decide : 19 + 0 ≤ _)⟩)
      dsimp only [Pt.U, Pt.locs, Pt.cells, Pt.slots] at X152 l152 y152 z152 st152 hQ152
      subst l152 y152 z152
      obtain ⟨rfl, N152q, e152⟩ := hQ152
      have N152 := Fr.app N150 N152q
      refine OwnFin.step (fun tT kK => st152.trans kK) ?_
      show OwnFin p e below _ (T152.setTop (mkF m 198 #[.val (.int k), .val (.ref b1), .val (.int (1 : Int32)), .val (.ref v1), .val (.int (1 : Int32)), .val (.int (1 : Int32)), .val (.int (37 : Int32)), .val (.int (1 : Int32)), .unset] [(.int (2 : Int32))]))
      refine OwnFin.step (fun tT kK => XS.iconst X152.here hx rfl (hb hby at_198) kK) ?_
      show OwnFin p e below _ (T152.setTop (mkF m 199 #[.val (.int k), .val (.ref b1), .val (.int (1 : Int32)), .val (.ref v1), .val (.int (1 : Int32)), .val (.int (1 : Int32)), .val (.int (37 : Int32)), .val (.int (1 : Int32)), .unset] [(.int (2 : Int32)), (.int (2 : Int32))]))
      refine OwnFin.step (fun tT kK => XS.icmpNo X152.here hx rfl (hb hby at_199) rfl (flt (by decide : ¬ ((2 : Int32) < (2 : Int32)))).2.2.1 kK) ?_
      show OwnFin p e below _ (T152.setTop (mkF m 202 #[.val (.int k), .val (.ref b1), .val (.int (1 : Int32)), .val (.ref v1), .val (.int (1 : Int32)), .val (.int (1 : Int32)), .val (.int (37 : Int32)), .val (.int (1 : Int32)), .unset] []))
      refine OwnFin.step (fun tT kK => XS.iconst X152.here hx rfl (hb hby at_202) kK) ?_
      show OwnFin p e below _ (T152.setTop (mkF m 203 #[.val (.int k), .val (.ref b1), .val (.int (1 : Int32)), .val (.ref v1), .val (.int (1 : Int32)), .val (.int (1 : Int32)), .val (.int (37 : Int32)), .val (.int (1 : Int32)), .unset] [(.int (1 : Int32))]))
      refine OwnFin.step (fun tT kK => XS.goto X152.here hx rfl (pc0 := 203) (pc' := 207) rfl (hb hby at_203) (by decide) (by decide) kK) ?_
      show OwnFin p e below _ (T152.setTop (mkF m 207 #[.val (.int k), .val (.ref b1), .val (.int (1 : Int32)), .val (.ref v1), .val (.int (1 : Int32)), .val (.int (1 : Int32)), .val (.int (37 : Int32)), .val (.int (1 : Int32)), .unset] [(.int (1 : Int32))]))
      refine OwnFin.step (fun tT kK => XS.istore X152.here hx rfl (hb hby at_207) rfl (l' := #[.val (.int k), .val (.ref b1), .val (.int (1 : Int32)), .val (.ref v1), .val (.int (1 : Int32)), .val (.int (1 : Int32)), .val (.int (37 : Int32)), .val (.int (1 : Int32)), .val (.int (1 : Int32))]) rfl kK) ?_
      show OwnFin p e below _ (T152.setTop (mkF m 209 #[.val (.int k), .val (.ref b1), .val (.int (1 : Int32)), .val (.ref v1), .val (.int (1 : Int32)), .val (.int (1 : Int32)), .val (.int (37 : Int32)), .val (.int (1 : Int32)), .val (.int (1 : Int32))] []))
      refine OwnFin.step (fun tT kK => XS.iload X152.here hx rfl (hb hby at_209) rfl kK) ?_
      show OwnFin p e below _ (T152.setTop (mkF m 211 #[.val (.int k), .val (.ref b1), .val (.int (1 : Int32)), .val (.ref v1), .val (.int (1 : Int32)), .val (.int (1 : Int32)), .val (.int (37 : Int32)), .val (.int (1 : Int32)), .val (.int (1 : Int32))] [(.int (1 : Int32))]))
      refine OwnFin.step (fun tT kK => XS.iload X152.here hx rfl (hb hby at_211) rfl kK) ?_
      show OwnFin p e below _ (T152.setTop (mkF m 213 #[.val (.int k), .val (.ref b1), .val (.int (1 : Int32)), .val (.ref v1), .val (.int (1 : Int32)), .val (.int (1 : Int32)), .val (.int (37 : Int32)), .val (.int (1 : Int32)), .val (.int (1 : Int32))] [(.int (1 : Int32)), (.int (1 : Int32))]))
      refine OwnFin.step (fun tT kK => XS.icmpNo X152.here hx rfl (hb hby at_213) rfl (teq (rfl : (1 : Int32) = (1 : Int32))).2 kK) ?_
      show OwnFin p e below _ (T152.setTop (mkF m 216 #[.val (.int k), .val (.ref b1), .val (.int (1 : Int32)), .val (.ref v1), .val (.int (1 : Int32)), .val (.int (1 : Int32)), .val (.int (37 : Int32)), .val (.int (1 : Int32)), .val (.int (1 : Int32))] []))
      refine OwnFin.step (fun tT kK => XS.iload X152.here hx rfl (hb hby at_216) rfl kK) ?_
      show OwnFin p e below _ (T152.setTop (mkF m 218 #[.val (.int k), .val (.ref b1), .val (.int (1 : Int32)), .val (.ref v1), .val (.int (1 : Int32)), .val (.int (1 : Int32)), .val (.int (37 : Int32)), .val (.int (1 : Int32)), .val (.int (1 : Int32))] [(.int (1 : Int32))]))
      refine OwnFin.step (fun tT kK => XS.iload X152.here hx rfl (hb hby at_218) rfl kK) ?_
      show OwnFin p e below _ (T152.setTop (mkF m 220 #[.val (.int k), .val (.ref b1), .val (.int (1 : Int32)), .val (.ref v1), .val (.int (1 : Int32)), .val (.int (1 : Int32)), .val (.int (37 : Int32)), .val (.int (1 : Int32)), .val (.int (1 : Int32))] [(.int (1 : Int32)), (.int (1 : Int32))]))
      refine OwnFin.step (fun tT kK => XS.icmpNo X152.here hx rfl (hb hby at_220) rfl (teq (rfl : (1 : Int32) = (1 : Int32))).2 kK) ?_
      show OwnFin p e below _ (T152.setTop (mkF m 223 #[.val (.int k), .val (.ref b1), .val (.int (1 : Int32)), .val (.ref v1), .val (.int (1 : Int32)), .val (.int (1 : Int32)), .val (.int (37 : Int32)), .val (.int (1 : Int32)), .val (.int (1 : Int32))] []))
      refine OwnFin.step (fun tT kK => XS.iload X152.here hx rfl (hb hby at_223) rfl kK) ?_
      show OwnFin p e below _ (T152.setTop (mkF m 225 #[.val (.int k), .val (.ref b1), .val (.int (1 : Int32)), .val (.ref v1), .val (.int (1 : Int32)), .val (.int (1 : Int32)), .val (.int (37 : Int32)), .val (.int (1 : Int32)), .val (.int (1 : Int32))] [(.int (1 : Int32))]))
      refine OwnFin.step (fun tT kK => XS.iload X152.here hx rfl (hb hby at_225) rfl kK) ?_
      show OwnFin p e below _ (T152.setTop (mkF m 227 #[.val (.int k), .val (.ref b1), .val (.int (1 : Int32)), .val (.ref v1), .val (.int (1 : Int32)), .val (.int (1 : Int32)), .val (.int (37 : Int32)), .val (.int (1 : Int32)), .val (.int (1 : Int32))] [(.int (1 : Int32)), (.int (1 : Int32))]))
      refine OwnFin.step (fun tT kK => XS.icmpNo X152.here hx rfl (hb hby at_227) rfl (teq (rfl : (1 : Int32) = (1 : Int32))).2 kK) ?_
      show OwnFin p e below _ (T152.setTop (mkF m 230 #[.val (.int k), .val (.ref b1), .val (.int (1 : Int32)), .val (.ref v1), .val (.int (1 : Int32)), .val (.int (1 : Int32)), .val (.int (37 : Int32)), .val (.int (1 : Int32)), .val (.int (1 : Int32))] []))
      refine OwnFin.step (fun tT kK => XS.iconst X152.here hx rfl (hb hby at_230) kK) ?_
      show OwnFin p e below _ (T152.setTop (mkF m 231 #[.val (.int k), .val (.ref b1), .val (.int (1 : Int32)), .val (.ref v1), .val (.int (1 : Int32)), .val (.int (1 : Int32)), .val (.int (37 : Int32)), .val (.int (1 : Int32)), .val (.int (1 : Int32))] [(.int (1 : Int32))]))
      refine OwnFin.step (fun tT kK => XS.goto X152.here hx rfl (pc0 := 231) (pc' := 235) rfl (hb hby at_231) (by decide) (by decide) kK) ?_
      show OwnFin p e below _ (T152.setTop (mkF m 235 #[.val (.int k), .val (.ref b1), .val (.int (1 : Int32)), .val (.ref v1), .val (.int (1 : Int32)), .val (.int (1 : Int32)), .val (.int (37 : Int32)), .val (.int (1 : Int32)), .val (.int (1 : Int32))] [(.int (1 : Int32))]))
      obtain ⟨fs153, hr153, hrun153, hended153, hW153, hsame153⟩ := X152.leave (v := (some (.int (1 : Int32)))) (fun h => by rw [Bd.returns] at h; cases h)
      refine ⟨_, _, retN X152 hx (t := .boolean) Bd.returns (by simp) (hb hby at_235) hr153, hrun153, hended153, _, _, rfl, ?_, ⟨_, rfl⟩, hW153, hsame153.mono (by decide) (by decide)⟩
      show Q0 Z k v0 v1 v2 v3 v4 v5 v6 v7 v8 v9 v10 v11 v12 v13 v14 v15 v16 v17 v18 h0 n0 _ T152.heap _
      rw [e152]
      exact ⟨rfl, N152, Kp116⟩
    · skip
      show OwnFin p e below _ (T139.setTop (mkF m 141 #[.val (.int k), .val (.ref b1), .val (.int (2 : Int32)), .unset, .unset, .unset, .unset, .unset, .unset] []))
      refine OwnFin.step (fun tT kK => XS.aloadN X139.here hx rfl (hb hby at_141) rfl rfl kK) ?_
      show OwnFin p e below _ (T139.setTop (mkF m 142 #[.val (.int k), .val (.ref b1), .val (.int (2 : Int32)), .unset, .unset, .unset, .unset, .unset, .unset] [(.ref b1)]))
      refine OwnFin.step (fun tT kK => XS.iloadN X139.here hx rfl (hb hby at_142) rfl kK) ?_
      show OwnFin p e below _ (T139.setTop (mkF m 143 #[.val (.int k), .val (.ref b1), .val (.int (2 : Int32)), .unset, .unset, .unset, .unset, .unset, .unset] [(.int (2 : Int32)), (.ref b1)]))
      obtain ⟨cl154, Ar154, q154, Sz154, Ng154, H154, G154⟩ := id V115
      have hin154 : ¬ ((2 : Int32) < 0 ∨ cl154.slots.size ≤ ((2 : Int32)).toNatClampNeg) := inb_of Sz154 ⟨by decide, by decide⟩
      refine OwnFin.step (fun tT kK => X139.aaload hx (j := (2 : Int32)) (v := (.ref v2)) (by rw [e139]; exact Ar154.1) (State.isArrayOf_alike hZ.alike Ar154.2.1) rfl Ar154.2.2 hin154 (H154.at hin154 rfl) (g := (mkF m 143 #[.val (.int k), .val (.ref b1), .val (.int (2 : Int32)), .unset, .unset, .unset, .unset, .unset, .unset] [(.int (2 : Int32)), (.ref b1)])) rfl rfl (hb hby at_143) _ kK) ?_
      show OwnFin p e below _ (T139.setTop (mkF m 144 #[.val (.int k), .val (.ref b1), .val (.int (2 : Int32)), .unset, .unset, .unset, .unset, .unset, .unset] [(.ref v2)]))
      refine OwnFin.step (fun tT kK => XS.astoreN X139.here hx rfl (hb hby at_144) rfl rfl (l' := #[.val (.int k), .val (.ref b1), .val (.int (2 : Int32)), .val (.ref v2), .unset, .unset, .unset, .unset, .unset]) rfl kK) ?_
      show OwnFin p e below _ (T139.setTop (mkF m 145 #[.val (.int k), .val (.ref b1), .val (.int (2 : Int32)), .val (.ref v2), .unset, .unset, .unset, .unset, .unset] []))
      refine OwnFin.step (fun tT kK => XS.aloadN X139.here hx rfl (hb hby at_145) rfl rfl kK) ?_
      show OwnFin p e below _ (T139.setTop (mkF m 146 #[.val (.int k), .val (.ref b1), .val (.int (2 : Int32)), .val (.ref v2), .unset, .unset, .unset, .unset, .unset] [(.ref v2)]))
      obtain ⟨cq155, kq155, q155a, q155b, q155c⟩ := isOf hZ e139 f119
      obtain ⟨_, _, ⟨T155, L155, k155, n155⟩, -, X155, ⟨Lc155, hQ155, l155, y155, z155⟩, st155⟩ := X139.virtualBack hx (y := (⟨"com/example/cairn/cairn/engine/BinaryOperator", "shortCircuits", "()Z"⟩ : MethodName)) (z := (⟨"com/example/cairn/cairn/engine/BinaryOperator", "shortCircuits", "()Z"⟩ : MethodName)) hown (mvT hZ (hw _ (List.mem_of_getElem? (i := 43) rfl))) (mvT hZ (hw _ (List.mem_of_getElem? (i := 44) rfl))) (notFace_of_selects (args := #[]) (mvT hZ (hw _ (List.mem_of_getElem? (i := 46) rfl)))) (mvT hZ (hw _ (List.mem_of_getElem? (i := 46) rfl))) (mvT hZ (hw _ (List.mem_of_getElem? (i := 45) rfl))) (by decide) (backOf (W := 0) (rm1 l Z a0 hw [] v2 v1 v0 h115 n0 (Nat.le_trans Z0 Kp116.1) f136 f137) hZ (hw _ (List.mem_of_getElem? (i := 47) rfl)) (hw _ (List.mem_of_getElem? (i := 3) rfl)) (by decide) (by decide)) q155a q155c (g := (mkF m 146 #[.val (.int k), .val (.ref b1), .val (.int (2 : Int32)), .val (.ref v2), .unset, .unset, .unset, .unset, .unset] [(.ref v2)])) rfl (by rw [hml]; rfl) (Steps.refl _) (argsL := []) (rest := []) (lenOf pd_18 rfl) rfl (by show 2 * 0 + _ ≤ _; exact Nat.le_of_eq rfl) (hb hby at_146) (fun _ _ => ⟨rfl, e139, (by decide : 1 + 0 ≤ _), (by decide : 19 + 0 ≤ _)⟩)
      dsimp only [Pt.U, Pt.locs, Pt.cells, Pt.slots] at X155 l155 y155 z155 st155 hQ155
      subst l155 y155 z155
      obtain ⟨rfl, N155q, e155⟩ := hQ155
      have N155 := Fr.app N139 N155q
      refine OwnFin.step (fun tT kK => st155.trans kK) ?_
      show OwnFin p e below _ (T155.setTop (mkF m 149 #[.val (.int k), .val (.ref b1), .val (.int (2 : Int32)), .val (.ref v2), .unset, .unset, .unset, .unset, .unset] [(.int (if v2 = v1 ∨ v2 = v0 then 1 else 0))]))
      rw [show (if v2 = v1 ∨ v2 = v0 then (1 : Int32) else 0) = 0 from if_neg (fun q => q.elim hp77 hp76)]
      show OwnFin p e below _ (T155.setTop (mkF m 149 #[.val (.int k), .val (.ref b1), .val (.int (2 : Int32)), .val (.ref v2), .unset, .unset, .unset, .unset, .unset] [(.int (0 : Int32))]))
      refine OwnFin.step (fun tT kK => XS.istore X155.here hx rfl (hb hby at_149) rfl (l' := #[.val (.int k), .val (.ref b1), .val (.int (2 : Int32)), .val (.ref v2), .val (.int (0 : Int32)), .unset, .unset, .unset, .unset]) rfl kK) ?_
      show OwnFin p e below _ (T155.setTop (mkF m 151 #[.val (.int k), .val (.ref b1), .val (.int (2 : Int32)), .val (.ref v2), .val (.int (0 : Int32)), .unset, .unset, .unset, .unset] []))
      refine OwnFin.step (fun tT kK => XS.iloadN X155.here hx rfl (hb hby at_151) rfl kK) ?_
      show OwnFin p e below _ (T155.setTop (mkF m 152 #[.val (.int k), .val (.ref b1), .val (.int (2 : Int32)), .val (.ref v2), .val (.int (0 : Int32)), .unset, .unset, .unset, .unset] [(.int (2 : Int32))]))
      refine OwnFin.step (fun tT kK => XS.ifNo X155.here hx rfl (hb hby at_152) rfl ((if0 _ _).trans (feq (by decide : ¬ ((2 : Int32) = (0 : Int32)))).1) kK) ?_
      show OwnFin p e below _ (T155.setTop (mkF m 155 #[.val (.int k), .val (.ref b1), .val (.int (2 : Int32)), .val (.ref v2), .val (.int (0 : Int32)), .unset, .unset, .unset, .unset] []))
      refine OwnFin.step (fun tT kK => XS.iloadN X155.here hx rfl (hb hby at_155) rfl kK) ?_
      show OwnFin p e below _ (T155.setTop (mkF m 156 #[.val (.int k), .val (.ref b1), .val (.int (2 : Int32)), .val (.ref v2), .val (.int (0 : Int32)), .unset, .unset, .unset, .unset] [(.int (2 : Int32))]))
      refine OwnFin.step (fun tT kK => XS.iconst X155.here hx rfl (hb hby at_156) kK) ?_
      show OwnFin p e below _ (T155.setTop (mkF m 157 #[.val (.int k), .val (.ref b1), .val (.int (2 : Int32)), .val (.ref v2), .val (.int (0 : Int32)), .unset, .unset, .unset, .unset] [(.int (1 : Int32)), (.int (2 : Int32))]))
      refine OwnFin.step (fun tT kK => XS.icmpYes X155.here hx rfl (pc0 := 157) (pc' := 164) rfl (hb hby at_157) rfl (feq (by decide : ¬ ((2 : Int32) = (1 : Int32)))).2 (by decide) (by decide) kK) ?_
      show OwnFin p e below _ (T155.setTop (mkF m 164 #[.val (.int k), .val (.ref b1), .val (.int (2 : Int32)), .val (.ref v2), .val (.int (0 : Int32)), .unset, .unset, .unset, .unset] []))
      refine OwnFin.step (fun tT kK => XS.iconst X155.here hx rfl (hb hby at_164) kK) ?_
      show OwnFin p e below _ (T155.setTop (mkF m 165 #[.val (.int k), .val (.ref b1), .val (.int (2 : Int32)), .val (.ref v2), .val (.int (0 : Int32)), .unset, .unset, .unset, .unset] [(.int (0 : Int32))]))
      refine OwnFin.step (fun tT kK => XS.istore X155.here hx rfl (hb hby at_165) rfl (l' := #[.val (.int k), .val (.ref b1), .val (.int (2 : Int32)), .val (.ref v2), .val (.int (0 : Int32)), .val (.int (0 : Int32)), .unset, .unset, .unset]) rfl kK) ?_
      show OwnFin p e below _ (T155.setTop (mkF m 167 #[.val (.int k), .val (.ref b1), .val (.int (2 : Int32)), .val (.ref v2), .val (.int (0 : Int32)), .val (.int (0 : Int32)), .unset, .unset, .unset] []))
      refine OwnFin.step (fun tT kK => XS.aloadN X155.here hx rfl (hb hby at_167) rfl rfl kK) ?_
      show OwnFin p e below _ (T155.setTop (mkF m 168 #[.val (.int k), .val (.ref b1), .val (.int (2 : Int32)), .val (.ref v2), .val (.int (0 : Int32)), .val (.int (0 : Int32)), .unset, .unset, .unset] [(.ref v2)]))
      have f156 : Fld Z h115 v2 "com/example/cairn/cairn/engine/BinaryOperator" "opcode" "I" (.int (10 : Int32)) := (hp40.keep Kp116 nin0)
      obtain ⟨cq157, kq157, q157a, q157b, q157c⟩ := isOf hZ e155 f119
      obtain ⟨_, _, ⟨T157, L157, k157, n157⟩, -, X157, ⟨Lc157, hQ157, l157, y157, z157⟩, st157⟩ := X155.virtualBack hx (y := (⟨"com/example/cairn/cairn/engine/BinaryOperator", "opcode", "()I"⟩ : MethodName)) (z := (⟨"com/example/cairn/cairn/engine/BinaryOperator", "opcode", "()I"⟩ : MethodName)) hown (mvT hZ (hw _ (List.mem_of_getElem? (i := 50) rfl))) (mvT hZ (hw _ (List.mem_of_getElem? (i := 51) rfl))) (notFace_of_selects (args := #[]) (mvT hZ (hw _ (List.mem_of_getElem? (i := 53) rfl)))) (mvT hZ (hw _ (List.mem_of_getElem? (i := 53) rfl))) (mvT hZ (hw _ (List.mem_of_getElem? (i := 52) rfl))) (by decide) (backOf (W := 0) (rm2 l Z a0 hw [] v2 (10 : Int32) h115 n0 (Nat.le_trans Z0 Kp116.1) f156) hZ (hw _ (List.mem_of_getElem? (i := 54) rfl)) (hw _ (List.mem_of_getElem? (i := 3) rfl)) (by decide) (by decide)) q157a q157c (g := (mkF m 168 #[.val (.int k), .val (.ref b1), .val (.int (2 : Int32)), .val (.ref v2), .val (.int (0 : Int32)), .val (.int (0 : Int32)), .unset, .unset, .unset] [(.ref v2)])) rfl (by rw [hml]; rfl) (Steps.refl _) (argsL := []) (rest := []) (lenOf pd_19 rfl) rfl (by show 2 * 0 + _ ≤ _; exact Nat.le_of_eq rfl) (hb hby at_168) (fun _ _ => ⟨rfl, e155, (by decide : 1 + 0 ≤ _), (by decide : 19 + 0 ≤ _)⟩)
      dsimp only [Pt.U, Pt.locs, Pt.cells, Pt.slots] at X157 l157 y157 z157 st157 hQ157
      subst l157 y157 z157
      obtain ⟨rfl, N157q, e157⟩ := hQ157
      have N157 := Fr.app N155 N157q
      refine OwnFin.step (fun tT kK => st157.trans kK) ?_
      show OwnFin p e below _ (T157.setTop (mkF m 171 #[.val (.int k), .val (.ref b1), .val (.int (2 : Int32)), .val (.ref v2), .val (.int (0 : Int32)), .val (.int (0 : Int32)), .unset, .unset, .unset] [(.int (10 : Int32))]))
      refine OwnFin.step (fun tT kK => XS.istore X157.here hx rfl (hb hby at_171) rfl (l' := #[.val (.int k), .val (.ref b1), .val (.int (2 : Int32)), .val (.ref v2), .val (.int (0 : Int32)), .val (.int (0 : Int32)), .val (.int (10 : Int32)), .unset, .unset]) rfl kK) ?_
      show OwnFin p e below _ (T157.setTop (mkF m 173 #[.val (.int k), .val (.ref b1), .val (.int (2 : Int32)), .val (.ref v2), .val (.int (0 : Int32)), .val (.int (0 : Int32)), .val (.int (10 : Int32)), .unset, .unset] []))
      refine OwnFin.step (fun tT kK => XS.iload X157.here hx rfl (hb hby at_173) rfl kK) ?_
      show OwnFin p e below _ (T157.setTop (mkF m 175 #[.val (.int k), .val (.ref b1), .val (.int (2 : Int32)), .val (.ref v2), .val (.int (0 : Int32)), .val (.int (0 : Int32)), .val (.int (10 : Int32)), .unset, .unset] [(.int (10 : Int32))]))
      refine OwnFin.step (fun tT kK => XS.bipush X157.here hx rfl (hb hby at_175) kK) ?_
      show OwnFin p e below _ (T157.setTop (mkF m 177 #[.val (.int k), .val (.ref b1), .val (.int (2 : Int32)), .val (.ref v2), .val (.int (0 : Int32)), .val (.int (0 : Int32)), .val (.int (10 : Int32)), .unset, .unset] [(.int (37 : Int32)), (.int (10 : Int32))]))
      refine OwnFin.step (fun tT kK => XS.icmpNo X157.here hx rfl (hb hby at_177) rfl (feq (by decide : ¬ ((10 : Int32) = (37 : Int32)))).1 kK) ?_
      show OwnFin p e below _ (T157.setTop (mkF m 180 #[.val (.int k), .val (.ref b1), .val (.int (2 : Int32)), .val (.ref v2), .val (.int (0 : Int32)), .val (.int (0 : Int32)), .val (.int (10 : Int32)), .unset, .unset] []))
      refine OwnFin.step (fun tT kK => XS.iload X157.here hx rfl (hb hby at_180) rfl kK) ?_
      show OwnFin p e below _ (T157.setTop (mkF m 182 #[.val (.int k), .val (.ref b1), .val (.int (2 : Int32)), .val (.ref v2), .val (.int (0 : Int32)), .val (.int (0 : Int32)), .val (.int (10 : Int32)), .unset, .unset] [(.int (10 : Int32))]))
      refine OwnFin.step (fun tT kK => XS.bipush X157.here hx rfl (hb hby at_182) kK) ?_
      show OwnFin p e below _ (T157.setTop (mkF m 184 #[.val (.int k), .val (.ref b1), .val (.int (2 : Int32)), .val (.ref v2), .val (.int (0 : Int32)), .val (.int (0 : Int32)), .val (.int (10 : Int32)), .unset, .unset] [(.int (38 : Int32)), (.int (10 : Int32))]))
      refine OwnFin.step (fun tT kK => XS.icmpYes X157.here hx rfl (pc0 := 184) (pc' := 191) rfl (hb hby at_184) rfl (feq (by decide : ¬ ((10 : Int32) = (38 : Int32)))).2 (by decide) (by decide) kK) ?_
      show OwnFin p e below _ (T157.setTop (mkF m 191 #[.val (.int k), .val (.ref b1), .val (.int (2 : Int32)), .val (.ref v2), .val (.int (0 : Int32)), .val (.int (0 : Int32)), .val (.int (10 : Int32)), .unset, .unset] []))
      refine OwnFin.step (fun tT kK => XS.iconst X157.here hx rfl (hb hby at_191) kK) ?_
      show OwnFin p e below _ (T157.setTop (mkF m 192 #[.val (.int k), .val (.ref b1), .val (.int (2 : Int32)), .val (.ref v2), .val (.int (0 : Int32)), .val (.int (0 : Int32)), .val (.int (10 : Int32)), .unset, .unset] [(.int (0 : Int32))]))
      refine OwnFin.step (fun tT kK => XS.istore X157.here hx rfl (hb hby at_192) rfl (l' := #[.val (.int k), .val (.ref b1), .val (.int (2 : Int32)), .val (.ref v2), .val (.int (0 : Int32)), .val (.int (0 : Int32)), .val (.int (10 : Int32)), .val (.int (0 : Int32)), .unset]) rfl kK) ?_
      show OwnFin p e below _ (T157.setTop (mkF m 194 #[.val (.int k), .val (.ref b1), .val (.int (2 : Int32)), .val (.ref v2), .val (.int (0 : Int32)), .val (.int (0 : Int32)), .val (.int (10 : Int32)), .val (.int (0 : Int32)), .unset] []))
      refine OwnFin.step (fun tT kK => XS.aloadN X157.here hx rfl (hb hby at_194) rfl rfl kK) ?_
      show OwnFin p e below _ (T157.setTop (mkF m 195 #[.val (.int k), .val (.ref b1), .val (.int (2 : Int32)), .val (.ref v2), .val (.int (0 : Int32)), .val (.int (0 : Int32)), .val (.int (10 : Int32)), .val (.int (0 : Int32)), .unset] [(.ref v2)]))
      have f158 : Fld Z h115 v2 "com/example/cairn/cairn/engine/BinaryOperator" "precedence" "I" (.int (3 : Int32)) := (hp59.keep Kp116 nin0)
      obtain ⟨cq159, kq159, q159a, q159b, q159c⟩ := isOf hZ e157 f119
      obtain ⟨_, _, ⟨T159, L159, k159, n159⟩, -, X159, ⟨Lc159, hQ159, l159, y159, z159⟩, st159⟩ := X157.virtualBack hx (y := (⟨"com/example/cairn/cairn/engine/BinaryOperator", "precedence", "()I"⟩ : MethodName)) (z := (⟨"com/example/cairn/cairn/engine/BinaryOperator", "precedence", "()I"⟩ : MethodName)) hown (mvT hZ (hw _ (List.mem_of_getElem? (i := 57) rfl))) (mvT hZ (hw _ (List.mem_of_getElem? (i := 58) rfl))) (notFace_of_selects (args := #[]) (mvT hZ (hw _ (List.mem_of_getElem? (i := 60) rfl)))) (mvT hZ (hw _ (List.mem_of_getElem? (i := 60) rfl))) (mvT hZ (hw _ (List.mem_of_getElem? (i := 59) rfl))) (by decide) (backOf (W := 0) (rm3 l Z a0 hw [] v2 (3 : Int32) h115 n0 (Nat.le_trans Z0 Kp116.1) f158) hZ (hw _ (List.mem_of_getElem? (i := 61) rfl)) (hw _ (List.mem_of_getElem? (i := 3) rfl)) (by decide) (by decide)) q159a q159c (g := (mkF m 195 #[.val (.int k), .val (.ref b1), .val (.int (2 : Int32)), .val (.ref v2), .val (.int (0 : Int32)), .val (.int (0 : Int32)), .val (.int (10 : Int32)), .val (.int (0 : Int32)), .unset] [(.ref v2)])) rfl (by rw [hml]; rfl) (Steps.refl _) (argsL := []) (rest := []) (lenOf pd_19 rfl) rfl (by show 2 * 0 + _ ≤ _; exact Nat.le_of_eq rfl) (hb hby at_195) (fun _ _ => ⟨rfl, e157, (by decide : 1 + 0 ≤ _), (by decide : 19 + 0 ≤ _)⟩)
      dsimp only [Pt.U, Pt.locs, Pt.cells, Pt.slots] at X159 l159 y159 z159 st159 hQ159
      subst l159 y159 z159
      obtain ⟨rfl, N159q, e159⟩ := hQ159
      have N159 := Fr.app N157 N159q
      refine OwnFin.step (fun tT kK => st159.trans kK) ?_
      show OwnFin p e below _ (T159.setTop (mkF m 198 #[.val (.int k), .val (.ref b1), .val (.int (2 : Int32)), .val (.ref v2), .val (.int (0 : Int32)), .val (.int (0 : Int32)), .val (.int (10 : Int32)), .val (.int (0 : Int32)), .unset] [(.int (3 : Int32))]))
      refine OwnFin.step (fun tT kK => XS.iconst X159.here hx rfl (hb hby at_198) kK) ?_
      show OwnFin p e below _ (T159.setTop (mkF m 199 #[.val (.int k), .val (.ref b1), .val (.int (2 : Int32)), .val (.ref v2), .val (.int (0 : Int32)), .val (.int (0 : Int32)), .val (.int (10 : Int32)), .val (.int (0 : Int32)), .unset] [(.int (2 : Int32)), (.int (3 : Int32))]))
      refine OwnFin.step (fun tT kK => XS.icmpYes X159.here hx rfl (pc0 := 199) (pc' := 206) rfl (hb hby at_199) rfl (tlt (by decide : (2 : Int32) < (3 : Int32))).2.2.1 (by decide) (by decide) kK) ?_
      show OwnFin p e below _ (T159.setTop (mkF m 206 #[.val (.int k), .val (.ref b1), .val (.int (2 : Int32)), .val (.ref v2), .val (.int (0 : Int32)), .val (.int (0 : Int32)), .val (.int (10 : Int32)), .val (.int (0 : Int32)), .unset] []))
      refine OwnFin.step (fun tT kK => XS.iconst X159.here hx rfl (hb hby at_206) kK) ?_
      show OwnFin p e below _ (T159.setTop (mkF m 207 #[.val (.int k), .val (.ref b1), .val (.int (2 : Int32)), .val (.ref v2), .val (.int (0 : Int32)), .val (.int (0 : Int32)), .val (.int (10 : Int32)), .val (.int (0 : Int32)), .unset] [(.int (0 : Int32))]))
      refine OwnFin.step (fun tT kK => XS.istore X159.here hx rfl (hb hby at_207) rfl (l' := #[.val (.int k), .val (.ref b1), .val (.int (2 : Int32)), .val (.ref v2), .val (.int (0 : Int32)), .val (.int (0 : Int32)), .val (.int (10 : Int32)), .val (.int (0 : Int32)), .val (.int (0 : Int32))]) rfl kK) ?_
      show OwnFin p e below _ (T159.setTop (mkF m 209 #[.val (.int k), .val (.ref b1), .val (.int (2 : Int32)), .val (.ref v2), .val (.int (0 : Int32)), .val (.int (0 : Int32)), .val (.int (10 : Int32)), .val (.int (0 : Int32)), .val (.int (0 : Int32))] []))
      refine OwnFin.step (fun tT kK => XS.iload X159.here hx rfl (hb hby at_209) rfl kK) ?_
      show OwnFin p e below _ (T159.setTop (mkF m 211 #[.val (.int k), .val (.ref b1), .val (.int (2 : Int32)), .val (.ref v2), .val (.int (0 : Int32)), .val (.int (0 : Int32)), .val (.int (10 : Int32)), .val (.int (0 : Int32)), .val (.int (0 : Int32))] [(.int (0 : Int32))]))
      refine OwnFin.step (fun tT kK => XS.iload X159.here hx rfl (hb hby at_211) rfl kK) ?_
      show OwnFin p e below _ (T159.setTop (mkF m 213 #[.val (.int k), .val (.ref b1), .val (.int (2 : Int32)), .val (.ref v2), .val (.int (0 : Int32)), .val (.int (0 : Int32)), .val (.int (10 : Int32)), .val (.int (0 : Int32)), .val (.int (0 : Int32))] [(.int (0 : Int32)), (.int (0 : Int32))]))
      refine OwnFin.step (fun tT kK => XS.icmpNo X159.here hx rfl (hb hby at_213) rfl (teq (rfl : (0 : Int32) = (0 : Int32))).2 kK) ?_
      show OwnFin p e below _ (T159.setTop (mkF m 216 #[.val (.int k), .val (.ref b1), .val (.int (2 : Int32)), .val (.ref v2), .val (.int (0 : Int32)), .val (.int (0 : Int32)), .val (.int (10 : Int32)), .val (.int (0 : Int32)), .val (.int (0 : Int32))] []))
      refine OwnFin.step (fun tT kK => XS.iload X159.here hx rfl (hb hby at_216) rfl kK) ?_
      show OwnFin p e below _ (T159.setTop (mkF m 218 #[.val (.int k), .val (.ref b1), .val (.int (2 : Int32)), .val (.ref v2), .val (.int (0 : Int32)), .val (.int (0 : Int32)), .val (.int (10 : Int32)), .val (.int (0 : Int32)), .val (.int (0 : Int32))] [(.int (0 : Int32))]))
      refine OwnFin.step (fun tT kK => XS.iload X159.here hx rfl (hb hby at_218) rfl kK) ?_
      show OwnFin p e below _ (T159.setTop (mkF m 220 #[.val (.int k), .val (.ref b1), .val (.int (2 : Int32)), .val (.ref v2), .val (.int (0 : Int32)), .val (.int (0 : Int32)), .val (.int (10 : Int32)), .val (.int (0 : Int32)), .val (.int (0 : Int32))] [(.int (0 : Int32)), (.int (0 : Int32))]))
      refine OwnFin.step (fun tT kK => XS.icmpNo X159.here hx rfl (hb hby at_220) rfl (teq (rfl : (0 : Int32) = (0 : Int32))).2 kK) ?_
      show OwnFin p e below _ (T159.setTop (mkF m 223 #[.val (.int k), .val (.ref b1), .val (.int (2 : Int32)), .val (.ref v2), .val (.int (0 : Int32)), .val (.int (0 : Int32)), .val (.int (10 : Int32)), .val (.int (0 : Int32)), .val (.int (0 : Int32))] []))
      refine OwnFin.step (fun tT kK => XS.iload X159.here hx rfl (hb hby at_223) rfl kK) ?_
      show OwnFin p e below _ (T159.setTop (mkF m 225 #[.val (.int k), .val (.ref b1), .val (.int (2 : Int32)), .val (.ref v2), .val (.int (0 : Int32)), .val (.int (0 : Int32)), .val (.int (10 : Int32)), .val (.int (0 : Int32)), .val (.int (0 : Int32))] [(.int (0 : Int32))]))
      refine OwnFin.step (fun tT kK => XS.iload X159.here hx rfl (hb hby at_225) rfl kK) ?_
      show OwnFin p e below _ (T159.setTop (mkF m 227 #[.val (.int k), .val (.ref b1), .val (.int (2 : Int32)), .val (.ref v2), .val (.int (0 : Int32)), .val (.int (0 : Int32)), .val (.int (10 : Int32)), .val (.int (0 : Int32)), .val (.int (0 : Int32))] [(.int (0 : Int32)), (.int (0 : Int32))]))
      refine OwnFin.step (fun tT kK => XS.icmpNo X159.here hx rfl (hb hby at_227) rfl (teq (rfl : (0 : Int32) = (0 : Int32))).2 kK) ?_
      show OwnFin p e below _ (T159.setTop (mkF m 230 #[.val (.int k), .val (.ref b1), .val (.int (2 : Int32)), .val (.ref v2), .val (.int (0 : Int32)), .val (.int (0 : Int32)), .val (.int (10 : Int32)), .val (.int (0 : Int32)), .val (.int (0 : Int32))] []))
      refine OwnFin.step (fun tT kK => XS.iconst X159.here hx rfl (hb hby at_230) kK) ?_
      show OwnFin p e below _ (T159.setTop (mkF m 231 #[.val (.int k), .val (.ref b1), .val (.int (2 : Int32)), .val (.ref v2), .val (.int (0 : Int32)), .val (.int (0 : Int32)), .val (.int (10 : Int32)), .val (.int (0 : Int32)), .val (.int (0 : Int32))] [(.int (1 : Int32))]))
      refine OwnFin.step (fun tT kK => XS.goto X159.here hx rfl (pc0 := 231) (pc' := 235) rfl (hb hby at_231) (by decide) (by decide) kK) ?_
      show OwnFin p e below _ (T159.setTop (mkF m 235 #[.val (.int k), .val (.ref b1), .val (.int (2 : Int32)), .val (.ref v2), .val (.int (0 : Int32)), .val (.int (0 : Int32)), .val (.int (10 : Int32)), .val (.int (0 : Int32)), .val (.int (0 : Int32))] [(.int (1 : Int32))]))
      obtain ⟨fs160, hr160, hrun160, hended160, hW160, hsame160⟩ := X159.leave (v := (some (.int (1 : Int32)))) (fun h => by rw [Bd.returns] at h; cases h)
      refine ⟨_, _, retN X159 hx (t := .boolean) Bd.returns (by simp) (hb hby at_235) hr160, hrun160, hended160, _, _, rfl, ?_, ⟨_, rfl⟩, hW160, hsame160.mono (by decide) (by decide)⟩
      show Q0 Z k v0 v1 v2 v3 v4 v5 v6 v7 v8 v9 v10 v11 v12 v13 v14 v15 v16 v17 v18 h0 n0 _ T159.heap _
      rw [e159]
      exact ⟨rfl, N159, Kp116⟩
    · skip
      show OwnFin p e below _ (T139.setTop (mkF m 141 #[.val (.int k), .val (.ref b1), .val (.int (3 : Int32)), .unset, .unset, .unset, .unset, .unset, .unset] []))
      refine OwnFin.step (fun tT kK => XS.aloadN X139.here hx rfl (hb hby at_141) rfl rfl kK) ?_
      show OwnFin p e below _ (T139.setTop (mkF m 142 #[.val (.int k), .val (.ref b1), .val (.int (3 : Int32)), .unset, .unset, .unset, .unset, .unset, .unset] [(.ref b1)]))
      refine OwnFin.step (fun tT kK => XS.iloadN X139.here hx rfl (hb hby at_142) rfl kK) ?_
      show OwnFin p e below _ (T139.setTop (mkF m 143 #[.val (.int k), .val (.ref b1), .val (.int (3 : Int32)), .unset, .unset, .unset, .unset, .unset, .unset] [(.int (3 : Int32)), (.ref b1)]))
      obtain ⟨cl161, Ar161, q161, Sz161, Ng161, H161, G161⟩ := id V115
      have hin161 : ¬ ((3 : Int32) < 0 ∨ cl161.slots.size ≤ ((3 : Int32)).toNatClampNeg) := inb_of Sz161 ⟨by decide, by decide⟩
      refine OwnFin.step (fun tT kK => X139.aaload hx (j := (3 : Int32)) (v := (.ref v3)) (by rw [e139]; exact Ar161.1) (State.isArrayOf_alike hZ.alike Ar161.2.1) rfl Ar161.2.2 hin161 (H161.at hin161 rfl) (g := (mkF m 143 #[.val (.int k), .val (.ref b1), .val (.int (3 : Int32)), .unset, .unset, .unset, .unset, .unset, .unset] [(.int (3 : Int32)), (.ref b1)])) rfl rfl (hb hby at_143) _ kK) ?_
      show OwnFin p e below _ (T139.setTop (mkF m 144 #[.val (.int k), .val (.ref b1), .val (.int (3 : Int32)), .unset, .unset, .unset, .unset, .unset, .unset] [(.ref v3)]))
      refine OwnFin.step (fun tT kK => XS.astoreN X139.here hx rfl (hb hby at_144) rfl rfl (l' := #[.val (.int k), .val (.ref b1), .val (.int (3 : Int32)), .val (.ref v3), .unset, .unset, .unset, .unset, .unset]) rfl kK) ?_
      show OwnFin p e below _ (T139.setTop (mkF m 145 #[.val (.int k), .val (.ref b1), .val (.int (3 : Int32)), .val (.ref v3), .unset, .unset, .unset, .unset, .unset] []))
      refine OwnFin.step (fun tT kK => XS.aloadN X139.here hx rfl (hb hby at_145) rfl rfl kK) ?_
      show OwnFin p e below _ (T139.setTop (mkF m 146 #[.val (.int k), .val (.ref b1), .val (.int (3 : Int32)), .val (.ref v3), .unset, .unset, .unset, .unset, .unset] [(.ref v3)]))
      obtain ⟨cq162, kq162, q162a, q162b, q162c⟩ := isOf hZ e139 f120
      obtain ⟨_, _, ⟨T162, L162, k162, n162⟩, -, X162, ⟨Lc162, hQ162, l162, y162, z162⟩, st162⟩ := X139.virtualBack hx (y := (⟨"com/example/cairn/cairn/engine/BinaryOperator", "shortCircuits", "()Z"⟩ : MethodName)) (z := (⟨"com/example/cairn/cairn/engine/BinaryOperator", "shortCircuits", "()Z"⟩ : MethodName)) hown (mvT hZ (hw _ (List.mem_of_getElem? (i := 43) rfl))) (mvT hZ (hw _ (List.mem_of_getElem? (i := 44) rfl))) (notFace_of_selects (args := #[]) (mvT hZ (hw _ (List.mem_of_getElem? (i := 46) rfl)))) (mvT hZ (hw _ (List.mem_of_getElem? (i := 46) rfl))) (mvT hZ (hw _ (List.mem_of_getElem? (i := 45) rfl))) (by decide) (backOf (W := 0) (rm1 l Z a0 hw [] v3 v1 v0 h115 n0 (Nat.le_trans Z0 Kp116.1) f136 f137) hZ (hw _ (List.mem_of_getElem? (i := 47) rfl)) (hw _ (List.mem_of_getElem? (i := 3) rfl)) (by decide) (by decide)) q162a q162c (g := (mkF m 146 #[.val (.int k), .val (.ref b1), .val (.int (3 : Int32)), .val (.ref v3), .unset, .unset, .unset, .unset, .unset] [(.ref v3)])) rfl (by rw [hml]; rfl) (Steps.refl _) (argsL := []) (rest := []) (lenOf pd_18 rfl) rfl (by show 2 * 0 + _ ≤ _; exact Nat.le_of_eq rfl) (hb hby at_146) (fun _ _ => ⟨rfl, e139, (by decide : 1 + 0 ≤ _), (by decide : 19 + 0 ≤ _)⟩)
      dsimp only [Pt.U, Pt.locs, Pt.cells, Pt.slots] at X162 l162 y162 z162 st162 hQ162
      subst l162 y162 z162
      obtain ⟨rfl, N162q, e162⟩ := hQ162
      have N162 := Fr.app N139 N162q
      refine OwnFin.step (fun tT kK => st162.trans kK) ?_
      show OwnFin p e below _ (T162.setTop (mkF m 149 #[.val (.int k), .val (.ref b1), .val (.int (3 : Int32)), .val (.ref v3), .unset, .unset, .unset, .unset, .unset] [(.int (if v3 = v1 ∨ v3 = v0 then 1 else 0))]))
      rw [show (if v3 = v1 ∨ v3 = v0 then (1 : Int32) else 0) = 0 from if_neg (fun q => q.elim hp79 hp78)]
      show OwnFin p e below _ (T162.setTop (mkF m 149 #[.val (.int k), .val (.ref b1), .val (.int (3 : Int32)), .val (.ref v3), .unset, .unset, .unset, .unset, .unset] [(.int (0 : Int32))]))
      refine OwnFin.step (fun tT kK => XS.istore X162.here hx rfl (hb hby at_149) rfl (l' := #[.val (.int k), .val (.ref b1), .val (.int (3 : Int32)), .val (.ref v3), .val (.int (0 : Int32)), .unset, .unset, .unset, .unset]) rfl kK) ?_
      show OwnFin p e below _ (T162.setTop (mkF m 151 #[.val (.int k), .val (.ref b1), .val (.int (3 : Int32)), .val (.ref v3), .val (.int (0 : Int32)), .unset, .unset, .unset, .unset] []))
      refine OwnFin.step (fun tT kK => XS.iloadN X162.here hx rfl (hb hby at_151) rfl kK) ?_
      show OwnFin p e below _ (T162.setTop (mkF m 152 #[.val (.int k), .val (.ref b1), .val (.int (3 : Int32)), .val (.ref v3), .val (.int (0 : Int32)), .unset, .unset, .unset, .unset] [(.int (3 : Int32))]))
      refine OwnFin.step (fun tT kK => XS.ifNo X162.here hx rfl (hb hby at_152) rfl ((if0 _ _).trans (feq (by decide : ¬ ((3 : Int32) = (0 : Int32)))).1) kK) ?_
      show OwnFin p e below _ (T162.setTop (mkF m 155 #[.val (.int k), .val (.ref b1), .val (.int (3 : Int32)), .val (.ref v3), .val (.int (0 : Int32)), .unset, .unset, .unset, .unset] []))
      refine OwnFin.step (fun tT kK => XS.iloadN X162.here hx rfl (hb hby at_155) rfl kK) ?_
      show OwnFin p e below _ (T162.setTop (mkF m 156 #[.val (.int k), .val (.ref b1), .val (.int (3 : Int32)), .val (.ref v3), .val (.int (0 : Int32)), .unset, .unset, .unset, .unset] [(.int (3 : Int32))]))
      refine OwnFin.step (fun tT kK => XS.iconst X162.here hx rfl (hb hby at_156) kK) ?_
      show OwnFin p e below _ (T162.setTop (mkF m 157 #[.val (.int k), .val (.ref b1), .val (.int (3 : Int32)), .val (.ref v3), .val (.int (0 : Int32)), .unset, .unset, .unset, .unset] [(.int (1 : Int32)), (.int (3 : Int32))]))
      refine OwnFin.step (fun tT kK => XS.icmpYes X162.here hx rfl (pc0 := 157) (pc' := 164) rfl (hb hby at_157) rfl (feq (by decide : ¬ ((3 : Int32) = (1 : Int32)))).2 (by decide) (by decide) kK) ?_
      show OwnFin p e below _ (T162.setTop (mkF m 164 #[.val (.int k), .val (.ref b1), .val (.int (3 : Int32)), .val (.ref v3), .val (.int (0 : Int32)), .unset, .unset, .unset, .unset] []))
      refine OwnFin.step (fun tT kK => XS.iconst X162.here hx rfl (hb hby at_164) kK) ?_
      show OwnFin p e below _ (T162.setTop (mkF m 165 #[.val (.int k), .val (.ref b1), .val (.int (3 : Int32)), .val (.ref v3), .val (.int (0 : Int32)), .unset, .unset, .unset, .unset] [(.int (0 : Int32))]))
      refine OwnFin.step (fun tT kK => XS.istore X162.here hx rfl (hb hby at_165) rfl (l' := #[.val (.int k), .val (.ref b1), .val (.int (3 : Int32)), .val (.ref v3), .val (.int (0 : Int32)), .val (.int (0 : Int32)), .unset, .unset, .unset]) rfl kK) ?_
      show OwnFin p e below _ (T162.setTop (mkF m 167 #[.val (.int k), .val (.ref b1), .val (.int (3 : Int32)), .val (.ref v3), .val (.int (0 : Int32)), .val (.int (0 : Int32)), .unset, .unset, .unset] []))
      refine OwnFin.step (fun tT kK => XS.aloadN X162.here hx rfl (hb hby at_167) rfl rfl kK) ?_
      show OwnFin p e below _ (T162.setTop (mkF m 168 #[.val (.int k), .val (.ref b1), .val (.int (3 : Int32)), .val (.ref v3), .val (.int (0 : Int32)), .val (.int (0 : Int32)), .unset, .unset, .unset] [(.ref v3)]))
      have f163 : Fld Z h115 v3 "com/example/cairn/cairn/engine/BinaryOperator" "opcode" "I" (.int (32 : Int32)) := (hp41.keep Kp116 nin0)
      obtain ⟨cq164, kq164, q164a, q164b, q164c⟩ := isOf hZ e162 f120
      obtain ⟨_, _, ⟨T164, L164, k164, n164⟩, -, X164, ⟨Lc164, hQ164, l164, y164, z164⟩, st164⟩ := X162.virtualBack hx (y := (⟨"com/example/cairn/cairn/engine/BinaryOperator", "opcode", "()I"⟩ : MethodName)) (z := (⟨"com/example/cairn/cairn/engine/BinaryOperator", "opcode", "()I"⟩ : MethodName)) hown (mvT hZ (hw _ (List.mem_of_getElem? (i := 50) rfl))) (mvT hZ (hw _ (List.mem_of_getElem? (i := 51) rfl))) (notFace_of_selects (args := #[]) (mvT hZ (hw _ (List.mem_of_getElem? (i := 53) rfl)))) (mvT hZ (hw _ (List.mem_of_getElem? (i := 53) rfl))) (mvT hZ (hw _ (List.mem_of_getElem? (i := 52) rfl))) (by decide) (backOf (W := 0) (rm2 l Z a0 hw [] v3 (32 : Int32) h115 n0 (Nat.le_trans Z0 Kp116.1) f163) hZ (hw _ (List.mem_of_getElem? (i := 54) rfl)) (hw _ (List.mem_of_getElem? (i := 3) rfl)) (by decide) (by decide)) q164a q164c (g := (mkF m 168 #[.val (.int k), .val (.ref b1), .val (.int (3 : Int32)), .val (.ref v3), .val (.int (0 : Int32)), .val (.int (0 : Int32)), .unset, .unset, .unset] [(.ref v3)])) rfl (by rw [hml]; rfl) (Steps.refl _) (argsL := []) (rest := []) (lenOf pd_19 rfl) rfl (by show 2 * 0 + _ ≤ _; exact Nat.le_of_eq rfl) (hb hby at_168) (fun _ _ => ⟨rfl, e162, (by decide : 1 + 0 ≤ _), (by decide : 19 + 0 ≤ _)⟩)
      dsimp only [Pt.U, Pt.locs, Pt.cells, Pt.slots] at X164 l164 y164 z164 st164 hQ164
      subst l164 y164 z164
      obtain ⟨rfl, N164q, e164⟩ := hQ164
      have N164 := Fr.app N162 N164q
      refine OwnFin.step (fun tT kK => st164.trans kK) ?_
      show OwnFin p e below _ (T164.setTop (mkF m 171 #[.val (.int k), .val (.ref b1), .val (.int (3 : Int32)), .val (.ref v3), .val (.int (0 : Int32)), .val (.int (0 : Int32)), .unset, .unset, .unset] [(.int (32 : Int32))]))
      refine OwnFin.step (fun tT kK => XS.istore X164.here hx rfl (hb hby at_171) rfl (l' := #[.val (.int k), .val (.ref b1), .val (.int (3 : Int32)), .val (.ref v3), .val (.int (0 : Int32)), .val (.int (0 : Int32)), .val (.int (32 : Int32)), .unset, .unset]) rfl kK) ?_
      show OwnFin p e below _ (T164.setTop (mkF m 173 #[.val (.int k), .val (.ref b1), .val (.int (3 : Int32)), .val (.ref v3), .val (.int (0 : Int32)), .val (.int (0 : Int32)), .val (.int (32 : Int32)), .unset, .unset] []))
      refine OwnFin.step (fun tT kK => XS.iload X164.here hx rfl (hb hby at_173) rfl kK) ?_
      show OwnFin p e below _ (T164.setTop (mkF m 175 #[.val (.int k), .val (.ref b1), .val (.int (3 : Int32)), .val (.ref v3), .val (.int (0 : Int32)), .val (.int (0 : Int32)), .val (.int (32 : Int32)), .unset, .unset] [(.int (32 : Int32))]))
      refine OwnFin.step (fun tT kK => XS.bipush X164.here hx rfl (hb hby at_175) kK) ?_
      show OwnFin p e below _ (T164.setTop (mkF m 177 #[.val (.int k), .val (.ref b1), .val (.int (3 : Int32)), .val (.ref v3), .val (.int (0 : Int32)), .val (.int (0 : Int32)), .val (.int (32 : Int32)), .unset, .unset] [(.int (37 : Int32)), (.int (32 : Int32))]))
      refine OwnFin.step (fun tT kK => XS.icmpNo X164.here hx rfl (hb hby at_177) rfl (feq (by decide : ¬ ((32 : Int32) = (37 : Int32)))).1 kK) ?_
      show OwnFin p e below _ (T164.setTop (mkF m 180 #[.val (.int k), .val (.ref b1), .val (.int (3 : Int32)), .val (.ref v3), .val (.int (0 : Int32)), .val (.int (0 : Int32)), .val (.int (32 : Int32)), .unset, .unset] []))
      refine OwnFin.step (fun tT kK => XS.iload X164.here hx rfl (hb hby at_180) rfl kK) ?_
      show OwnFin p e below _ (T164.setTop (mkF m 182 #[.val (.int k), .val (.ref b1), .val (.int (3 : Int32)), .val (.ref v3), .val (.int (0 : Int32)), .val (.int (0 : Int32)), .val (.int (32 : Int32)), .unset, .unset] [(.int (32 : Int32))]))
      refine OwnFin.step (fun tT kK => XS.bipush X164.here hx rfl (hb hby at_182) kK) ?_
      show OwnFin p e below _ (T164.setTop (mkF m 184 #[.val (.int k), .val (.ref b1), .val (.int (3 : Int32)), .val (.ref v3), .val (.int (0 : Int32)), .val (.int (0 : Int32)), .val (.int (32 : Int32)), .unset, .unset] [(.int (38 : Int32)), (.int (32 : Int32))]))
      refine OwnFin.step (fun tT kK => XS.icmpYes X164.here hx rfl (pc0 := 184) (pc' := 191) rfl (hb hby at_184) rfl (feq (by decide : ¬ ((32 : Int32) = (38 : Int32)))).2 (by decide) (by decide) kK) ?_
      show OwnFin p e below _ (T164.setTop (mkF m 191 #[.val (.int k), .val (.ref b1), .val (.int (3 : Int32)), .val (.ref v3), .val (.int (0 : Int32)), .val (.int (0 : Int32)), .val (.int (32 : Int32)), .unset, .unset] []))
      refine OwnFin.step (fun tT kK => XS.iconst X164.here hx rfl (hb hby at_191) kK) ?_
      show OwnFin p e below _ (T164.setTop (mkF m 192 #[.val (.int k), .val (.ref b1), .val (.int (3 : Int32)), .val (.ref v3), .val (.int (0 : Int32)), .val (.int (0 : Int32)), .val (.int (32 : Int32)), .unset, .unset] [(.int (0 : Int32))]))
      refine OwnFin.step (fun tT kK => XS.istore X164.here hx rfl (hb hby at_192) rfl (l' := #[.val (.int k), .val (.ref b1), .val (.int (3 : Int32)), .val (.ref v3), .val (.int (0 : Int32)), .val (.int (0 : Int32)), .val (.int (32 : Int32)), .val (.int (0 : Int32)), .unset]) rfl kK) ?_
      show OwnFin p e below _ (T164.setTop (mkF m 194 #[.val (.int k), .val (.ref b1), .val (.int (3 : Int32)), .val (.ref v3), .val (.int (0 : Int32)), .val (.int (0 : Int32)), .val (.int (32 : Int32)), .val (.int (0 : Int32)), .unset] []))
      refine OwnFin.step (fun tT kK => XS.aloadN X164.here hx rfl (hb hby at_194) rfl rfl kK) ?_
      show OwnFin p e below _ (T164.setTop (mkF m 195 #[.val (.int k), .val (.ref b1), .val (.int (3 : Int32)), .val (.ref v3), .val (.int (0 : Int32)), .val (.int (0 : Int32)), .val (.int (32 : Int32)), .val (.int (0 : Int32)), .unset] [(.ref v3)]))
      have f165 : Fld Z h115 v3 "com/example/cairn/cairn/engine/BinaryOperator" "precedence" "I" (.int (3 : Int32)) := (hp60.keep Kp116 nin0)
      obtain ⟨cq166, kq166, q166a, q166b, q166c⟩ := isOf hZ e164 f120
      obtain ⟨_, _, ⟨T166, L166, k166, n166⟩, -, X166, ⟨Lc166, hQ166, l166, y166, z166⟩, st166⟩ := X164.virtualBack hx (y := (⟨"com/example/cairn/cairn/engine/BinaryOperator", "precedence", "()I"⟩ : MethodName)) (z := (⟨"com/example/cairn/cairn/engine/BinaryOperator", "precedence", "()I"⟩ : MethodName)) hown (mvT hZ (hw _ (List.mem_of_getElem? (i := 57) rfl))) (mvT hZ (hw _ (List.mem_of_getElem? (i := 58) rfl))) (notFace_of_selects (args := #[]) (mvT hZ (hw _ (List.mem_of_getElem? (i := 60) rfl)))) (mvT hZ (hw _ (List.mem_of_getElem? (i := 60) rfl))) (mvT hZ (hw _ (List.mem_of_getElem? (i := 59) rfl))) (by decide) (backOf (W := 0) (rm3 l Z a0 hw [] v3 (3 : Int32) h115 n0 (Nat.le_trans Z0 Kp116.1) f165) hZ (hw _ (List.mem_of_getElem? (i := 61) rfl)) (hw _ (List.mem_of_getElem? (i := 3) rfl)) (by decide) (by decide)) q166a q166c (g := (mkF m 195 #[.val (.int k), .val (.ref b1), .val (.int (3 : Int32)), .val (.ref v3), .val (.int (0 : Int32)), .val (.int (0 : Int32)), .val (.int (32 : Int32)), .val (.int (0 : Int32)), .unset] [(.ref v3)])) rfl (by rw [hml]; rfl) (Steps.refl _) (argsL := []) (rest := []) (lenOf pd_19 rfl) rfl (by show 2 * 0 + _ ≤ _; exact Nat.le_of_eq rfl) (hb hby at_195) (fun _ _ => ⟨rfl, e164, (by decide : 1 + 0 ≤ _), (by decide : 19 + 0 ≤ _)⟩)
      dsimp only [Pt.U, Pt.locs, Pt.cells, Pt.slots] at X166 l166 y166 z166 st166 hQ166
      subst l166 y166 z166
      obtain ⟨rfl, N166q, e166⟩ := hQ166
      have N166 := Fr.app N164 N166q
      refine OwnFin.step (fun tT kK => st166.trans kK) ?_
      show OwnFin p e below _ (T166.setTop (mkF m 198 #[.val (.int k), .val (.ref b1), .val (.int (3 : Int32)), .val (.ref v3), .val (.int (0 : Int32)), .val (.int (0 : Int32)), .val (.int (32 : Int32)), .val (.int (0 : Int32)), .unset] [(.int (3 : Int32))]))
      refine OwnFin.step (fun tT kK => XS.iconst X166.here hx rfl (hb hby at_198) kK) ?_
      show OwnFin p e below _ (T166.setTop (mkF m 199 #[.val (.int k), .val (.ref b1), .val (.int (3 : Int32)), .val (.ref v3), .val (.int (0 : Int32)), .val (.int (0 : Int32)), .val (.int (32 : Int32)), .val (.int (0 : Int32)), .unset] [(.int (2 : Int32)), (.int (3 : Int32))]))
      refine OwnFin.step (fun tT kK => XS.icmpYes X166.here hx rfl (pc0 := 199) (pc' := 206) rfl (hb hby at_199) rfl (tlt (by decide : (2 : Int32) < (3 : Int32))).2.2.1 (by decide) (by decide) kK) ?_
      show OwnFin p e below _ (T166.setTop (mkF m 206 #[.val (.int k), .val (.ref b1), .val (.int (3 : Int32)), .val (.ref v3), .val (.int (0 : Int32)), .val (.int (0 : Int32)), .val (.int (32 : Int32)), .val (.int (0 : Int32)), .unset] []))
      refine OwnFin.step (fun tT kK => XS.iconst X166.here hx rfl (hb hby at_206) kK) ?_
      show OwnFin p e below _ (T166.setTop (mkF m 207 #[.val (.int k), .val (.ref b1), .val (.int (3 : Int32)), .val (.ref v3), .val (.int (0 : Int32)), .val (.int (0 : Int32)), .val (.int (32 : Int32)), .val (.int (0 : Int32)), .unset] [(.int (0 : Int32))]))
      refine OwnFin.step (fun tT kK => XS.istore X166.here hx rfl (hb hby at_207) rfl (l' := #[.val (.int k), .val (.ref b1), .val (.int (3 : Int32)), .val (.ref v3), .val (.int (0 : Int32)), .val (.int (0 : Int32)), .val (.int (32 : Int32)), .val (.int (0 : Int32)), .val (.int (0 : Int32))]) rfl kK) ?_
      show OwnFin p e below _ (T166.setTop (mkF m 209 #[.val (.int k), .val (.ref b1), .val (.int (3 : Int32)), .val (.ref v3), .val (.int (0 : Int32)), .val (.int (0 : Int32)), .val (.int (32 : Int32)), .val (.int (0 : Int32)), .val (.int (0 : Int32))] []))
      refine OwnFin.step (fun tT kK => XS.iload X166.here hx rfl (hb hby at_209) rfl kK) ?_
      show OwnFin p e below _ (T166.setTop (mkF m 211 #[.val (.int k), .val (.ref b1), .val (.int (3 : Int32)), .val (.ref v3), .val (.int (0 : Int32)), .val (.int (0 : Int32)), .val (.int (32 : Int32)), .val (.int (0 : Int32)), .val (.int (0 : Int32))] [(.int (0 : Int32))]))
      refine OwnFin.step (fun tT kK => XS.iload X166.here hx rfl (hb hby at_211) rfl kK) ?_
      show OwnFin p e below _ (T166.setTop (mkF m 213 #[.val (.int k), .val (.ref b1), .val (.int (3 : Int32)), .val (.ref v3), .val (.int (0 : Int32)), .val (.int (0 : Int32)), .val (.int (32 : Int32)), .val (.int (0 : Int32)), .val (.int (0 : Int32))] [(.int (0 : Int32)), (.int (0 : Int32))]))
      refine OwnFin.step (fun tT kK => XS.icmpNo X166.here hx rfl (hb hby at_213) rfl (teq (rfl : (0 : Int32) = (0 : Int32))).2 kK) ?_
      show OwnFin p e below _ (T166.setTop (mkF m 216 #[.val (.int k), .val (.ref b1), .val (.int (3 : Int32)), .val (.ref v3), .val (.int (0 : Int32)), .val (.int (0 : Int32)), .val (.int (32 : Int32)), .val (.int (0 : Int32)), .val (.int (0 : Int32))] []))
      refine OwnFin.step (fun tT kK => XS.iload X166.here hx rfl (hb hby at_216) rfl kK) ?_
      show OwnFin p e below _ (T166.setTop (mkF m 218 #[.val (.int k), .val (.ref b1), .val (.int (3 : Int32)), .val (.ref v3), .val (.int (0 : Int32)), .val (.int (0 : Int32)), .val (.int (32 : Int32)), .val (.int (0 : Int32)), .val (.int (0 : Int32))] [(.int (0 : Int32))]))
      refine OwnFin.step (fun tT kK => XS.iload X166.here hx rfl (hb hby at_218) rfl kK) ?_
      show OwnFin p e below _ (T166.setTop (mkF m 220 #[.val (.int k), .val (.ref b1), .val (.int (3 : Int32)), .val (.ref v3), .val (.int (0 : Int32)), .val (.int (0 : Int32)), .val (.int (32 : Int32)), .val (.int (0 : Int32)), .val (.int (0 : Int32))] [(.int (0 : Int32)), (.int (0 : Int32))]))
      refine OwnFin.step (fun tT kK => XS.icmpNo X166.here hx rfl (hb hby at_220) rfl (teq (rfl : (0 : Int32) = (0 : Int32))).2 kK) ?_
      show OwnFin p e below _ (T166.setTop (mkF m 223 #[.val (.int k), .val (.ref b1), .val (.int (3 : Int32)), .val (.ref v3), .val (.int (0 : Int32)), .val (.int (0 : Int32)), .val (.int (32 : Int32)), .val (.int (0 : Int32)), .val (.int (0 : Int32))] []))
      refine OwnFin.step (fun tT kK => XS.iload X166.here hx rfl (hb hby at_223) rfl kK) ?_
      show OwnFin p e below _ (T166.setTop (mkF m 225 #[.val (.int k), .val (.ref b1), .val (.int (3 : Int32)), .val (.ref v3), .val (.int (0 : Int32)), .val (.int (0 : Int32)), .val (.int (32 : Int32)), .val (.int (0 : Int32)), .val (.int (0 : Int32))] [(.int (0 : Int32))]))
      refine OwnFin.step (fun tT kK => XS.iload X166.here hx rfl (hb hby at_225) rfl kK) ?_
      show OwnFin p e below _ (T166.setTop (mkF m 227 #[.val (.int k), .val (.ref b1), .val (.int (3 : Int32)), .val (.ref v3), .val (.int (0 : Int32)), .val (.int (0 : Int32)), .val (.int (32 : Int32)), .val (.int (0 : Int32)), .val (.int (0 : Int32))] [(.int (0 : Int32)), (.int (0 : Int32))]))
      refine OwnFin.step (fun tT kK => XS.icmpNo X166.here hx rfl (hb hby at_227) rfl (teq (rfl : (0 : Int32) = (0 : Int32))).2 kK) ?_
      show OwnFin p e below _ (T166.setTop (mkF m 230 #[.val (.int k), .val (.ref b1), .val (.int (3 : Int32)), .val (.ref v3), .val (.int (0 : Int32)), .val (.int (0 : Int32)), .val (.int (32 : Int32)), .val (.int (0 : Int32)), .val (.int (0 : Int32))] []))
      refine OwnFin.step (fun tT kK => XS.iconst X166.here hx rfl (hb hby at_230) kK) ?_
      show OwnFin p e below _ (T166.setTop (mkF m 231 #[.val (.int k), .val (.ref b1), .val (.int (3 : Int32)), .val (.ref v3), .val (.int (0 : Int32)), .val (.int (0 : Int32)), .val (.int (32 : Int32)), .val (.int (0 : Int32)), .val (.int (0 : Int32))] [(.int (1 : Int32))]))
      refine OwnFin.step (fun tT kK => XS.goto X166.here hx rfl (pc0 := 231) (pc' := 235) rfl (hb hby at_231) (by decide) (by decide) kK) ?_
      show OwnFin p e below _ (T166.setTop (mkF m 235 #[.val (.int k), .val (.ref b1), .val (.int (3 : Int32)), .val (.ref v3), .val (.int (0 : Int32)), .val (.int (0 : Int32)), .val (.int (32 : Int32)), .val (.int (0 : Int32)), .val (.int (0 : Int32))] [(.int (1 : Int32))]))
      obtain ⟨fs167, hr167, hrun167, hended167, hW167, hsame167⟩ := X166.leave (v := (some (.int (1 : Int32)))) (fun h => by rw [Bd.returns] at h; cases h)
      refine ⟨_, _, retN X166 hx (t := .boolean) Bd.returns (by simp) (hb hby at_235) hr167, hrun167, hended167, _, _, rfl, ?_, ⟨_, rfl⟩, hW167, hsame167.mono (by decide) (by decide)⟩
      show Q0 Z k v0 v1 v2 v3 v4 v5 v6 v7 v8 v9 v10 v11 v12 v13 v14 v15 v16 v17 v18 h0 n0 _ T166.heap _
      rw [e166]
      exact ⟨rfl, N166, Kp116⟩
    · skip
      show OwnFin p e below _ (T139.setTop (mkF m 141 #[.val (.int k), .val (.ref b1), .val (.int (4 : Int32)), .unset, .unset, .unset, .unset, .unset, .unset] []))
      refine OwnFin.step (fun tT kK => XS.aloadN X139.here hx rfl (hb hby at_141) rfl rfl kK) ?_
      show OwnFin p e below _ (T139.setTop (mkF m 142 #[.val (.int k), .val (.ref b1), .val (.int (4 : Int32)), .unset, .unset, .unset, .unset, .unset, .unset] [(.ref b1)]))
      refine OwnFin.step (fun tT kK => XS.iloadN X139.here hx rfl (hb hby at_142) rfl kK) ?_
      show OwnFin p e below _ (T139.setTop (mkF m 143 #[.val (.int k), .val (.ref b1), .val (.int (4 : Int32)), .unset, .unset, .unset, .unset, .unset, .unset] [(.int (4 : Int32)), (.ref b1)]))
      obtain ⟨cl168, Ar168, q168, Sz168, Ng168, H168, G168⟩ := id V115
      have hin168 : ¬ ((4 : Int32) < 0 ∨ cl168.slots.size ≤ ((4 : Int32)).toNatClampNeg) := inb_of Sz168 ⟨by decide, by decide⟩
      refine OwnFin.step (fun tT kK => X139.aaload hx (j := (4 : Int32)) (v := (.ref v4)) (by rw [e139]; exact Ar168.1) (State.isArrayOf_alike hZ.alike Ar168.2.1) rfl Ar168.2.2 hin168 (H168.at hin168 rfl) (g := (mkF m 143 #[.val (.int k), .val (.ref b1), .val (.int (4 : Int32)), .unset, .unset, .unset, .unset, .unset, .unset] [(.int (4 : Int32)), (.ref b1)])) rfl rfl (hb hby at_143) _ kK) ?_
      show OwnFin p e below _ (T139.setTop (mkF m 144 #[.val (.int k), .val (.ref b1), .val (.int (4 : Int32)), .unset, .unset, .unset, .unset, .unset, .unset] [(.ref v4)]))
      refine OwnFin.step (fun tT kK => XS.astoreN X139.here hx rfl (hb hby at_144) rfl rfl (l' := #[.val (.int k), .val (.ref b1), .val (.int (4 : Int32)), .val (.ref v4), .unset, .unset, .unset, .unset, .unset]) rfl kK) ?_
      show OwnFin p e below _ (T139.setTop (mkF m 145 #[.val (.int k), .val (.ref b1), .val (.int (4 : Int32)), .val (.ref v4), .unset, .unset, .unset, .unset, .unset] []))
      refine OwnFin.step (fun tT kK => XS.aloadN X139.here hx rfl (hb hby at_145) rfl rfl kK) ?_
      show OwnFin p e below _ (T139.setTop (mkF m 146 #[.val (.int k), .val (.ref b1), .val (.int (4 : Int32)), .val (.ref v4), .unset, .unset, .unset, .unset, .unset] [(.ref v4)]))
      obtain ⟨cq169, kq169, q169a, q169b, q169c⟩ := isOf hZ e139 f121
      obtain ⟨_, _, ⟨T169, L169, k169, n169⟩, -, X169, ⟨Lc169, hQ169, l169, y169, z169⟩, st169⟩ := X139.virtualBack hx (y := (⟨"com/example/cairn/cairn/engine/BinaryOperator", "shortCircuits", "()Z"⟩ : MethodName)) (z := (⟨"com/example/cairn/cairn/engine/BinaryOperator", "shortCircuits", "()Z"⟩ : MethodName)) hown (mvT hZ (hw _ (List.mem_of_getElem? (i := 43) rfl))) (mvT hZ (hw _ (List.mem_of_getElem? (i := 44) rfl))) (notFace_of_selects (args := #[]) (mvT hZ (hw _ (List.mem_of_getElem? (i := 46) rfl)))) (mvT hZ (hw _ (List.mem_of_getElem? (i := 46) rfl))) (mvT hZ (hw _ (List.mem_of_getElem? (i := 45) rfl))) (by decide) (backOf (W := 0) (rm1 l Z a0 hw [] v4 v1 v0 h115 n0 (Nat.le_trans Z0 Kp116.1) f136 f137) hZ (hw _ (List.mem_of_getElem? (i := 47) rfl)) (hw _ (List.mem_of_getElem? (i := 3) rfl)) (by decide) (by decide)) q169a q169c (g := (mkF m 146 #[.val (.int k), .val (.ref b1), .val (.int (4 : Int32)), .val (.ref v4), .unset, .unset, .unset, .unset, .unset] [(.ref v4)])) rfl (by rw [hml]; rfl) (Steps.refl _) (argsL := []) (rest := []) (lenOf pd_18 rfl) rfl (by show 2 * 0 + _ ≤ _; exact Nat.le_of_eq rfl) (hb hby at_146) (fun _ _ => ⟨rfl, e139, (by decide : 1 + 0 ≤ _), (by decide : 19 + 0 ≤ _)⟩)
      dsimp only [Pt.U, Pt.locs, Pt.cells, Pt.slots] at X169 l169 y169 z169 st169 hQ169
      subst l169 y169 z169
      obtain ⟨rfl, N169q, e169⟩ := hQ169
      have N169 := Fr.app N139 N169q
      refine OwnFin.step (fun tT kK => st169.trans kK) ?_
      show OwnFin p e below _ (T169.setTop (mkF m 149 #[.val (.int k), .val (.ref b1), .val (.int (4 : Int32)), .val (.ref v4), .unset, .unset, .unset, .unset, .unset] [(.int (if v4 = v1 ∨ v4 = v0 then 1 else 0))]))
      rw [show (if v4 = v1 ∨ v4 = v0 then (1 : Int32) else 0) = 0 from if_neg (fun q => q.elim hp81 hp80)]
      show OwnFin p e below _ (T169.setTop (mkF m 149 #[.val (.int k), .val (.ref b1), .val (.int (4 : Int32)), .val (.ref v4), .unset, .unset, .unset, .unset, .unset] [(.int (0 : Int32))]))
      refine OwnFin.step (fun tT kK => XS.istore X169.here hx rfl (hb hby at_149) rfl (l' := #[.val (.int k), .val (.ref b1), .val (.int (4 : Int32)), .val (.ref v4), .val (.int (0 : Int32)), .unset, .unset, .unset, .unset]) rfl kK) ?_
      show OwnFin p e below _ (T169.setTop (mkF m 151 #[.val (.int k), .val (.ref b1), .val (.int (4 : Int32)), .val (.ref v4), .val (.int (0 : Int32)), .unset, .unset, .unset, .unset] []))
      refine OwnFin.step (fun tT kK => XS.iloadN X169.here hx rfl (hb hby at_151) rfl kK) ?_
      show OwnFin p e below _ (T169.setTop (mkF m 152 #[.val (.int k), .val (.ref b1), .val (.int (4 : Int32)), .val (.ref v4), .val (.int (0 : Int32)), .unset, .unset, .unset, .unset] [(.int (4 : Int32))]))
      refine OwnFin.step (fun tT kK => XS.ifNo X169.here hx rfl (hb hby at_152) rfl ((if0 _ _).trans (feq (by decide : ¬ ((4 : Int32) = (0 : Int32)))).1) kK) ?_
      show OwnFin p e below _ (T169.setTop (mkF m 155 #[.val (.int k), .val (.ref b1), .val (.int (4 : Int32)), .val (.ref v4), .val (.int (0 : Int32)), .unset, .unset, .unset, .unset] []))
      refine OwnFin.step (fun tT kK => XS.iloadN X169.here hx rfl (hb hby at_155) rfl kK) ?_
      show OwnFin p e below _ (T169.setTop (mkF m 156 #[.val (.int k), .val (.ref b1), .val (.int (4 : Int32)), .val (.ref v4), .val (.int (0 : Int32)), .unset, .unset, .unset, .unset] [(.int (4 : Int32))]))
      refine OwnFin.step (fun tT kK => XS.iconst X169.here hx rfl (hb hby at_156) kK) ?_
      show OwnFin p e below _ (T169.setTop (mkF m 157 #[.val (.int k), .val (.ref b1), .val (.int (4 : Int32)), .val (.ref v4), .val (.int (0 : Int32)), .unset, .unset, .unset, .unset] [(.int (1 : Int32)), (.int (4 : Int32))]))
      refine OwnFin.step (fun tT kK => XS.icmpYes X169.here hx rfl (pc0 := 157) (pc' := 164) rfl (hb hby at_157) rfl (feq (by decide : ¬ ((4 : Int32) = (1 : Int32)))).2 (by decide) (by decide) kK) ?_
      show OwnFin p e below _ (T169.setTop (mkF m 164 #[.val (.int k), .val (.ref b1), .val (.int (4 : Int32)), .val (.ref v4), .val (.int (0 : Int32)), .unset, .unset, .unset, .unset] []))
      refine OwnFin.step (fun tT kK => XS.iconst X169.here hx rfl (hb hby at_164) kK) ?_
      show OwnFin p e below _ (T169.setTop (mkF m 165 #[.val (.int k), .val (.ref b1), .val (.int (4 : Int32)), .val (.ref v4), .val (.int (0 : Int32)), .unset, .unset, .unset, .unset] [(.int (0 : Int32))]))
      refine OwnFin.step (fun tT kK => XS.istore X169.here hx rfl (hb hby at_165) rfl (l' := #[.val (.int k), .val (.ref b1), .val (.int (4 : Int32)), .val (.ref v4), .val (.int (0 : Int32)), .val (.int (0 : Int32)), .unset, .unset, .unset]) rfl kK) ?_
      show OwnFin p e below _ (T169.setTop (mkF m 167 #[.val (.int k), .val (.ref b1), .val (.int (4 : Int32)), .val (.ref v4), .val (.int (0 : Int32)), .val (.int (0 : Int32)), .unset, .unset, .unset] []))
      refine OwnFin.step (fun tT kK => XS.aloadN X169.here hx rfl (hb hby at_167) rfl rfl kK) ?_
      show OwnFin p e below _ (T169.setTop (mkF m 168 #[.val (.int k), .val (.ref b1), .val (.int (4 : Int32)), .val (.ref v4), .val (.int (0 : Int32)), .val (.int (0 : Int32)), .unset, .unset, .unset] [(.ref v4)]))
      have f170 : Fld Z h115 v4 "com/example/cairn/cairn/engine/BinaryOperator" "opcode" "I" (.int (11 : Int32)) := (hp42.keep Kp116 nin0)
      obtain ⟨cq171, kq171, q171a, q171b, q171c⟩ := isOf hZ e169 f121
      obtain ⟨_, _, ⟨T171, L171, k171, n171⟩, -, X171, ⟨Lc171, hQ171, l171, y171, z171⟩, st171⟩ := X169.virtualBack hx (y := (⟨"com/example/cairn/cairn/engine/BinaryOperator", "opcode", "()I"⟩ : MethodName)) (z := (⟨"com/example/cairn/cairn/engine/BinaryOperator", "opcode", "()I"⟩ : MethodName)) hown (mvT hZ (hw _ (List.mem_of_getElem? (i := 50) rfl))) (mvT hZ (hw _ (List.mem_of_getElem? (i := 51) rfl))) (notFace_of_selects (args := #[]) (mvT hZ (hw _ (List.mem_of_getElem? (i := 53) rfl)))) (mvT hZ (hw _ (List.mem_of_getElem? (i := 53) rfl))) (mvT hZ (hw _ (List.mem_of_getElem? (i := 52) rfl))) (by decide) (backOf (W := 0) (rm2 l Z a0 hw [] v4 (11 : Int32) h115 n0 (Nat.le_trans Z0 Kp116.1) f170) hZ (hw _ (List.mem_of_getElem? (i := 54) rfl)) (hw _ (List.mem_of_getElem? (i := 3) rfl)) (by decide) (by decide)) q171a q171c (g := (mkF m 168 #[.val (.int k), .val (.ref b1), .val (.int (4 : Int32)), .val (.ref v4), .val (.int (0 : Int32)), .val (.int (0 : Int32)), .unset, .unset, .unset] [(.ref v4)])) rfl (by rw [hml]; rfl) (Steps.refl _) (argsL := []) (rest := []) (lenOf pd_19 rfl) rfl (by show 2 * 0 + _ ≤ _; exact Nat.le_of_eq rfl) (hb hby at_168) (fun _ _ => ⟨rfl, e169, (by decide : 1 + 0 ≤ _), (by decide : 19 + 0 ≤ _)⟩)
      dsimp only [Pt.U, Pt.locs, Pt.cells, Pt.slots] at X171 l171 y171 z171 st171 hQ171
      subst l171 y171 z171
      obtain ⟨rfl, N171q, e171⟩ := hQ171
      have N171 := Fr.app N169 N171q
      refine OwnFin.step (fun tT kK => st171.trans kK) ?_
      show OwnFin p e below _ (T171.setTop (mkF m 171 #[.val (.int k), .val (.ref b1), .val (.int (4 : Int32)), .val (.ref v4), .val (.int (0 : Int32)), .val (.int (0 : Int32)), .unset, .unset, .unset] [(.int (11 : Int32))]))
      refine OwnFin.step (fun tT kK => XS.istore X171.here hx rfl (hb hby at_171) rfl (l' := #[.val (.int k), .val (.ref b1), .val (.int (4 : Int32)), .val (.ref v4), .val (.int (0 : Int32)), .val (.int (0 : Int32)), .val (.int (11 : Int32)), .unset, .unset]) rfl kK) ?_
      show OwnFin p e below _ (T171.setTop (mkF m 173 #[.val (.int k), .val (.ref b1), .val (.int (4 : Int32)), .val (.ref v4), .val (.int (0 : Int32)), .val (.int (0 : Int32)), .val (.int (11 : Int32)), .unset, .unset] []))
      refine OwnFin.step (fun tT kK => XS.iload X171.here hx rfl (hb hby at_173) rfl kK) ?_
      show OwnFin p e below _ (T171.setTop (mkF m 175 #[.val (.int k), .val (.ref b1), .val (.int (4 : Int32)), .val (.ref v4), .val (.int (0 : Int32)), .val (.int (0 : Int32)), .val (.int (11 : Int32)), .unset, .unset] [(.int (11 : Int32))]))
      refine OwnFin.step (fun tT kK => XS.bipush X171.here hx rfl (hb hby at_175) kK) ?_
      show OwnFin p e below _ (T171.setTop (mkF m 177 #[.val (.int k), .val (.ref b1), .val (.int (4 : Int32)), .val (.ref v4), .val (.int (0 : Int32)), .val (.int (0 : Int32)), .val (.int (11 : Int32)), .unset, .unset] [(.int (37 : Int32)), (.int (11 : Int32))]))
      refine OwnFin.step (fun tT kK => XS.icmpNo X171.here hx rfl (hb hby at_177) rfl (feq (by decide : ¬ ((11 : Int32) = (37 : Int32)))).1 kK) ?_
      show OwnFin p e below _ (T171.setTop (mkF m 180 #[.val (.int k), .val (.ref b1), .val (.int (4 : Int32)), .val (.ref v4), .val (.int (0 : Int32)), .val (.int (0 : Int32)), .val (.int (11 : Int32)), .unset, .unset] []))
      refine OwnFin.step (fun tT kK => XS.iload X171.here hx rfl (hb hby at_180) rfl kK) ?_
      show OwnFin p e below _ (T171.setTop (mkF m 182 #[.val (.int k), .val (.ref b1), .val (.int (4 : Int32)), .val (.ref v4), .val (.int (0 : Int32)), .val (.int (0 : Int32)), .val (.int (11 : Int32)), .unset, .unset] [(.int (11 : Int32))]))
      refine OwnFin.step (fun tT kK => XS.bipush X171.here hx rfl (hb hby at_182) kK) ?_
      show OwnFin p e below _ (T171.setTop (mkF m 184 #[.val (.int k), .val (.ref b1), .val (.int (4 : Int32)), .val (.ref v4), .val (.int (0 : Int32)), .val (.int (0 : Int32)), .val (.int (11 : Int32)), .unset, .unset] [(.int (38 : Int32)), (.int (11 : Int32))]))
      refine OwnFin.step (fun tT kK => XS.icmpYes X171.here hx rfl (pc0 := 184) (pc' := 191) rfl (hb hby at_184) rfl (feq (by decide : ¬ ((11 : Int32) = (38 : Int32)))).2 (by decide) (by decide) kK) ?_
      show OwnFin p e below _ (T171.setTop (mkF m 191 #[.val (.int k), .val (.ref b1), .val (.int (4 : Int32)), .val (.ref v4), .val (.int (0 : Int32)), .val (.int (0 : Int32)), .val (.int (11 : Int32)), .unset, .unset] []))
      refine OwnFin.step (fun tT kK => XS.iconst X171.here hx rfl (hb hby at_191) kK) ?_
      show OwnFin p e below _ (T171.setTop (mkF m 192 #[.val (.int k), .val (.ref b1), .val (.int (4 : Int32)), .val (.ref v4), .val (.int (0 : Int32)), .val (.int (0 : Int32)), .val (.int (11 : Int32)), .unset, .unset] [(.int (0 : Int32))]))
      refine OwnFin.step (fun tT kK => XS.istore X171.here hx rfl (hb hby at_192) rfl (l' := #[.val (.int k), .val (.ref b1), .val (.int (4 : Int32)), .val (.ref v4), .val (.int (0 : Int32)), .val (.int (0 : Int32)), .val (.int (11 : Int32)), .val (.int (0 : Int32)), .unset]) rfl kK) ?_
      show OwnFin p e below _ (T171.setTop (mkF m 194 #[.val (.int k), .val (.ref b1), .val (.int (4 : Int32)), .val (.ref v4), .val (.int (0 : Int32)), .val (.int (0 : Int32)), .val (.int (11 : Int32)), .val (.int (0 : Int32)), .unset] []))
      refine OwnFin.step (fun tT kK => XS.aloadN X171.here hx rfl (hb hby at_194) rfl rfl kK) ?_
      show OwnFin p e below _ (T171.setTop (mkF m 195 #[.val (.int k), .val (.ref b1), .val (.int (4 : Int32)), .val (.ref v4), .val (.int (0 : Int32)), .val (.int (0 : Int32)), .val (.int (11 : Int32)), .val (.int (0 : Int32)), .unset] [(.ref v4)]))
      have f172 : Fld Z h115 v4 "com/example/cairn/cairn/engine/BinaryOperator" "precedence" "I" (.int (3 : Int32)) := (hp61.keep Kp116 nin0)
      obtain ⟨cq173, kq173, q173a, q173b, q173c⟩ := isOf hZ e171 f121
      obtain ⟨_, _, ⟨T173, L173, k173, n173⟩, -, X173, ⟨Lc173, hQ173, l173, y173, z173⟩, st173⟩ := X171.virtualBack hx (y := (⟨"com/example/cairn/cairn/engine/BinaryOperator", "precedence", "()I"⟩ : MethodName)) (z := (⟨"com/example/cairn/cairn/engine/BinaryOperator", "precedence", "()I"⟩ : MethodName)) hown (mvT hZ (hw _ (List.mem_of_getElem? (i := 57) rfl))) (mvT hZ (hw _ (List.mem_of_getElem? (i := 58) rfl))) (notFace_of_selects (args := #[]) (mvT hZ (hw _ (List.mem_of_getElem? (i := 60) rfl)))) (mvT hZ (hw _ (List.mem_of_getElem? (i := 60) rfl))) (mvT hZ (hw _ (List.mem_of_getElem? (i := 59) rfl))) (by decide) (backOf (W := 0) (rm3 l Z a0 hw [] v4 (3 : Int32) h115 n0 (Nat.le_trans Z0 Kp116.1) f172) hZ (hw _ (List.mem_of_getElem? (i := 61) rfl)) (hw _ (List.mem_of_getElem? (i := 3) rfl)) (by decide) (by decide)) q173a q173c (g := (mkF m 195 #[.val (.int k), .val (.ref b1), .val (.int (4 : Int32)), .val (.ref v4), .val (.int (0 : Int32)), .val (.int (0 : Int32)), .val (.int (11 : Int32)), .val (.int (0 : Int32)), .unset] [(.ref v4)])) rfl (by rw [hml]; rfl) (Steps.refl _) (argsL := []) (rest := []) (lenOf pd_19 rfl) rfl (by show 2 * 0 + _ ≤ _; exact Nat.le_of_eq rfl) (hb hby at_195) (fun _ _ => ⟨rfl, e171, (by decide : 1 + 0 ≤ _), (by decide : 19 + 0 ≤ _)⟩)
      dsimp only [Pt.U, Pt.locs, Pt.cells, Pt.slots] at X173 l173 y173 z173 st173 hQ173
      subst l173 y173 z173
      obtain ⟨rfl, N173q, e173⟩ := hQ173
      have N173 := Fr.app N171 N173q
      refine OwnFin.step (fun tT kK => st173.trans kK) ?_
      show OwnFin p e below _ (T173.setTop (mkF m 198 #[.val (.int k), .val (.ref b1), .val (.int (4 : Int32)), .val (.ref v4), .val (.int (0 : Int32)), .val (.int (0 : Int32)), .val (.int (11 : Int32)), .val (.int (0 : Int32)), .unset] [(.int (3 : Int32))]))
      refine OwnFin.step (fun tT kK => XS.iconst X173.here hx rfl (hb hby at_198) kK) ?_
      show OwnFin p e below _ (T173.setTop (mkF m 199 #[.val (.int k), .val (.ref b1), .val (.int (4 : Int32)), .val (.ref v4), .val (.int (0 : Int32)), .val (.int (0 : Int32)), .val (.int (11 : Int32)), .val (.int (0 : Int32)), .unset] [(.int (2 : Int32)), (.int (3 : Int32))]))
      refine OwnFin.step (fun tT kK => XS.icmpYes X173.here hx rfl (pc0 := 199) (pc' := 206) rfl (hb hby at_199) rfl (tlt (by decide : (2 : Int32) < (3 : Int32))).2.2.1 (by decide) (by decide) kK) ?_
      show OwnFin p e below _ (T173.setTop (mkF m 206 #[.val (.int k), .val (.ref b1), .val (.int (4 : Int32)), .val (.ref v4), .val (.int (0 : Int32)), .val (.int (0 : Int32)), .val (.int (11 : Int32)), .val (.int (0 : Int32)), .unset] []))
      refine OwnFin.step (fun tT kK => XS.iconst X173.here hx rfl (hb hby at_206) kK) ?_
      show OwnFin p e below _ (T173.setTop (mkF m 207 #[.val (.int k), .val (.ref b1), .val (.int (4 : Int32)), .val (.ref v4), .val (.int (0 : Int32)), .val (.int (0 : Int32)), .val (.int (11 : Int32)), .val (.int (0 : Int32)), .unset] [(.int (0 : Int32))]))
      refine OwnFin.step (fun tT kK => XS.istore X173.here hx rfl (hb hby at_207) rfl (l' := #[.val (.int k), .val (.ref b1), .val (.int (4 : Int32)), .val (.ref v4), .val (.int (0 : Int32)), .val (.int (0 : Int32)), .val (.int (11 : Int32)), .val (.int (0 : Int32)), .val (.int (0 : Int32))]) rfl kK) ?_
      show OwnFin p e below _ (T173.setTop (mkF m 209 #[.val (.int k), .val (.ref b1), .val (.int (4 : Int32)), .val (.ref v4), .val (.int (0 : Int32)), .val (.int (0 : Int32)), .val (.int (11 : Int32)), .val (.int (0 : Int32)), .val (.int (0 : Int32))] []))
      refine OwnFin.step (fun tT kK => XS.iload X173.here hx rfl (hb hby at_209) rfl kK) ?_
      show OwnFin p e below _ (T173.setTop (mkF m 211 #[.val (.int k), .val (.ref b1), .val (.int (4 : Int32)), .val (.ref v4), .val (.int (0 : Int32)), .val (.int (0 : Int32)), .val (.int (11 : Int32)), .val (.int (0 : Int32)), .val (.int (0 : Int32))] [(.int (0 : Int32))]))
      refine OwnFin.step (fun tT kK => XS.iload X173.here hx rfl (hb hby at_211) rfl kK) ?_
      show OwnFin p e below _ (T173.setTop (mkF m 213 #[.val (.int k), .val (.ref b1), .val (.int (4 : Int32)), .val (.ref v4), .val (.int (0 : Int32)), .val (.int (0 : Int32)), .val (.int (11 : Int32)), .val (.int (0 : Int32)), .val (.int (0 : Int32))] [(.int (0 : Int32)), (.int (0 : Int32))]))
      refine OwnFin.step (fun tT kK => XS.icmpNo X173.here hx rfl (hb hby at_213) rfl (teq (rfl : (0 : Int32) = (0 : Int32))).2 kK) ?_
      show OwnFin p e below _ (T173.setTop (mkF m 216 #[.val (.int k), .val (.ref b1), .val (.int (4 : Int32)), .val (.ref v4), .val (.int (0 : Int32)), .val (.int (0 : Int32)), .val (.int (11 : Int32)), .val (.int (0 : Int32)), .val (.int (0 : Int32))] []))
      refine OwnFin.step (fun tT kK => XS.iload X173.here hx rfl (hb hby at_216) rfl kK) ?_
      show OwnFin p e below _ (T173.setTop (mkF m 218 #[.val (.int k), .val (.ref b1), .val (.int (4 : Int32)), .val (.ref v4), .val (.int (0 : Int32)), .val (.int (0 : Int32)), .val (.int (11 : Int32)), .val (.int (0 : Int32)), .val (.int (0 : Int32))] [(.int (0 : Int32))]))
      refine OwnFin.step (fun tT kK => XS.iload X173.here hx rfl (hb hby at_218) rfl kK) ?_
      show OwnFin p e below _ (T173.setTop (mkF m 220 #[.val (.int k), .val (.ref b1), .val (.int (4 : Int32)), .val (.ref v4), .val (.int (0 : Int32)), .val (.int (0 : Int32)), .val (.int (11 : Int32)), .val (.int (0 : Int32)), .val (.int (0 : Int32))] [(.int (0 : Int32)), (.int (0 : Int32))]))
      refine OwnFin.step (fun tT kK => XS.icmpNo X173.here hx rfl (hb hby at_220) rfl (teq (rfl : (0 : Int32) = (0 : Int32))).2 kK) ?_
      show OwnFin p e below _ (T173.setTop (mkF m 223 #[.val (.int k), .val (.ref b1), .val (.int (4 : Int32)), .val (.ref v4), .val (.int (0 : Int32)), .val (.int (0 : Int32)), .val (.int (11 : Int32)), .val (.int (0 : Int32)), .val (.int (0 : Int32))] []))
      refine OwnFin.step (fun tT kK => XS.iload X173.here hx rfl (hb hby at_223) rfl kK) ?_
      show OwnFin p e below _ (T173.setTop (mkF m 225 #[.val (.int k), .val (.ref b1), .val (.int (4 : Int32)), .val (.ref v4), .val (.int (0 : Int32)), .val (.int (0 : Int32)), .val (.int (11 : Int32)), .val (.int (0 : Int32)), .val (.int (0 : Int32))] [(.int (0 : Int32))]))
      refine OwnFin.step (fun tT kK => XS.iload X173.here hx rfl (hb hby at_225) rfl kK) ?_
      show OwnFin p e below _ (T173.setTop (mkF m 227 #[.val (.int k), .val (.ref b1), .val (.int (4 : Int32)), .val (.ref v4), .val (.int (0 : Int32)), .val (.int (0 : Int32)), .val (.int (11 : Int32)), .val (.int (0 : Int32)), .val (.int (0 : Int32))] [(.int (0 : Int32)), (.int (0 : Int32))]))
      refine OwnFin.step (fun tT kK => XS.icmpNo X173.here hx rfl (hb hby at_227) rfl (teq (rfl : (0 : Int32) = (0 : Int32))).2 kK) ?_
      show OwnFin p e below _ (T173.setTop (mkF m 230 #[.val (.int k), .val (.ref b1), .val (.int (4 : Int32)), .val (.ref v4), .val (.int (0 : Int32)), .val (.int (0 : Int32)), .val (.int (11 : Int32)), .val (.int (0 : Int32)), .val (.int (0 : Int32))] []))
      refine OwnFin.step (fun tT kK => XS.iconst X173.here hx rfl (hb hby at_230) kK) ?_
      show OwnFin p e below _ (T173.setTop (mkF m 231 #[.val (.int k), .val (.ref b1), .val (.int (4 : Int32)), .val (.ref v4), .val (.int (0 : Int32)), .val (.int (0 : Int32)), .val (.int (11 : Int32)), .val (.int (0 : Int32)), .val (.int (0 : Int32))] [(.int (1 : Int32))]))
      refine OwnFin.step (fun tT kK => XS.goto X173.here hx rfl (pc0 := 231) (pc' := 235) rfl (hb hby at_231) (by decide) (by decide) kK) ?_
      show OwnFin p e below _ (T173.setTop (mkF m 235 #[.val (.int k), .val (.ref b1), .val (.int (4 : Int32)), .val (.ref v4), .val (.int (0 : Int32)), .val (.int (0 : Int32)), .val (.int (11 : Int32)), .val (.int (0 : Int32)), .val (.int (0 : Int32))] [(.int (1 : Int32))]))
      obtain ⟨fs174, hr174, hrun174, hended174, hW174, hsame174⟩ := X173.leave (v := (some (.int (1 : Int32)))) (fun h => by rw [Bd.returns] at h; cases h)
      refine ⟨_, _, retN X173 hx (t := .boolean) Bd.returns (by simp) (hb hby at_235) hr174, hrun174, hended174, _, _, rfl, ?_, ⟨_, rfl⟩, hW174, hsame174.mono (by decide) (by decide)⟩
      show Q0 Z k v0 v1 v2 v3 v4 v5 v6 v7 v8 v9 v10 v11 v12 v13 v14 v15 v16 v17 v18 h0 n0 _ T173.heap _
      rw [e173]
      exact ⟨rfl, N173, Kp116⟩
    · skip
      show OwnFin p e below _ (T139.setTop (mkF m 141 #[.val (.int k), .val (.ref b1), .val (.int (5 : Int32)), .unset, .unset, .unset, .unset, .unset, .unset] []))
      refine OwnFin.step (fun tT kK => XS.aloadN X139.here hx rfl (hb hby at_141) rfl rfl kK) ?_
      show OwnFin p e below _ (T139.setTop (mkF m 142 #[.val (.int k), .val (.ref b1), .val (.int (5 : Int32)), .unset, .unset, .unset, .unset, .unset, .unset] [(.ref b1)]))
      refine OwnFin.step (fun tT kK => XS.iloadN X139.here hx rfl (hb hby at_142) rfl kK) ?_
      show OwnFin p e below _ (T139.setTop (mkF m 143 #[.val (.int k), .val (.ref b1), .val (.int (5 : Int32)), .unset, .unset, .unset, .unset, .unset, .unset] [(.int (5 : Int32)), (.ref b1)]))
      obtain ⟨cl175, Ar175, q175, Sz175, Ng175, H175, G175⟩ := id V115
      have hin175 : ¬ ((5 : Int32) < 0 ∨ cl175.slots.size ≤ ((5 : Int32)).toNatClampNeg) := inb_of Sz175 ⟨by decide, by decide⟩
      refine OwnFin.step (fun tT kK => X139.aaload hx (j := (5 : Int32)) (v := (.ref v5)) (by rw [e139]; exact Ar175.1) (State.isArrayOf_alike hZ.alike Ar175.2.1) rfl Ar175.2.2 hin175 (H175.at hin175 rfl) (g := (mkF m 143 #[.val (.int k), .val (.ref b1), .val (.int (5 : Int32)), .unset, .unset, .unset, .unset, .unset, .unset] [(.int (5 : Int32)), (.ref b1)])) rfl rfl (hb hby at_143) _ kK) ?_
      show OwnFin p e below _ (T139.setTop (mkF m 144 #[.val (.int k), .val (.ref b1), .val (.int (5 : Int32)), .unset, .unset, .unset, .unset, .unset, .unset] [(.ref v5)]))
      refine OwnFin.step (fun tT kK => XS.astoreN X139.here hx rfl (hb hby at_144) rfl rfl (l' := #[.val (.int k), .val (.ref b1), .val (.int (5 : Int32)), .val (.ref v5), .unset, .unset, .unset, .unset, .unset]) rfl kK) ?_
      show OwnFin p e below _ (T139.setTop (mkF m 145 #[.val (.int k), .val (.ref b1), .val (.int (5 : Int32)), .val (.ref v5), .unset, .unset, .unset, .unset, .unset] []))
      refine OwnFin.step (fun tT kK => XS.aloadN X139.here hx rfl (hb hby at_145) rfl rfl kK) ?_
      show OwnFin p e below _ (T139.setTop (mkF m 146 #[.val (.int k), .val (.ref b1), .val (.int (5 : Int32)), .val (.ref v5), .unset, .unset, .unset, .unset, .unset] [(.ref v5)]))
      obtain ⟨cq176, kq176, q176a, q176b, q176c⟩ := isOf hZ e139 f122
      obtain ⟨_, _, ⟨T176, L176, k176, n176⟩, -, X176, ⟨Lc176, hQ176, l176, y176, z176⟩, st176⟩ := X139.virtualBack hx (y := (⟨"com/example/cairn/cairn/engine/BinaryOperator", "shortCircuits", "()Z"⟩ : MethodName)) (z := (⟨"com/example/cairn/cairn/engine/BinaryOperator", "shortCircuits", "()Z"⟩ : MethodName)) hown (mvT hZ (hw _ (List.mem_of_getElem? (i := 43) rfl))) (mvT hZ (hw _ (List.mem_of_getElem? (i := 44) rfl))) (notFace_of_selects (args := #[]) (mvT hZ (hw _ (List.mem_of_getElem? (i := 46) rfl)))) (mvT hZ (hw _ (List.mem_of_getElem? (i := 46) rfl))) (mvT hZ (hw _ (List.mem_of_getElem? (i := 45) rfl))) (by decide) (backOf (W := 0) (rm1 l Z a0 hw [] v5 v1 v0 h115 n0 (Nat.le_trans Z0 Kp116.1) f136 f137) hZ (hw _ (List.mem_of_getElem? (i := 47) rfl)) (hw _ (List.mem_of_getElem? (i := 3) rfl)) (by decide) (by decide)) q176a q176c (g := (mkF m 146 #[.val (.int k), .val (.ref b1), .val (.int (5 : Int32)), .val (.ref v5), .unset, .unset, .unset, .unset, .unset] [(.ref v5)])) rfl (by rw [hml]; rfl) (Steps.refl _) (argsL := []) (rest := []) (lenOf pd_18 rfl) rfl (by show 2 * 0 + _ ≤ _; exact Nat.le_of_eq rfl) (hb hby at_146) (fun _ _ => ⟨rfl, e139, (by decide : 1 + 0 ≤ _), (by decide : 19 + 0 ≤ _)⟩)
      dsimp only [Pt.U, Pt.locs, Pt.cells, Pt.slots] at X176 l176 y176 z176 st176 hQ176
      subst l176 y176 z176
      obtain ⟨rfl, N176q, e176⟩ := hQ176
      have N176 := Fr.app N139 N176q
      refine OwnFin.step (fun tT kK => st176.trans kK) ?_
      show OwnFin p e below _ (T176.setTop (mkF m 149 #[.val (.int k), .val (.ref b1), .val (.int (5 : Int32)), .val (.ref v5), .unset, .unset, .unset, .unset, .unset] [(.int (if v5 = v1 ∨ v5 = v0 then 1 else 0))]))
      rw [show (if v5 = v1 ∨ v5 = v0 then (1 : Int32) else 0) = 0 from if_neg (fun q => q.elim hp83 hp82)]
      show OwnFin p e below _ (T176.setTop (mkF m 149 #[.val (.int k), .val (.ref b1), .val (.int (5 : Int32)), .val (.ref v5), .unset, .unset, .unset, .unset, .unset] [(.int (0 : Int32))]))
      refine OwnFin.step (fun tT kK => XS.istore X176.here hx rfl (hb hby at_149) rfl (l' := #[.val (.int k), .val (.ref b1), .val (.int (5 : Int32)), .val (.ref v5), .val (.int (0 : Int32)), .unset, .unset, .unset, .unset]) rfl kK) ?_
      show OwnFin p e below _ (T176.setTop (mkF m 151 #[.val (.int k), .val (.ref b1), .val (.int (5 : Int32)), .val (.ref v5), .val (.int (0 : Int32)), .unset, .unset, .unset, .unset] []))
      refine OwnFin.step (fun tT kK => XS.iloadN X176.here hx rfl (hb hby at_151) rfl kK) ?_
      show OwnFin p e below _ (T176.setTop (mkF m 152 #[.val (.int k), .val (.ref b1), .val (.int (5 : Int32)), .val (.ref v5), .val (.int (0 : Int32)), .unset, .unset, .unset, .unset] [(.int (5 : Int32))]))
      refine OwnFin.step (fun tT kK => XS.ifNo X176.here hx rfl (hb hby at_152) rfl ((if0 _ _).trans (feq (by decide : ¬ ((5 : Int32) = (0 : Int32)))).1) kK) ?_
      show OwnFin p e below _ (T176.setTop (mkF m 155 #[.val (.int k), .val (.ref b1), .val (.int (5 : Int32)), .val (.ref v5), .val (.int (0 : Int32)), .unset, .unset, .unset, .unset] []))
      refine OwnFin.step (fun tT kK => XS.iloadN X176.here hx rfl (hb hby at_155) rfl kK) ?_
      show OwnFin p e below _ (T176.setTop (mkF m 156 #[.val (.int k), .val (.ref b1), .val (.int (5 : Int32)), .val (.ref v5), .val (.int (0 : Int32)), .unset, .unset, .unset, .unset] [(.int (5 : Int32))]))
      refine OwnFin.step (fun tT kK => XS.iconst X176.here hx rfl (hb hby at_156) kK) ?_
      show OwnFin p e below _ (T176.setTop (mkF m 157 #[.val (.int k), .val (.ref b1), .val (.int (5 : Int32)), .val (.ref v5), .val (.int (0 : Int32)), .unset, .unset, .unset, .unset] [(.int (1 : Int32)), (.int (5 : Int32))]))
      refine OwnFin.step (fun tT kK => XS.icmpYes X176.here hx rfl (pc0 := 157) (pc' := 164) rfl (hb hby at_157) rfl (feq (by decide : ¬ ((5 : Int32) = (1 : Int32)))).2 (by decide) (by decide) kK) ?_
      show OwnFin p e below _ (T176.setTop (mkF m 164 #[.val (.int k), .val (.ref b1), .val (.int (5 : Int32)), .val (.ref v5), .val (.int (0 : Int32)), .unset, .unset, .unset, .unset] []))
      refine OwnFin.step (fun tT kK => XS.iconst X176.here hx rfl (hb hby at_164) kK) ?_
      show OwnFin p e below _ (T176.setTop (mkF m 165 #[.val (.int k), .val (.ref b1), .val (.int (5 : Int32)), .val (.ref v5), .val (.int (0 : Int32)), .unset, .unset, .unset, .unset] [(.int (0 : Int32))]))
      refine OwnFin.step (fun tT kK => XS.istore X176.here hx rfl (hb hby at_165) rfl (l' := #[.val (.int k), .val (.ref b1), .val (.int (5 : Int32)), .val (.ref v5), .val (.int (0 : Int32)), .val (.int (0 : Int32)), .unset, .unset, .unset]) rfl kK) ?_
      show OwnFin p e below _ (T176.setTop (mkF m 167 #[.val (.int k), .val (.ref b1), .val (.int (5 : Int32)), .val (.ref v5), .val (.int (0 : Int32)), .val (.int (0 : Int32)), .unset, .unset, .unset] []))
      refine OwnFin.step (fun tT kK => XS.aloadN X176.here hx rfl (hb hby at_167) rfl rfl kK) ?_
      show OwnFin p e below _ (T176.setTop (mkF m 168 #[.val (.int k), .val (.ref b1), .val (.int (5 : Int32)), .val (.ref v5), .val (.int (0 : Int32)), .val (.int (0 : Int32)), .unset, .unset, .unset] [(.ref v5)]))
      have f177 : Fld Z h115 v5 "com/example/cairn/cairn/engine/BinaryOperator" "opcode" "I" (.int (33 : Int32)) := (hp43.keep Kp116 nin0)
      obtain ⟨cq178, kq178, q178a, q178b, q178c⟩ := isOf hZ e176 f122
      obtain ⟨_, _, ⟨T178, L178, k178, n178⟩, -, X178, ⟨Lc178, hQ178, l178, y178, z178⟩, st178⟩ := X176.virtualBack hx (y := (⟨"com/example/cairn/cairn/engine/BinaryOperator", "opcode", "()I"⟩ : MethodName)) (z := (⟨"com/example/cairn/cairn/engine/BinaryOperator", "opcode", "()I"⟩ : MethodName)) hown (mvT hZ (hw _ (List.mem_of_getElem? (i := 50) rfl))) (mvT hZ (hw _ (List.mem_of_getElem? (i := 51) rfl))) (notFace_of_selects (args := #[]) (mvT hZ (hw _ (List.mem_of_getElem? (i := 53) rfl)))) (mvT hZ (hw _ (List.mem_of_getElem? (i := 53) rfl))) (mvT hZ (hw _ (List.mem_of_getElem? (i := 52) rfl))) (by decide) (backOf (W := 0) (rm2 l Z a0 hw [] v5 (33 : Int32) h115 n0 (Nat.le_trans Z0 Kp116.1) f177) hZ (hw _ (List.mem_of_getElem? (i := 54) rfl)) (hw _ (List.mem_of_getElem? (i := 3) rfl)) (by decide) (by decide)) q178a q178c (g := (mkF m 168 #[.val (.int k), .val (.ref b1), .val (.int (5 : Int32)), .val (.ref v5), .val (.int (0 : Int32)), .val (.int (0 : Int32)), .unset, .unset, .unset] [(.ref v5)])) rfl (by rw [hml]; rfl) (Steps.refl _) (argsL := []) (rest := []) (lenOf pd_19 rfl) rfl (by show 2 * 0 + _ ≤ _; exact Nat.le_of_eq rfl) (hb hby at_168) (fun _ _ => ⟨rfl, e176, (by decide : 1 + 0 ≤ _), (by decide : 19 + 0 ≤ _)⟩)
      dsimp only [Pt.U, Pt.locs, Pt.cells, Pt.slots] at X178 l178 y178 z178 st178 hQ178
      subst l178 y178 z178
      obtain ⟨rfl, N178q, e178⟩ := hQ178
      have N178 := Fr.app N176 N178q
      refine OwnFin.step (fun tT kK => st178.trans kK) ?_
      show OwnFin p e below _ (T178.setTop (mkF m 171 #[.val (.int k), .val (.ref b1), .val (.int (5 : Int32)), .val (.ref v5), .val (.int (0 : Int32)), .val (.int (0 : Int32)), .unset, .unset, .unset] [(.int (33 : Int32))]))
      refine OwnFin.step (fun tT kK => XS.istore X178.here hx rfl (hb hby at_171) rfl (l' := #[.val (.int k), .val (.ref b1), .val (.int (5 : Int32)), .val (.ref v5), .val (.int (0 : Int32)), .val (.int (0 : Int32)), .val (.int (33 : Int32)), .unset, .unset]) rfl kK) ?_
      show OwnFin p e below _ (T178.setTop (mkF m 173 #[.val (.int k), .val (.ref b1), .val (.int (5 : Int32)), .val (.ref v5), .val (.int (0 : Int32)), .val (.int (0 : Int32)), .val (.int (33 : Int32)), .unset, .unset] []))
      refine OwnFin.step (fun tT kK => XS.iload X178.here hx rfl (hb hby at_173) rfl kK) ?_
      show OwnFin p e below _ (T178.setTop (mkF m 175 #[.val (.int k), .val (.ref b1), .val (.int (5 : Int32)), .val (.ref v5), .val (.int (0 : Int32)), .val (.int (0 : Int32)), .val (.int (33 : Int32)), .unset, .unset] [(.int (33 : Int32))]))
      refine OwnFin.step (fun tT kK => XS.bipush X178.here hx rfl (hb hby at_175) kK) ?_
      show OwnFin p e below _ (T178.setTop (mkF m 177 #[.val (.int k), .val (.ref b1), .val (.int (5 : Int32)), .val (.ref v5), .val (.int (0 : Int32)), .val (.int (0 : Int32)), .val (.int (33 : Int32)), .unset, .unset] [(.int (37 : Int32)), (.int (33 : Int32))]))
      refine OwnFin.step (fun tT kK => XS.icmpNo X178.here hx rfl (hb hby at_177) rfl (feq (by decide : ¬ ((33 : Int32) = (37 : Int32)))).1 kK) ?_
      show OwnFin p e below _ (T178.setTop (mkF m 180 #[.val (.int k), .val (.ref b1), .val (.int (5 : Int32)), .val (.ref v5), .val (.int (0 : Int32)), .val (.int (0 : Int32)), .val (.int (33 : Int32)), .unset, .unset] []))
      refine OwnFin.step (fun tT kK => XS.iload X178.here hx rfl (hb hby at_180) rfl kK) ?_
      show OwnFin p e below _ (T178.setTop (mkF m 182 #[.val (.int k), .val (.ref b1), .val (.int (5 : Int32)), .val (.ref v5), .val (.int (0 : Int32)), .val (.int (0 : Int32)), .val (.int (33 : Int32)), .unset, .unset] [(.int (33 : Int32))]))
      refine OwnFin.step (fun tT kK => XS.bipush X178.here hx rfl (hb hby at_182) kK) ?_
      show OwnFin p e below _ (T178.setTop (mkF m 184 #[.val (.int k), .val (.ref b1), .val (.int (5 : Int32)), .val (.ref v5), .val (.int (0 : Int32)), .val (.int (0 : Int32)), .val (.int (33 : Int32)), .unset, .unset] [(.int (38 : Int32)), (.int (33 : Int32))]))
      refine OwnFin.step (fun tT kK => XS.icmpYes X178.here hx rfl (pc0 := 184) (pc' := 191) rfl (hb hby at_184) rfl (feq (by decide : ¬ ((33 : Int32) = (38 : Int32)))).2 (by decide) (by decide) kK) ?_
      show OwnFin p e below _ (T178.setTop (mkF m 191 #[.val (.int k), .val (.ref b1), .val (.int (5 : Int32)), .val (.ref v5), .val (.int (0 : Int32)), .val (.int (0 : Int32)), .val (.int (33 : Int32)), .unset, .unset] []))
      refine OwnFin.step (fun tT kK => XS.iconst X178.here hx rfl (hb hby at_191) kK) ?_
      show OwnFin p e below _ (T178.setTop (mkF m 192 #[.val (.int k), .val (.ref b1), .val (.int (5 : Int32)), .val (.ref v5), .val (.int (0 : Int32)), .val (.int (0 : Int32)), .val (.int (33 : Int32)), .unset, .unset] [(.int (0 : Int32))]))
      refine OwnFin.step (fun tT kK => XS.istore X178.here hx rfl (hb hby at_192) rfl (l' := #[.val (.int k), .val (.ref b1), .val (.int (5 : Int32)), .val (.ref v5), .val (.int (0 : Int32)), .val (.int (0 : Int32)), .val (.int (33 : Int32)), .val (.int (0 : Int32)), .unset]) rfl kK) ?_
      show OwnFin p e below _ (T178.setTop (mkF m 194 #[.val (.int k), .val (.ref b1), .val (.int (5 : Int32)), .val (.ref v5), .val (.int (0 : Int32)), .val (.int (0 : Int32)), .val (.int (33 : Int32)), .val (.int (0 : Int32)), .unset] []))
      refine OwnFin.step (fun tT kK => XS.aloadN X178.here hx rfl (hb hby at_194) rfl rfl kK) ?_
      show OwnFin p e below _ (T178.setTop (mkF m 195 #[.val (.int k), .val (.ref b1), .val (.int (5 : Int32)), .val (.ref v5), .val (.int (0 : Int32)), .val (.int (0 : Int32)), .val (.int (33 : Int32)), .val (.int (0 : Int32)), .unset] [(.ref v5)]))
      have f179 : Fld Z h115 v5 "com/example/cairn/cairn/engine/BinaryOperator" "precedence" "I" (.int (3 : Int32)) := (hp62.keep Kp116 nin0)
      obtain ⟨cq180, kq180, q180a, q180b, q180c⟩ := isOf hZ e178 f122
      obtain ⟨_, _, ⟨T180, L180, k180, n180⟩, -, X180, ⟨Lc180, hQ180, l180, y180, z180⟩, st180⟩ := X178.virtualBack hx (y := (⟨"com/example/cairn/cairn/engine/BinaryOperator", "precedence", "()I"⟩ : MethodName)) (z := (⟨"com/example/cairn/cairn/engine/BinaryOperator", "precedence", "()I"⟩ : MethodName)) hown (mvT hZ (hw _ (List.mem_of_getElem? (i := 57) rfl))) (mvT hZ (hw _ (List.mem_of_getElem? (i := 58) rfl))) (notFace_of_selects (args := #[]) (mvT hZ (hw _ (List.mem_of_getElem? (i := 60) rfl)))) (mvT hZ (hw _ (List.mem_of_getElem? (i := 60) rfl))) (mvT hZ (hw _ (List.mem_of_getElem? (i := 59) rfl))) (by decide) (backOf (W := 0) (rm3 l Z a0 hw [] v5 (3 : Int32) h115 n0 (Nat.le_trans Z0 Kp116.1) f179) hZ (hw _ (List.mem_of_getElem? (i := 61) rfl)) (hw _ (List.mem_of_getElem? (i := 3) rfl)) (by decide) (by decide)) q180a q180c (g := (mkF m 195 #[.val (.int k), .val (.ref b1), .val (.int (5 : Int32)), .val (.ref v5), .val (.int (0 : Int32)), .val (.int (0 : Int32)), .val (.int (33 : Int32)), .val (.int (0 : Int32)), .unset] [(.ref v5)])) rfl (by rw [hml]; rfl) (Steps.refl _) (argsL := []) (rest := []) (lenOf pd_19 rfl) rfl (by show 2 * 0 + _ ≤ _; exact Nat.le_of_eq rfl) (hb hby at_195) (fun _ _ => ⟨rfl, e178, (by decide : 1 + 0 ≤ _), (by decide : 19 + 0 ≤ _)⟩)
      dsimp only [Pt.U, Pt.locs, Pt.cells, Pt.slots] at X180 l180 y180 z180 st180 hQ180
      subst l180 y180 z180
      obtain ⟨rfl, N180q, e180⟩ := hQ180
      have N180 := Fr.app N178 N180q
      refine OwnFin.step (fun tT kK => st180.trans kK) ?_
      show OwnFin p e below _ (T180.setTop (mkF m 198 #[.val (.int k), .val (.ref b1), .val (.int (5 : Int32)), .val (.ref v5), .val (.int (0 : Int32)), .val (.int (0 : Int32)), .val (.int (33 : Int32)), .val (.int (0 : Int32)), .unset] [(.int (3 : Int32))]))
      refine OwnFin.step (fun tT kK => XS.iconst X180.here hx rfl (hb hby at_198) kK) ?_
      show OwnFin p e below _ (T180.setTop (mkF m 199 #[.val (.int k), .val (.ref b1), .val (.int (5 : Int32)), .val (.ref v5), .val (.int (0 : Int32)), .val (.int (0 : Int32)), .val (.int (33 : Int32)), .val (.int (0 : Int32)), .unset] [(.int (2 : Int32)), (.int (3 : Int32))]))
      refine OwnFin.step (fun tT kK => XS.icmpYes X180.here hx rfl (pc0 := 199) (pc' := 206) rfl (hb hby at_199) rfl (tlt (by decide : (2 : Int32) < (3 : Int32))).2.2.1 (by decide) (by decide) kK) ?_
      show OwnFin p e below _ (T180.setTop (mkF m 206 #[.val (.int k), .val (.ref b1), .val (.int (5 : Int32)), .val (.ref v5), .val (.int (0 : Int32)), .val (.int (0 : Int32)), .val (.int (33 : Int32)), .val (.int (0 : Int32)), .unset] []))
      refine OwnFin.step (fun tT kK => XS.iconst X180.here hx rfl (hb hby at_206) kK) ?_
      show OwnFin p e below _ (T180.setTop (mkF m 207 #[.val (.int k), .val (.ref b1), .val (.int (5 : Int32)), .val (.ref v5), .val (.int (0 : Int32)), .val (.int (0 : Int32)), .val (.int (33 : Int32)), .val (.int (0 : Int32)), .unset] [(.int (0 : Int32))]))
      refine OwnFin.step (fun tT kK => XS.istore X180.here hx rfl (hb hby at_207) rfl (l' := #[.val (.int k), .val (.ref b1), .val (.int (5 : Int32)), .val (.ref v5), .val (.int (0 : Int32)), .val (.int (0 : Int32)), .val (.int (33 : Int32)), .val (.int (0 : Int32)), .val (.int (0 : Int32))]) rfl kK) ?_
      show OwnFin p e below _ (T180.setTop (mkF m 209 #[.val (.int k), .val (.ref b1), .val (.int (5 : Int32)), .val (.ref v5), .val (.int (0 : Int32)), .val (.int (0 : Int32)), .val (.int (33 : Int32)), .val (.int (0 : Int32)), .val (.int (0 : Int32))] []))
      refine OwnFin.step (fun tT kK => XS.iload X180.here hx rfl (hb hby at_209) rfl kK) ?_
      show OwnFin p e below _ (T180.setTop (mkF m 211 #[.val (.int k), .val (.ref b1), .val (.int (5 : Int32)), .val (.ref v5), .val (.int (0 : Int32)), .val (.int (0 : Int32)), .val (.int (33 : Int32)), .val (.int (0 : Int32)), .val (.int (0 : Int32))] [(.int (0 : Int32))]))
      refine OwnFin.step (fun tT kK => XS.iload X180.here hx rfl (hb hby at_211) rfl kK) ?_
      show OwnFin p e below _ (T180.setTop (mkF m 213 #[.val (.int k), .val (.ref b1), .val (.int (5 : Int32)), .val (.ref v5), .val (.int (0 : Int32)), .val (.int (0 : Int32)), .val (.int (33 : Int32)), .val (.int (0 : Int32)), .val (.int (0 : Int32))] [(.int (0 : Int32)), (.int (0 : Int32))]))
      refine OwnFin.step (fun tT kK => XS.icmpNo X180.here hx rfl (hb hby at_213) rfl (teq (rfl : (0 : Int32) = (0 : Int32))).2 kK) ?_
      show OwnFin p e below _ (T180.setTop (mkF m 216 #[.val (.int k), .val (.ref b1), .val (.int (5 : Int32)), .val (.ref v5), .val (.int (0 : Int32)), .val (.int (0 : Int32)), .val (.int (33 : Int32)), .val (.int (0 : Int32)), .val (.int (0 : Int32))] []))
      refine OwnFin.step (fun tT kK => XS.iload X180.here hx rfl (hb hby at_216) rfl kK) ?_
      show OwnFin p e below _ (T180.setTop (mkF m 218 #[.val (.int k), .val (.ref b1), .val (.int (5 : Int32)), .val (.ref v5), .val (.int (0 : Int32)), .val (.int (0 : Int32)), .val (.int (33 : Int32)), .val (.int (0 : Int32)), .val (.int (0 : Int32))] [(.int (0 : Int32))]))
      refine OwnFin.step (fun tT kK => XS.iload X180.here hx rfl (hb hby at_218) rfl kK) ?_
      show OwnFin p e below _ (T180.setTop (mkF m 220 #[.val (.int k), .val (.ref b1), .val (.int (5 : Int32)), .val (.ref v5), .val (.int (0 : Int32)), .val (.int (0 : Int32)), .val (.int (33 : Int32)), .val (.int (0 : Int32)), .val (.int (0 : Int32))] [(.int (0 : Int32)), (.int (0 : Int32))]))
      refine OwnFin.step (fun tT kK => XS.icmpNo X180.here hx rfl (hb hby at_220) rfl (teq (rfl : (0 : Int32) = (0 : Int32))).2 kK) ?_
      show OwnFin p e below _ (T180.setTop (mkF m 223 #[.val (.int k), .val (.ref b1), .val (.int (5 : Int32)), .val (.ref v5), .val (.int (0 : Int32)), .val (.int (0 : Int32)), .val (.int (33 : Int32)), .val (.int (0 : Int32)), .val (.int (0 : Int32))] []))
      refine OwnFin.step (fun tT kK => XS.iload X180.here hx rfl (hb hby at_223) rfl kK) ?_
      show OwnFin p e below _ (T180.setTop (mkF m 225 #[.val (.int k), .val (.ref b1), .val (.int (5 : Int32)), .val (.ref v5), .val (.int (0 : Int32)), .val (.int (0 : Int32)), .val (.int (33 : Int32)), .val (.int (0 : Int32)), .val (.int (0 : Int32))] [(.int (0 : Int32))]))
      refine OwnFin.step (fun tT kK => XS.iload X180.here hx rfl (hb hby at_225) rfl kK) ?_
      show OwnFin p e below _ (T180.setTop (mkF m 227 #[.val (.int k), .val (.ref b1), .val (.int (5 : Int32)), .val (.ref v5), .val (.int (0 : Int32)), .val (.int (0 : Int32)), .val (.int (33 : Int32)), .val (.int (0 : Int32)), .val (.int (0 : Int32))] [(.int (0 : Int32)), (.int (0 : Int32))]))
      refine OwnFin.step (fun tT kK => XS.icmpNo X180.here hx rfl (hb hby at_227) rfl (teq (rfl : (0 : Int32) = (0 : Int32))).2 kK) ?_
      show OwnFin p e below _ (T180.setTop (mkF m 230 #[.val (.int k), .val (.ref b1), .val (.int (5 : Int32)), .val (.ref v5), .val (.int (0 : Int32)), .val (.int (0 : Int32)), .val (.int (33 : Int32)), .val (.int (0 : Int32)), .val (.int (0 : Int32))] []))
      refine OwnFin.step (fun tT kK => XS.iconst X180.here hx rfl (hb hby at_230) kK) ?_
      show OwnFin p e below _ (T180.setTop (mkF m 231 #[.val (.int k), .val (.ref b1), .val (.int (5 : Int32)), .val (.ref v5), .val (.int (0 : Int32)), .val (.int (0 : Int32)), .val (.int (33 : Int32)), .val (.int (0 : Int32)), .val (.int (0 : Int32))] [(.int (1 : Int32))]))
      refine OwnFin.step (fun tT kK => XS.goto X180.here hx rfl (pc0 := 231) (pc' := 235) rfl (hb hby at_231) (by decide) (by decide) kK) ?_
      show OwnFin p e below _ (T180.setTop (mkF m 235 #[.val (.int k), .val (.ref b1), .val (.int (5 : Int32)), .val (.ref v5), .val (.int (0 : Int32)), .val (.int (0 : Int32)), .val (.int (33 : Int32)), .val (.int (0 : Int32)), .val (.int (0 : Int32))] [(.int (1 : Int32))]))
      obtain ⟨fs181, hr181, hrun181, hended181, hW181, hsame181⟩ := X180.leave (v := (some (.int (1 : Int32)))) (fun h => by rw [Bd.returns] at h; cases h)
      refine ⟨_, _, retN X180 hx (t := .boolean) Bd.returns (by simp) (hb hby at_235) hr181, hrun181, hended181, _, _, rfl, ?_, ⟨_, rfl⟩, hW181, hsame181.mono (by decide) (by decide)⟩
      show Q0 Z k v0 v1 v2 v3 v4 v5 v6 v7 v8 v9 v10 v11 v12 v13 v14 v15 v16 v17 v18 h0 n0 _ T180.heap _
      rw [e180]
      exact ⟨rfl, N180, Kp116⟩
    · skip
      show OwnFin p e below _ (T139.setTop (mkF m 141 #[.val (.int k), .val (.ref b1), .val (.int (6 : Int32)), .unset, .unset, .unset, .unset, .unset, .unset] []))
      refine OwnFin.step (fun tT kK => XS.aloadN X139.here hx rfl (hb hby at_141) rfl rfl kK) ?_
      show OwnFin p e below _ (T139.setTop (mkF m 142 #[.val (.int k), .val (.ref b1), .val (.int (6 : Int32)), .unset, .unset, .unset, .unset, .unset, .unset] [(.ref b1)]))
      refine OwnFin.step (fun tT kK => XS.iloadN X139.here hx rfl (hb hby at_142) rfl kK) ?_
      show OwnFin p e below _ (T139.setTop (mkF m 143 #[.val (.int k), .val (.ref b1), .val (.int (6 : Int32)), .unset, .unset, .unset, .unset, .unset, .unset] [(.int (6 : Int32)), (.ref b1)]))
      obtain ⟨cl182, Ar182, q182, Sz182, Ng182, H182, G182⟩ := id V115
      have hin182 : ¬ ((6 : Int32) < 0 ∨ cl182.slots.size ≤ ((6 : Int32)).toNatClampNeg) := inb_of Sz182 ⟨by decide, by decide⟩
      refine OwnFin.step (fun tT kK => X139.aaload hx (j := (6 : Int32)) (v := (.ref v6)) (by rw [e139]; exact Ar182.1) (State.isArrayOf_alike hZ.alike Ar182.2.1) rfl Ar182.2.2 hin182 (H182.at hin182 rfl) (g := (mkF m 143 #[.val (.int k), .val (.ref b1), .val (.int (6 : Int32)), .unset, .unset, .unset, .unset, .unset, .unset] [(.int (6 : Int32)), (.ref b1)])) rfl rfl (hb hby at_143) _ kK) ?_
      show OwnFin p e below _ (T139.setTop (mkF m 144 #[.val (.int k), .val (.ref b1), .val (.int (6 : Int32)), .unset, .unset, .unset, .unset, .unset, .unset] [(.ref v6)]))
      refine OwnFin.step (fun tT kK => XS.astoreN X139.here hx rfl (hb hby at_144) rfl rfl (l' := #[.val (.int k), .val (.ref b1), .val (.int (6 : Int32)), .val (.ref v6), .unset, .unset, .unset, .unset, .unset]) rfl kK) ?_
      show OwnFin p e below _ (T139.setTop (mkF m 145 #[.val (.int k), .val (.ref b1), .val (.int (6 : Int32)), .val (.ref v6), .unset, .unset, .unset, .unset, .unset] []))
      refine OwnFin.step (fun tT kK => XS.aloadN X139.here hx rfl (hb hby at_145) rfl rfl kK) ?_
      show OwnFin p e below _ (T139.setTop (mkF m 146 #[.val (.int k), .val (.ref b1), .val (.int (6 : Int32)), .val (.ref v6), .unset, .unset, .unset, .unset, .unset] [(.ref v6)]))
      obtain ⟨cq183, kq183, q183a, q183b, q183c⟩ := isOf hZ e139 f123
      obtain ⟨_, _, ⟨T183, L183, k183, n183⟩, -, X183, ⟨Lc183, hQ183, l183, y183, z183⟩, st183⟩ := X139.virtualBack hx (y := (⟨"com/example/cairn/cairn/engine/BinaryOperator", "shortCircuits", "()Z"⟩ : MethodName)) (z := (⟨"com/example/cairn/cairn/engine/BinaryOperator", "shortCircuits", "()Z"⟩ : MethodName)) hown (mvT hZ (hw _ (List.mem_of_getElem? (i := 43) rfl))) (mvT hZ (hw _ (List.mem_of_getElem? (i := 44) rfl))) (notFace_of_selects (args := #[]) (mvT hZ (hw _ (List.mem_of_getElem? (i := 46) rfl)))) (mvT hZ (hw _ (List.mem_of_getElem? (i := 46) rfl))) (mvT hZ (hw _ (List.mem_of_getElem? (i := 45) rfl))) (by decide) (backOf (W := 0) (rm1 l Z a0 hw [] v6 v1 v0 h115 n0 (Nat.le_trans Z0 Kp116.1) f136 f137) hZ (hw _ (List.mem_of_getElem? (i := 47) rfl)) (hw _ (List.mem_of_getElem? (i := 3) rfl)) (by decide) (by decide)) q183a q183c (g := (mkF m 146 #[.val (.int k), .val (.ref b1), .val (.int (6 : Int32)), .val (.ref v6), .unset, .unset, .unset, .unset, .unset] [(.ref v6)])) rfl (by rw [hml]; rfl) (Steps.refl _) (argsL := []) (rest := []) (lenOf pd_18 rfl) rfl (by show 2 * 0 + _ ≤ _; exact Nat.le_of_eq rfl) (hb hby at_146) (fun _ _ => ⟨rfl, e139, (by decide : 1 + 0 ≤ _), (by decide : 19 + 0 ≤ _)⟩)
      dsimp only [Pt.U, Pt.locs, Pt.cells, Pt.slots] at X183 l183 y183 z183 st183 hQ183
      subst l183 y183 z183
      obtain ⟨rfl, N183q, e183⟩ := hQ183
      have N183 := Fr.app N139 N183q
      refine OwnFin.step (fun tT kK => st183.trans kK) ?_
      show OwnFin p e below _ (T183.setTop (mkF m 149 #[.val (.int k), .val (.ref b1), .val (.int (6 : Int32)), .val (.ref v6), .unset, .unset, .unset, .unset, .unset] [(.int (if v6 = v1 ∨ v6 = v0 then 1 else 0))]))
      rw [show (if v6 = v1 ∨ v6 = v0 then (1 : Int32) else 0) = 0 from if_neg (fun q => q.elim hp85 hp84)]
      show OwnFin p e below _ (T183.setTop (mkF m 149 #[.val (.int k), .val (.ref b1), .val (.int (6 : Int32)), .val (.ref v6), .unset, .unset, .unset, .unset, .unset] [(.int (0 : Int32))]))
      refine OwnFin.step (fun tT kK => XS.istore X183.here hx rfl (hb hby at_149) rfl (l' := #[.val (.int k), .val (.ref b1), .val (.int (6 : Int32)), .val (.ref v6), .val (.int (0 : Int32)), .unset, .unset, .unset, .unset]) rfl kK) ?_
      show OwnFin p e below _ (T183.setTop (mkF m 151 #[.val (.int k), .val (.ref b1), .val (.int (6 : Int32)), .val (.ref v6), .val (.int (0 : Int32)), .unset, .unset, .unset, .unset] []))
      refine OwnFin.step (fun tT kK => XS.iloadN X183.here hx rfl (hb hby at_151) rfl kK) ?_
      show OwnFin p e below _ (T183.setTop (mkF m 152 #[.val (.int k), .val (.ref b1), .val (.int (6 : Int32)), .val (.ref v6), .val (.int (0 : Int32)), .unset, .unset, .unset, .unset] [(.int (6 : Int32))]))
      refine OwnFin.step (fun tT kK => XS.ifNo X183.here hx rfl (hb hby at_152) rfl ((if0 _ _).trans (feq (by decide : ¬ ((6 : Int32) = (0 : Int32)))).1) kK) ?_
      show OwnFin p e below _ (T183.setTop (mkF m 155 #[.val (.int k), .val (.ref b1), .val (.int (6 : Int32)), .val (.ref v6), .val (.int (0 : Int32)), .unset, .unset, .unset, .unset] []))
      refine OwnFin.step (fun tT kK => XS.iloadN X183.here hx rfl (hb hby at_155) rfl kK) ?_
      show OwnFin p e below _ (T183.setTop (mkF m 156 #[.val (.int k), .val (.ref b1), .val (.int (6 : Int32)), .val (.ref v6), .val (.int (0 : Int32)), .unset, .unset, .unset, .unset] [(.int (6 : Int32))]))
      refine OwnFin.step (fun tT kK => XS.iconst X183.here hx rfl (hb hby at_156) kK) ?_
      show OwnFin p e below _ (T183.setTop (mkF m 157 #[.val (.int k), .val (.ref b1), .val (.int (6 : Int32)), .val (.ref v6), .val (.int (0 : Int32)), .unset, .unset, .unset, .unset] [(.int (1 : Int32)), (.int (6 : Int32))]))
      refine OwnFin.step (fun tT kK => XS.icmpYes X183.here hx rfl (pc0 := 157) (pc' := 164) rfl (hb hby at_157) rfl (feq (by decide : ¬ ((6 : Int32) = (1 : Int32)))).2 (by decide) (by decide) kK) ?_
      show OwnFin p e below _ (T183.setTop (mkF m 164 #[.val (.int k), .val (.ref b1), .val (.int (6 : Int32)), .val (.ref v6), .val (.int (0 : Int32)), .unset, .unset, .unset, .unset] []))
      refine OwnFin.step (fun tT kK => XS.iconst X183.here hx rfl (hb hby at_164) kK) ?_
      show OwnFin p e below _ (T183.setTop (mkF m 165 #[.val (.int k), .val (.ref b1), .val (.int (6 : Int32)), .val (.ref v6), .val (.int (0 : Int32)), .unset, .unset, .unset, .unset] [(.int (0 : Int32))]))
      refine OwnFin.step (fun tT kK => XS.istore X183.here hx rfl (hb hby at_165) rfl (l' := #[.val (.int k), .val (.ref b1), .val (.int (6 : Int32)), .val (.ref v6), .val (.int (0 : Int32)), .val (.int (0 : Int32)), .unset, .unset, .unset]) rfl kK) ?_
      show OwnFin p e below _ (T183.setTop (mkF m 167 #[.val (.int k), .val (.ref b1), .val (.int (6 : Int32)), .val (.ref v6), .val (.int (0 : Int32)), .val (.int (0 : Int32)), .unset, .unset, .unset] []))
      refine OwnFin.step (fun tT kK => XS.aloadN X183.here hx rfl (hb hby at_167) rfl rfl kK) ?_
      show OwnFin p e below _ (T183.setTop (mkF m 168 #[.val (.int k), .val (.ref b1), .val (.int (6 : Int32)), .val (.ref v6), .val (.int (0 : Int32)), .val (.int (0 : Int32)), .unset, .unset, .unset] [(.ref v6)]))
      have f184 : Fld Z h115 v6 "com/example/cairn/cairn/engine/BinaryOperator" "opcode" "I" (.int (12 : Int32)) := (hp44.keep Kp116 nin0)
      obtain ⟨cq185, kq185, q185a, q185b, q185c⟩ := isOf hZ e183 f123
      obtain ⟨_, _, ⟨T185, L185, k185, n185⟩, -, X185, ⟨Lc185, hQ185, l185, y185, z185⟩, st185⟩ := X183.virtualBack hx (y := (⟨"com/example/cairn/cairn/engine/BinaryOperator", "opcode", "()I"⟩ : MethodName)) (z := (⟨"com/example/cairn/cairn/engine/BinaryOperator", "opcode", "()I"⟩ : MethodName)) hown (mvT hZ (hw _ (List.mem_of_getElem? (i := 50) rfl))) (mvT hZ (hw _ (List.mem_of_getElem? (i := 51) rfl))) (notFace_of_selects (args := #[]) (mvT hZ (hw _ (List.mem_of_getElem? (i := 53) rfl)))) (mvT hZ (hw _ (List.mem_of_getElem? (i := 53) rfl))) (mvT hZ (hw _ (List.mem_of_getElem? (i := 52) rfl))) (by decide) (backOf (W := 0) (rm2 l Z a0 hw [] v6 (12 : Int32) h115 n0 (Nat.le_trans Z0 Kp116.1) f184) hZ (hw _ (List.mem_of_getElem? (i := 54) rfl)) (hw _ (List.mem_of_getElem? (i := 3) rfl)) (by decide) (by decide)) q185a q185c (g := (mkF m 168 #[.val (.int k), .val (.ref b1), .val (.int (6 : Int32)), .val (.ref v6), .val (.int (0 : Int32)), .val (.int (0 : Int32)), .unset, .unset, .unset] [(.ref v6)])) rfl (by rw [hml]; rfl) (Steps.refl _) (argsL := []) (rest := []) (lenOf pd_19 rfl) rfl (by show 2 * 0 + _ ≤ _; exact Nat.le_of_eq rfl) (hb hby at_168) (fun _ _ => ⟨rfl, e183, (by decide : 1 + 0 ≤ _), (by decide : 19 + 0 ≤ _)⟩)
      dsimp only [Pt.U, Pt.locs, Pt.cells, Pt.slots] at X185 l185 y185 z185 st185 hQ185
      subst l185 y185 z185
      obtain ⟨rfl, N185q, e185⟩ := hQ185
      have N185 := Fr.app N183 N185q
      refine OwnFin.step (fun tT kK => st185.trans kK) ?_
      show OwnFin p e below _ (T185.setTop (mkF m 171 #[.val (.int k), .val (.ref b1), .val (.int (6 : Int32)), .val (.ref v6), .val (.int (0 : Int32)), .val (.int (0 : Int32)), .unset, .unset, .unset] [(.int (12 : Int32))]))
      refine OwnFin.step (fun tT kK => XS.istore X185.here hx rfl (hb hby at_171) rfl (l' := #[.val (.int k), .val (.ref b1), .val (.int (6 : Int32)), .val (.ref v6), .val (.int (0 : Int32)), .val (.int (0 : Int32)), .val (.int (12 : Int32)), .unset, .unset]) rfl kK) ?_
      show OwnFin p e below _ (T185.setTop (mkF m 173 #[.val (.int k), .val (.ref b1), .val (.int (6 : Int32)), .val (.ref v6), .val (.int (0 : Int32)), .val (.int (0 : Int32)), .val (.int (12 : Int32)), .unset, .unset] []))
      refine OwnFin.step (fun tT kK => XS.iload X185.here hx rfl (hb hby at_173) rfl kK) ?_
      show OwnFin p e below _ (T185.setTop (mkF m 175 #[.val (.int k), .val (.ref b1), .val (.int (6 : Int32)), .val (.ref v6), .val (.int (0 : Int32)), .val (.int (0 : Int32)), .val (.int (12 : Int32)), .unset, .unset] [(.int (12 : Int32))]))
      refine OwnFin.step (fun tT kK => XS.bipush X185.here hx rfl (hb hby at_175) kK) ?_
      show OwnFin p e below _ (T185.setTop (mkF m 177 #[.val (.int k), .val (.ref b1), .val (.int (6 : Int32)), .val (.ref v6), .val (.int (0 : Int32)), .val (.int (0 : Int32)), .val (.int (12 : Int32)), .unset, .unset] [(.int (37 : Int32)), (.int (12 : Int32))]))
      refine OwnFin.step (fun tT kK => XS.icmpNo X185.here hx rfl (hb hby at_177) rfl (feq (by decide : ¬ ((12 : Int32) = (37 : Int32)))).1 kK) ?_
      show OwnFin p e below _ (T185.setTop (mkF m 180 #[.val (.int k), .val (.ref b1), .val (.int (6 : Int32)), .val (.ref v6), .val (.int (0 : Int32)), .val (.int (0 : Int32)), .val (.int (12 : Int32)), .unset, .unset] []))
      refine OwnFin.step (fun tT kK => XS.iload X185.here hx rfl (hb hby at_180) rfl kK) ?_
      show OwnFin p e below _ (T185.setTop (mkF m 182 #[.val (.int k), .val (.ref b1), .val (.int (6 : Int32)), .val (.ref v6), .val (.int (0 : Int32)), .val (.int (0 : Int32)), .val (.int (12 : Int32)), .unset, .unset] [(.int (12 : Int32))]))
      refine OwnFin.step (fun tT kK => XS.bipush X185.here hx rfl (hb hby at_182) kK) ?_
      show OwnFin p e below _ (T185.setTop (mkF m 184 #[.val (.int k), .val (.ref b1), .val (.int (6 : Int32)), .val (.ref v6), .val (.int (0 : Int32)), .val (.int (0 : Int32)), .val (.int (12 : Int32)), .unset, .unset] [(.int (38 : Int32)), (.int (12 : Int32))]))
      refine OwnFin.step (fun tT kK => XS.icmpYes X185.here hx rfl (pc0 := 184) (pc' := 191) rfl (hb hby at_184) rfl (feq (by decide : ¬ ((12 : Int32) = (38 : Int32)))).2 (by decide) (by decide) kK) ?_
      show OwnFin p e below _ (T185.setTop (mkF m 191 #[.val (.int k), .val (.ref b1), .val (.int (6 : Int32)), .val (.ref v6), .val (.int (0 : Int32)), .val (.int (0 : Int32)), .val (.int (12 : Int32)), .unset, .unset] []))
      refine OwnFin.step (fun tT kK => XS.iconst X185.here hx rfl (hb hby at_191) kK) ?_
      show OwnFin p e below _ (T185.setTop (mkF m 192 #[.val (.int k), .val (.ref b1), .val (.int (6 : Int32)), .val (.ref v6), .val (.int (0 : Int32)), .val (.int (0 : Int32)), .val (.int (12 : Int32)), .unset, .unset] [(.int (0 : Int32))]))
      refine OwnFin.step (fun tT kK => XS.istore X185.here hx rfl (hb hby at_192) rfl (l' := #[.val (.int k), .val (.ref b1), .val (.int (6 : Int32)), .val (.ref v6), .val (.int (0 : Int32)), .val (.int (0 : Int32)), .val (.int (12 : Int32)), .val (.int (0 : Int32)), .unset]) rfl kK) ?_
      show OwnFin p e below _ (T185.setTop (mkF m 194 #[.val (.int k), .val (.ref b1), .val (.int (6 : Int32)), .val (.ref v6), .val (.int (0 : Int32)), .val (.int (0 : Int32)), .val (.int (12 : Int32)), .val (.int (0 : Int32)), .unset] []))
      refine OwnFin.step (fun tT kK => XS.aloadN X185.here hx rfl (hb hby at_194) rfl rfl kK) ?_
      show OwnFin p e below _ (T185.setTop (mkF m 195 #[.val (.int k), .val (.ref b1), .val (.int (6 : Int32)), .val (.ref v6), .val (.int (0 : Int32)), .val (.int (0 : Int32)), .val (.int (12 : Int32)), .val (.int (0 : Int32)), .unset] [(.ref v6)]))
      have f186 : Fld Z h115 v6 "com/example/cairn/cairn/engine/BinaryOperator" "precedence" "I" (.int (3 : Int32)) := (hp63.keep Kp116 nin0)
      obtain ⟨cq187, kq187, q187a, q187b, q187c⟩ := isOf hZ e185 f123
      obtain ⟨_, _, ⟨T187, L187, k187, n187⟩, -, X187, ⟨Lc187, hQ187, l187, y187, z187⟩, st187⟩ := X185.virtualBack hx (y := (⟨"com/example/cairn/cairn/engine/BinaryOperator", "precedence", "()I"⟩ : MethodName)) (z := (⟨"com/example/cairn/cairn/engine/BinaryOperator", "precedence", "()I"⟩ : MethodName)) hown (mvT hZ (hw _ (List.mem_of_getElem? (i := 57) rfl))) (mvT hZ (hw _ (List.mem_of_getElem? (i := 58) rfl))) (notFace_of_selects (args := #[]) (mvT hZ (hw _ (List.mem_of_getElem? (i := 60) rfl)))) (mvT hZ (hw _ (List.mem_of_getElem? (i := 60) rfl))) (mvT hZ (hw _ (List.mem_of_getElem? (i := 59) rfl))) (by decide) (backOf (W := 0) (rm3 l Z a0 hw [] v6 (3 : Int32) h115 n0 (Nat.le_trans Z0 Kp116.1) f186) hZ (hw _ (List.mem_of_getElem? (i := 61) rfl)) (hw _ (List.mem_of_getElem? (i := 3) rfl)) (by decide) (by decide)) q187a q187c (g := (mkF m 195 #[.val (.int k), .val (.ref b1), .val (.int (6 : Int32)), .val (.ref v6), .val (.int (0 : Int32)), .val (.int (0 : Int32)), .val (.int (12 : Int32)), .val (.int (0 : Int32)), .unset] [(.ref v6)])) rfl (by rw [hml]; rfl) (Steps.refl _) (argsL := []) (rest := []) (lenOf pd_19 rfl) rfl (by show 2 * 0 + _ ≤ _; exact Nat.le_of_eq rfl) (hb hby at_195) (fun _ _ => ⟨rfl, e185, (by decide : 1 + 0 ≤ _), (by decide : 19 + 0 ≤ _)⟩)
      dsimp only [Pt.U, Pt.locs, Pt.cells, Pt.slots] at X187 l187 y187 z187 st187 hQ187
      subst l187 y187 z187
      obtain ⟨rfl, N187q, e187⟩ := hQ187
      have N187 := Fr.app N185 N187q
      refine OwnFin.step (fun tT kK => st187.trans kK) ?_
      show OwnFin p e below _ (T187.setTop (mkF m 198 #[.val (.int k), .val (.ref b1), .val (.int (6 : Int32)), .val (.ref v6), .val (.int (0 : Int32)), .val (.int (0 : Int32)), .val (.int (12 : Int32)), .val (.int (0 : Int32)), .unset] [(.int (3 : Int32))]))
      refine OwnFin.step (fun tT kK => XS.iconst X187.here hx rfl (hb hby at_198) kK) ?_
      show OwnFin p e below _ (T187.setTop (mkF m 199 #[.val (.int k), .val (.ref b1), .val (.int (6 : Int32)), .val (.ref v6), .val (.int (0 : Int32)), .val (.int (0 : Int32)), .val (.int (12 : Int32)), .val (.int (0 : Int32)), .unset] [(.int (2 : Int32)), (.int (3 : Int32))]))
      refine OwnFin.step (fun tT kK => XS.icmpYes X187.here hx rfl (pc0 := 199) (pc' := 206) rfl (hb hby at_199) rfl (tlt (by decide : (2 : Int32) < (3 : Int32))).2.2.1 (by decide) (by decide) kK) ?_
      show OwnFin p e below _ (T187.setTop (mkF m 206 #[.val (.int k), .val (.ref b1), .val (.int (6 : Int32)), .val (.ref v6), .val (.int (0 : Int32)), .val (.int (0 : Int32)), .val (.int (12 : Int32)), .val (.int (0 : Int32)), .unset] []))
      refine OwnFin.step (fun tT kK => XS.iconst X187.here hx rfl (hb hby at_206) kK) ?_
      show OwnFin p e below _ (T187.setTop (mkF m 207 #[.val (.int k), .val (.ref b1), .val (.int (6 : Int32)), .val (.ref v6), .val (.int (0 : Int32)), .val (.int (0 : Int32)), .val (.int (12 : Int32)), .val (.int (0 : Int32)), .unset] [(.int (0 : Int32))]))
      refine OwnFin.step (fun tT kK => XS.istore X187.here hx rfl (hb hby at_207) rfl (l' := #[.val (.int k), .val (.ref b1), .val (.int (6 : Int32)), .val (.ref v6), .val (.int (0 : Int32)), .val (.int (0 : Int32)), .val (.int (12 : Int32)), .val (.int (0 : Int32)), .val (.int (0 : Int32))]) rfl kK) ?_
      show OwnFin p e below _ (T187.setTop (mkF m 209 #[.val (.int k), .val (.ref b1), .val (.int (6 : Int32)), .val (.ref v6), .val (.int (0 : Int32)), .val (.int (0 : Int32)), .val (.int (12 : Int32)), .val (.int (0 : Int32)), .val (.int (0 : Int32))] []))
      refine OwnFin.step (fun tT kK => XS.iload X187.here hx rfl (hb hby at_209) rfl kK) ?_
      show OwnFin p e below _ (T187.setTop (mkF m 211 #[.val (.int k), .val (.ref b1), .val (.int (6 : Int32)), .val (.ref v6), .val (.int (0 : Int32)), .val (.int (0 : Int32)), .val (.int (12 : Int32)), .val (.int (0 : Int32)), .val (.int (0 : Int32))] [(.int (0 : Int32))]))
      refine OwnFin.step (fun tT kK => XS.iload X187.here hx rfl (hb hby at_211) rfl kK) ?_
      show OwnFin p e below _ (T187.setTop (mkF m 213 #[.val (.int k), .val (.ref b1), .val (.int (6 : Int32)), .val (.ref v6), .val (.int (0 : Int32)), .val (.int (0 : Int32)), .val (.int (12 : Int32)), .val (.int (0 : Int32)), .val (.int (0 : Int32))] [(.int (0 : Int32)), (.int (0 : Int32))]))
      refine OwnFin.step (fun tT kK => XS.icmpNo X187.here hx rfl (hb hby at_213) rfl (teq (rfl : (0 : Int32) = (0 : Int32))).2 kK) ?_
      show OwnFin p e below _ (T187.setTop (mkF m 216 #[.val (.int k), .val (.ref b1), .val (.int (6 : Int32)), .val (.ref v6), .val (.int (0 : Int32)), .val (.int (0 : Int32)), .val (.int (12 : Int32)), .val (.int (0 : Int32)), .val (.int (0 : Int32))] []))
      refine OwnFin.step (fun tT kK => XS.iload X187.here hx rfl (hb hby at_216) rfl kK) ?_
      show OwnFin p e below _ (T187.setTop (mkF m 218 #[.val (.int k), .val (.ref b1), .val (.int (6 : Int32)), .val (.ref v6), .val (.int (0 : Int32)), .val (.int (0 : Int32)), .val (.int (12 : Int32)), .val (.int (0 : Int32)), .val (.int (0 : Int32))] [(.int (0 : Int32))]))
      refine OwnFin.step (fun tT kK => XS.iload X187.here hx rfl (hb hby at_218) rfl kK) ?_
      show OwnFin p e below _ (T187.setTop (mkF m 220 #[.val (.int k), .val (.ref b1), .val (.int (6 : Int32)), .val (.ref v6), .val (.int (0 : Int32)), .val (.int (0 : Int32)), .val (.int (12 : Int32)), .val (.int (0 : Int32)), .val (.int (0 : Int32))] [(.int (0 : Int32)), (.int (0 : Int32))]))
      refine OwnFin.step (fun tT kK => XS.icmpNo X187.here hx rfl (hb hby at_220) rfl (teq (rfl : (0 : Int32) = (0 : Int32))).2 kK) ?_
      show OwnFin p e below _ (T187.setTop (mkF m 223 #[.val (.int k), .val (.ref b1), .val (.int (6 : Int32)), .val (.ref v6), .val (.int (0 : Int32)), .val (.int (0 : Int32)), .val (.int (12 : Int32)), .val (.int (0 : Int32)), .val (.int (0 : Int32))] []))
      refine OwnFin.step (fun tT kK => XS.iload X187.here hx rfl (hb hby at_223) rfl kK) ?_
      show OwnFin p e below _ (T187.setTop (mkF m 225 #[.val (.int k), .val (.ref b1), .val (.int (6 : Int32)), .val (.ref v6), .val (.int (0 : Int32)), .val (.int (0 : Int32)), .val (.int (12 : Int32)), .val (.int (0 : Int32)), .val (.int (0 : Int32))] [(.int (0 : Int32))]))
      refine OwnFin.step (fun tT kK => XS.iload X187.here hx rfl (hb hby at_225) rfl kK) ?_
      show OwnFin p e below _ (T187.setTop (mkF m 227 #[.val (.int k), .val (.ref b1), .val (.int (6 : Int32)), .val (.ref v6), .val (.int (0 : Int32)), .val (.int (0 : Int32)), .val (.int (12 : Int32)), .val (.int (0 : Int32)), .val (.int (0 : Int32))] [(.int (0 : Int32)), (.int (0 : Int32))]))
      refine OwnFin.step (fun tT kK => XS.icmpNo X187.here hx rfl (hb hby at_227) rfl (teq (rfl : (0 : Int32) = (0 : Int32))).2 kK) ?_
      show OwnFin p e below _ (T187.setTop (mkF m 230 #[.val (.int k), .val (.ref b1), .val (.int (6 : Int32)), .val (.ref v6), .val (.int (0 : Int32)), .val (.int (0 : Int32)), .val (.int (12 : Int32)), .val (.int (0 : Int32)), .val (.int (0 : Int32))] []))
      refine OwnFin.step (fun tT kK => XS.iconst X187.here hx rfl (hb hby at_230) kK) ?_
      show OwnFin p e below _ (T187.setTop (mkF m 231 #[.val (.int k), .val (.ref b1), .val (.int (6 : Int32)), .val (.ref v6), .val (.int (0 : Int32)), .val (.int (0 : Int32)), .val (.int (12 : Int32)), .val (.int (0 : Int32)), .val (.int (0 : Int32))] [(.int (1 : Int32))]))
      refine OwnFin.step (fun tT kK => XS.goto X187.here hx rfl (pc0 := 231) (pc' := 235) rfl (hb hby at_231) (by decide) (by decide) kK) ?_
      show OwnFin p e below _ (T187.setTop (mkF m 235 #[.val (.int k), .val (.ref b1), .val (.int (6 : Int32)), .val (.ref v6), .val (.int (0 : Int32)), .val (.int (0 : Int32)), .val (.int (12 : Int32)), .val (.int (0 : Int32)), .val (.int (0 : Int32))] [(.int (1 : Int32))]))
      obtain ⟨fs188, hr188, hrun188, hended188, hW188, hsame188⟩ := X187.leave (v := (some (.int (1 : Int32)))) (fun h => by rw [Bd.returns] at h; cases h)
      refine ⟨_, _, retN X187 hx (t := .boolean) Bd.returns (by simp) (hb hby at_235) hr188, hrun188, hended188, _, _, rfl, ?_, ⟨_, rfl⟩, hW188, hsame188.mono (by decide) (by decide)⟩
      show Q0 Z k v0 v1 v2 v3 v4 v5 v6 v7 v8 v9 v10 v11 v12 v13 v14 v15 v16 v17 v18 h0 n0 _ T187.heap _
      rw [e187]
      exact ⟨rfl, N187, Kp116⟩
    · skip
      show OwnFin p e below _ (T139.setTop (mkF m 141 #[.val (.int k), .val (.ref b1), .val (.int (7 : Int32)), .unset, .unset, .unset, .unset, .unset, .unset] []))
      refine OwnFin.step (fun tT kK => XS.aloadN X139.here hx rfl (hb hby at_141) rfl rfl kK) ?_
      show OwnFin p e below _ (T139.setTop (mkF m 142 #[.val (.int k), .val (.ref b1), .val (.int (7 : Int32)), .unset, .unset, .unset, .unset, .unset, .unset] [(.ref b1)]))
      refine OwnFin.step (fun tT kK => XS.iloadN X139.here hx rfl (hb hby at_142) rfl kK) ?_
      show OwnFin p e below _ (T139.setTop (mkF m 143 #[.val (.int k), .val (.ref b1), .val (.int (7 : Int32)), .unset, .unset, .unset, .unset, .unset, .unset] [(.int (7 : Int32)), (.ref b1)]))
      obtain ⟨cl189, Ar189, q189, Sz189, Ng189, H189, G189⟩ := id V115
      have hin189 : ¬ ((7 : Int32) < 0 ∨ cl189.slots.size ≤ ((7 : Int32)).toNatClampNeg) := inb_of Sz189 ⟨by decide, by decide⟩
      refine OwnFin.step (fun tT kK => X139.aaload hx (j := (7 : Int32)) (v := (.ref v7)) (by rw [e139]; exact Ar189.1) (State.isArrayOf_alike hZ.alike Ar189.2.1) rfl Ar189.2.2 hin189 (H189.at hin189 rfl) (g := (mkF m 143 #[.val (.int k), .val (.ref b1), .val (.int (7 : Int32)), .unset, .unset, .unset, .unset, .unset, .unset] [(.int (7 : Int32)), (.ref b1)])) rfl rfl (hb hby at_143) _ kK) ?_
      show OwnFin p e below _ (T139.setTop (mkF m 144 #[.val (.int k), .val (.ref b1), .val (.int (7 : Int32)), .unset, .unset, .unset, .unset, .unset, .unset] [(.ref v7)]))
      refine OwnFin.step (fun tT kK => XS.astoreN X139.here hx rfl (hb hby at_144) rfl rfl (l' := #[.val (.int k), .val (.ref b1), .val (.int (7 : Int32)), .val (.ref v7), .unset, .unset, .unset, .unset, .unset]) rfl kK) ?_
      show OwnFin p e below _ (T139.setTop (mkF m 145 #[.val (.int k), .val (.ref b1), .val (.int (7 : Int32)), .val (.ref v7), .unset, .unset, .unset, .unset, .unset] []))
      refine OwnFin.step (fun tT kK => XS.aloadN X139.here hx rfl (hb hby at_145) rfl rfl kK) ?_
      show OwnFin p e below _ (T139.setTop (mkF m 146 #[.val (.int k), .val (.ref b1), .val (.int (7 : Int32)), .val (.ref v7), .unset, .unset, .unset, .unset, .unset] [(.ref v7)]))
      obtain ⟨cq190, kq190, q190a, q190b, q190c⟩ := isOf hZ e139 f124
      obtain ⟨_, _, ⟨T190, L190, k190, n190⟩, -, X190, ⟨Lc190, hQ190, l190, y190, z190⟩, st190⟩ := X139.virtualBack hx (y := (⟨"com/example/cairn/cairn/engine/BinaryOperator", "shortCircuits", "()Z"⟩ : MethodName)) (z := (⟨"com/example/cairn/cairn/engine/BinaryOperator", "shortCircuits", "()Z"⟩ : MethodName)) hown (mvT hZ (hw _ (List.mem_of_getElem? (i := 43) rfl))) (mvT hZ (hw _ (List.mem_of_getElem? (i := 44) rfl))) (notFace_of_selects (args := #[]) (mvT hZ (hw _ (List.mem_of_getElem? (i := 46) rfl)))) (mvT hZ (hw _ (List.mem_of_getElem? (i := 46) rfl))) (mvT hZ (hw _ (List.mem_of_getElem? (i := 45) rfl))) (by decide) (backOf (W := 0) (rm1 l Z a0 hw [] v7 v1 v0 h115 n0 (Nat.le_trans Z0 Kp116.1) f136 f137) hZ (hw _ (List.mem_of_getElem? (i := 47) rfl)) (hw _ (List.mem_of_getElem? (i := 3) rfl)) (by decide) (by decide)) q190a q190c (g := (mkF m 146 #[.val (.int k), .val (.ref b1), .val (.int (7 : Int32)), .val (.ref v7), .unset, .unset, .unset, .unset, .unset] [(.ref v7)])) rfl (by rw [hml]; rfl) (Steps.refl _) (argsL := []) (rest := []) (lenOf pd_18 rfl) rfl (by show 2 * 0 + _ ≤ _; exact Nat.le_of_eq rfl) (hb hby at_146) (fun _ _ => ⟨rfl, e139, (by decide : 1 + 0 ≤ _), (by decide : 19 + 0 ≤ _)⟩)
      dsimp only [Pt.U, Pt.locs, Pt.cells, Pt.slots] at X190 l190 y190 z190 st190 hQ190
      subst l190 y190 z190
      obtain ⟨rfl, N190q, e190⟩ := hQ190
      have N190 := Fr.app N139 N190q
      refine OwnFin.step (fun tT kK => st190.trans kK) ?_
      show OwnFin p e below _ (T190.setTop (mkF m 149 #[.val (.int k), .val (.ref b1), .val (.int (7 : Int32)), .val (.ref v7), .unset, .unset, .unset, .unset, .unset] [(.int (if v7 = v1 ∨ v7 = v0 then 1 else 0))]))
      rw [show (if v7 = v1 ∨ v7 = v0 then (1 : Int32) else 0) = 0 from if_neg (fun q => q.elim hp87 hp86)]
      show OwnFin p e below _ (T190.setTop (mkF m 149 #[.val (.int k), .val (.ref b1), .val (.int (7 : Int32)), .val (.ref v7), .unset, .unset, .unset, .unset, .unset] [(.int (0 : Int32))]))
      refine OwnFin.step (fun tT kK => XS.istore X190.here hx rfl (hb hby at_149) rfl (l' := #[.val (.int k), .val (.ref b1), .val (.int (7 : Int32)), .val (.ref v7), .val (.int (0 : Int32)), .unset, .unset, .unset, .unset]) rfl kK) ?_
      show OwnFin p e below _ (T190.setTop (mkF m 151 #[.val (.int k), .val (.ref b1), .val (.int (7 : Int32)), .val (.ref v7), .val (.int (0 : Int32)), .unset, .unset, .unset, .unset] []))
      refine OwnFin.step (fun tT kK => XS.iloadN X190.here hx rfl (hb hby at_151) rfl kK) ?_
      show OwnFin p e below _ (T190.setTop (mkF m 152 #[.val (.int k), .val (.ref b1), .val (.int (7 : Int32)), .val (.ref v7), .val (.int (0 : Int32)), .unset, .unset, .unset, .unset] [(.int (7 : Int32))]))
      refine OwnFin.step (fun tT kK => XS.ifNo X190.here hx rfl (hb hby at_152) rfl ((if0 _ _).trans (feq (by decide : ¬ ((7 : Int32) = (0 : Int32)))).1) kK) ?_
      show OwnFin p e below _ (T190.setTop (mkF m 155 #[.val (.int k), .val (.ref b1), .val (.int (7 : Int32)), .val (.ref v7), .val (.int (0 : Int32)), .unset, .unset, .unset, .unset] []))
      refine OwnFin.step (fun tT kK => XS.iloadN X190.here hx rfl (hb hby at_155) rfl kK) ?_
      show OwnFin p e below _ (T190.setTop (mkF m 156 #[.val (.int k), .val (.ref b1), .val (.int (7 : Int32)), .val (.ref v7), .val (.int (0 : Int32)), .unset, .unset, .unset, .unset] [(.int (7 : Int32))]))
      refine OwnFin.step (fun tT kK => XS.iconst X190.here hx rfl (hb hby at_156) kK) ?_
      show OwnFin p e below _ (T190.setTop (mkF m 157 #[.val (.int k), .val (.ref b1), .val (.int (7 : Int32)), .val (.ref v7), .val (.int (0 : Int32)), .unset, .unset, .unset, .unset] [(.int (1 : Int32)), (.int (7 : Int32))]))
      refine OwnFin.step (fun tT kK => XS.icmpYes X190.here hx rfl (pc0 := 157) (pc' := 164) rfl (hb hby at_157) rfl (feq (by decide : ¬ ((7 : Int32) = (1 : Int32)))).2 (by decide) (by decide) kK) ?_
      show OwnFin p e below _ (T190.setTop (mkF m 164 #[.val (.int k), .val (.ref b1), .val (.int (7 : Int32)), .val (.ref v7), .val (.int (0 : Int32)), .unset, .unset, .unset, .unset] []))
      refine OwnFin.step (fun tT kK => XS.iconst X190.here hx rfl (hb hby at_164) kK) ?_
      show OwnFin p e below _ (T190.setTop (mkF m 165 #[.val (.int k), .val (.ref b1), .val (.int (7 : Int32)), .val (.ref v7), .val (.int (0 : Int32)), .unset, .unset, .unset, .unset] [(.int (0 : Int32))]))
      refine OwnFin.step (fun tT kK => XS.istore X190.here hx rfl (hb hby at_165) rfl (l' := #[.val (.int k), .val (.ref b1), .val (.int (7 : Int32)), .val (.ref v7), .val (.int (0 : Int32)), .val (.int (0 : Int32)), .unset, .unset, .unset]) rfl kK) ?_
      show OwnFin p e below _ (T190.setTop (mkF m 167 #[.val (.int k), .val (.ref b1), .val (.int (7 : Int32)), .val (.ref v7), .val (.int (0 : Int32)), .val (.int (0 : Int32)), .unset, .unset, .unset] []))
      refine OwnFin.step (fun tT kK => XS.aloadN X190.here hx rfl (hb hby at_167) rfl rfl kK) ?_
      show OwnFin p e below _ (T190.setTop (mkF m 168 #[.val (.int k), .val (.ref b1), .val (.int (7 : Int32)), .val (.ref v7), .val (.int (0 : Int32)), .val (.int (0 : Int32)), .unset, .unset, .unset] [(.ref v7)]))
      have f191 : Fld Z h115 v7 "com/example/cairn/cairn/engine/BinaryOperator" "opcode" "I" (.int (34 : Int32)) := (hp45.keep Kp116 nin0)
      obtain ⟨cq192, kq192, q192a, q192b, q192c⟩ := isOf hZ e190 f124
      obtain ⟨_, _, ⟨T192, L192, k192, n192⟩, -, X192, ⟨Lc192, hQ192, l192, y192, z192⟩, st192⟩ := X190.virtualBack hx (y := (⟨"com/example/cairn/cairn/engine/BinaryOperator", "opcode", "()I"⟩ : MethodName)) (z := (⟨"com/example/cairn/cairn/engine/BinaryOperator", "opcode", "()I"⟩ : MethodName)) hown (mvT hZ (hw _ (List.mem_of_getElem? (i := 50) rfl))) (mvT hZ (hw _ (List.mem_of_getElem? (i := 51) rfl))) (notFace_of_selects (args := #[]) (mvT hZ (hw _ (List.mem_of_getElem? (i := 53) rfl)))) (mvT hZ (hw _ (List.mem_of_getElem? (i := 53) rfl))) (mvT hZ (hw _ (List.mem_of_getElem? (i := 52) rfl))) (by decide) (backOf (W := 0) (rm2 l Z a0 hw [] v7 (34 : Int32) h115 n0 (Nat.le_trans Z0 Kp116.1) f191) hZ (hw _ (List.mem_of_getElem? (i := 54) rfl)) (hw _ (List.mem_of_getElem? (i := 3) rfl)) (by decide) (by decide)) q192a q192c (g := (mkF m 168 #[.val (.int k), .val (.ref b1), .val (.int (7 : Int32)), .val (.ref v7), .val (.int (0 : Int32)), .val (.int (0 : Int32)), .unset, .unset, .unset] [(.ref v7)])) rfl (by rw [hml]; rfl) (Steps.refl _) (argsL := []) (rest := []) (lenOf pd_19 rfl) rfl (by show 2 * 0 + _ ≤ _; exact Nat.le_of_eq rfl) (hb hby at_168) (fun _ _ => ⟨rfl, e190, (by decide : 1 + 0 ≤ _), (by decide : 19 + 0 ≤ _)⟩)
      dsimp only [Pt.U, Pt.locs, Pt.cells, Pt.slots] at X192 l192 y192 z192 st192 hQ192
      subst l192 y192 z192
      obtain ⟨rfl, N192q, e192⟩ := hQ192
      have N192 := Fr.app N190 N192q
      refine OwnFin.step (fun tT kK => st192.trans kK) ?_
      show OwnFin p e below _ (T192.setTop (mkF m 171 #[.val (.int k), .val (.ref b1), .val (.int (7 : Int32)), .val (.ref v7), .val (.int (0 : Int32)), .val (.int (0 : Int32)), .unset, .unset, .unset] [(.int (34 : Int32))]))
      refine OwnFin.step (fun tT kK => XS.istore X192.here hx rfl (hb hby at_171) rfl (l' := #[.val (.int k), .val (.ref b1), .val (.int (7 : Int32)), .val (.ref v7), .val (.int (0 : Int32)), .val (.int (0 : Int32)), .val (.int (34 : Int32)), .unset, .unset]) rfl kK) ?_
      show OwnFin p e below _ (T192.setTop (mkF m 173 #[.val (.int k), .val (.ref b1), .val (.int (7 : Int32)), .val (.ref v7), .val (.int (0 : Int32)), .val (.int (0 : Int32)), .val (.int (34 : Int32)), .unset, .unset] []))
      refine OwnFin.step (fun tT kK => XS.iload X192.here hx rfl (hb hby at_173) rfl kK) ?_
      show OwnFin p e below _ (T192.setTop (mkF m 175 #[.val (.int k), .val (.ref b1), .val (.int (7 : Int32)), .val (.ref v7), .val (.int (0 : Int32)), .val (.int (0 : Int32)), .val (.int (34 : Int32)), .unset, .unset] [(.int (34 : Int32))]))
      refine OwnFin.step (fun tT kK => XS.bipush X192.here hx rfl (hb hby at_175) kK) ?_
      show OwnFin p e below _ (T192.setTop (mkF m 177 #[.val (.int k), .val (.ref b1), .val (.int (7 : Int32)), .val (.ref v7), .val (.int (0 : Int32)), .val (.int (0 : Int32)), .val (.int (34 : Int32)), .unset, .unset] [(.int (37 : Int32)), (.int (34 : Int32))]))
      refine OwnFin.step (fun tT kK => XS.icmpNo X192.here hx rfl (hb hby at_177) rfl (feq (by decide : ¬ ((34 : Int32) = (37 : Int32)))).1 kK) ?_
      show OwnFin p e below _ (T192.setTop (mkF m 180 #[.val (.int k), .val (.ref b1), .val (.int (7 : Int32)), .val (.ref v7), .val (.int (0 : Int32)), .val (.int (0 : Int32)), .val (.int (34 : Int32)), .unset, .unset] []))
      refine OwnFin.step (fun tT kK => XS.iload X192.here hx rfl (hb hby at_180) rfl kK) ?_
      show OwnFin p e below _ (T192.setTop (mkF m 182 #[.val (.int k), .val (.ref b1), .val (.int (7 : Int32)), .val (.ref v7), .val (.int (0 : Int32)), .val (.int (0 : Int32)), .val (.int (34 : Int32)), .unset, .unset] [(.int (34 : Int32))]))
      refine OwnFin.step (fun tT kK => XS.bipush X192.here hx rfl (hb hby at_182) kK) ?_
      show OwnFin p e below _ (T192.setTop (mkF m 184 #[.val (.int k), .val (.ref b1), .val (.int (7 : Int32)), .val (.ref v7), .val (.int (0 : Int32)), .val (.int (0 : Int32)), .val (.int (34 : Int32)), .unset, .unset] [(.int (38 : Int32)), (.int (34 : Int32))]))
      refine OwnFin.step (fun tT kK => XS.icmpYes X192.here hx rfl (pc0 := 184) (pc' := 191) rfl (hb hby at_184) rfl (feq (by decide : ¬ ((34 : Int32) = (38 : Int32)))).2 (by decide) (by decide) kK) ?_
      show OwnFin p e below _ (T192.setTop (mkF m 191 #[.val (.int k), .val (.ref b1), .val (.int (7 : Int32)), .val (.ref v7), .val (.int (0 : Int32)), .val (.int (0 : Int32)), .val (.int (34 : Int32)), .unset, .unset] []))
      refine OwnFin.step (fun tT kK => XS.iconst X192.here hx rfl (hb hby at_191) kK) ?_
      show OwnFin p e below _ (T192.setTop (mkF m 192 #[.val (.int k), .val (.ref b1), .val (.int (7 : Int32)), .val (.ref v7), .val (.int (0 : Int32)), .val (.int (0 : Int32)), .val (.int (34 : Int32)), .unset, .unset] [(.int (0 : Int32))]))
      refine OwnFin.step (fun tT kK => XS.istore X192.here hx rfl (hb hby at_192) rfl (l' := #[.val (.int k), .val (.ref b1), .val (.int (7 : Int32)), .val (.ref v7), .val (.int (0 : Int32)), .val (.int (0 : Int32)), .val (.int (34 : Int32)), .val (.int (0 : Int32)), .unset]) rfl kK) ?_
      show OwnFin p e below _ (T192.setTop (mkF m 194 #[.val (.int k), .val (.ref b1), .val (.int (7 : Int32)), .val (.ref v7), .val (.int (0 : Int32)), .val (.int (0 : Int32)), .val (.int (34 : Int32)), .val (.int (0 : Int32)), .unset] []))
      refine OwnFin.step (fun tT kK => XS.aloadN X192.here hx rfl (hb hby at_194) rfl rfl kK) ?_
      show OwnFin p e below _ (T192.setTop (mkF m 195 #[.val (.int k), .val (.ref b1), .val (.int (7 : Int32)), .val (.ref v7), .val (.int (0 : Int32)), .val (.int (0 : Int32)), .val (.int (34 : Int32)), .val (.int (0 : Int32)), .unset] [(.ref v7)]))
      have f193 : Fld Z h115 v7 "com/example/cairn/cairn/engine/BinaryOperator" "precedence" "I" (.int (3 : Int32)) := (hp64.keep Kp116 nin0)
      obtain ⟨cq194, kq194, q194a, q194b, q194c⟩ := isOf hZ e192 f124
      obtain ⟨_, _, ⟨T194, L194, k194, n194⟩, -, X194, ⟨Lc194, hQ194, l194, y194, z194⟩, st194⟩ := X192.virtualBack hx (y := (⟨"com/example/cairn/cairn/engine/BinaryOperator", "precedence", "()I"⟩ : MethodName)) (z := (⟨"com/example/cairn/cairn/engine/BinaryOperator", "precedence", "()I"⟩ : MethodName)) hown (mvT hZ (hw _ (List.mem_of_getElem? (i := 57) rfl))) (mvT hZ (hw _ (List.mem_of_getElem? (i := 58) rfl))) (notFace_of_selects (args := #[]) (mvT hZ (hw _ (List.mem_of_getElem? (i := 60) rfl)))) (mvT hZ (hw _ (List.mem_of_getElem? (i := 60) rfl))) (mvT hZ (hw _ (List.mem_of_getElem? (i := 59) rfl))) (by decide) (backOf (W := 0) (rm3 l Z a0 hw [] v7 (3 : Int32) h115 n0 (Nat.le_trans Z0 Kp116.1) f193) hZ (hw _ (List.mem_of_getElem? (i := 61) rfl)) (hw _ (List.mem_of_getElem? (i := 3) rfl)) (by decide) (by decide)) q194a q194c (g := (mkF m 195 #[.val (.int k), .val (.ref b1), .val (.int (7 : Int32)), .val (.ref v7), .val (.int (0 : Int32)), .val (.int (0 : Int32)), .val (.int (34 : Int32)), .val (.int (0 : Int32)), .unset] [(.ref v7)])) rfl (by rw [hml]; rfl) (Steps.refl _) (argsL := []) (rest := []) (lenOf pd_19 rfl) rfl (by show 2 * 0 + _ ≤ _; exact Nat.le_of_eq rfl) (hb hby at_195) (fun _ _ => ⟨rfl, e192, (by decide : 1 + 0 ≤ _), (by decide : 19 + 0 ≤ _)⟩)
      dsimp only [Pt.U, Pt.locs, Pt.cells, Pt.slots] at X194 l194 y194 z194 st194 hQ194
      subst l194 y194 z194
      obtain ⟨rfl, N194q, e194⟩ := hQ194
      have N194 := Fr.app N192 N194q
      refine OwnFin.step (fun tT kK => st194.trans kK) ?_
      show OwnFin p e below _ (T194.setTop (mkF m 198 #[.val (.int k), .val (.ref b1), .val (.int (7 : Int32)), .val (.ref v7), .val (.int (0 : Int32)), .val (.int (0 : Int32)), .val (.int (34 : Int32)), .val (.int (0 : Int32)), .unset] [(.int (3 : Int32))]))
      refine OwnFin.step (fun tT kK => XS.iconst X194.here hx rfl (hb hby at_198) kK) ?_
      show OwnFin p e below _ (T194.setTop (mkF m 199 #[.val (.int k), .val (.ref b1), .val (.int (7 : Int32)), .val (.ref v7), .val (.int (0 : Int32)), .val (.int (0 : Int32)), .val (.int (34 : Int32)), .val (.int (0 : Int32)), .unset] [(.int (2 : Int32)), (.int (3 : Int32))]))
      refine OwnFin.step (fun tT kK => XS.icmpYes X194.here hx rfl (pc0 := 199) (pc' := 206) rfl (hb hby at_199) rfl (tlt (by decide : (2 : Int32) < (3 : Int32))).2.2.1 (by decide) (by decide) kK) ?_
      show OwnFin p e below _ (T194.setTop (mkF m 206 #[.val (.int k), .val (.ref b1), .val (.int (7 : Int32)), .val (.ref v7), .val (.int (0 : Int32)), .val (.int (0 : Int32)), .val (.int (34 : Int32)), .val (.int (0 : Int32)), .unset] []))
      refine OwnFin.step (fun tT kK => XS.iconst X194.here hx rfl (hb hby at_206) kK) ?_
      show OwnFin p e below _ (T194.setTop (mkF m 207 #[.val (.int k), .val (.ref b1), .val (.int (7 : Int32)), .val (.ref v7), .val (.int (0 : Int32)), .val (.int (0 : Int32)), .val (.int (34 : Int32)), .val (.int (0 : Int32)), .unset] [(.int (0 : Int32))]))
      refine OwnFin.step (fun tT kK => XS.istore X194.here hx rfl (hb hby at_207) rfl (l' := #[.val (.int k), .val (.ref b1), .val (.int (7 : Int32)), .val (.ref v7), .val (.int (0 : Int32)), .val (.int (0 : Int32)), .val (.int (34 : Int32)), .val (.int (0 : Int32)), .val (.int (0 : Int32))]) rfl kK) ?_
      show OwnFin p e below _ (T194.setTop (mkF m 209 #[.val (.int k), .val (.ref b1), .val (.int (7 : Int32)), .val (.ref v7), .val (.int (0 : Int32)), .val (.int (0 : Int32)), .val (.int (34 : Int32)), .val (.int (0 : Int32)), .val (.int (0 : Int32))] []))
      refine OwnFin.step (fun tT kK => XS.iload X194.here hx rfl (hb hby at_209) rfl kK) ?_
      show OwnFin p e below _ (T194.setTop (mkF m 211 #[.val (.int k), .val (.ref b1), .val (.int (7 : Int32)), .val (.ref v7), .val (.int (0 : Int32)), .val (.int (0 : Int32)), .val (.int (34 : Int32)), .val (.int (0 : Int32)), .val (.int (0 : Int32))] [(.int (0 : Int32))]))
      refine OwnFin.step (fun tT kK => XS.iload X194.here hx rfl (hb hby at_211) rfl kK) ?_
      show OwnFin p e below _ (T194.setTop (mkF m 213 #[.val (.int k), .val (.ref b1), .val (.int (7 : Int32)), .val (.ref v7), .val (.int (0 : Int32)), .val (.int (0 : Int32)), .val (.int (34 : Int32)), .val (.int (0 : Int32)), .val (.int (0 : Int32))] [(.int (0 : Int32)), (.int (0 : Int32))]))
      refine OwnFin.step (fun tT kK => XS.icmpNo X194.here hx rfl (hb hby at_213) rfl (teq (rfl : (0 : Int32) = (0 : Int32))).2 kK) ?_
      show OwnFin p e below _ (T194.setTop (mkF m 216 #[.val (.int k), .val (.ref b1), .val (.int (7 : Int32)), .val (.ref v7), .val (.int (0 : Int32)), .val (.int (0 : Int32)), .val (.int (34 : Int32)), .val (.int (0 : Int32)), .val (.int (0 : Int32))] []))
      refine OwnFin.step (fun tT kK => XS.iload X194.here hx rfl (hb hby at_216) rfl kK) ?_
      show OwnFin p e below _ (T194.setTop (mkF m 218 #[.val (.int k), .val (.ref b1), .val (.int (7 : Int32)), .val (.ref v7), .val (.int (0 : Int32)), .val (.int (0 : Int32)), .val (.int (34 : Int32)), .val (.int (0 : Int32)), .val (.int (0 : Int32))] [(.int (0 : Int32))]))
      refine OwnFin.step (fun tT kK => XS.iload X194.here hx rfl (hb hby at_218) rfl kK) ?_
      show OwnFin p e below _ (T194.setTop (mkF m 220 #[.val (.int k), .val (.ref b1), .val (.int (7 : Int32)), .val (.ref v7), .val (.int (0 : Int32)), .val (.int (0 : Int32)), .val (.int (34 : Int32)), .val (.int (0 : Int32)), .val (.int (0 : Int32))] [(.int (0 : Int32)), (.int (0 : Int32))]))
      refine OwnFin.step (fun tT kK => XS.icmpNo X194.here hx rfl (hb hby at_220) rfl (teq (rfl : (0 : Int32) = (0 : Int32))).2 kK) ?_
      show OwnFin p e below _ (T194.setTop (mkF m 223 #[.val (.int k), .val (.ref b1), .val (.int (7 : Int32)), .val (.ref v7), .val (.int (0 : Int32)), .val (.int (0 : Int32)), .val (.int (34 : Int32)), .val (.int (0 : Int32)), .val (.int (0 : Int32))] []))
      refine OwnFin.step (fun tT kK => XS.iload X194.here hx rfl (hb hby at_223) rfl kK) ?_
      show OwnFin p e below _ (T194.setTop (mkF m 225 #[.val (.int k), .val (.ref b1), .val (.int (7 : Int32)), .val (.ref v7), .val (.int (0 : Int32)), .val (.int (0 : Int32)), .val (.int (34 : Int32)), .val (.int (0 : Int32)), .val (.int (0 : Int32))] [(.int (0 : Int32))]))
      refine OwnFin.step (fun tT kK => XS.iload X194.here hx rfl (hb hby at_225) rfl kK) ?_
      show OwnFin p e below _ (T194.setTop (mkF m 227 #[.val (.int k), .val (.ref b1), .val (.int (7 : Int32)), .val (.ref v7), .val (.int (0 : Int32)), .val (.int (0 : Int32)), .val (.int (34 : Int32)), .val (.int (0 : Int32)), .val (.int (0 : Int32))] [(.int (0 : Int32)), (.int (0 : Int32))]))
      refine OwnFin.step (fun tT kK => XS.icmpNo X194.here hx rfl (hb hby at_227) rfl (teq (rfl : (0 : Int32) = (0 : Int32))).2 kK) ?_
      show OwnFin p e below _ (T194.setTop (mkF m 230 #[.val (.int k), .val (.ref b1), .val (.int (7 : Int32)), .val (.ref v7), .val (.int (0 : Int32)), .val (.int (0 : Int32)), .val (.int (34 : Int32)), .val (.int (0 : Int32)), .val (.int (0 : Int32))] []))
      refine OwnFin.step (fun tT kK => XS.iconst X194.here hx rfl (hb hby at_230) kK) ?_
      show OwnFin p e below _ (T194.setTop (mkF m 231 #[.val (.int k), .val (.ref b1), .val (.int (7 : Int32)), .val (.ref v7), .val (.int (0 : Int32)), .val (.int (0 : Int32)), .val (.int (34 : Int32)), .val (.int (0 : Int32)), .val (.int (0 : Int32))] [(.int (1 : Int32))]))
      refine OwnFin.step (fun tT kK => XS.goto X194.here hx rfl (pc0 := 231) (pc' := 235) rfl (hb hby at_231) (by decide) (by decide) kK) ?_
      show OwnFin p e below _ (T194.setTop (mkF m 235 #[.val (.int k), .val (.ref b1), .val (.int (7 : Int32)), .val (.ref v7), .val (.int (0 : Int32)), .val (.int (0 : Int32)), .val (.int (34 : Int32)), .val (.int (0 : Int32)), .val (.int (0 : Int32))] [(.int (1 : Int32))]))
      obtain ⟨fs195, hr195, hrun195, hended195, hW195, hsame195⟩ := X194.leave (v := (some (.int (1 : Int32)))) (fun h => by rw [Bd.returns] at h; cases h)
      refine ⟨_, _, retN X194 hx (t := .boolean) Bd.returns (by simp) (hb hby at_235) hr195, hrun195, hended195, _, _, rfl, ?_, ⟨_, rfl⟩, hW195, hsame195.mono (by decide) (by decide)⟩
      show Q0 Z k v0 v1 v2 v3 v4 v5 v6 v7 v8 v9 v10 v11 v12 v13 v14 v15 v16 v17 v18 h0 n0 _ T194.heap _
      rw [e194]
      exact ⟨rfl, N194, Kp116⟩
    · skip
      show OwnFin p e below _ (T139.setTop (mkF m 141 #[.val (.int k), .val (.ref b1), .val (.int (8 : Int32)), .unset, .unset, .unset, .unset, .unset, .unset] []))
      refine OwnFin.step (fun tT kK => XS.aloadN X139.here hx rfl (hb hby at_141) rfl rfl kK) ?_
      show OwnFin p e below _ (T139.setTop (mkF m 142 #[.val (.int k), .val (.ref b1), .val (.int (8 : Int32)), .unset, .unset, .unset, .unset, .unset, .unset] [(.ref b1)]))
      refine OwnFin.step (fun tT kK => XS.iloadN X139.here hx rfl (hb hby at_142) rfl kK) ?_
      show OwnFin p e below _ (T139.setTop (mkF m 143 #[.val (.int k), .val (.ref b1), .val (.int (8 : Int32)), .unset, .unset, .unset, .unset, .unset, .unset] [(.int (8 : Int32)), (.ref b1)]))
      obtain ⟨cl196, Ar196, q196, Sz196, Ng196, H196, G196⟩ := id V115
      have hin196 : ¬ ((8 : Int32) < 0 ∨ cl196.slots.size ≤ ((8 : Int32)).toNatClampNeg) := inb_of Sz196 ⟨by decide, by decide⟩
      refine OwnFin.step (fun tT kK => X139.aaload hx (j := (8 : Int32)) (v := (.ref v8)) (by rw [e139]; exact Ar196.1) (State.isArrayOf_alike hZ.alike Ar196.2.1) rfl Ar196.2.2 hin196 (H196.at hin196 rfl) (g := (mkF m 143 #[.val (.int k), .val (.ref b1), .val (.int (8 : Int32)), .unset, .unset, .unset, .unset, .unset, .unset] [(.int (8 : Int32)), (.ref b1)])) rfl rfl (hb hby at_143) _ kK) ?_
      show OwnFin p e below _ (T139.setTop (mkF m 144 #[.val (.int k), .val (.ref b1), .val (.int (8 : Int32)), .unset, .unset, .unset, .unset, .unset, .unset] [(.ref v8)]))
      refine OwnFin.step (fun tT kK => XS.astoreN X139.here hx rfl (hb hby at_144) rfl rfl (l' := #[.val (.int k), .val (.ref b1), .val (.int (8 : Int32)), .val (.ref v8), .unset, .unset, .unset, .unset, .unset]) rfl kK) ?_
      show OwnFin p e below _ (T139.setTop (mkF m 145 #[.val (.int k), .val (.ref b1), .val (.int (8 : Int32)), .val (.ref v8), .unset, .unset, .unset, .unset, .unset] []))
      refine OwnFin.step (fun tT kK => XS.aloadN X139.here hx rfl (hb hby at_145) rfl rfl kK) ?_
      show OwnFin p e below _ (T139.setTop (mkF m 146 #[.val (.int k), .val (.ref b1), .val (.int (8 : Int32)), .val (.ref v8), .unset, .unset, .unset, .unset, .unset] [(.ref v8)]))
      obtain ⟨cq197, kq197, q197a, q197b, q197c⟩ := isOf hZ e139 f125
      obtain ⟨_, _, ⟨T197, L197, k197, n197⟩, -, X197, ⟨Lc197, hQ197, l197, y197, z197⟩, st197⟩ := X139.virtualBack hx (y := (⟨"com/example/cairn/cairn/engine/BinaryOperator", "shortCircuits", "()Z"⟩ : MethodName)) (z := (⟨"com/example/cairn/cairn/engine/BinaryOperator", "shortCircuits", "()Z"⟩ : MethodName)) hown (mvT hZ (hw _ (List.mem_of_getElem? (i := 43) rfl))) (mvT hZ (hw _ (List.mem_of_getElem? (i := 44) rfl))) (notFace_of_selects (args := #[]) (mvT hZ (hw _ (List.mem_of_getElem? (i := 46) rfl)))) (mvT hZ (hw _ (List.mem_of_getElem? (i := 46) rfl))) (mvT hZ (hw _ (List.mem_of_getElem? (i := 45) rfl))) (by decide) (backOf (W := 0) (rm1 l Z a0 hw [] v8 v1 v0 h115 n0 (Nat.le_trans Z0 Kp116.1) f136 f137) hZ (hw _ (List.mem_of_getElem? (i := 47) rfl)) (hw _ (List.mem_of_getElem? (i := 3) rfl)) (by decide) (by decide)) q197a q197c (g := (mkF m 146 #[.val (.int k), .val (.ref b1), .val (.int (8 : Int32)), .val (.ref v8), .unset, .unset, .unset, .unset, .unset] [(.ref v8)])) rfl (by rw [hml]; rfl) (Steps.refl _) (argsL := []) (rest := []) (lenOf pd_18 rfl) rfl (by show 2 * 0 + _ ≤ _; exact Nat.le_of_eq rfl) (hb hby at_146) (fun _ _ => ⟨rfl, e139, (by decide : 1 + 0 ≤ _), (by decide : 19 + 0 ≤ _)⟩)
      dsimp only [Pt.U, Pt.locs, Pt.cells, Pt.slots] at X197 l197 y197 z197 st197 hQ197
      subst l197 y197 z197
      obtain ⟨rfl, N197q, e197⟩ := hQ197
      have N197 := Fr.app N139 N197q
      refine OwnFin.step (fun tT kK => st197.trans kK) ?_
      show OwnFin p e below _ (T197.setTop (mkF m 149 #[.val (.int k), .val (.ref b1), .val (.int (8 : Int32)), .val (.ref v8), .unset, .unset, .unset, .unset, .unset] [(.int (if v8 = v1 ∨ v8 = v0 then 1 else 0))]))
      rw [show (if v8 = v1 ∨ v8 = v0 then (1 : Int32) else 0) = 0 from if_neg (fun q => q.elim hp89 hp88)]
      show OwnFin p e below _ (T197.setTop (mkF m 149 #[.val (.int k), .val (.ref b1), .val (.int (8 : Int32)), .val (.ref v8), .unset, .unset, .unset, .unset, .unset] [(.int (0 : Int32))]))
      refine OwnFin.step (fun tT kK => XS.istore X197.here hx rfl (hb hby at_149) rfl (l' := #[.val (.int k), .val (.ref b1), .val (.int (8 : Int32)), .val (.ref v8), .val (.int (0 : Int32)), .unset, .unset, .unset, .unset]) rfl kK) ?_
      show OwnFin p e below _ (T197.setTop (mkF m 151 #[.val (.int k), .val (.ref b1), .val (.int (8 : Int32)), .val (.ref v8), .val (.int (0 : Int32)), .unset, .unset, .unset, .unset] []))
      refine OwnFin.step (fun tT kK => XS.iloadN X197.here hx rfl (hb hby at_151) rfl kK) ?_
      show OwnFin p e below _ (T197.setTop (mkF m 152 #[.val (.int k), .val (.ref b1), .val (.int (8 : Int32)), .val (.ref v8), .val (.int (0 : Int32)), .unset, .unset, .unset, .unset] [(.int (8 : Int32))]))
      refine OwnFin.step (fun tT kK => XS.ifNo X197.here hx rfl (hb hby at_152) rfl ((if0 _ _).trans (feq (by decide : ¬ ((8 : Int32) = (0 : Int32)))).1) kK) ?_
      show OwnFin p e below _ (T197.setTop (mkF m 155 #[.val (.int k), .val (.ref b1), .val (.int (8 : Int32)), .val (.ref v8), .val (.int (0 : Int32)), .unset, .unset, .unset, .unset] []))
      refine OwnFin.step (fun tT kK => XS.iloadN X197.here hx rfl (hb hby at_155) rfl kK) ?_
      show OwnFin p e below _ (T197.setTop (mkF m 156 #[.val (.int k), .val (.ref b1), .val (.int (8 : Int32)), .val (.ref v8), .val (.int (0 : Int32)), .unset, .unset, .unset, .unset] [(.int (8 : Int32))]))
      refine OwnFin.step (fun tT kK => XS.iconst X197.here hx rfl (hb hby at_156) kK) ?_
      show OwnFin p e below _ (T197.setTop (mkF m 157 #[.val (.int k), .val (.ref b1), .val (.int (8 : Int32)), .val (.ref v8), .val (.int (0 : Int32)), .unset, .unset, .unset, .unset] [(.int (1 : Int32)), (.int (8 : Int32))]))
      refine OwnFin.step (fun tT kK => XS.icmpYes X197.here hx rfl (pc0 := 157) (pc' := 164) rfl (hb hby at_157) rfl (feq (by decide : ¬ ((8 : Int32) = (1 : Int32)))).2 (by decide) (by decide) kK) ?_
      show OwnFin p e below _ (T197.setTop (mkF m 164 #[.val (.int k), .val (.ref b1), .val (.int (8 : Int32)), .val (.ref v8), .val (.int (0 : Int32)), .unset, .unset, .unset, .unset] []))
      refine OwnFin.step (fun tT kK => XS.iconst X197.here hx rfl (hb hby at_164) kK) ?_
      show OwnFin p e below _ (T197.setTop (mkF m 165 #[.val (.int k), .val (.ref b1), .val (.int (8 : Int32)), .val (.ref v8), .val (.int (0 : Int32)), .unset, .unset, .unset, .unset] [(.int (0 : Int32))]))
      refine OwnFin.step (fun tT kK => XS.istore X197.here hx rfl (hb hby at_165) rfl (l' := #[.val (.int k), .val (.ref b1), .val (.int (8 : Int32)), .val (.ref v8), .val (.int (0 : Int32)), .val (.int (0 : Int32)), .unset, .unset, .unset]) rfl kK) ?_
      show OwnFin p e below _ (T197.setTop (mkF m 167 #[.val (.int k), .val (.ref b1), .val (.int (8 : Int32)), .val (.ref v8), .val (.int (0 : Int32)), .val (.int (0 : Int32)), .unset, .unset, .unset] []))
      refine OwnFin.step (fun tT kK => XS.aloadN X197.here hx rfl (hb hby at_167) rfl rfl kK) ?_
      show OwnFin p e below _ (T197.setTop (mkF m 168 #[.val (.int k), .val (.ref b1), .val (.int (8 : Int32)), .val (.ref v8), .val (.int (0 : Int32)), .val (.int (0 : Int32)), .unset, .unset, .unset] [(.ref v8)]))
      have f198 : Fld Z h115 v8 "com/example/cairn/cairn/engine/BinaryOperator" "opcode" "I" (.int (50 : Int32)) := (hp46.keep Kp116 nin0)
      obtain ⟨cq199, kq199, q199a, q199b, q199c⟩ := isOf hZ e197 f125
      obtain ⟨_, _, ⟨T199, L199, k199, n199⟩, -, X199, ⟨Lc199, hQ199, l199, y199, z199⟩, st199⟩ := X197.virtualBack hx (y := (⟨"com/example/cairn/cairn/engine/BinaryOperator", "opcode", "()I"⟩ : MethodName)) (z := (⟨"com/example/cairn/cairn/engine/BinaryOperator", "opcode", "()I"⟩ : MethodName)) hown (mvT hZ (hw _ (List.mem_of_getElem? (i := 50) rfl))) (mvT hZ (hw _ (List.mem_of_getElem? (i := 51) rfl))) (notFace_of_selects (args := #[]) (mvT hZ (hw _ (List.mem_of_getElem? (i := 53) rfl)))) (mvT hZ (hw _ (List.mem_of_getElem? (i := 53) rfl))) (mvT hZ (hw _ (List.mem_of_getElem? (i := 52) rfl))) (by decide) (backOf (W := 0) (rm2 l Z a0 hw [] v8 (50 : Int32) h115 n0 (Nat.le_trans Z0 Kp116.1) f198) hZ (hw _ (List.mem_of_getElem? (i := 54) rfl)) (hw _ (List.mem_of_getElem? (i := 3) rfl)) (by decide) (by decide)) q199a q199c (g := (mkF m 168 #[.val (.int k), .val (.ref b1), .val (.int (8 : Int32)), .val (.ref v8), .val (.int (0 : Int32)), .val (.int (0 : Int32)), .unset, .unset, .unset] [(.ref v8)])) rfl (by rw [hml]; rfl) (Steps.refl _) (argsL := []) (rest := []) (lenOf pd_19 rfl) rfl (by show 2 * 0 + _ ≤ _; exact Nat.le_of_eq rfl) (hb hby at_168) (fun _ _ => ⟨rfl, e197, (by decide : 1 + 0 ≤ _), (by decide : 19 + 0 ≤ _)⟩)
      dsimp only [Pt.U, Pt.locs, Pt.cells, Pt.slots] at X199 l199 y199 z199 st199 hQ199
      subst l199 y199 z199
      obtain ⟨rfl, N199q, e199⟩ := hQ199
      have N199 := Fr.app N197 N199q
      refine OwnFin.step (fun tT kK => st199.trans kK) ?_
      show OwnFin p e below _ (T199.setTop (mkF m 171 #[.val (.int k), .val (.ref b1), .val (.int (8 : Int32)), .val (.ref v8), .val (.int (0 : Int32)), .val (.int (0 : Int32)), .unset, .unset, .unset] [(.int (50 : Int32))]))
      refine OwnFin.step (fun tT kK => XS.istore X199.here hx rfl (hb hby at_171) rfl (l' := #[.val (.int k), .val (.ref b1), .val (.int (8 : Int32)), .val (.ref v8), .val (.int (0 : Int32)), .val (.int (0 : Int32)), .val (.int (50 : Int32)), .unset, .unset]) rfl kK) ?_
      show OwnFin p e below _ (T199.setTop (mkF m 173 #[.val (.int k), .val (.ref b1), .val (.int (8 : Int32)), .val (.ref v8), .val (.int (0 : Int32)), .val (.int (0 : Int32)), .val (.int (50 : Int32)), .unset, .unset] []))
      refine OwnFin.step (fun tT kK => XS.iload X199.here hx rfl (hb hby at_173) rfl kK) ?_
      show OwnFin p e below _ (T199.setTop (mkF m 175 #[.val (.int k), .val (.ref b1), .val (.int (8 : Int32)), .val (.ref v8), .val (.int (0 : Int32)), .val (.int (0 : Int32)), .val (.int (50 : Int32)), .unset, .unset] [(.int (50 : Int32))]))
      refine OwnFin.step (fun tT kK => XS.bipush X199.here hx rfl (hb hby at_175) kK) ?_
      show OwnFin p e below _ (T199.setTop (mkF m 177 #[.val (.int k), .val (.ref b1), .val (.int (8 : Int32)), .val (.ref v8), .val (.int (0 : Int32)), .val (.int (0 : Int32)), .val (.int (50 : Int32)), .unset, .unset] [(.int (37 : Int32)), (.int (50 : Int32))]))
      refine OwnFin.step (fun tT kK => XS.icmpNo X199.here hx rfl (hb hby at_177) rfl (feq (by decide : ¬ ((50 : Int32) = (37 : Int32)))).1 kK) ?_
      show OwnFin p e below _ (T199.setTop (mkF m 180 #[.val (.int k), .val (.ref b1), .val (.int (8 : Int32)), .val (.ref v8), .val (.int (0 : Int32)), .val (.int (0 : Int32)), .val (.int (50 : Int32)), .unset, .unset] []))
      refine OwnFin.step (fun tT kK => XS.iload X199.here hx rfl (hb hby at_180) rfl kK) ?_
      show OwnFin p e below _ (T199.setTop (mkF m 182 #[.val (.int k), .val (.ref b1), .val (.int (8 : Int32)), .val (.ref v8), .val (.int (0 : Int32)), .val (.int (0 : Int32)), .val (.int (50 : Int32)), .unset, .unset] [(.int (50 : Int32))]))
      refine OwnFin.step (fun tT kK => XS.bipush X199.here hx rfl (hb hby at_182) kK) ?_
      show OwnFin p e below _ (T199.setTop (mkF m 184 #[.val (.int k), .val (.ref b1), .val (.int (8 : Int32)), .val (.ref v8), .val (.int (0 : Int32)), .val (.int (0 : Int32)), .val (.int (50 : Int32)), .unset, .unset] [(.int (38 : Int32)), (.int (50 : Int32))]))
      refine OwnFin.step (fun tT kK => XS.icmpYes X199.here hx rfl (pc0 := 184) (pc' := 191) rfl (hb hby at_184) rfl (feq (by decide : ¬ ((50 : Int32) = (38 : Int32)))).2 (by decide) (by decide) kK) ?_
      show OwnFin p e below _ (T199.setTop (mkF m 191 #[.val (.int k), .val (.ref b1), .val (.int (8 : Int32)), .val (.ref v8), .val (.int (0 : Int32)), .val (.int (0 : Int32)), .val (.int (50 : Int32)), .unset, .unset] []))
      refine OwnFin.step (fun tT kK => XS.iconst X199.here hx rfl (hb hby at_191) kK) ?_
      show OwnFin p e below _ (T199.setTop (mkF m 192 #[.val (.int k), .val (.ref b1), .val (.int (8 : Int32)), .val (.ref v8), .val (.int (0 : Int32)), .val (.int (0 : Int32)), .val (.int (50 : Int32)), .unset, .unset] [(.int (0 : Int32))]))
      refine OwnFin.step (fun tT kK => XS.istore X199.here hx rfl (hb hby at_192) rfl (l' := #[.val (.int k), .val (.ref b1), .val (.int (8 : Int32)), .val (.ref v8), .val (.int (0 : Int32)), .val (.int (0 : Int32)), .val (.int (50 : Int32)), .val (.int (0 : Int32)), .unset]) rfl kK) ?_
      show OwnFin p e below _ (T199.setTop (mkF m 194 #[.val (.int k), .val (.ref b1), .val (.int (8 : Int32)), .val (.ref v8), .val (.int (0 : Int32)), .val (.int (0 : Int32)), .val (.int (50 : Int32)), .val (.int (0 : Int32)), .unset] []))
      refine OwnFin.step (fun tT kK => XS.aloadN X199.here hx rfl (hb hby at_194) rfl rfl kK) ?_
      show OwnFin p e below _ (T199.setTop (mkF m 195 #[.val (.int k), .val (.ref b1), .val (.int (8 : Int32)), .val (.ref v8), .val (.int (0 : Int32)), .val (.int (0 : Int32)), .val (.int (50 : Int32)), .val (.int (0 : Int32)), .unset] [(.ref v8)]))
      have f200 : Fld Z h115 v8 "com/example/cairn/cairn/engine/BinaryOperator" "precedence" "I" (.int (4 : Int32)) := (hp65.keep Kp116 nin0)
      obtain ⟨cq201, kq201, q201a, q201b, q201c⟩ := isOf hZ e199 f125
      obtain ⟨_, _, ⟨T201, L201, k201, n201⟩, -, X201, ⟨Lc201, hQ201, l201, y201, z201⟩, st201⟩ := X199.virtualBack hx (y := (⟨"com/example/cairn/cairn/engine/BinaryOperator", "precedence", "()I"⟩ : MethodName)) (z := (⟨"com/example/cairn/cairn/engine/BinaryOperator", "precedence", "()I"⟩ : MethodName)) hown (mvT hZ (hw _ (List.mem_of_getElem? (i := 57) rfl))) (mvT hZ (hw _ (List.mem_of_getElem? (i := 58) rfl))) (notFace_of_selects (args := #[]) (mvT hZ (hw _ (List.mem_of_getElem? (i := 60) rfl)))) (mvT hZ (hw _ (List.mem_of_getElem? (i := 60) rfl))) (mvT hZ (hw _ (List.mem_of_getElem? (i := 59) rfl))) (by decide) (backOf (W := 0) (rm3 l Z a0 hw [] v8 (4 : Int32) h115 n0 (Nat.le_trans Z0 Kp116.1) f200) hZ (hw _ (List.mem_of_getElem? (i := 61) rfl)) (hw _ (List.mem_of_getElem? (i := 3) rfl)) (by decide) (by decide)) q201a q201c (g := (mkF m 195 #[.val (.int k), .val (.ref b1), .val (.int (8 : Int32)), .val (.ref v8), .val (.int (0 : Int32)), .val (.int (0 : Int32)), .val (.int (50 : Int32)), .val (.int (0 : Int32)), .unset] [(.ref v8)])) rfl (by rw [hml]; rfl) (Steps.refl _) (argsL := []) (rest := []) (lenOf pd_19 rfl) rfl (by show 2 * 0 + _ ≤ _; exact Nat.le_of_eq rfl) (hb hby at_195) (fun _ _ => ⟨rfl, e199, (by decide : 1 + 0 ≤ _), (by decide : 19 + 0 ≤ _)⟩)
      dsimp only [Pt.U, Pt.locs, Pt.cells, Pt.slots] at X201 l201 y201 z201 st201 hQ201
      subst l201 y201 z201
      obtain ⟨rfl, N201q, e201⟩ := hQ201
      have N201 := Fr.app N199 N201q
      refine OwnFin.step (fun tT kK => st201.trans kK) ?_
      show OwnFin p e below _ (T201.setTop (mkF m 198 #[.val (.int k), .val (.ref b1), .val (.int (8 : Int32)), .val (.ref v8), .val (.int (0 : Int32)), .val (.int (0 : Int32)), .val (.int (50 : Int32)), .val (.int (0 : Int32)), .unset] [(.int (4 : Int32))]))
      refine OwnFin.step (fun tT kK => XS.iconst X201.here hx rfl (hb hby at_198) kK) ?_
      show OwnFin p e below _ (T201.setTop (mkF m 199 #[.val (.int k), .val (.ref b1), .val (.int (8 : Int32)), .val (.ref v8), .val (.int (0 : Int32)), .val (.int (0 : Int32)), .val (.int (50 : Int32)), .val (.int (0 : Int32)), .unset] [(.int (2 : Int32)), (.int (4 : Int32))]))
      refine OwnFin.step (fun tT kK => XS.icmpYes X201.here hx rfl (pc0 := 199) (pc' := 206) rfl (hb hby at_199) rfl (tlt (by decide : (2 : Int32) < (4 : Int32))).2.2.1 (by decide) (by decide) kK) ?_
      show OwnFin p e below _ (T201.setTop (mkF m 206 #[.val (.int k), .val (.ref b1), .val (.int (8 : Int32)), .val (.ref v8), .val (.int (0 : Int32)), .val (.int (0 : Int32)), .val (.int (50 : Int32)), .val (.int (0 : Int32)), .unset] []))
      refine OwnFin.step (fun tT kK => XS.iconst X201.here hx rfl (hb hby at_206) kK) ?_
      show OwnFin p e below _ (T201.setTop (mkF m 207 #[.val (.int k), .val (.ref b1), .val (.int (8 : Int32)), .val (.ref v8), .val (.int (0 : Int32)), .val (.int (0 : Int32)), .val (.int (50 : Int32)), .val (.int (0 : Int32)), .unset] [(.int (0 : Int32))]))
      refine OwnFin.step (fun tT kK => XS.istore X201.here hx rfl (hb hby at_207) rfl (l' := #[.val (.int k), .val (.ref b1), .val (.int (8 : Int32)), .val (.ref v8), .val (.int (0 : Int32)), .val (.int (0 : Int32)), .val (.int (50 : Int32)), .val (.int (0 : Int32)), .val (.int (0 : Int32))]) rfl kK) ?_
      show OwnFin p e below _ (T201.setTop (mkF m 209 #[.val (.int k), .val (.ref b1), .val (.int (8 : Int32)), .val (.ref v8), .val (.int (0 : Int32)), .val (.int (0 : Int32)), .val (.int (50 : Int32)), .val (.int (0 : Int32)), .val (.int (0 : Int32))] []))
      refine OwnFin.step (fun tT kK => XS.iload X201.here hx rfl (hb hby at_209) rfl kK) ?_
      show OwnFin p e below _ (T201.setTop (mkF m 211 #[.val (.int k), .val (.ref b1), .val (.int (8 : Int32)), .val (.ref v8), .val (.int (0 : Int32)), .val (.int (0 : Int32)), .val (.int (50 : Int32)), .val (.int (0 : Int32)), .val (.int (0 : Int32))] [(.int (0 : Int32))]))
      refine OwnFin.step (fun tT kK => XS.iload X201.here hx rfl (hb hby at_211) rfl kK) ?_
      show OwnFin p e below _ (T201.setTop (mkF m 213 #[.val (.int k), .val (.ref b1), .val (.int (8 : Int32)), .val (.ref v8), .val (.int (0 : Int32)), .val (.int (0 : Int32)), .val (.int (50 : Int32)), .val (.int (0 : Int32)), .val (.int (0 : Int32))] [(.int (0 : Int32)), (.int (0 : Int32))]))
      refine OwnFin.step (fun tT kK => XS.icmpNo X201.here hx rfl (hb hby at_213) rfl (teq (rfl : (0 : Int32) = (0 : Int32))).2 kK) ?_
      show OwnFin p e below _ (T201.setTop (mkF m 216 #[.val (.int k), .val (.ref b1), .val (.int (8 : Int32)), .val (.ref v8), .val (.int (0 : Int32)), .val (.int (0 : Int32)), .val (.int (50 : Int32)), .val (.int (0 : Int32)), .val (.int (0 : Int32))] []))
      refine OwnFin.step (fun tT kK => XS.iload X201.here hx rfl (hb hby at_216) rfl kK) ?_
      show OwnFin p e below _ (T201.setTop (mkF m 218 #[.val (.int k), .val (.ref b1), .val (.int (8 : Int32)), .val (.ref v8), .val (.int (0 : Int32)), .val (.int (0 : Int32)), .val (.int (50 : Int32)), .val (.int (0 : Int32)), .val (.int (0 : Int32))] [(.int (0 : Int32))]))
      refine OwnFin.step (fun tT kK => XS.iload X201.here hx rfl (hb hby at_218) rfl kK) ?_
      show OwnFin p e below _ (T201.setTop (mkF m 220 #[.val (.int k), .val (.ref b1), .val (.int (8 : Int32)), .val (.ref v8), .val (.int (0 : Int32)), .val (.int (0 : Int32)), .val (.int (50 : Int32)), .val (.int (0 : Int32)), .val (.int (0 : Int32))] [(.int (0 : Int32)), (.int (0 : Int32))]))
      refine OwnFin.step (fun tT kK => XS.icmpNo X201.here hx rfl (hb hby at_220) rfl (teq (rfl : (0 : Int32) = (0 : Int32))).2 kK) ?_
      show OwnFin p e below _ (T201.setTop (mkF m 223 #[.val (.int k), .val (.ref b1), .val (.int (8 : Int32)), .val (.ref v8), .val (.int (0 : Int32)), .val (.int (0 : Int32)), .val (.int (50 : Int32)), .val (.int (0 : Int32)), .val (.int (0 : Int32))] []))
      refine OwnFin.step (fun tT kK => XS.iload X201.here hx rfl (hb hby at_223) rfl kK) ?_
      show OwnFin p e below _ (T201.setTop (mkF m 225 #[.val (.int k), .val (.ref b1), .val (.int (8 : Int32)), .val (.ref v8), .val (.int (0 : Int32)), .val (.int (0 : Int32)), .val (.int (50 : Int32)), .val (.int (0 : Int32)), .val (.int (0 : Int32))] [(.int (0 : Int32))]))
      refine OwnFin.step (fun tT kK => XS.iload X201.here hx rfl (hb hby at_225) rfl kK) ?_
      show OwnFin p e below _ (T201.setTop (mkF m 227 #[.val (.int k), .val (.ref b1), .val (.int (8 : Int32)), .val (.ref v8), .val (.int (0 : Int32)), .val (.int (0 : Int32)), .val (.int (50 : Int32)), .val (.int (0 : Int32)), .val (.int (0 : Int32))] [(.int (0 : Int32)), (.int (0 : Int32))]))
      refine OwnFin.step (fun tT kK => XS.icmpNo X201.here hx rfl (hb hby at_227) rfl (teq (rfl : (0 : Int32) = (0 : Int32))).2 kK) ?_
      show OwnFin p e below _ (T201.setTop (mkF m 230 #[.val (.int k), .val (.ref b1), .val (.int (8 : Int32)), .val (.ref v8), .val (.int (0 : Int32)), .val (.int (0 : Int32)), .val (.int (50 : Int32)), .val (.int (0 : Int32)), .val (.int (0 : Int32))] []))
      refine OwnFin.step (fun tT kK => XS.iconst X201.here hx rfl (hb hby at_230) kK) ?_
      show OwnFin p e below _ (T201.setTop (mkF m 231 #[.val (.int k), .val (.ref b1), .val (.int (8 : Int32)), .val (.ref v8), .val (.int (0 : Int32)), .val (.int (0 : Int32)), .val (.int (50 : Int32)), .val (.int (0 : Int32)), .val (.int (0 : Int32))] [(.int (1 : Int32))]))
      refine OwnFin.step (fun tT kK => XS.goto X201.here hx rfl (pc0 := 231) (pc' := 235) rfl (hb hby at_231) (by decide) (by decide) kK) ?_
      show OwnFin p e below _ (T201.setTop (mkF m 235 #[.val (.int k), .val (.ref b1), .val (.int (8 : Int32)), .val (.ref v8), .val (.int (0 : Int32)), .val (.int (0 : Int32)), .val (.int (50 : Int32)), .val (.int (0 : Int32)), .val (.int (0 : Int32))] [(.int (1 : Int32))]))
      obtain ⟨fs202, hr202, hrun202, hended202, hW202, hsame202⟩ := X201.leave (v := (some (.int (1 : Int32)))) (fun h => by rw [Bd.returns] at h; cases h)
      refine ⟨_, _, retN X201 hx (t := .boolean) Bd.returns (by simp) (hb hby at_235) hr202, hrun202, hended202, _, _, rfl, ?_, ⟨_, rfl⟩, hW202, hsame202.mono (by decide) (by decide)⟩
      show Q0 Z k v0 v1 v2 v3 v4 v5 v6 v7 v8 v9 v10 v11 v12 v13 v14 v15 v16 v17 v18 h0 n0 _ T201.heap _
      rw [e201]
      exact ⟨rfl, N201, Kp116⟩
    · skip
      show OwnFin p e below _ (T139.setTop (mkF m 141 #[.val (.int k), .val (.ref b1), .val (.int (9 : Int32)), .unset, .unset, .unset, .unset, .unset, .unset] []))
      refine OwnFin.step (fun tT kK => XS.aloadN X139.here hx rfl (hb hby at_141) rfl rfl kK) ?_
      show OwnFin p e below _ (T139.setTop (mkF m 142 #[.val (.int k), .val (.ref b1), .val (.int (9 : Int32)), .unset, .unset, .unset, .unset, .unset, .unset] [(.ref b1)]))
      refine OwnFin.step (fun tT kK => XS.iloadN X139.here hx rfl (hb hby at_142) rfl kK) ?_
      show OwnFin p e below _ (T139.setTop (mkF m 143 #[.val (.int k), .val (.ref b1), .val (.int (9 : Int32)), .unset, .unset, .unset, .unset, .unset, .unset] [(.int (9 : Int32)), (.ref b1)]))
      obtain ⟨cl203, Ar203, q203, Sz203, Ng203, H203, G203⟩ := id V115
      have hin203 : ¬ ((9 : Int32) < 0 ∨ cl203.slots.size ≤ ((9 : Int32)).toNatClampNeg) := inb_of Sz203 ⟨by decide, by decide⟩
      refine OwnFin.step (fun tT kK => X139.aaload hx (j := (9 : Int32)) (v := (.ref v9)) (by rw [e139]; exact Ar203.1) (State.isArrayOf_alike hZ.alike Ar203.2.1) rfl Ar203.2.2 hin203 (H203.at hin203 rfl) (g := (mkF m 143 #[.val (.int k), .val (.ref b1), .val (.int (9 : Int32)), .unset, .unset, .unset, .unset, .unset, .unset] [(.int (9 : Int32)), (.ref b1)])) rfl rfl (hb hby at_143) _ kK) ?_
      show OwnFin p e below _ (T139.setTop (mkF m 144 #[.val (.int k), .val (.ref b1), .val (.int (9 : Int32)), .unset, .unset, .unset, .unset, .unset, .unset] [(.ref v9)]))
      refine OwnFin.step (fun tT kK => XS.astoreN X139.here hx rfl (hb hby at_144) rfl rfl (l' := #[.val (.int k), .val (.ref b1), .val (.int (9 : Int32)), .val (.ref v9), .unset, .unset, .unset, .unset, .unset]) rfl kK) ?_
      show OwnFin p e below _ (T139.setTop (mkF m 145 #[.val (.int k), .val (.ref b1), .val (.int (9 : Int32)), .val (.ref v9), .unset, .unset, .unset, .unset, .unset] []))
      refine OwnFin.step (fun tT kK => XS.aloadN X139.here hx rfl (hb hby at_145) rfl rfl kK) ?_
      show OwnFin p e below _ (T139.setTop (mkF m 146 #[.val (.int k), .val (.ref b1), .val (.int (9 : Int32)), .val (.ref v9), .unset, .unset, .unset, .unset, .unset] [(.ref v9)]))
      obtain ⟨cq204, kq204, q204a, q204b, q204c⟩ := isOf hZ e139 f126
      obtain ⟨_, _, ⟨T204, L204, k204, n204⟩, -, X204, ⟨Lc204, hQ204, l204, y204, z204⟩, st204⟩ := X139.virtualBack hx (y := (⟨"com/example/cairn/cairn/engine/BinaryOperator", "shortCircuits", "()Z"⟩ : MethodName)) (z := (⟨"com/example/cairn/cairn/engine/BinaryOperator", "shortCircuits", "()Z"⟩ : MethodName)) hown (mvT hZ (hw _ (List.mem_of_getElem? (i := 43) rfl))) (mvT hZ (hw _ (List.mem_of_getElem? (i := 44) rfl))) (notFace_of_selects (args := #[]) (mvT hZ (hw _ (List.mem_of_getElem? (i := 46) rfl)))) (mvT hZ (hw _ (List.mem_of_getElem? (i := 46) rfl))) (mvT hZ (hw _ (List.mem_of_getElem? (i := 45) rfl))) (by decide) (backOf (W := 0) (rm1 l Z a0 hw [] v9 v1 v0 h115 n0 (Nat.le_trans Z0 Kp116.1) f136 f137) hZ (hw _ (List.mem_of_getElem? (i := 47) rfl)) (hw _ (List.mem_of_getElem? (i := 3) rfl)) (by decide) (by decide)) q204a q204c (g := (mkF m 146 #[.val (.int k), .val (.ref b1), .val (.int (9 : Int32)), .val (.ref v9), .unset, .unset, .unset, .unset, .unset] [(.ref v9)])) rfl (by rw [hml]; rfl) (Steps.refl _) (argsL := []) (rest := []) (lenOf pd_18 rfl) rfl (by show 2 * 0 + _ ≤ _; exact Nat.le_of_eq rfl) (hb hby at_146) (fun _ _ => ⟨rfl, e139, (by decide : 1 + 0 ≤ _), (by decide : 19 + 0 ≤ _)⟩)
      dsimp only [Pt.U, Pt.locs, Pt.cells, Pt.slots] at X204 l204 y204 z204 st204 hQ204
      subst l204 y204 z204
      obtain ⟨rfl, N204q, e204⟩ := hQ204
      have N204 := Fr.app N139 N204q
      refine OwnFin.step (fun tT kK => st204.trans kK) ?_
      show OwnFin p e below _ (T204.setTop (mkF m 149 #[.val (.int k), .val (.ref b1), .val (.int (9 : Int32)), .val (.ref v9), .unset, .unset, .unset, .unset, .unset] [(.int (if v9 = v1 ∨ v9 = v0 then 1 else 0))]))
      rw [show (if v9 = v1 ∨ v9 = v0 then (1 : Int32) else 0) = 0 from if_neg (fun q => q.elim hp91 hp90)]
      show OwnFin p e below _ (T204.setTop (mkF m 149 #[.val (.int k), .val (.ref b1), .val (.int (9 : Int32)), .val (.ref v9), .unset, .unset, .unset, .unset, .unset] [(.int (0 : Int32))]))
      refine OwnFin.step (fun tT kK => XS.istore X204.here hx rfl (hb hby at_149) rfl (l' := #[.val (.int k), .val (.ref b1), .val (.int (9 : Int32)), .val (.ref v9), .val (.int (0 : Int32)), .unset, .unset, .unset, .unset]) rfl kK) ?_
      show OwnFin p e below _ (T204.setTop (mkF m 151 #[.val (.int k), .val (.ref b1), .val (.int (9 : Int32)), .val (.ref v9), .val (.int (0 : Int32)), .unset, .unset, .unset, .unset] []))
      refine OwnFin.step (fun tT kK => XS.iloadN X204.here hx rfl (hb hby at_151) rfl kK) ?_
      show OwnFin p e below _ (T204.setTop (mkF m 152 #[.val (.int k), .val (.ref b1), .val (.int (9 : Int32)), .val (.ref v9), .val (.int (0 : Int32)), .unset, .unset, .unset, .unset] [(.int (9 : Int32))]))
      refine OwnFin.step (fun tT kK => XS.ifNo X204.here hx rfl (hb hby at_152) rfl ((if0 _ _).trans (feq (by decide : ¬ ((9 : Int32) = (0 : Int32)))).1) kK) ?_
      show OwnFin p e below _ (T204.setTop (mkF m 155 #[.val (.int k), .val (.ref b1), .val (.int (9 : Int32)), .val (.ref v9), .val (.int (0 : Int32)), .unset, .unset, .unset, .unset] []))
      refine OwnFin.step (fun tT kK => XS.iloadN X204.here hx rfl (hb hby at_155) rfl kK) ?_
      show OwnFin p e below _ (T204.setTop (mkF m 156 #[.val (.int k), .val (.ref b1), .val (.int (9 : Int32)), .val (.ref v9), .val (.int (0 : Int32)), .unset, .unset, .unset, .unset] [(.int (9 : Int32))]))
      refine OwnFin.step (fun tT kK => XS.iconst X204.here hx rfl (hb hby at_156) kK) ?_
      show OwnFin p e below _ (T204.setTop (mkF m 157 #[.val (.int k), .val (.ref b1), .val (.int (9 : Int32)), .val (.ref v9), .val (.int (0 : Int32)), .unset, .unset, .unset, .unset] [(.int (1 : Int32)), (.int (9 : Int32))]))
      refine OwnFin.step (fun tT kK => XS.icmpYes X204.here hx rfl (pc0 := 157) (pc' := 164) rfl (hb hby at_157) rfl (feq (by decide : ¬ ((9 : Int32) = (1 : Int32)))).2 (by decide) (by decide) kK) ?_
      show OwnFin p e below _ (T204.setTop (mkF m 164 #[.val (.int k), .val (.ref b1), .val (.int (9 : Int32)), .val (.ref v9), .val (.int (0 : Int32)), .unset, .unset, .unset, .unset] []))
      refine OwnFin.step (fun tT kK => XS.iconst X204.here hx rfl (hb hby at_164) kK) ?_
      show OwnFin p e below _ (T204.setTop (mkF m 165 #[.val (.int k), .val (.ref b1), .val (.int (9 : Int32)), .val (.ref v9), .val (.int (0 : Int32)), .unset, .unset, .unset, .unset] [(.int (0 : Int32))]))
      refine OwnFin.step (fun tT kK => XS.istore X204.here hx rfl (hb hby at_165) rfl (l' := #[.val (.int k), .val (.ref b1), .val (.int (9 : Int32)), .val (.ref v9), .val (.int (0 : Int32)), .val (.int (0 : Int32)), .unset, .unset, .unset]) rfl kK) ?_
      show OwnFin p e below _ (T204.setTop (mkF m 167 #[.val (.int k), .val (.ref b1), .val (.int (9 : Int32)), .val (.ref v9), .val (.int (0 : Int32)), .val (.int (0 : Int32)), .unset, .unset, .unset] []))
      refine OwnFin.step (fun tT kK => XS.aloadN X204.here hx rfl (hb hby at_167) rfl rfl kK) ?_
      show OwnFin p e below _ (T204.setTop (mkF m 168 #[.val (.int k), .val (.ref b1), .val (.int (9 : Int32)), .val (.ref v9), .val (.int (0 : Int32)), .val (.int (0 : Int32)), .unset, .unset, .unset] [(.ref v9)]))
      have f205 : Fld Z h115 v9 "com/example/cairn/cairn/engine/BinaryOperator" "opcode" "I" (.int (51 : Int32)) := (hp47.keep Kp116 nin0)
      obtain ⟨cq206, kq206, q206a, q206b, q206c⟩ := isOf hZ e204 f126
      obtain ⟨_, _, ⟨T206, L206, k206, n206⟩, -, X206, ⟨Lc206, hQ206, l206, y206, z206⟩, st206⟩ := X204.virtualBack hx (y := (⟨"com/example/cairn/cairn/engine/BinaryOperator", "opcode", "()I"⟩ : MethodName)) (z := (⟨"com/example/cairn/cairn/engine/BinaryOperator", "opcode", "()I"⟩ : MethodName)) hown (mvT hZ (hw _ (List.mem_of_getElem? (i := 50) rfl))) (mvT hZ (hw _ (List.mem_of_getElem? (i := 51) rfl))) (notFace_of_selects (args := #[]) (mvT hZ (hw _ (List.mem_of_getElem? (i := 53) rfl)))) (mvT hZ (hw _ (List.mem_of_getElem? (i := 53) rfl))) (mvT hZ (hw _ (List.mem_of_getElem? (i := 52) rfl))) (by decide) (backOf (W := 0) (rm2 l Z a0 hw [] v9 (51 : Int32) h115 n0 (Nat.le_trans Z0 Kp116.1) f205) hZ (hw _ (List.mem_of_getElem? (i := 54) rfl)) (hw _ (List.mem_of_getElem? (i := 3) rfl)) (by decide) (by decide)) q206a q206c (g := (mkF m 168 #[.val (.int k), .val (.ref b1), .val (.int (9 : Int32)), .val (.ref v9), .val (.int (0 : Int32)), .val (.int (0 : Int32)), .unset, .unset, .unset] [(.ref v9)])) rfl (by rw [hml]; rfl) (Steps.refl _) (argsL := []) (rest := []) (lenOf pd_19 rfl) rfl (by show 2 * 0 + _ ≤ _; exact Nat.le_of_eq rfl) (hb hby at_168) (fun _ _ => ⟨rfl, e204, (by decide : 1 + 0 ≤ _), (by decide : 19 + 0 ≤ _)⟩)
      dsimp only [Pt.U, Pt.locs, Pt.cells, Pt.slots] at X206 l206 y206 z206 st206 hQ206
      subst l206 y206 z206
      obtain ⟨rfl, N206q, e206⟩ := hQ206
      have N206 := Fr.app N204 N206q
      refine OwnFin.step (fun tT kK => st206.trans kK) ?_
      show OwnFin p e below _ (T206.setTop (mkF m 171 #[.val (.int k), .val (.ref b1), .val (.int (9 : Int32)), .val (.ref v9), .val (.int (0 : Int32)), .val (.int (0 : Int32)), .unset, .unset, .unset] [(.int (51 : Int32))]))
      refine OwnFin.step (fun tT kK => XS.istore X206.here hx rfl (hb hby at_171) rfl (l' := #[.val (.int k), .val (.ref b1), .val (.int (9 : Int32)), .val (.ref v9), .val (.int (0 : Int32)), .val (.int (0 : Int32)), .val (.int (51 : Int32)), .unset, .unset]) rfl kK) ?_
      show OwnFin p e below _ (T206.setTop (mkF m 173 #[.val (.int k), .val (.ref b1), .val (.int (9 : Int32)), .val (.ref v9), .val (.int (0 : Int32)), .val (.int (0 : Int32)), .val (.int (51 : Int32)), .unset, .unset] []))
      refine OwnFin.step (fun tT kK => XS.iload X206.here hx rfl (hb hby at_173) rfl kK) ?_
      show OwnFin p e below _ (T206.setTop (mkF m 175 #[.val (.int k), .val (.ref b1), .val (.int (9 : Int32)), .val (.ref v9), .val (.int (0 : Int32)), .val (.int (0 : Int32)), .val (.int (51 : Int32)), .unset, .unset] [(.int (51 : Int32))]))
      refine OwnFin.step (fun tT kK => XS.bipush X206.here hx rfl (hb hby at_175) kK) ?_
      show OwnFin p e below _ (T206.setTop (mkF m 177 #[.val (.int k), .val (.ref b1), .val (.int (9 : Int32)), .val (.ref v9), .val (.int (0 : Int32)), .val (.int (0 : Int32)), .val (.int (51 : Int32)), .unset, .unset] [(.int (37 : Int32)), (.int (51 : Int32))]))
      refine OwnFin.step (fun tT kK => XS.icmpNo X206.here hx rfl (hb hby at_177) rfl (feq (by decide : ¬ ((51 : Int32) = (37 : Int32)))).1 kK) ?_
      show OwnFin p e below _ (T206.setTop (mkF m 180 #[.val (.int k), .val (.ref b1), .val (.int (9 : Int32)), .val (.ref v9), .val (.int (0 : Int32)), .val (.int (0 : Int32)), .val (.int (51 : Int32)), .unset, .unset] []))
      refine OwnFin.step (fun tT kK => XS.iload X206.here hx rfl (hb hby at_180) rfl kK) ?_
      show OwnFin p e below _ (T206.setTop (mkF m 182 #[.val (.int k), .val (.ref b1), .val (.int (9 : Int32)), .val (.ref v9), .val (.int (0 : Int32)), .val (.int (0 : Int32)), .val (.int (51 : Int32)), .unset, .unset] [(.int (51 : Int32))]))
      refine OwnFin.step (fun tT kK => XS.bipush X206.here hx rfl (hb hby at_182) kK) ?_
      show OwnFin p e below _ (T206.setTop (mkF m 184 #[.val (.int k), .val (.ref b1), .val (.int (9 : Int32)), .val (.ref v9), .val (.int (0 : Int32)), .val (.int (0 : Int32)), .val (.int (51 : Int32)), .unset, .unset] [(.int (38 : Int32)), (.int (51 : Int32))]))
      refine OwnFin.step (fun tT kK => XS.icmpYes X206.here hx rfl (pc0 := 184) (pc' := 191) rfl (hb hby at_184) rfl (feq (by decide : ¬ ((51 : Int32) = (38 : Int32)))).2 (by decide) (by decide) kK) ?_
      show OwnFin p e below _ (T206.setTop (mkF m 191 #[.val (.int k), .val (.ref b1), .val (.int (9 : Int32)), .val (.ref v9), .val (.int (0 : Int32)), .val (.int (0 : Int32)), .val (.int (51 : Int32)), .unset, .unset] []))
      refine OwnFin.step (fun tT kK => XS.iconst X206.here hx rfl (hb hby at_191) kK) ?_
      show OwnFin p e below _ (T206.setTop (mkF m 192 #[.val (.int k), .val (.ref b1), .val (.int (9 : Int32)), .val (.ref v9), .val (.int (0 : Int32)), .val (.int (0 : Int32)), .val (.int (51 : Int32)), .unset, .unset] [(.int (0 : Int32))]))
      refine OwnFin.step (fun tT kK => XS.istore X206.here hx rfl (hb hby at_192) rfl (l' := #[.val (.int k), .val (.ref b1), .val (.int (9 : Int32)), .val (.ref v9), .val (.int (0 : Int32)), .val (.int (0 : Int32)), .val (.int (51 : Int32)), .val (.int (0 : Int32)), .unset]) rfl kK) ?_
      show OwnFin p e below _ (T206.setTop (mkF m 194 #[.val (.int k), .val (.ref b1), .val (.int (9 : Int32)), .val (.ref v9), .val (.int (0 : Int32)), .val (.int (0 : Int32)), .val (.int (51 : Int32)), .val (.int (0 : Int32)), .unset] []))
      refine OwnFin.step (fun tT kK => XS.aloadN X206.here hx rfl (hb hby at_194) rfl rfl kK) ?_
      show OwnFin p e below _ (T206.setTop (mkF m 195 #[.val (.int k), .val (.ref b1), .val (.int (9 : Int32)), .val (.ref v9), .val (.int (0 : Int32)), .val (.int (0 : Int32)), .val (.int (51 : Int32)), .val (.int (0 : Int32)), .unset] [(.ref v9)]))
      have f207 : Fld Z h115 v9 "com/example/cairn/cairn/engine/BinaryOperator" "precedence" "I" (.int (5 : Int32)) := (hp66.keep Kp116 nin0)
      obtain ⟨cq208, kq208, q208a, q208b, q208c⟩ := isOf hZ e206 f126
      obtain ⟨_, _, ⟨T208, L208, k208, n208⟩, -, X208, ⟨Lc208, hQ208, l208, y208, z208⟩, st208⟩ := X206.virtualBack hx (y := (⟨"com/example/cairn/cairn/engine/BinaryOperator", "precedence", "()I"⟩ : MethodName)) (z := (⟨"com/example/cairn/cairn/engine/BinaryOperator", "precedence", "()I"⟩ : MethodName)) hown (mvT hZ (hw _ (List.mem_of_getElem? (i := 57) rfl))) (mvT hZ (hw _ (List.mem_of_getElem? (i := 58) rfl))) (notFace_of_selects (args := #[]) (mvT hZ (hw _ (List.mem_of_getElem? (i := 60) rfl)))) (mvT hZ (hw _ (List.mem_of_getElem? (i := 60) rfl))) (mvT hZ (hw _ (List.mem_of_getElem? (i := 59) rfl))) (by decide) (backOf (W := 0) (rm3 l Z a0 hw [] v9 (5 : Int32) h115 n0 (Nat.le_trans Z0 Kp116.1) f207) hZ (hw _ (List.mem_of_getElem? (i := 61) rfl)) (hw _ (List.mem_of_getElem? (i := 3) rfl)) (by decide) (by decide)) q208a q208c (g := (mkF m 195 #[.val (.int k), .val (.ref b1), .val (.int (9 : Int32)), .val (.ref v9), .val (.int (0 : Int32)), .val (.int (0 : Int32)), .val (.int (51 : Int32)), .val (.int (0 : Int32)), .unset] [(.ref v9)])) rfl (by rw [hml]; rfl) (Steps.refl _) (argsL := []) (rest := []) (lenOf pd_19 rfl) rfl (by show 2 * 0 + _ ≤ _; exact Nat.le_of_eq rfl) (hb hby at_195) (fun _ _ => ⟨rfl, e206, (by decide : 1 + 0 ≤ _), (by decide : 19 + 0 ≤ _)⟩)
      dsimp only [Pt.U, Pt.locs, Pt.cells, Pt.slots] at X208 l208 y208 z208 st208 hQ208
      subst l208 y208 z208
      obtain ⟨rfl, N208q, e208⟩ := hQ208
      have N208 := Fr.app N206 N208q
      refine OwnFin.step (fun tT kK => st208.trans kK) ?_
      show OwnFin p e below _ (T208.setTop (mkF m 198 #[.val (.int k), .val (.ref b1), .val (.int (9 : Int32)), .val (.ref v9), .val (.int (0 : Int32)), .val (.int (0 : Int32)), .val (.int (51 : Int32)), .val (.int (0 : Int32)), .unset] [(.int (5 : Int32))]))
      refine OwnFin.step (fun tT kK => XS.iconst X208.here hx rfl (hb hby at_198) kK) ?_
      show OwnFin p e below _ (T208.setTop (mkF m 199 #[.val (.int k), .val (.ref b1), .val (.int (9 : Int32)), .val (.ref v9), .val (.int (0 : Int32)), .val (.int (0 : Int32)), .val (.int (51 : Int32)), .val (.int (0 : Int32)), .unset] [(.int (2 : Int32)), (.int (5 : Int32))]))
      refine OwnFin.step (fun tT kK => XS.icmpYes X208.here hx rfl (pc0 := 199) (pc' := 206) rfl (hb hby at_199) rfl (tlt (by decide : (2 : Int32) < (5 : Int32))).2.2.1 (by decide) (by decide) kK) ?_
      show OwnFin p e below _ (T208.setTop (mkF m 206 #[.val (.int k), .val (.ref b1), .val (.int (9 : Int32)), .val (.ref v9), .val (.int (0 : Int32)), .val (.int (0 : Int32)), .val (.int (51 : Int32)), .val (.int (0 : Int32)), .unset] []))
      refine OwnFin.step (fun tT kK => XS.iconst X208.here hx rfl (hb hby at_206) kK) ?_
      show OwnFin p e below _ (T208.setTop (mkF m 207 #[.val (.int k), .val (.ref b1), .val (.int (9 : Int32)), .val (.ref v9), .val (.int (0 : Int32)), .val (.int (0 : Int32)), .val (.int (51 : Int32)), .val (.int (0 : Int32)), .unset] [(.int (0 : Int32))]))
      refine OwnFin.step (fun tT kK => XS.istore X208.here hx rfl (hb hby at_207) rfl (l' := #[.val (.int k), .val (.ref b1), .val (.int (9 : Int32)), .val (.ref v9), .val (.int (0 : Int32)), .val (.int (0 : Int32)), .val (.int (51 : Int32)), .val (.int (0 : Int32)), .val (.int (0 : Int32))]) rfl kK) ?_
      show OwnFin p e below _ (T208.setTop (mkF m 209 #[.val (.int k), .val (.ref b1), .val (.int (9 : Int32)), .val (.ref v9), .val (.int (0 : Int32)), .val (.int (0 : Int32)), .val (.int (51 : Int32)), .val (.int (0 : Int32)), .val (.int (0 : Int32))] []))
      refine OwnFin.step (fun tT kK => XS.iload X208.here hx rfl (hb hby at_209) rfl kK) ?_
      show OwnFin p e below _ (T208.setTop (mkF m 211 #[.val (.int k), .val (.ref b1), .val (.int (9 : Int32)), .val (.ref v9), .val (.int (0 : Int32)), .val (.int (0 : Int32)), .val (.int (51 : Int32)), .val (.int (0 : Int32)), .val (.int (0 : Int32))] [(.int (0 : Int32))]))
      refine OwnFin.step (fun tT kK => XS.iload X208.here hx rfl (hb hby at_211) rfl kK) ?_
      show OwnFin p e below _ (T208.setTop (mkF m 213 #[.val (.int k), .val (.ref b1), .val (.int (9 : Int32)), .val (.ref v9), .val (.int (0 : Int32)), .val (.int (0 : Int32)), .val (.int (51 : Int32)), .val (.int (0 : Int32)), .val (.int (0 : Int32))] [(.int (0 : Int32)), (.int (0 : Int32))]))
      refine OwnFin.step (fun tT kK => XS.icmpNo X208.here hx rfl (hb hby at_213) rfl (teq (rfl : (0 : Int32) = (0 : Int32))).2 kK) ?_
      show OwnFin p e below _ (T208.setTop (mkF m 216 #[.val (.int k), .val (.ref b1), .val (.int (9 : Int32)), .val (.ref v9), .val (.int (0 : Int32)), .val (.int (0 : Int32)), .val (.int (51 : Int32)), .val (.int (0 : Int32)), .val (.int (0 : Int32))] []))
      refine OwnFin.step (fun tT kK => XS.iload X208.here hx rfl (hb hby at_216) rfl kK) ?_
      show OwnFin p e below _ (T208.setTop (mkF m 218 #[.val (.int k), .val (.ref b1), .val (.int (9 : Int32)), .val (.ref v9), .val (.int (0 : Int32)), .val (.int (0 : Int32)), .val (.int (51 : Int32)), .val (.int (0 : Int32)), .val (.int (0 : Int32))] [(.int (0 : Int32))]))
      refine OwnFin.step (fun tT kK => XS.iload X208.here hx rfl (hb hby at_218) rfl kK) ?_
      show OwnFin p e below _ (T208.setTop (mkF m 220 #[.val (.int k), .val (.ref b1), .val (.int (9 : Int32)), .val (.ref v9), .val (.int (0 : Int32)), .val (.int (0 : Int32)), .val (.int (51 : Int32)), .val (.int (0 : Int32)), .val (.int (0 : Int32))] [(.int (0 : Int32)), (.int (0 : Int32))]))
      refine OwnFin.step (fun tT kK => XS.icmpNo X208.here hx rfl (hb hby at_220) rfl (teq (rfl : (0 : Int32) = (0 : Int32))).2 kK) ?_
      show OwnFin p e below _ (T208.setTop (mkF m 223 #[.val (.int k), .val (.ref b1), .val (.int (9 : Int32)), .val (.ref v9), .val (.int (0 : Int32)), .val (.int (0 : Int32)), .val (.int (51 : Int32)), .val (.int (0 : Int32)), .val (.int (0 : Int32))] []))
      refine OwnFin.step (fun tT kK => XS.iload X208.here hx rfl (hb hby at_223) rfl kK) ?_
      show OwnFin p e below _ (T208.setTop (mkF m 225 #[.val (.int k), .val (.ref b1), .val (.int (9 : Int32)), .val (.ref v9), .val (.int (0 : Int32)), .val (.int (0 : Int32)), .val (.int (51 : Int32)), .val (.int (0 : Int32)), .val (.int (0 : Int32))] [(.int (0 : Int32))]))
      refine OwnFin.step (fun tT kK => XS.iload X208.here hx rfl (hb hby at_225) rfl kK) ?_
      show OwnFin p e below _ (T208.setTop (mkF m 227 #[.val (.int k), .val (.ref b1), .val (.int (9 : Int32)), .val (.ref v9), .val (.int (0 : Int32)), .val (.int (0 : Int32)), .val (.int (51 : Int32)), .val (.int (0 : Int32)), .val (.int (0 : Int32))] [(.int (0 : Int32)), (.int (0 : Int32))]))
      refine OwnFin.step (fun tT kK => XS.icmpNo X208.here hx rfl (hb hby at_227) rfl (teq (rfl : (0 : Int32) = (0 : Int32))).2 kK) ?_
      show OwnFin p e below _ (T208.setTop (mkF m 230 #[.val (.int k), .val (.ref b1), .val (.int (9 : Int32)), .val (.ref v9), .val (.int (0 : Int32)), .val (.int (0 : Int32)), .val (.int (51 : Int32)), .val (.int (0 : Int32)), .val (.int (0 : Int32))] []))
      refine OwnFin.step (fun tT kK => XS.iconst X208.here hx rfl (hb hby at_230) kK) ?_
      show OwnFin p e below _ (T208.setTop (mkF m 231 #[.val (.int k), .val (.ref b1), .val (.int (9 : Int32)), .val (.ref v9), .val (.int (0 : Int32)), .val (.int (0 : Int32)), .val (.int (51 : Int32)), .val (.int (0 : Int32)), .val (.int (0 : Int32))] [(.int (1 : Int32))]))
      refine OwnFin.step (fun tT kK => XS.goto X208.here hx rfl (pc0 := 231) (pc' := 235) rfl (hb hby at_231) (by decide) (by decide) kK) ?_
      show OwnFin p e below _ (T208.setTop (mkF m 235 #[.val (.int k), .val (.ref b1), .val (.int (9 : Int32)), .val (.ref v9), .val (.int (0 : Int32)), .val (.int (0 : Int32)), .val (.int (51 : Int32)), .val (.int (0 : Int32)), .val (.int (0 : Int32))] [(.int (1 : Int32))]))
      obtain ⟨fs209, hr209, hrun209, hended209, hW209, hsame209⟩ := X208.leave (v := (some (.int (1 : Int32)))) (fun h => by rw [Bd.returns] at h; cases h)
      refine ⟨_, _, retN X208 hx (t := .boolean) Bd.returns (by simp) (hb hby at_235) hr209, hrun209, hended209, _, _, rfl, ?_, ⟨_, rfl⟩, hW209, hsame209.mono (by decide) (by decide)⟩
      show Q0 Z k v0 v1 v2 v3 v4 v5 v6 v7 v8 v9 v10 v11 v12 v13 v14 v15 v16 v17 v18 h0 n0 _ T208.heap _
      rw [e208]
      exact ⟨rfl, N208, Kp116⟩
    · skip
      show OwnFin p e below _ (T139.setTop (mkF m 141 #[.val (.int k), .val (.ref b1), .val (.int (10 : Int32)), .unset, .unset, .unset, .unset, .unset, .unset] []))
      refine OwnFin.step (fun tT kK => XS.aloadN X139.here hx rfl (hb hby at_141) rfl rfl kK) ?_
      show OwnFin p e below _ (T139.setTop (mkF m 142 #[.val (.int k), .val (.ref b1), .val (.int (10 : Int32)), .unset, .unset, .unset, .unset, .unset, .unset] [(.ref b1)]))
      refine OwnFin.step (fun tT kK => XS.iloadN X139.here hx rfl (hb hby at_142) rfl kK) ?_
      show OwnFin p e below _ (T139.setTop (mkF m 143 #[.val (.int k), .val (.ref b1), .val (.int (10 : Int32)), .unset, .unset, .unset, .unset, .unset, .unset] [(.int (10 : Int32)), (.ref b1)]))
      obtain ⟨cl210, Ar210, q210, Sz210, Ng210, H210, G210⟩ := id V115
      have hin210 : ¬ ((10 : Int32) < 0 ∨ cl210.slots.size ≤ ((10 : Int32)).toNatClampNeg) := inb_of Sz210 ⟨by decide, by decide⟩
      refine OwnFin.step (fun tT kK => X139.aaload hx (j := (10 : Int32)) (v := (.ref v10)) (by rw [e139]; exact Ar210.1) (State.isArrayOf_alike hZ.alike Ar210.2.1) rfl Ar210.2.2 hin210 (H210.at hin210 rfl) (g := (mkF m 143 #[.val (.int k), .val (.ref b1), .val (.int (10 : Int32)), .unset, .unset, .unset, .unset, .unset, .unset] [(.int (10 : Int32)), (.ref b1)])) rfl rfl (hb hby at_143) _ kK) ?_
      show OwnFin p e below _ (T139.setTop (mkF m 144 #[.val (.int k), .val (.ref b1), .val (.int (10 : Int32)), .unset, .unset, .unset, .unset, .unset, .unset] [(.ref v10)]))
      refine OwnFin.step (fun tT kK => XS.astoreN X139.here hx rfl (hb hby at_144) rfl rfl (l' := #[.val (.int k), .val (.ref b1), .val (.int (10 : Int32)), .val (.ref v10), .unset, .unset, .unset, .unset, .unset]) rfl kK) ?_
      show OwnFin p e below _ (T139.setTop (mkF m 145 #[.val (.int k), .val (.ref b1), .val (.int (10 : Int32)), .val (.ref v10), .unset, .unset, .unset, .unset, .unset] []))
      refine OwnFin.step (fun tT kK => XS.aloadN X139.here hx rfl (hb hby at_145) rfl rfl kK) ?_
      show OwnFin p e below _ (T139.setTop (mkF m 146 #[.val (.int k), .val (.ref b1), .val (.int (10 : Int32)), .val (.ref v10), .unset, .unset, .unset, .unset, .unset] [(.ref v10)]))
      obtain ⟨cq211, kq211, q211a, q211b, q211c⟩ := isOf hZ e139 f127
      obtain ⟨_, _, ⟨T211, L211, k211, n211⟩, -, X211, ⟨Lc211, hQ211, l211, y211, z211⟩, st211⟩ := X139.virtualBack hx (y := (⟨"com/example/cairn/cairn/engine/BinaryOperator", "shortCircuits", "()Z"⟩ : MethodName)) (z := (⟨"com/example/cairn/cairn/engine/BinaryOperator", "shortCircuits", "()Z"⟩ : MethodName)) hown (mvT hZ (hw _ (List.mem_of_getElem? (i := 43) rfl))) (mvT hZ (hw _ (List.mem_of_getElem? (i := 44) rfl))) (notFace_of_selects (args := #[]) (mvT hZ (hw _ (List.mem_of_getElem? (i := 46) rfl)))) (mvT hZ (hw _ (List.mem_of_getElem? (i := 46) rfl))) (mvT hZ (hw _ (List.mem_of_getElem? (i := 45) rfl))) (by decide) (backOf (W := 0) (rm1 l Z a0 hw [] v10 v1 v0 h115 n0 (Nat.le_trans Z0 Kp116.1) f136 f137) hZ (hw _ (List.mem_of_getElem? (i := 47) rfl)) (hw _ (List.mem_of_getElem? (i := 3) rfl)) (by decide) (by decide)) q211a q211c (g := (mkF m 146 #[.val (.int k), .val (.ref b1), .val (.int (10 : Int32)), .val (.ref v10), .unset, .unset, .unset, .unset, .unset] [(.ref v10)])) rfl (by rw [hml]; rfl) (Steps.refl _) (argsL := []) (rest := []) (lenOf pd_18 rfl) rfl (by show 2 * 0 + _ ≤ _; exact Nat.le_of_eq rfl) (hb hby at_146) (fun _ _ => ⟨rfl, e139, (by decide : 1 + 0 ≤ _), (by decide : 19 + 0 ≤ _)⟩)
      dsimp only [Pt.U, Pt.locs, Pt.cells, Pt.slots] at X211 l211 y211 z211 st211 hQ211
      subst l211 y211 z211
      obtain ⟨rfl, N211q, e211⟩ := hQ211
      have N211 := Fr.app N139 N211q
      refine OwnFin.step (fun tT kK => st211.trans kK) ?_
      show OwnFin p e below _ (T211.setTop (mkF m 149 #[.val (.int k), .val (.ref b1), .val (.int (10 : Int32)), .val (.ref v10), .unset, .unset, .unset, .unset, .unset] [(.int (if v10 = v1 ∨ v10 = v0 then 1 else 0))]))
      rw [show (if v10 = v1 ∨ v10 = v0 then (1 : Int32) else 0) = 0 from if_neg (fun q => q.elim hp93 hp92)]
      show OwnFin p e below _ (T211.setTop (mkF m 149 #[.val (.int k), .val (.ref b1), .val (.int (10 : Int32)), .val (.ref v10), .unset, .unset, .unset, .unset, .unset] [(.int (0 : Int32))]))
      refine OwnFin.step (fun tT kK => XS.istore X211.here hx rfl (hb hby at_149) rfl (l' := #[.val (.int k), .val (.ref b1), .val (.int (10 : Int32)), .val (.ref v10), .val (.int (0 : Int32)), .unset, .unset, .unset, .unset]) rfl kK) ?_
      show OwnFin p e below _ (T211.setTop (mkF m 151 #[.val (.int k), .val (.ref b1), .val (.int (10 : Int32)), .val (.ref v10), .val (.int (0 : Int32)), .unset, .unset, .unset, .unset] []))
      refine OwnFin.step (fun tT kK => XS.iloadN X211.here hx rfl (hb hby at_151) rfl kK) ?_
      show OwnFin p e below _ (T211.setTop (mkF m 152 #[.val (.int k), .val (.ref b1), .val (.int (10 : Int32)), .val (.ref v10), .val (.int (0 : Int32)), .unset, .unset, .unset, .unset] [(.int (10 : Int32))]))
      refine OwnFin.step (fun tT kK => XS.ifNo X211.here hx rfl (hb hby at_152) rfl ((if0 _ _).trans (feq (by decide : ¬ ((10 : Int32) = (0 : Int32)))).1) kK) ?_
      show OwnFin p e below _ (T211.setTop (mkF m 155 #[.val (.int k), .val (.ref b1), .val (.int (10 : Int32)), .val (.ref v10), .val (.int (0 : Int32)), .unset, .unset, .unset, .unset] []))
      refine OwnFin.step (fun tT kK => XS.iloadN X211.here hx rfl (hb hby at_155) rfl kK) ?_
      show OwnFin p e below _ (T211.setTop (mkF m 156 #[.val (.int k), .val (.ref b1), .val (.int (10 : Int32)), .val (.ref v10), .val (.int (0 : Int32)), .unset, .unset, .unset, .unset] [(.int (10 : Int32))]))
      refine OwnFin.step (fun tT kK => XS.iconst X211.here hx rfl (hb hby at_156) kK) ?_
      show OwnFin p e below _ (T211.setTop (mkF m 157 #[.val (.int k), .val (.ref b1), .val (.int (10 : Int32)), .val (.ref v10), .val (.int (0 : Int32)), .unset, .unset, .unset, .unset] [(.int (1 : Int32)), (.int (10 : Int32))]))
      refine OwnFin.step (fun tT kK => XS.icmpYes X211.here hx rfl (pc0 := 157) (pc' := 164) rfl (hb hby at_157) rfl (feq (by decide : ¬ ((10 : Int32) = (1 : Int32)))).2 (by decide) (by decide) kK) ?_
      show OwnFin p e below _ (T211.setTop (mkF m 164 #[.val (.int k), .val (.ref b1), .val (.int (10 : Int32)), .val (.ref v10), .val (.int (0 : Int32)), .unset, .unset, .unset, .unset] []))
      refine OwnFin.step (fun tT kK => XS.iconst X211.here hx rfl (hb hby at_164) kK) ?_
      show OwnFin p e below _ (T211.setTop (mkF m 165 #[.val (.int k), .val (.ref b1), .val (.int (10 : Int32)), .val (.ref v10), .val (.int (0 : Int32)), .unset, .unset, .unset, .unset] [(.int (0 : Int32))]))
      refine OwnFin.step (fun tT kK => XS.istore X211.here hx rfl (hb hby at_165) rfl (l' := #[.val (.int k), .val (.ref b1), .val (.int (10 : Int32)), .val (.ref v10), .val (.int (0 : Int32)), .val (.int (0 : Int32)), .unset, .unset, .unset]) rfl kK) ?_
      show OwnFin p e below _ (T211.setTop (mkF m 167 #[.val (.int k), .val (.ref b1), .val (.int (10 : Int32)), .val (.ref v10), .val (.int (0 : Int32)), .val (.int (0 : Int32)), .unset, .unset, .unset] []))
      refine OwnFin.step (fun tT kK => XS.aloadN X211.here hx rfl (hb hby at_167) rfl rfl kK) ?_
      show OwnFin p e below _ (T211.setTop (mkF m 168 #[.val (.int k), .val (.ref b1), .val (.int (10 : Int32)), .val (.ref v10), .val (.int (0 : Int32)), .val (.int (0 : Int32)), .unset, .unset, .unset] [(.ref v10)]))
      have f212 : Fld Z h115 v10 "com/example/cairn/cairn/engine/BinaryOperator" "opcode" "I" (.int (49 : Int32)) := (hp48.keep Kp116 nin0)
      obtain ⟨cq213, kq213, q213a, q213b, q213c⟩ := isOf hZ e211 f127
      obtain ⟨_, _, ⟨T213, L213, k213, n213⟩, -, X213, ⟨Lc213, hQ213, l213, y213, z213⟩, st213⟩ := X211.virtualBack hx (y := (⟨"com/example/cairn/cairn/engine/BinaryOperator", "opcode", "()I"⟩ : MethodName)) (z := (⟨"com/example/cairn/cairn/engine/BinaryOperator", "opcode", "()I"⟩ : MethodName)) hown (mvT hZ (hw _ (List.mem_of_getElem? (i := 50) rfl))) (mvT hZ (hw _ (List.mem_of_getElem? (i := 51) rfl))) (notFace_of_selects (args := #[]) (mvT hZ (hw _ (List.mem_of_getElem? (i := 53) rfl)))) (mvT hZ (hw _ (List.mem_of_getElem? (i := 53) rfl))) (mvT hZ (hw _ (List.mem_of_getElem? (i := 52) rfl))) (by decide) (backOf (W := 0) (rm2 l Z a0 hw [] v10 (49 : Int32) h115 n0 (Nat.le_trans Z0 Kp116.1) f212) hZ (hw _ (List.mem_of_getElem? (i := 54) rfl)) (hw _ (List.mem_of_getElem? (i := 3) rfl)) (by decide) (by decide)) q213a q213c (g := (mkF m 168 #[.val (.int k), .val (.ref b1), .val (.int (10 : Int32)), .val (.ref v10), .val (.int (0 : Int32)), .val (.int (0 : Int32)), .unset, .unset, .unset] [(.ref v10)])) rfl (by rw [hml]; rfl) (Steps.refl _) (argsL := []) (rest := []) (lenOf pd_19 rfl) rfl (by show 2 * 0 + _ ≤ _; exact Nat.le_of_eq rfl) (hb hby at_168) (fun _ _ => ⟨rfl, e211, (by decide : 1 + 0 ≤ _), (by decide : 19 + 0 ≤ _)⟩)
      dsimp only [Pt.U, Pt.locs, Pt.cells, Pt.slots] at X213 l213 y213 z213 st213 hQ213
      subst l213 y213 z213
      obtain ⟨rfl, N213q, e213⟩ := hQ213
      have N213 := Fr.app N211 N213q
      refine OwnFin.step (fun tT kK => st213.trans kK) ?_
      show OwnFin p e below _ (T213.setTop (mkF m 171 #[.val (.int k), .val (.ref b1), .val (.int (10 : Int32)), .val (.ref v10), .val (.int (0 : Int32)), .val (.int (0 : Int32)), .unset, .unset, .unset] [(.int (49 : Int32))]))
      refine OwnFin.step (fun tT kK => XS.istore X213.here hx rfl (hb hby at_171) rfl (l' := #[.val (.int k), .val (.ref b1), .val (.int (10 : Int32)), .val (.ref v10), .val (.int (0 : Int32)), .val (.int (0 : Int32)), .val (.int (49 : Int32)), .unset, .unset]) rfl kK) ?_
      show OwnFin p e below _ (T213.setTop (mkF m 173 #[.val (.int k), .val (.ref b1), .val (.int (10 : Int32)), .val (.ref v10), .val (.int (0 : Int32)), .val (.int (0 : Int32)), .val (.int (49 : Int32)), .unset, .unset] []))
      refine OwnFin.step (fun tT kK => XS.iload X213.here hx rfl (hb hby at_173) rfl kK) ?_
      show OwnFin p e below _ (T213.setTop (mkF m 175 #[.val (.int k), .val (.ref b1), .val (.int (10 : Int32)), .val (.ref v10), .val (.int (0 : Int32)), .val (.int (0 : Int32)), .val (.int (49 : Int32)), .unset, .unset] [(.int (49 : Int32))]))
      refine OwnFin.step (fun tT kK => XS.bipush X213.here hx rfl (hb hby at_175) kK) ?_
      show OwnFin p e below _ (T213.setTop (mkF m 177 #[.val (.int k), .val (.ref b1), .val (.int (10 : Int32)), .val (.ref v10), .val (.int (0 : Int32)), .val (.int (0 : Int32)), .val (.int (49 : Int32)), .unset, .unset] [(.int (37 : Int32)), (.int (49 : Int32))]))
      refine OwnFin.step (fun tT kK => XS.icmpNo X213.here hx rfl (hb hby at_177) rfl (feq (by decide : ¬ ((49 : Int32) = (37 : Int32)))).1 kK) ?_
      show OwnFin p e below _ (T213.setTop (mkF m 180 #[.val (.int k), .val (.ref b1), .val (.int (10 : Int32)), .val (.ref v10), .val (.int (0 : Int32)), .val (.int (0 : Int32)), .val (.int (49 : Int32)), .unset, .unset] []))
      refine OwnFin.step (fun tT kK => XS.iload X213.here hx rfl (hb hby at_180) rfl kK) ?_
      show OwnFin p e below _ (T213.setTop (mkF m 182 #[.val (.int k), .val (.ref b1), .val (.int (10 : Int32)), .val (.ref v10), .val (.int (0 : Int32)), .val (.int (0 : Int32)), .val (.int (49 : Int32)), .unset, .unset] [(.int (49 : Int32))]))
      refine OwnFin.step (fun tT kK => XS.bipush X213.here hx rfl (hb hby at_182) kK) ?_
      show OwnFin p e below _ (T213.setTop (mkF m 184 #[.val (.int k), .val (.ref b1), .val (.int (10 : Int32)), .val (.ref v10), .val (.int (0 : Int32)), .val (.int (0 : Int32)), .val (.int (49 : Int32)), .unset, .unset] [(.int (38 : Int32)), (.int (49 : Int32))]))
      refine OwnFin.step (fun tT kK => XS.icmpYes X213.here hx rfl (pc0 := 184) (pc' := 191) rfl (hb hby at_184) rfl (feq (by decide : ¬ ((49 : Int32) = (38 : Int32)))).2 (by decide) (by decide) kK) ?_
      show OwnFin p e below _ (T213.setTop (mkF m 191 #[.val (.int k), .val (.ref b1), .val (.int (10 : Int32)), .val (.ref v10), .val (.int (0 : Int32)), .val (.int (0 : Int32)), .val (.int (49 : Int32)), .unset, .unset] []))
      refine OwnFin.step (fun tT kK => XS.iconst X213.here hx rfl (hb hby at_191) kK) ?_
      show OwnFin p e below _ (T213.setTop (mkF m 192 #[.val (.int k), .val (.ref b1), .val (.int (10 : Int32)), .val (.ref v10), .val (.int (0 : Int32)), .val (.int (0 : Int32)), .val (.int (49 : Int32)), .unset, .unset] [(.int (0 : Int32))]))
      refine OwnFin.step (fun tT kK => XS.istore X213.here hx rfl (hb hby at_192) rfl (l' := #[.val (.int k), .val (.ref b1), .val (.int (10 : Int32)), .val (.ref v10), .val (.int (0 : Int32)), .val (.int (0 : Int32)), .val (.int (49 : Int32)), .val (.int (0 : Int32)), .unset]) rfl kK) ?_
      show OwnFin p e below _ (T213.setTop (mkF m 194 #[.val (.int k), .val (.ref b1), .val (.int (10 : Int32)), .val (.ref v10), .val (.int (0 : Int32)), .val (.int (0 : Int32)), .val (.int (49 : Int32)), .val (.int (0 : Int32)), .unset] []))
      refine OwnFin.step (fun tT kK => XS.aloadN X213.here hx rfl (hb hby at_194) rfl rfl kK) ?_
      show OwnFin p e below _ (T213.setTop (mkF m 195 #[.val (.int k), .val (.ref b1), .val (.int (10 : Int32)), .val (.ref v10), .val (.int (0 : Int32)), .val (.int (0 : Int32)), .val (.int (49 : Int32)), .val (.int (0 : Int32)), .unset] [(.ref v10)]))
      have f214 : Fld Z h115 v10 "com/example/cairn/cairn/engine/BinaryOperator" "precedence" "I" (.int (6 : Int32)) := (hp67.keep Kp116 nin0)
      obtain ⟨cq215, kq215, q215a, q215b, q215c⟩ := isOf hZ e213 f127
      obtain ⟨_, _, ⟨T215, L215, k215, n215⟩, -, X215, ⟨Lc215, hQ215, l215, y215, z215⟩, st215⟩ := X213.virtualBack hx (y := (⟨"com/example/cairn/cairn/engine/BinaryOperator", "precedence", "()I"⟩ : MethodName)) (z := (⟨"com/example/cairn/cairn/engine/BinaryOperator", "precedence", "()I"⟩ : MethodName)) hown (mvT hZ (hw _ (List.mem_of_getElem? (i := 57) rfl))) (mvT hZ (hw _ (List.mem_of_getElem? (i := 58) rfl))) (notFace_of_selects (args := #[]) (mvT hZ (hw _ (List.mem_of_getElem? (i := 60) rfl)))) (mvT hZ (hw _ (List.mem_of_getElem? (i := 60) rfl))) (mvT hZ (hw _ (List.mem_of_getElem? (i := 59) rfl))) (by decide) (backOf (W := 0) (rm3 l Z a0 hw [] v10 (6 : Int32) h115 n0 (Nat.le_trans Z0 Kp116.1) f214) hZ (hw _ (List.mem_of_getElem? (i := 61) rfl)) (hw _ (List.mem_of_getElem? (i := 3) rfl)) (by decide) (by decide)) q215a q215c (g := (mkF m 195 #[.val (.int k), .val (.ref b1), .val (.int (10 : Int32)), .val (.ref v10), .val (.int (0 : Int32)), .val (.int (0 : Int32)), .val (.int (49 : Int32)), .val (.int (0 : Int32)), .unset] [(.ref v10)])) rfl (by rw [hml]; rfl) (Steps.refl _) (argsL := []) (rest := []) (lenOf pd_19 rfl) rfl (by show 2 * 0 + _ ≤ _; exact Nat.le_of_eq rfl) (hb hby at_195) (fun _ _ => ⟨rfl, e213, (by decide : 1 + 0 ≤ _), (by decide : 19 + 0 ≤ _)⟩)
      dsimp only [Pt.U, Pt.locs, Pt.cells, Pt.slots] at X215 l215 y215 z215 st215 hQ215
      subst l215 y215 z215
      obtain ⟨rfl, N215q, e215⟩ := hQ215
      have N215 := Fr.app N213 N215q
      refine OwnFin.step (fun tT kK => st215.trans kK) ?_
      show OwnFin p e below _ (T215.setTop (mkF m 198 #[.val (.int k), .val (.ref b1), .val (.int (10 : Int32)), .val (.ref v10), .val (.int (0 : Int32)), .val (.int (0 : Int32)), .val (.int (49 : Int32)), .val (.int (0 : Int32)), .unset] [(.int (6 : Int32))]))
      refine OwnFin.step (fun tT kK => XS.iconst X215.here hx rfl (hb hby at_198) kK) ?_
      show OwnFin p e below _ (T215.setTop (mkF m 199 #[.val (.int k), .val (.ref b1), .val (.int (10 : Int32)), .val (.ref v10), .val (.int (0 : Int32)), .val (.int (0 : Int32)), .val (.int (49 : Int32)), .val (.int (0 : Int32)), .unset] [(.int (2 : Int32)), (.int (6 : Int32))]))
      refine OwnFin.step (fun tT kK => XS.icmpYes X215.here hx rfl (pc0 := 199) (pc' := 206) rfl (hb hby at_199) rfl (tlt (by decide : (2 : Int32) < (6 : Int32))).2.2.1 (by decide) (by decide) kK) ?_
      show OwnFin p e below _ (T215.setTop (mkF m 206 #[.val (.int k), .val (.ref b1), .val (.int (10 : Int32)), .val (.ref v10), .val (.int (0 : Int32)), .val (.int (0 : Int32)), .val (.int (49 : Int32)), .val (.int (0 : Int32)), .unset] []))
      refine OwnFin.step (fun tT kK => XS.iconst X215.here hx rfl (hb hby at_206) kK) ?_
      show OwnFin p e below _ (T215.setTop (mkF m 207 #[.val (.int k), .val (.ref b1), .val (.int (10 : Int32)), .val (.ref v10), .val (.int (0 : Int32)), .val (.int (0 : Int32)), .val (.int (49 : Int32)), .val (.int (0 : Int32)), .unset] [(.int (0 : Int32))]))
      refine OwnFin.step (fun tT kK => XS.istore X215.here hx rfl (hb hby at_207) rfl (l' := #[.val (.int k), .val (.ref b1), .val (.int (10 : Int32)), .val (.ref v10), .val (.int (0 : Int32)), .val (.int (0 : Int32)), .val (.int (49 : Int32)), .val (.int (0 : Int32)), .val (.int (0 : Int32))]) rfl kK) ?_
      show OwnFin p e below _ (T215.setTop (mkF m 209 #[.val (.int k), .val (.ref b1), .val (.int (10 : Int32)), .val (.ref v10), .val (.int (0 : Int32)), .val (.int (0 : Int32)), .val (.int (49 : Int32)), .val (.int (0 : Int32)), .val (.int (0 : Int32))] []))
      refine OwnFin.step (fun tT kK => XS.iload X215.here hx rfl (hb hby at_209) rfl kK) ?_
      show OwnFin p e below _ (T215.setTop (mkF m 211 #[.val (.int k), .val (.ref b1), .val (.int (10 : Int32)), .val (.ref v10), .val (.int (0 : Int32)), .val (.int (0 : Int32)), .val (.int (49 : Int32)), .val (.int (0 : Int32)), .val (.int (0 : Int32))] [(.int (0 : Int32))]))
      refine OwnFin.step (fun tT kK => XS.iload X215.here hx rfl (hb hby at_211) rfl kK) ?_
      show OwnFin p e below _ (T215.setTop (mkF m 213 #[.val (.int k), .val (.ref b1), .val (.int (10 : Int32)), .val (.ref v10), .val (.int (0 : Int32)), .val (.int (0 : Int32)), .val (.int (49 : Int32)), .val (.int (0 : Int32)), .val (.int (0 : Int32))] [(.int (0 : Int32)), (.int (0 : Int32))]))
      refine OwnFin.step (fun tT kK => XS.icmpNo X215.here hx rfl (hb hby at_213) rfl (teq (rfl : (0 : Int32) = (0 : Int32))).2 kK) ?_
      show OwnFin p e below _ (T215.setTop (mkF m 216 #[.val (.int k), .val (.ref b1), .val (.int (10 : Int32)), .val (.ref v10), .val (.int (0 : Int32)), .val (.int (0 : Int32)), .val (.int (49 : Int32)), .val (.int (0 : Int32)), .val (.int (0 : Int32))] []))
      refine OwnFin.step (fun tT kK => XS.iload X215.here hx rfl (hb hby at_216) rfl kK) ?_
      show OwnFin p e below _ (T215.setTop (mkF m 218 #[.val (.int k), .val (.ref b1), .val (.int (10 : Int32)), .val (.ref v10), .val (.int (0 : Int32)), .val (.int (0 : Int32)), .val (.int (49 : Int32)), .val (.int (0 : Int32)), .val (.int (0 : Int32))] [(.int (0 : Int32))]))
      refine OwnFin.step (fun tT kK => XS.iload X215.here hx rfl (hb hby at_218) rfl kK) ?_
      show OwnFin p e below _ (T215.setTop (mkF m 220 #[.val (.int k), .val (.ref b1), .val (.int (10 : Int32)), .val (.ref v10), .val (.int (0 : Int32)), .val (.int (0 : Int32)), .val (.int (49 : Int32)), .val (.int (0 : Int32)), .val (.int (0 : Int32))] [(.int (0 : Int32)), (.int (0 : Int32))]))
      refine OwnFin.step (fun tT kK => XS.icmpNo X215.here hx rfl (hb hby at_220) rfl (teq (rfl : (0 : Int32) = (0 : Int32))).2 kK) ?_
      show OwnFin p e below _ (T215.setTop (mkF m 223 #[.val (.int k), .val (.ref b1), .val (.int (10 : Int32)), .val (.ref v10), .val (.int (0 : Int32)), .val (.int (0 : Int32)), .val (.int (49 : Int32)), .val (.int (0 : Int32)), .val (.int (0 : Int32))] []))
      refine OwnFin.step (fun tT kK => XS.iload X215.here hx rfl (hb hby at_223) rfl kK) ?_
      show OwnFin p e below _ (T215.setTop (mkF m 225 #[.val (.int k), .val (.ref b1), .val (.int (10 : Int32)), .val (.ref v10), .val (.int (0 : Int32)), .val (.int (0 : Int32)), .val (.int (49 : Int32)), .val (.int (0 : Int32)), .val (.int (0 : Int32))] [(.int (0 : Int32))]))
      refine OwnFin.step (fun tT kK => XS.iload X215.here hx rfl (hb hby at_225) rfl kK) ?_
      show OwnFin p e below _ (T215.setTop (mkF m 227 #[.val (.int k), .val (.ref b1), .val (.int (10 : Int32)), .val (.ref v10), .val (.int (0 : Int32)), .val (.int (0 : Int32)), .val (.int (49 : Int32)), .val (.int (0 : Int32)), .val (.int (0 : Int32))] [(.int (0 : Int32)), (.int (0 : Int32))]))
      refine OwnFin.step (fun tT kK => XS.icmpNo X215.here hx rfl (hb hby at_227) rfl (teq (rfl : (0 : Int32) = (0 : Int32))).2 kK) ?_
      show OwnFin p e below _ (T215.setTop (mkF m 230 #[.val (.int k), .val (.ref b1), .val (.int (10 : Int32)), .val (.ref v10), .val (.int (0 : Int32)), .val (.int (0 : Int32)), .val (.int (49 : Int32)), .val (.int (0 : Int32)), .val (.int (0 : Int32))] []))
      refine OwnFin.step (fun tT kK => XS.iconst X215.here hx rfl (hb hby at_230) kK) ?_
      show OwnFin p e below _ (T215.setTop (mkF m 231 #[.val (.int k), .val (.ref b1), .val (.int (10 : Int32)), .val (.ref v10), .val (.int (0 : Int32)), .val (.int (0 : Int32)), .val (.int (49 : Int32)), .val (.int (0 : Int32)), .val (.int (0 : Int32))] [(.int (1 : Int32))]))
      refine OwnFin.step (fun tT kK => XS.goto X215.here hx rfl (pc0 := 231) (pc' := 235) rfl (hb hby at_231) (by decide) (by decide) kK) ?_
      show OwnFin p e below _ (T215.setTop (mkF m 235 #[.val (.int k), .val (.ref b1), .val (.int (10 : Int32)), .val (.ref v10), .val (.int (0 : Int32)), .val (.int (0 : Int32)), .val (.int (49 : Int32)), .val (.int (0 : Int32)), .val (.int (0 : Int32))] [(.int (1 : Int32))]))
      obtain ⟨fs216, hr216, hrun216, hended216, hW216, hsame216⟩ := X215.leave (v := (some (.int (1 : Int32)))) (fun h => by rw [Bd.returns] at h; cases h)
      refine ⟨_, _, retN X215 hx (t := .boolean) Bd.returns (by simp) (hb hby at_235) hr216, hrun216, hended216, _, _, rfl, ?_, ⟨_, rfl⟩, hW216, hsame216.mono (by decide) (by decide)⟩
      show Q0 Z k v0 v1 v2 v3 v4 v5 v6 v7 v8 v9 v10 v11 v12 v13 v14 v15 v16 v17 v18 h0 n0 _ T215.heap _
      rw [e215]
      exact ⟨rfl, N215, Kp116⟩
    · skip
      show OwnFin p e below _ (T139.setTop (mkF m 141 #[.val (.int k), .val (.ref b1), .val (.int (11 : Int32)), .unset, .unset, .unset, .unset, .unset, .unset] []))
      refine OwnFin.step (fun tT kK => XS.aloadN X139.here hx rfl (hb hby at_141) rfl rfl kK) ?_
      show OwnFin p e below _ (T139.setTop (mkF m 142 #[.val (.int k), .val (.ref b1), .val (.int (11 : Int32)), .unset, .unset, .unset, .unset, .unset, .unset] [(.ref b1)]))
      refine OwnFin.step (fun tT kK => XS.iloadN X139.here hx rfl (hb hby at_142) rfl kK) ?_
      show OwnFin p e below _ (T139.setTop (mkF m 143 #[.val (.int k), .val (.ref b1), .val (.int (11 : Int32)), .unset, .unset, .unset, .unset, .unset, .unset] [(.int (11 : Int32)), (.ref b1)]))
      obtain ⟨cl217, Ar217, q217, Sz217, Ng217, H217, G217⟩ := id V115
      have hin217 : ¬ ((11 : Int32) < 0 ∨ cl217.slots.size ≤ ((11 : Int32)).toNatClampNeg) := inb_of Sz217 ⟨by decide, by decide⟩
      refine OwnFin.step (fun tT kK => X139.aaload hx (j := (11 : Int32)) (v := (.ref v11)) (by rw [e139]; exact Ar217.1) (State.isArrayOf_alike hZ.alike Ar217.2.1) rfl Ar217.2.2 hin217 (H217.at hin217 rfl) (g := (mkF m 143 #[.val (.int k), .val (.ref b1), .val (.int (11 : Int32)), .unset, .unset, .unset, .unset, .unset, .unset] [(.int (11 : Int32)), (.ref b1)])) rfl rfl (hb hby at_143) _ kK) ?_
      show OwnFin p e below _ (T139.setTop (mkF m 144 #[.val (.int k), .val (.ref b1), .val (.int (11 : Int32)), .unset, .unset, .unset, .unset, .unset, .unset] [(.ref v11)]))
      refine OwnFin.step (fun tT kK => XS.astoreN X139.here hx rfl (hb hby at_144) rfl rfl (l' := #[.val (.int k), .val (.ref b1), .val (.int (11 : Int32)), .val (.ref v11), .unset, .unset, .unset, .unset, .unset]) rfl kK) ?_
      show OwnFin p e below _ (T139.setTop (mkF m 145 #[.val (.int k), .val (.ref b1), .val (.int (11 : Int32)), .val (.ref v11), .unset, .unset, .unset, .unset, .unset] []))
      refine OwnFin.step (fun tT kK => XS.aloadN X139.here hx rfl (hb hby at_145) rfl rfl kK) ?_
      show OwnFin p e below _ (T139.setTop (mkF m 146 #[.val (.int k), .val (.ref b1), .val (.int (11 : Int32)), .val (.ref v11), .unset, .unset, .unset, .unset, .unset] [(.ref v11)]))
      obtain ⟨cq218, kq218, q218a, q218b, q218c⟩ := isOf hZ e139 f128
      obtain ⟨_, _, ⟨T218, L218, k218, n218⟩, -, X218, ⟨Lc218, hQ218, l218, y218, z218⟩, st218⟩ := X139.virtualBack hx (y := (⟨"com/example/cairn/cairn/engine/BinaryOperator", "shortCircuits", "()Z"⟩ : MethodName)) (z := (⟨"com/example/cairn/cairn/engine/BinaryOperator", "shortCircuits", "()Z"⟩ : MethodName)) hown (mvT hZ (hw _ (List.mem_of_getElem? (i := 43) rfl))) (mvT hZ (hw _ (List.mem_of_getElem? (i := 44) rfl))) (notFace_of_selects (args := #[]) (mvT hZ (hw _ (List.mem_of_getElem? (i := 46) rfl)))) (mvT hZ (hw _ (List.mem_of_getElem? (i := 46) rfl))) (mvT hZ (hw _ (List.mem_of_getElem? (i := 45) rfl))) (by decide) (backOf (W := 0) (rm1 l Z a0 hw [] v11 v1 v0 h115 n0 (Nat.le_trans Z0 Kp116.1) f136 f137) hZ (hw _ (List.mem_of_getElem? (i := 47) rfl)) (hw _ (List.mem_of_getElem? (i := 3) rfl)) (by decide) (by decide)) q218a q218c (g := (mkF m 146 #[.val (.int k), .val (.ref b1), .val (.int (11 : Int32)), .val (.ref v11), .unset, .unset, .unset, .unset, .unset] [(.ref v11)])) rfl (by rw [hml]; rfl) (Steps.refl _) (argsL := []) (rest := []) (lenOf pd_18 rfl) rfl (by show 2 * 0 + _ ≤ _; exact Nat.le_of_eq rfl) (hb hby at_146) (fun _ _ => ⟨rfl, e139, (by decide : 1 + 0 ≤ _), (by decide : 19 + 0 ≤ _)⟩)
      dsimp only [Pt.U, Pt.locs, Pt.cells, Pt.slots] at X218 l218 y218 z218 st218 hQ218
      subst l218 y218 z218
      obtain ⟨rfl, N218q, e218⟩ := hQ218
      have N218 := Fr.app N139 N218q
      refine OwnFin.step (fun tT kK => st218.trans kK) ?_
      show OwnFin p e below _ (T218.setTop (mkF m 149 #[.val (.int k), .val (.ref b1), .val (.int (11 : Int32)), .val (.ref v11), .unset, .unset, .unset, .unset, .unset] [(.int (if v11 = v1 ∨ v11 = v0 then 1 else 0))]))
      rw [show (if v11 = v1 ∨ v11 = v0 then (1 : Int32) else 0) = 0 from if_neg (fun q => q.elim hp95 hp94)]
      show OwnFin p e below _ (T218.setTop (mkF m 149 #[.val (.int k), .val (.ref b1), .val (.int (11 : Int32)), .val (.ref v11), .unset, .unset, .unset, .unset, .unset] [(.int (0 : Int32))]))
      refine OwnFin.step (fun tT kK => XS.istore X218.here hx rfl (hb hby at_149) rfl (l' := #[.val (.int k), .val (.ref b1), .val (.int (11 : Int32)), .val (.ref v11), .val (.int (0 : Int32)), .unset, .unset, .unset, .unset]) rfl kK) ?_
      show OwnFin p e below _ (T218.setTop (mkF m 151 #[.val (.int k), .val (.ref b1), .val (.int (11 : Int32)), .val (.ref v11), .val (.int (0 : Int32)), .unset, .unset, .unset, .unset] []))
      refine OwnFin.step (fun tT kK => XS.iloadN X218.here hx rfl (hb hby at_151) rfl kK) ?_
      show OwnFin p e below _ (T218.setTop (mkF m 152 #[.val (.int k), .val (.ref b1), .val (.int (11 : Int32)), .val (.ref v11), .val (.int (0 : Int32)), .unset, .unset, .unset, .unset] [(.int (11 : Int32))]))
      refine OwnFin.step (fun tT kK => XS.ifNo X218.here hx rfl (hb hby at_152) rfl ((if0 _ _).trans (feq (by decide : ¬ ((11 : Int32) = (0 : Int32)))).1) kK) ?_
      show OwnFin p e below _ (T218.setTop (mkF m 155 #[.val (.int k), .val (.ref b1), .val (.int (11 : Int32)), .val (.ref v11), .val (.int (0 : Int32)), .unset, .unset, .unset, .unset] []))
      refine OwnFin.step (fun tT kK => XS.iloadN X218.here hx rfl (hb hby at_155) rfl kK) ?_
      show OwnFin p e below _ (T218.setTop (mkF m 156 #[.val (.int k), .val (.ref b1), .val (.int (11 : Int32)), .val (.ref v11), .val (.int (0 : Int32)), .unset, .unset, .unset, .unset] [(.int (11 : Int32))]))
      refine OwnFin.step (fun tT kK => XS.iconst X218.here hx rfl (hb hby at_156) kK) ?_
      show OwnFin p e below _ (T218.setTop (mkF m 157 #[.val (.int k), .val (.ref b1), .val (.int (11 : Int32)), .val (.ref v11), .val (.int (0 : Int32)), .unset, .unset, .unset, .unset] [(.int (1 : Int32)), (.int (11 : Int32))]))
      refine OwnFin.step (fun tT kK => XS.icmpYes X218.here hx rfl (pc0 := 157) (pc' := 164) rfl (hb hby at_157) rfl (feq (by decide : ¬ ((11 : Int32) = (1 : Int32)))).2 (by decide) (by decide) kK) ?_
      show OwnFin p e below _ (T218.setTop (mkF m 164 #[.val (.int k), .val (.ref b1), .val (.int (11 : Int32)), .val (.ref v11), .val (.int (0 : Int32)), .unset, .unset, .unset, .unset] []))
      refine OwnFin.step (fun tT kK => XS.iconst X218.here hx rfl (hb hby at_164) kK) ?_
      show OwnFin p e below _ (T218.setTop (mkF m 165 #[.val (.int k), .val (.ref b1), .val (.int (11 : Int32)), .val (.ref v11), .val (.int (0 : Int32)), .unset, .unset, .unset, .unset] [(.int (0 : Int32))]))
      refine OwnFin.step (fun tT kK => XS.istore X218.here hx rfl (hb hby at_165) rfl (l' := #[.val (.int k), .val (.ref b1), .val (.int (11 : Int32)), .val (.ref v11), .val (.int (0 : Int32)), .val (.int (0 : Int32)), .unset, .unset, .unset]) rfl kK) ?_
      show OwnFin p e below _ (T218.setTop (mkF m 167 #[.val (.int k), .val (.ref b1), .val (.int (11 : Int32)), .val (.ref v11), .val (.int (0 : Int32)), .val (.int (0 : Int32)), .unset, .unset, .unset] []))
      refine OwnFin.step (fun tT kK => XS.aloadN X218.here hx rfl (hb hby at_167) rfl rfl kK) ?_
      show OwnFin p e below _ (T218.setTop (mkF m 168 #[.val (.int k), .val (.ref b1), .val (.int (11 : Int32)), .val (.ref v11), .val (.int (0 : Int32)), .val (.int (0 : Int32)), .unset, .unset, .unset] [(.ref v11)]))
      have f219 : Fld Z h115 v11 "com/example/cairn/cairn/engine/BinaryOperator" "opcode" "I" (.int (52 : Int32)) := (hp49.keep Kp116 nin0)
      obtain ⟨cq220, kq220, q220a, q220b, q220c⟩ := isOf hZ e218 f128
      obtain ⟨_, _, ⟨T220, L220, k220, n220⟩, -, X220, ⟨Lc220, hQ220, l220, y220, z220⟩, st220⟩ := X218.virtualBack hx (y := (⟨"com/example/cairn/cairn/engine/BinaryOperator", "opcode", "()I"⟩ : MethodName)) (z := (⟨"com/example/cairn/cairn/engine/BinaryOperator", "opcode", "()I"⟩ : MethodName)) hown (mvT hZ (hw _ (List.mem_of_getElem? (i := 50) rfl))) (mvT hZ (hw _ (List.mem_of_getElem? (i := 51) rfl))) (notFace_of_selects (args := #[]) (mvT hZ (hw _ (List.mem_of_getElem? (i := 53) rfl)))) (mvT hZ (hw _ (List.mem_of_getElem? (i := 53) rfl))) (mvT hZ (hw _ (List.mem_of_getElem? (i := 52) rfl))) (by decide) (backOf (W := 0) (rm2 l Z a0 hw [] v11 (52 : Int32) h115 n0 (Nat.le_trans Z0 Kp116.1) f219) hZ (hw _ (List.mem_of_getElem? (i := 54) rfl)) (hw _ (List.mem_of_getElem? (i := 3) rfl)) (by decide) (by decide)) q220a q220c (g := (mkF m 168 #[.val (.int k), .val (.ref b1), .val (.int (11 : Int32)), .val (.ref v11), .val (.int (0 : Int32)), .val (.int (0 : Int32)), .unset, .unset, .unset] [(.ref v11)])) rfl (by rw [hml]; rfl) (Steps.refl _) (argsL := []) (rest := []) (lenOf pd_19 rfl) rfl (by show 2 * 0 + _ ≤ _; exact Nat.le_of_eq rfl) (hb hby at_168) (fun _ _ => ⟨rfl, e218, (by decide : 1 + 0 ≤ _), (by decide : 19 + 0 ≤ _)⟩)
      dsimp only [Pt.U, Pt.locs, Pt.cells, Pt.slots] at X220 l220 y220 z220 st220 hQ220
      subst l220 y220 z220
      obtain ⟨rfl, N220q, e220⟩ := hQ220
      have N220 := Fr.app N218 N220q
      refine OwnFin.step (fun tT kK => st220.trans kK) ?_
      show OwnFin p e below _ (T220.setTop (mkF m 171 #[.val (.int k), .val (.ref b1), .val (.int (11 : Int32)), .val (.ref v11), .val (.int (0 : Int32)), .val (.int (0 : Int32)), .unset, .unset, .unset] [(.int (52 : Int32))]))
      refine OwnFin.step (fun tT kK => XS.istore X220.here hx rfl (hb hby at_171) rfl (l' := #[.val (.int k), .val (.ref b1), .val (.int (11 : Int32)), .val (.ref v11), .val (.int (0 : Int32)), .val (.int (0 : Int32)), .val (.int (52 : Int32)), .unset, .unset]) rfl kK) ?_
      show OwnFin p e below _ (T220.setTop (mkF m 173 #[.val (.int k), .val (.ref b1), .val (.int (11 : Int32)), .val (.ref v11), .val (.int (0 : Int32)), .val (.int (0 : Int32)), .val (.int (52 : Int32)), .unset, .unset] []))
      refine OwnFin.step (fun tT kK => XS.iload X220.here hx rfl (hb hby at_173) rfl kK) ?_
      show OwnFin p e below _ (T220.setTop (mkF m 175 #[.val (.int k), .val (.ref b1), .val (.int (11 : Int32)), .val (.ref v11), .val (.int (0 : Int32)), .val (.int (0 : Int32)), .val (.int (52 : Int32)), .unset, .unset] [(.int (52 : Int32))]))
      refine OwnFin.step (fun tT kK => XS.bipush X220.here hx rfl (hb hby at_175) kK) ?_
      show OwnFin p e below _ (T220.setTop (mkF m 177 #[.val (.int k), .val (.ref b1), .val (.int (11 : Int32)), .val (.ref v11), .val (.int (0 : Int32)), .val (.int (0 : Int32)), .val (.int (52 : Int32)), .unset, .unset] [(.int (37 : Int32)), (.int (52 : Int32))]))
      refine OwnFin.step (fun tT kK => XS.icmpNo X220.here hx rfl (hb hby at_177) rfl (feq (by decide : ¬ ((52 : Int32) = (37 : Int32)))).1 kK) ?_
      show OwnFin p e below _ (T220.setTop (mkF m 180 #[.val (.int k), .val (.ref b1), .val (.int (11 : Int32)), .val (.ref v11), .val (.int (0 : Int32)), .val (.int (0 : Int32)), .val (.int (52 : Int32)), .unset, .unset] []))
      refine OwnFin.step (fun tT kK => XS.iload X220.here hx rfl (hb hby at_180) rfl kK) ?_
      show OwnFin p e below _ (T220.setTop (mkF m 182 #[.val (.int k), .val (.ref b1), .val (.int (11 : Int32)), .val (.ref v11), .val (.int (0 : Int32)), .val (.int (0 : Int32)), .val (.int (52 : Int32)), .unset, .unset] [(.int (52 : Int32))]))
      refine OwnFin.step (fun tT kK => XS.bipush X220.here hx rfl (hb hby at_182) kK) ?_
      show OwnFin p e below _ (T220.setTop (mkF m 184 #[.val (.int k), .val (.ref b1), .val (.int (11 : Int32)), .val (.ref v11), .val (.int (0 : Int32)), .val (.int (0 : Int32)), .val (.int (52 : Int32)), .unset, .unset] [(.int (38 : Int32)), (.int (52 : Int32))]))
      refine OwnFin.step (fun tT kK => XS.icmpYes X220.here hx rfl (pc0 := 184) (pc' := 191) rfl (hb hby at_184) rfl (feq (by decide : ¬ ((52 : Int32) = (38 : Int32)))).2 (by decide) (by decide) kK) ?_
      show OwnFin p e below _ (T220.setTop (mkF m 191 #[.val (.int k), .val (.ref b1), .val (.int (11 : Int32)), .val (.ref v11), .val (.int (0 : Int32)), .val (.int (0 : Int32)), .val (.int (52 : Int32)), .unset, .unset] []))
      refine OwnFin.step (fun tT kK => XS.iconst X220.here hx rfl (hb hby at_191) kK) ?_
      show OwnFin p e below _ (T220.setTop (mkF m 192 #[.val (.int k), .val (.ref b1), .val (.int (11 : Int32)), .val (.ref v11), .val (.int (0 : Int32)), .val (.int (0 : Int32)), .val (.int (52 : Int32)), .unset, .unset] [(.int (0 : Int32))]))
      refine OwnFin.step (fun tT kK => XS.istore X220.here hx rfl (hb hby at_192) rfl (l' := #[.val (.int k), .val (.ref b1), .val (.int (11 : Int32)), .val (.ref v11), .val (.int (0 : Int32)), .val (.int (0 : Int32)), .val (.int (52 : Int32)), .val (.int (0 : Int32)), .unset]) rfl kK) ?_
      show OwnFin p e below _ (T220.setTop (mkF m 194 #[.val (.int k), .val (.ref b1), .val (.int (11 : Int32)), .val (.ref v11), .val (.int (0 : Int32)), .val (.int (0 : Int32)), .val (.int (52 : Int32)), .val (.int (0 : Int32)), .unset] []))
      refine OwnFin.step (fun tT kK => XS.aloadN X220.here hx rfl (hb hby at_194) rfl rfl kK) ?_
      show OwnFin p e below _ (T220.setTop (mkF m 195 #[.val (.int k), .val (.ref b1), .val (.int (11 : Int32)), .val (.ref v11), .val (.int (0 : Int32)), .val (.int (0 : Int32)), .val (.int (52 : Int32)), .val (.int (0 : Int32)), .unset] [(.ref v11)]))
      have f221 : Fld Z h115 v11 "com/example/cairn/cairn/engine/BinaryOperator" "precedence" "I" (.int (7 : Int32)) := (hp68.keep Kp116 nin0)
      obtain ⟨cq222, kq222, q222a, q222b, q222c⟩ := isOf hZ e220 f128
      obtain ⟨_, _, ⟨T222, L222, k222, n222⟩, -, X222, ⟨Lc222, hQ222, l222, y222, z222⟩, st222⟩ := X220.virtualBack hx (y := (⟨"com/example/cairn/cairn/engine/BinaryOperator", "precedence", "()I"⟩ : MethodName)) (z := (⟨"com/example/cairn/cairn/engine/BinaryOperator", "precedence", "()I"⟩ : MethodName)) hown (mvT hZ (hw _ (List.mem_of_getElem? (i := 57) rfl))) (mvT hZ (hw _ (List.mem_of_getElem? (i := 58) rfl))) (notFace_of_selects (args := #[]) (mvT hZ (hw _ (List.mem_of_getElem? (i := 60) rfl)))) (mvT hZ (hw _ (List.mem_of_getElem? (i := 60) rfl))) (mvT hZ (hw _ (List.mem_of_getElem? (i := 59) rfl))) (by decide) (backOf (W := 0) (rm3 l Z a0 hw [] v11 (7 : Int32) h115 n0 (Nat.le_trans Z0 Kp116.1) f221) hZ (hw _ (List.mem_of_getElem? (i := 61) rfl)) (hw _ (List.mem_of_getElem? (i := 3) rfl)) (by decide) (by decide)) q222a q222c (g := (mkF m 195 #[.val (.int k), .val (.ref b1), .val (.int (11 : Int32)), .val (.ref v11), .val (.int (0 : Int32)), .val (.int (0 : Int32)), .val (.int (52 : Int32)), .val (.int (0 : Int32)), .unset] [(.ref v11)])) rfl (by rw [hml]; rfl) (Steps.refl _) (argsL := []) (rest := []) (lenOf pd_19 rfl) rfl (by show 2 * 0 + _ ≤ _; exact Nat.le_of_eq rfl) (hb hby at_195) (fun _ _ => ⟨rfl, e220, (by decide : 1 + 0 ≤ _), (by decide : 19 + 0 ≤ _)⟩)
      dsimp only [Pt.U, Pt.locs, Pt.cells, Pt.slots] at X222 l222 y222 z222 st222 hQ222
      subst l222 y222 z222
      obtain ⟨rfl, N222q, e222⟩ := hQ222
      have N222 := Fr.app N220 N222q
      refine OwnFin.step (fun tT kK => st222.trans kK) ?_
      show OwnFin p e below _ (T222.setTop (mkF m 198 #[.val (.int k), .val (.ref b1), .val (.int (11 : Int32)), .val (.ref v11), .val (.int (0 : Int32)), .val (.int (0 : Int32)), .val (.int (52 : Int32)), .val (.int (0 : Int32)), .unset] [(.int (7 : Int32))]))
      refine OwnFin.step (fun tT kK => XS.iconst X222.here hx rfl (hb hby at_198) kK) ?_
      show OwnFin p e below _ (T222.setTop (mkF m 199 #[.val (.int k), .val (.ref b1), .val (.int (11 : Int32)), .val (.ref v11), .val (.int (0 : Int32)), .val (.int (0 : Int32)), .val (.int (52 : Int32)), .val (.int (0 : Int32)), .unset] [(.int (2 : Int32)), (.int (7 : Int32))]))
      refine OwnFin.step (fun tT kK => XS.icmpYes X222.here hx rfl (pc0 := 199) (pc' := 206) rfl (hb hby at_199) rfl (tlt (by decide : (2 : Int32) < (7 : Int32))).2.2.1 (by decide) (by decide) kK) ?_
      show OwnFin p e below _ (T222.setTop (mkF m 206 #[.val (.int k), .val (.ref b1), .val (.int (11 : Int32)), .val (.ref v11), .val (.int (0 : Int32)), .val (.int (0 : Int32)), .val (.int (52 : Int32)), .val (.int (0 : Int32)), .unset] []))
      refine OwnFin.step (fun tT kK => XS.iconst X222.here hx rfl (hb hby at_206) kK) ?_
      show OwnFin p e below _ (T222.setTop (mkF m 207 #[.val (.int k), .val (.ref b1), .val (.int (11 : Int32)), .val (.ref v11), .val (.int (0 : Int32)), .val (.int (0 : Int32)), .val (.int (52 : Int32)), .val (.int (0 : Int32)), .unset] [(.int (0 : Int32))]))
      refine OwnFin.step (fun tT kK => XS.istore X222.here hx rfl (hb hby at_207) rfl (l' := #[.val (.int k), .val (.ref b1), .val (.int (11 : Int32)), .val (.ref v11), .val (.int (0 : Int32)), .val (.int (0 : Int32)), .val (.int (52 : Int32)), .val (.int (0 : Int32)), .val (.int (0 : Int32))]) rfl kK) ?_
      show OwnFin p e below _ (T222.setTop (mkF m 209 #[.val (.int k), .val (.ref b1), .val (.int (11 : Int32)), .val (.ref v11), .val (.int (0 : Int32)), .val (.int (0 : Int32)), .val (.int (52 : Int32)), .val (.int (0 : Int32)), .val (.int (0 : Int32))] []))
      refine OwnFin.step (fun tT kK => XS.iload X222.here hx rfl (hb hby at_209) rfl kK) ?_
      show OwnFin p e below _ (T222.setTop (mkF m 211 #[.val (.int k), .val (.ref b1), .val (.int (11 : Int32)), .val (.ref v11), .val (.int (0 : Int32)), .val (.int (0 : Int32)), .val (.int (52 : Int32)), .val (.int (0 : Int32)), .val (.int (0 : Int32))] [(.int (0 : Int32))]))
      refine OwnFin.step (fun tT kK => XS.iload X222.here hx rfl (hb hby at_211) rfl kK) ?_
      show OwnFin p e below _ (T222.setTop (mkF m 213 #[.val (.int k), .val (.ref b1), .val (.int (11 : Int32)), .val (.ref v11), .val (.int (0 : Int32)), .val (.int (0 : Int32)), .val (.int (52 : Int32)), .val (.int (0 : Int32)), .val (.int (0 : Int32))] [(.int (0 : Int32)), (.int (0 : Int32))]))
      refine OwnFin.step (fun tT kK => XS.icmpNo X222.here hx rfl (hb hby at_213) rfl (teq (rfl : (0 : Int32) = (0 : Int32))).2 kK) ?_
      show OwnFin p e below _ (T222.setTop (mkF m 216 #[.val (.int k), .val (.ref b1), .val (.int (11 : Int32)), .val (.ref v11), .val (.int (0 : Int32)), .val (.int (0 : Int32)), .val (.int (52 : Int32)), .val (.int (0 : Int32)), .val (.int (0 : Int32))] []))
      refine OwnFin.step (fun tT kK => XS.iload X222.here hx rfl (hb hby at_216) rfl kK) ?_
      show OwnFin p e below _ (T222.setTop (mkF m 218 #[.val (.int k), .val (.ref b1), .val (.int (11 : Int32)), .val (.ref v11), .val (.int (0 : Int32)), .val (.int (0 : Int32)), .val (.int (52 : Int32)), .val (.int (0 : Int32)), .val (.int (0 : Int32))] [(.int (0 : Int32))]))
      refine OwnFin.step (fun tT kK => XS.iload X222.here hx rfl (hb hby at_218) rfl kK) ?_
      show OwnFin p e below _ (T222.setTop (mkF m 220 #[.val (.int k), .val (.ref b1), .val (.int (11 : Int32)), .val (.ref v11), .val (.int (0 : Int32)), .val (.int (0 : Int32)), .val (.int (52 : Int32)), .val (.int (0 : Int32)), .val (.int (0 : Int32))] [(.int (0 : Int32)), (.int (0 : Int32))]))
      refine OwnFin.step (fun tT kK => XS.icmpNo X222.here hx rfl (hb hby at_220) rfl (teq (rfl : (0 : Int32) = (0 : Int32))).2 kK) ?_
      show OwnFin p e below _ (T222.setTop (mkF m 223 #[.val (.int k), .val (.ref b1), .val (.int (11 : Int32)), .val (.ref v11), .val (.int (0 : Int32)), .val (.int (0 : Int32)), .val (.int (52 : Int32)), .val (.int (0 : Int32)), .val (.int (0 : Int32))] []))
      refine OwnFin.step (fun tT kK => XS.iload X222.here hx rfl (hb hby at_223) rfl kK) ?_
      show OwnFin p e below _ (T222.setTop (mkF m 225 #[.val (.int k), .val (.ref b1), .val (.int (11 : Int32)), .val (.ref v11), .val (.int (0 : Int32)), .val (.int (0 : Int32)), .val (.int (52 : Int32)), .val (.int (0 : Int32)), .val (.int (0 : Int32))] [(.int (0 : Int32))]))
      refine OwnFin.step (fun tT kK => XS.iload X222.here hx rfl (hb hby at_225) rfl kK) ?_
      show OwnFin p e below _ (T222.setTop (mkF m 227 #[.val (.int k), .val (.ref b1), .val (.int (11 : Int32)), .val (.ref v11), .val (.int (0 : Int32)), .val (.int (0 : Int32)), .val (.int (52 : Int32)), .val (.int (0 : Int32)), .val (.int (0 : Int32))] [(.int (0 : Int32)), (.int (0 : Int32))]))
      refine OwnFin.step (fun tT kK => XS.icmpNo X222.here hx rfl (hb hby at_227) rfl (teq (rfl : (0 : Int32) = (0 : Int32))).2 kK) ?_
      show OwnFin p e below _ (T222.setTop (mkF m 230 #[.val (.int k), .val (.ref b1), .val (.int (11 : Int32)), .val (.ref v11), .val (.int (0 : Int32)), .val (.int (0 : Int32)), .val (.int (52 : Int32)), .val (.int (0 : Int32)), .val (.int (0 : Int32))] []))
      refine OwnFin.step (fun tT kK => XS.iconst X222.here hx rfl (hb hby at_230) kK) ?_
      show OwnFin p e below _ (T222.setTop (mkF m 231 #[.val (.int k), .val (.ref b1), .val (.int (11 : Int32)), .val (.ref v11), .val (.int (0 : Int32)), .val (.int (0 : Int32)), .val (.int (52 : Int32)), .val (.int (0 : Int32)), .val (.int (0 : Int32))] [(.int (1 : Int32))]))
      refine OwnFin.step (fun tT kK => XS.goto X222.here hx rfl (pc0 := 231) (pc' := 235) rfl (hb hby at_231) (by decide) (by decide) kK) ?_
      show OwnFin p e below _ (T222.setTop (mkF m 235 #[.val (.int k), .val (.ref b1), .val (.int (11 : Int32)), .val (.ref v11), .val (.int (0 : Int32)), .val (.int (0 : Int32)), .val (.int (52 : Int32)), .val (.int (0 : Int32)), .val (.int (0 : Int32))] [(.int (1 : Int32))]))
      obtain ⟨fs223, hr223, hrun223, hended223, hW223, hsame223⟩ := X222.leave (v := (some (.int (1 : Int32)))) (fun h => by rw [Bd.returns] at h; cases h)
      refine ⟨_, _, retN X222 hx (t := .boolean) Bd.returns (by simp) (hb hby at_235) hr223, hrun223, hended223, _, _, rfl, ?_, ⟨_, rfl⟩, hW223, hsame223.mono (by decide) (by decide)⟩
      show Q0 Z k v0 v1 v2 v3 v4 v5 v6 v7 v8 v9 v10 v11 v12 v13 v14 v15 v16 v17 v18 h0 n0 _ T222.heap _
      rw [e222]
      exact ⟨rfl, N222, Kp116⟩
    · skip
      show OwnFin p e below _ (T139.setTop (mkF m 141 #[.val (.int k), .val (.ref b1), .val (.int (12 : Int32)), .unset, .unset, .unset, .unset, .unset, .unset] []))
      refine OwnFin.step (fun tT kK => XS.aloadN X139.here hx rfl (hb hby at_141) rfl rfl kK) ?_
      show OwnFin p e below _ (T139.setTop (mkF m 142 #[.val (.int k), .val (.ref b1), .val (.int (12 : Int32)), .unset, .unset, .unset, .unset, .unset, .unset] [(.ref b1)]))
      refine OwnFin.step (fun tT kK => XS.iloadN X139.here hx rfl (hb hby at_142) rfl kK) ?_
      show OwnFin p e below _ (T139.setTop (mkF m 143 #[.val (.int k), .val (.ref b1), .val (.int (12 : Int32)), .unset, .unset, .unset, .unset, .unset, .unset] [(.int (12 : Int32)), (.ref b1)]))
      obtain ⟨cl224, Ar224, q224, Sz224, Ng224, H224, G224⟩ := id V115
      have hin224 : ¬ ((12 : Int32) < 0 ∨ cl224.slots.size ≤ ((12 : Int32)).toNatClampNeg) := inb_of Sz224 ⟨by decide, by decide⟩
      refine OwnFin.step (fun tT kK => X139.aaload hx (j := (12 : Int32)) (v := (.ref v12)) (by rw [e139]; exact Ar224.1) (State.isArrayOf_alike hZ.alike Ar224.2.1) rfl Ar224.2.2 hin224 (H224.at hin224 rfl) (g := (mkF m 143 #[.val (.int k), .val (.ref b1), .val (.int (12 : Int32)), .unset, .unset, .unset, .unset, .unset, .unset] [(.int (12 : Int32)), (.ref b1)])) rfl rfl (hb hby at_143) _ kK) ?_
      show OwnFin p e below _ (T139.setTop (mkF m 144 #[.val (.int k), .val (.ref b1), .val (.int (12 : Int32)), .unset, .unset, .unset, .unset, .unset, .unset] [(.ref v12)]))
      refine OwnFin.step (fun tT kK => XS.astoreN X139.here hx rfl (hb hby at_144) rfl rfl (l' := #[.val (.int k), .val (.ref b1), .val (.int (12 : Int32)), .val (.ref v12), .unset, .unset, .unset, .unset, .unset]) rfl kK) ?_
      show OwnFin p e below _ (T139.setTop (mkF m 145 #[.val (.int k), .val (.ref b1), .val (.int (12 : Int32)), .val (.ref v12), .unset, .unset, .unset, .unset, .unset] []))
      refine OwnFin.step (fun tT kK => XS.aloadN X139.here hx rfl (hb hby at_145) rfl rfl kK) ?_
      show OwnFin p e below _ (T139.setTop (mkF m 146 #[.val (.int k), .val (.ref b1), .val (.int (12 : Int32)), .val (.ref v12), .unset, .unset, .unset, .unset, .unset] [(.ref v12)]))
      obtain ⟨cq225, kq225, q225a, q225b, q225c⟩ := isOf hZ e139 f129
      obtain ⟨_, _, ⟨T225, L225, k225, n225⟩, -, X225, ⟨Lc225, hQ225, l225, y225, z225⟩, st225⟩ := X139.virtualBack hx (y := (⟨"com/example/cairn/cairn/engine/BinaryOperator", "shortCircuits", "()Z"⟩ : MethodName)) (z := (⟨"com/example/cairn/cairn/engine/BinaryOperator", "shortCircuits", "()Z"⟩ : MethodName)) hown (mvT hZ (hw _ (List.mem_of_getElem? (i := 43) rfl))) (mvT hZ (hw _ (List.mem_of_getElem? (i := 44) rfl))) (notFace_of_selects (args := #[]) (mvT hZ (hw _ (List.mem_of_getElem? (i := 46) rfl)))) (mvT hZ (hw _ (List.mem_of_getElem? (i := 46) rfl))) (mvT hZ (hw _ (List.mem_of_getElem? (i := 45) rfl))) (by decide) (backOf (W := 0) (rm1 l Z a0 hw [] v12 v1 v0 h115 n0 (Nat.le_trans Z0 Kp116.1) f136 f137) hZ (hw _ (List.mem_of_getElem? (i := 47) rfl)) (hw _ (List.mem_of_getElem? (i := 3) rfl)) (by decide) (by decide)) q225a q225c (g := (mkF m 146 #[.val (.int k), .val (.ref b1), .val (.int (12 : Int32)), .val (.ref v12), .unset, .unset, .unset, .unset, .unset] [(.ref v12)])) rfl (by rw [hml]; rfl) (Steps.refl _) (argsL := []) (rest := []) (lenOf pd_18 rfl) rfl (by show 2 * 0 + _ ≤ _; exact Nat.le_of_eq rfl) (hb hby at_146) (fun _ _ => ⟨rfl, e139, (by decide : 1 + 0 ≤ _), (by decide : 19 + 0 ≤ _)⟩)
      dsimp only [Pt.U, Pt.locs, Pt.cells, Pt.slots] at X225 l225 y225 z225 st225 hQ225
      subst l225 y225 z225
      obtain ⟨rfl, N225q, e225⟩ := hQ225
      have N225 := Fr.app N139 N225q
      refine OwnFin.step (fun tT kK => st225.trans kK) ?_
      show OwnFin p e below _ (T225.setTop (mkF m 149 #[.val (.int k), .val (.ref b1), .val (.int (12 : Int32)), .val (.ref v12), .unset, .unset, .unset, .unset, .unset] [(.int (if v12 = v1 ∨ v12 = v0 then 1 else 0))]))
      rw [show (if v12 = v1 ∨ v12 = v0 then (1 : Int32) else 0) = 0 from if_neg (fun q => q.elim hp97 hp96)]
      show OwnFin p e below _ (T225.setTop (mkF m 149 #[.val (.int k), .val (.ref b1), .val (.int (12 : Int32)), .val (.ref v12), .unset, .unset, .unset, .unset, .unset] [(.int (0 : Int32))]))
      refine OwnFin.step (fun tT kK => XS.istore X225.here hx rfl (hb hby at_149) rfl (l' := #[.val (.int k), .val (.ref b1), .val (.int (12 : Int32)), .val (.ref v12), .val (.int (0 : Int32)), .unset, .unset, .unset, .unset]) rfl kK) ?_
      show OwnFin p e below _ (T225.setTop (mkF m 151 #[.val (.int k), .val (.ref b1), .val (.int (12 : Int32)), .val (.ref v12), .val (.int (0 : Int32)), .unset, .unset, .unset, .unset] []))
      refine OwnFin.step (fun tT kK => XS.iloadN X225.here hx rfl (hb hby at_151) rfl kK) ?_
      show OwnFin p e below _ (T225.setTop (mkF m 152 #[.val (.int k), .val (.ref b1), .val (.int (12 : Int32)), .val (.ref v12), .val (.int (0 : Int32)), .unset, .unset, .unset, .unset] [(.int (12 : Int32))]))
      refine OwnFin.step (fun tT kK => XS.ifNo X225.here hx rfl (hb hby at_152) rfl ((if0 _ _).trans (feq (by decide : ¬ ((12 : Int32) = (0 : Int32)))).1) kK) ?_
      show OwnFin p e below _ (T225.setTop (mkF m 155 #[.val (.int k), .val (.ref b1), .val (.int (12 : Int32)), .val (.ref v12), .val (.int (0 : Int32)), .unset, .unset, .unset, .unset] []))
      refine OwnFin.step (fun tT kK => XS.iloadN X225.here hx rfl (hb hby at_155) rfl kK) ?_
      show OwnFin p e below _ (T225.setTop (mkF m 156 #[.val (.int k), .val (.ref b1), .val (.int (12 : Int32)), .val (.ref v12), .val (.int (0 : Int32)), .unset, .unset, .unset, .unset] [(.int (12 : Int32))]))
      refine OwnFin.step (fun tT kK => XS.iconst X225.here hx rfl (hb hby at_156) kK) ?_
      show OwnFin p e below _ (T225.setTop (mkF m 157 #[.val (.int k), .val (.ref b1), .val (.int (12 : Int32)), .val (.ref v12), .val (.int (0 : Int32)), .unset, .unset, .unset, .unset] [(.int (1 : Int32)), (.int (12 : Int32))]))
      refine OwnFin.step (fun tT kK => XS.icmpYes X225.here hx rfl (pc0 := 157) (pc' := 164) rfl (hb hby at_157) rfl (feq (by decide : ¬ ((12 : Int32) = (1 : Int32)))).2 (by decide) (by decide) kK) ?_
      show OwnFin p e below _ (T225.setTop (mkF m 164 #[.val (.int k), .val (.ref b1), .val (.int (12 : Int32)), .val (.ref v12), .val (.int (0 : Int32)), .unset, .unset, .unset, .unset] []))
      refine OwnFin.step (fun tT kK => XS.iconst X225.here hx rfl (hb hby at_164) kK) ?_
      show OwnFin p e below _ (T225.setTop (mkF m 165 #[.val (.int k), .val (.ref b1), .val (.int (12 : Int32)), .val (.ref v12), .val (.int (0 : Int32)), .unset, .unset, .unset, .unset] [(.int (0 : Int32))]))
      refine OwnFin.step (fun tT kK => XS.istore X225.here hx rfl (hb hby at_165) rfl (l' := #[.val (.int k), .val (.ref b1), .val (.int (12 : Int32)), .val (.ref v12), .val (.int (0 : Int32)), .val (.int (0 : Int32)), .unset, .unset, .unset]) rfl kK) ?_
      show OwnFin p e below _ (T225.setTop (mkF m 167 #[.val (.int k), .val (.ref b1), .val (.int (12 : Int32)), .val (.ref v12), .val (.int (0 : Int32)), .val (.int (0 : Int32)), .unset, .unset, .unset] []))
      refine OwnFin.step (fun tT kK => XS.aloadN X225.here hx rfl (hb hby at_167) rfl rfl kK) ?_
      show OwnFin p e below _ (T225.setTop (mkF m 168 #[.val (.int k), .val (.ref b1), .val (.int (12 : Int32)), .val (.ref v12), .val (.int (0 : Int32)), .val (.int (0 : Int32)), .unset, .unset, .unset] [(.ref v12)]))
      have f226 : Fld Z h115 v12 "com/example/cairn/cairn/engine/BinaryOperator" "opcode" "I" (.int (53 : Int32)) := (hp50.keep Kp116 nin0)
      obtain ⟨cq227, kq227, q227a, q227b, q227c⟩ := isOf hZ e225 f129
      obtain ⟨_, _, ⟨T227, L227, k227, n227⟩, -, X227, ⟨Lc227, hQ227, l227, y227, z227⟩, st227⟩ := X225.virtualBack hx (y := (⟨"com/example/cairn/cairn/engine/BinaryOperator", "opcode", "()I"⟩ : MethodName)) (z := (⟨"com/example/cairn/cairn/engine/BinaryOperator", "opcode", "()I"⟩ : MethodName)) hown (mvT hZ (hw _ (List.mem_of_getElem? (i := 50) rfl))) (mvT hZ (hw _ (List.mem_of_getElem? (i := 51) rfl))) (notFace_of_selects (args := #[]) (mvT hZ (hw _ (List.mem_of_getElem? (i := 53) rfl)))) (mvT hZ (hw _ (List.mem_of_getElem? (i := 53) rfl))) (mvT hZ (hw _ (List.mem_of_getElem? (i := 52) rfl))) (by decide) (backOf (W := 0) (rm2 l Z a0 hw [] v12 (53 : Int32) h115 n0 (Nat.le_trans Z0 Kp116.1) f226) hZ (hw _ (List.mem_of_getElem? (i := 54) rfl)) (hw _ (List.mem_of_getElem? (i := 3) rfl)) (by decide) (by decide)) q227a q227c (g := (mkF m 168 #[.val (.int k), .val (.ref b1), .val (.int (12 : Int32)), .val (.ref v12), .val (.int (0 : Int32)), .val (.int (0 : Int32)), .unset, .unset, .unset] [(.ref v12)])) rfl (by rw [hml]; rfl) (Steps.refl _) (argsL := []) (rest := []) (lenOf pd_19 rfl) rfl (by show 2 * 0 + _ ≤ _; exact Nat.le_of_eq rfl) (hb hby at_168) (fun _ _ => ⟨rfl, e225, (by decide : 1 + 0 ≤ _), (by decide : 19 + 0 ≤ _)⟩)
      dsimp only [Pt.U, Pt.locs, Pt.cells, Pt.slots] at X227 l227 y227 z227 st227 hQ227
      subst l227 y227 z227
      obtain ⟨rfl, N227q, e227⟩ := hQ227
      have N227 := Fr.app N225 N227q
      refine OwnFin.step (fun tT kK => st227.trans kK) ?_
      show OwnFin p e below _ (T227.setTop (mkF m 171 #[.val (.int k), .val (.ref b1), .val (.int (12 : Int32)), .val (.ref v12), .val (.int (0 : Int32)), .val (.int (0 : Int32)), .unset, .unset, .unset] [(.int (53 : Int32))]))
      refine OwnFin.step (fun tT kK => XS.istore X227.here hx rfl (hb hby at_171) rfl (l' := #[.val (.int k), .val (.ref b1), .val (.int (12 : Int32)), .val (.ref v12), .val (.int (0 : Int32)), .val (.int (0 : Int32)), .val (.int (53 : Int32)), .unset, .unset]) rfl kK) ?_
      show OwnFin p e below _ (T227.setTop (mkF m 173 #[.val (.int k), .val (.ref b1), .val (.int (12 : Int32)), .val (.ref v12), .val (.int (0 : Int32)), .val (.int (0 : Int32)), .val (.int (53 : Int32)), .unset, .unset] []))
      refine OwnFin.step (fun tT kK => XS.iload X227.here hx rfl (hb hby at_173) rfl kK) ?_
      show OwnFin p e below _ (T227.setTop (mkF m 175 #[.val (.int k), .val (.ref b1), .val (.int (12 : Int32)), .val (.ref v12), .val (.int (0 : Int32)), .val (.int (0 : Int32)), .val (.int (53 : Int32)), .unset, .unset] [(.int (53 : Int32))]))
      refine OwnFin.step (fun tT kK => XS.bipush X227.here hx rfl (hb hby at_175) kK) ?_
      show OwnFin p e below _ (T227.setTop (mkF m 177 #[.val (.int k), .val (.ref b1), .val (.int (12 : Int32)), .val (.ref v12), .val (.int (0 : Int32)), .val (.int (0 : Int32)), .val (.int (53 : Int32)), .unset, .unset] [(.int (37 : Int32)), (.int (53 : Int32))]))
      refine OwnFin.step (fun tT kK => XS.icmpNo X227.here hx rfl (hb hby at_177) rfl (feq (by decide : ¬ ((53 : Int32) = (37 : Int32)))).1 kK) ?_
      show OwnFin p e below _ (T227.setTop (mkF m 180 #[.val (.int k), .val (.ref b1), .val (.int (12 : Int32)), .val (.ref v12), .val (.int (0 : Int32)), .val (.int (0 : Int32)), .val (.int (53 : Int32)), .unset, .unset] []))
      refine OwnFin.step (fun tT kK => XS.iload X227.here hx rfl (hb hby at_180) rfl kK) ?_
      show OwnFin p e below _ (T227.setTop (mkF m 182 #[.val (.int k), .val (.ref b1), .val (.int (12 : Int32)), .val (.ref v12), .val (.int (0 : Int32)), .val (.int (0 : Int32)), .val (.int (53 : Int32)), .unset, .unset] [(.int (53 : Int32))]))
      refine OwnFin.step (fun tT kK => XS.bipush X227.here hx rfl (hb hby at_182) kK) ?_
      show OwnFin p e below _ (T227.setTop (mkF m 184 #[.val (.int k), .val (.ref b1), .val (.int (12 : Int32)), .val (.ref v12), .val (.int (0 : Int32)), .val (.int (0 : Int32)), .val (.int (53 : Int32)), .unset, .unset] [(.int (38 : Int32)), (.int (53 : Int32))]))
      refine OwnFin.step (fun tT kK => XS.icmpYes X227.here hx rfl (pc0 := 184) (pc' := 191) rfl (hb hby at_184) rfl (feq (by decide : ¬ ((53 : Int32) = (38 : Int32)))).2 (by decide) (by decide) kK) ?_
      show OwnFin p e below _ (T227.setTop (mkF m 191 #[.val (.int k), .val (.ref b1), .val (.int (12 : Int32)), .val (.ref v12), .val (.int (0 : Int32)), .val (.int (0 : Int32)), .val (.int (53 : Int32)), .unset, .unset] []))
      refine OwnFin.step (fun tT kK => XS.iconst X227.here hx rfl (hb hby at_191) kK) ?_
      show OwnFin p e below _ (T227.setTop (mkF m 192 #[.val (.int k), .val (.ref b1), .val (.int (12 : Int32)), .val (.ref v12), .val (.int (0 : Int32)), .val (.int (0 : Int32)), .val (.int (53 : Int32)), .unset, .unset] [(.int (0 : Int32))]))
      refine OwnFin.step (fun tT kK => XS.istore X227.here hx rfl (hb hby at_192) rfl (l' := #[.val (.int k), .val (.ref b1), .val (.int (12 : Int32)), .val (.ref v12), .val (.int (0 : Int32)), .val (.int (0 : Int32)), .val (.int (53 : Int32)), .val (.int (0 : Int32)), .unset]) rfl kK) ?_
      show OwnFin p e below _ (T227.setTop (mkF m 194 #[.val (.int k), .val (.ref b1), .val (.int (12 : Int32)), .val (.ref v12), .val (.int (0 : Int32)), .val (.int (0 : Int32)), .val (.int (53 : Int32)), .val (.int (0 : Int32)), .unset] []))
      refine OwnFin.step (fun tT kK => XS.aloadN X227.here hx rfl (hb hby at_194) rfl rfl kK) ?_
      show OwnFin p e below _ (T227.setTop (mkF m 195 #[.val (.int k), .val (.ref b1), .val (.int (12 : Int32)), .val (.ref v12), .val (.int (0 : Int32)), .val (.int (0 : Int32)), .val (.int (53 : Int32)), .val (.int (0 : Int32)), .unset] [(.ref v12)]))
      have f228 : Fld Z h115 v12 "com/example/cairn/cairn/engine/BinaryOperator" "precedence" "I" (.int (7 : Int32)) := (hp69.keep Kp116 nin0)
      obtain ⟨cq229, kq229, q229a, q229b, q229c⟩ := isOf hZ e227 f129
      obtain ⟨_, _, ⟨T229, L229, k229, n229⟩, -, X229, ⟨Lc229, hQ229, l229, y229, z229⟩, st229⟩ := X227.virtualBack hx (y := (⟨"com/example/cairn/cairn/engine/BinaryOperator", "precedence", "()I"⟩ : MethodName)) (z := (⟨"com/example/cairn/cairn/engine/BinaryOperator", "precedence", "()I"⟩ : MethodName)) hown (mvT hZ (hw _ (List.mem_of_getElem? (i := 57) rfl))) (mvT hZ (hw _ (List.mem_of_getElem? (i := 58) rfl))) (notFace_of_selects (args := #[]) (mvT hZ (hw _ (List.mem_of_getElem? (i := 60) rfl)))) (mvT hZ (hw _ (List.mem_of_getElem? (i := 60) rfl))) (mvT hZ (hw _ (List.mem_of_getElem? (i := 59) rfl))) (by decide) (backOf (W := 0) (rm3 l Z a0 hw [] v12 (7 : Int32) h115 n0 (Nat.le_trans Z0 Kp116.1) f228) hZ (hw _ (List.mem_of_getElem? (i := 61) rfl)) (hw _ (List.mem_of_getElem? (i := 3) rfl)) (by decide) (by decide)) q229a q229c (g := (mkF m 195 #[.val (.int k), .val (.ref b1), .val (.int (12 : Int32)), .val (.ref v12), .val (.int (0 : Int32)), .val (.int (0 : Int32)), .val (.int (53 : Int32)), .val (.int (0 : Int32)), .unset] [(.ref v12)])) rfl (by rw [hml]; rfl) (Steps.refl _) (argsL := []) (rest := []) (lenOf pd_19 rfl) rfl (by show 2 * 0 + _ ≤ _; exact Nat.le_of_eq rfl) (hb hby at_195) (fun _ _ => ⟨rfl, e227, (by decide : 1 + 0 ≤ _), (by decide : 19 + 0 ≤ _)⟩)
      dsimp only [Pt.U, Pt.locs, Pt.cells, Pt.slots] at X229 l229 y229 z229 st229 hQ229
      subst l229 y229 z229
      obtain ⟨rfl, N229q, e229⟩ := hQ229
      have N229 := Fr.app N227 N229q
      refine OwnFin.step (fun tT kK => st229.trans kK) ?_
      show OwnFin p e below _ (T229.setTop (mkF m 198 #[.val (.int k), .val (.ref b1), .val (.int (12 : Int32)), .val (.ref v12), .val (.int (0 : Int32)), .val (.int (0 : Int32)), .val (.int (53 : Int32)), .val (.int (0 : Int32)), .unset] [(.int (7 : Int32))]))
      refine OwnFin.step (fun tT kK => XS.iconst X229.here hx rfl (hb hby at_198) kK) ?_
      show OwnFin p e below _ (T229.setTop (mkF m 199 #[.val (.int k), .val (.ref b1), .val (.int (12 : Int32)), .val (.ref v12), .val (.int (0 : Int32)), .val (.int (0 : Int32)), .val (.int (53 : Int32)), .val (.int (0 : Int32)), .unset] [(.int (2 : Int32)), (.int (7 : Int32))]))
      refine OwnFin.step (fun tT kK => XS.icmpYes X229.here hx rfl (pc0 := 199) (pc' := 206) rfl (hb hby at_199) rfl (tlt (by decide : (2 : Int32) < (7 : Int32))).2.2.1 (by decide) (by decide) kK) ?_
      show OwnFin p e below _ (T229.setTop (mkF m 206 #[.val (.int k), .val (.ref b1), .val (.int (12 : Int32)), .val (.ref v12), .val (.int (0 : Int32)), .val (.int (0 : Int32)), .val (.int (53 : Int32)), .val (.int (0 : Int32)), .unset] []))
      refine OwnFin.step (fun tT kK => XS.iconst X229.here hx rfl (hb hby at_206) kK) ?_
      show OwnFin p e below _ (T229.setTop (mkF m 207 #[.val (.int k), .val (.ref b1), .val (.int (12 : Int32)), .val (.ref v12), .val (.int (0 : Int32)), .val (.int (0 : Int32)), .val (.int (53 : Int32)), .val (.int (0 : Int32)), .unset] [(.int (0 : Int32))]))
      refine OwnFin.step (fun tT kK => XS.istore X229.here hx rfl (hb hby at_207) rfl (l' := #[.val (.int k), .val (.ref b1), .val (.int (12 : Int32)), .val (.ref v12), .val (.int (0 : Int32)), .val (.int (0 : Int32)), .val (.int (53 : Int32)), .val (.int (0 : Int32)), .val (.int (0 : Int32))]) rfl kK) ?_
      show OwnFin p e below _ (T229.setTop (mkF m 209 #[.val (.int k), .val (.ref b1), .val (.int (12 : Int32)), .val (.ref v12), .val (.int (0 : Int32)), .val (.int (0 : Int32)), .val (.int (53 : Int32)), .val (.int (0 : Int32)), .val (.int (0 : Int32))] []))
      refine OwnFin.step (fun tT kK => XS.iload X229.here hx rfl (hb hby at_209) rfl kK) ?_
      show OwnFin p e below _ (T229.setTop (mkF m 211 #[.val (.int k), .val (.ref b1), .val (.int (12 : Int32)), .val (.ref v12), .val (.int (0 : Int32)), .val (.int (0 : Int32)), .val (.int (53 : Int32)), .val (.int (0 : Int32)), .val (.int (0 : Int32))] [(.int (0 : Int32))]))
      refine OwnFin.step (fun tT kK => XS.iload X229.here hx rfl (hb hby at_211) rfl kK) ?_
      show OwnFin p e below _ (T229.setTop (mkF m 213 #[.val (.int k), .val (.ref b1), .val (.int (12 : Int32)), .val (.ref v12), .val (.int (0 : Int32)), .val (.int (0 : Int32)), .val (.int (53 : Int32)), .val (.int (0 : Int32)), .val (.int (0 : Int32))] [(.int (0 : Int32)), (.int (0 : Int32))]))
      refine OwnFin.step (fun tT kK => XS.icmpNo X229.here hx rfl (hb hby at_213) rfl (teq (rfl : (0 : Int32) = (0 : Int32))).2 kK) ?_
      show OwnFin p e below _ (T229.setTop (mkF m 216 #[.val (.int k), .val (.ref b1), .val (.int (12 : Int32)), .val (.ref v12), .val (.int (0 : Int32)), .val (.int (0 : Int32)), .val (.int (53 : Int32)), .val (.int (0 : Int32)), .val (.int (0 : Int32))] []))
      refine OwnFin.step (fun tT kK => XS.iload X229.here hx rfl (hb hby at_216) rfl kK) ?_
      show OwnFin p e below _ (T229.setTop (mkF m 218 #[.val (.int k), .val (.ref b1), .val (.int (12 : Int32)), .val (.ref v12), .val (.int (0 : Int32)), .val (.int (0 : Int32)), .val (.int (53 : Int32)), .val (.int (0 : Int32)), .val (.int (0 : Int32))] [(.int (0 : Int32))]))
      refine OwnFin.step (fun tT kK => XS.iload X229.here hx rfl (hb hby at_218) rfl kK) ?_
      show OwnFin p e below _ (T229.setTop (mkF m 220 #[.val (.int k), .val (.ref b1), .val (.int (12 : Int32)), .val (.ref v12), .val (.int (0 : Int32)), .val (.int (0 : Int32)), .val (.int (53 : Int32)), .val (.int (0 : Int32)), .val (.int (0 : Int32))] [(.int (0 : Int32)), (.int (0 : Int32))]))
      refine OwnFin.step (fun tT kK => XS.icmpNo X229.here hx rfl (hb hby at_220) rfl (teq (rfl : (0 : Int32) = (0 : Int32))).2 kK) ?_
      show OwnFin p e below _ (T229.setTop (mkF m 223 #[.val (.int k), .val (.ref b1), .val (.int (12 : Int32)), .val (.ref v12), .val (.int (0 : Int32)), .val (.int (0 : Int32)), .val (.int (53 : Int32)), .val (.int (0 : Int32)), .val (.int (0 : Int32))] []))
      refine OwnFin.step (fun tT kK => XS.iload X229.here hx rfl (hb hby at_223) rfl kK) ?_
      show OwnFin p e below _ (T229.setTop (mkF m 225 #[.val (.int k), .val (.ref b1), .val (.int (12 : Int32)), .val (.ref v12), .val (.int (0 : Int32)), .val (.int (0 : Int32)), .val (.int (53 : Int32)), .val (.int (0 : Int32)), .val (.int (0 : Int32))] [(.int (0 : Int32))]))
      refine OwnFin.step (fun tT kK => XS.iload X229.here hx rfl (hb hby at_225) rfl kK) ?_
      show OwnFin p e below _ (T229.setTop (mkF m 227 #[.val (.int k), .val (.ref b1), .val (.int (12 : Int32)), .val (.ref v12), .val (.int (0 : Int32)), .val (.int (0 : Int32)), .val (.int (53 : Int32)), .val (.int (0 : Int32)), .val (.int (0 : Int32))] [(.int (0 : Int32)), (.int (0 : Int32))]))
      refine OwnFin.step (fun tT kK => XS.icmpNo X229.here hx rfl (hb hby at_227) rfl (teq (rfl : (0 : Int32) = (0 : Int32))).2 kK) ?_
      show OwnFin p e below _ (T229.setTop (mkF m 230 #[.val (.int k), .val (.ref b1), .val (.int (12 : Int32)), .val (.ref v12), .val (.int (0 : Int32)), .val (.int (0 : Int32)), .val (.int (53 : Int32)), .val (.int (0 : Int32)), .val (.int (0 : Int32))] []))
      refine OwnFin.step (fun tT kK => XS.iconst X229.here hx rfl (hb hby at_230) kK) ?_
      show OwnFin p e below _ (T229.setTop (mkF m 231 #[.val (.int k), .val (.ref b1), .val (.int (12 : Int32)), .val (.ref v12), .val (.int (0 : Int32)), .val (.int (0 : Int32)), .val (.int (53 : Int32)), .val (.int (0 : Int32)), .val (.int (0 : Int32))] [(.int (1 : Int32))]))
      refine OwnFin.step (fun tT kK => XS.goto X229.here hx rfl (pc0 := 231) (pc' := 235) rfl (hb hby at_231) (by decide) (by decide) kK) ?_
      show OwnFin p e below _ (T229.setTop (mkF m 235 #[.val (.int k), .val (.ref b1), .val (.int (12 : Int32)), .val (.ref v12), .val (.int (0 : Int32)), .val (.int (0 : Int32)), .val (.int (53 : Int32)), .val (.int (0 : Int32)), .val (.int (0 : Int32))] [(.int (1 : Int32))]))
      obtain ⟨fs230, hr230, hrun230, hended230, hW230, hsame230⟩ := X229.leave (v := (some (.int (1 : Int32)))) (fun h => by rw [Bd.returns] at h; cases h)
      refine ⟨_, _, retN X229 hx (t := .boolean) Bd.returns (by simp) (hb hby at_235) hr230, hrun230, hended230, _, _, rfl, ?_, ⟨_, rfl⟩, hW230, hsame230.mono (by decide) (by decide)⟩
      show Q0 Z k v0 v1 v2 v3 v4 v5 v6 v7 v8 v9 v10 v11 v12 v13 v14 v15 v16 v17 v18 h0 n0 _ T229.heap _
      rw [e229]
      exact ⟨rfl, N229, Kp116⟩
    · skip
      show OwnFin p e below _ (T139.setTop (mkF m 141 #[.val (.int k), .val (.ref b1), .val (.int (13 : Int32)), .unset, .unset, .unset, .unset, .unset, .unset] []))
      refine OwnFin.step (fun tT kK => XS.aloadN X139.here hx rfl (hb hby at_141) rfl rfl kK) ?_
      show OwnFin p e below _ (T139.setTop (mkF m 142 #[.val (.int k), .val (.ref b1), .val (.int (13 : Int32)), .unset, .unset, .unset, .unset, .unset, .unset] [(.ref b1)]))
      refine OwnFin.step (fun tT kK => XS.iloadN X139.here hx rfl (hb hby at_142) rfl kK) ?_
      show OwnFin p e below _ (T139.setTop (mkF m 143 #[.val (.int k), .val (.ref b1), .val (.int (13 : Int32)), .unset, .unset, .unset, .unset, .unset, .unset] [(.int (13 : Int32)), (.ref b1)]))
      obtain ⟨cl231, Ar231, q231, Sz231, Ng231, H231, G231⟩ := id V115
      have hin231 : ¬ ((13 : Int32) < 0 ∨ cl231.slots.size ≤ ((13 : Int32)).toNatClampNeg) := inb_of Sz231 ⟨by decide, by decide⟩
      refine OwnFin.step (fun tT kK => X139.aaload hx (j := (13 : Int32)) (v := (.ref v13)) (by rw [e139]; exact Ar231.1) (State.isArrayOf_alike hZ.alike Ar231.2.1) rfl Ar231.2.2 hin231 (H231.at hin231 rfl) (g := (mkF m 143 #[.val (.int k), .val (.ref b1), .val (.int (13 : Int32)), .unset, .unset, .unset, .unset, .unset, .unset] [(.int (13 : Int32)), (.ref b1)])) rfl rfl (hb hby at_143) _ kK) ?_
      show OwnFin p e below _ (T139.setTop (mkF m 144 #[.val (.int k), .val (.ref b1), .val (.int (13 : Int32)), .unset, .unset, .unset, .unset, .unset, .unset] [(.ref v13)]))
      refine OwnFin.step (fun tT kK => XS.astoreN X139.here hx rfl (hb hby at_144) rfl rfl (l' := #[.val (.int k), .val (.ref b1), .val (.int (13 : Int32)), .val (.ref v13), .unset, .unset, .unset, .unset, .unset]) rfl kK) ?_
      show OwnFin p e below _ (T139.setTop (mkF m 145 #[.val (.int k), .val (.ref b1), .val (.int (13 : Int32)), .val (.ref v13), .unset, .unset, .unset, .unset, .unset] []))
      refine OwnFin.step (fun tT kK => XS.aloadN X139.here hx rfl (hb hby at_145) rfl rfl kK) ?_
      show OwnFin p e below _ (T139.setTop (mkF m 146 #[.val (.int k), .val (.ref b1), .val (.int (13 : Int32)), .val (.ref v13), .unset, .unset, .unset, .unset, .unset] [(.ref v13)]))
      obtain ⟨cq232, kq232, q232a, q232b, q232c⟩ := isOf hZ e139 f130
      obtain ⟨_, _, ⟨T232, L232, k232, n232⟩, -, X232, ⟨Lc232, hQ232, l232, y232, z232⟩, st232⟩ := X139.virtualBack hx (y := (⟨"com/example/cairn/cairn/engine/BinaryOperator", "shortCircuits", "()Z"⟩ : MethodName)) (z := (⟨"com/example/cairn/cairn/engine/BinaryOperator", "shortCircuits", "()Z"⟩ : MethodName)) hown (mvT hZ (hw _ (List.mem_of_getElem? (i := 43) rfl))) (mvT hZ (hw _ (List.mem_of_getElem? (i := 44) rfl))) (notFace_of_selects (args := #[]) (mvT hZ (hw _ (List.mem_of_getElem? (i := 46) rfl)))) (mvT hZ (hw _ (List.mem_of_getElem? (i := 46) rfl))) (mvT hZ (hw _ (List.mem_of_getElem? (i := 45) rfl))) (by decide) (backOf (W := 0) (rm1 l Z a0 hw [] v13 v1 v0 h115 n0 (Nat.le_trans Z0 Kp116.1) f136 f137) hZ (hw _ (List.mem_of_getElem? (i := 47) rfl)) (hw _ (List.mem_of_getElem? (i := 3) rfl)) (by decide) (by decide)) q232a q232c (g := (mkF m 146 #[.val (.int k), .val (.ref b1), .val (.int (13 : Int32)), .val (.ref v13), .unset, .unset, .unset, .unset, .unset] [(.ref v13)])) rfl (by rw [hml]; rfl) (Steps.refl _) (argsL := []) (rest := []) (lenOf pd_18 rfl) rfl (by show 2 * 0 + _ ≤ _; exact Nat.le_of_eq rfl) (hb hby at_146) (fun _ _ => ⟨rfl, e139, (by decide : 1 + 0 ≤ _), (by decide : 19 + 0 ≤ _)⟩)
      dsimp only [Pt.U, Pt.locs, Pt.cells, Pt.slots] at X232 l232 y232 z232 st232 hQ232
      subst l232 y232 z232
      obtain ⟨rfl, N232q, e232⟩ := hQ232
      have N232 := Fr.app N139 N232q
      refine OwnFin.step (fun tT kK => st232.trans kK) ?_
      show OwnFin p e below _ (T232.setTop (mkF m 149 #[.val (.int k), .val (.ref b1), .val (.int (13 : Int32)), .val (.ref v13), .unset, .unset, .unset, .unset, .unset] [(.int (if v13 = v1 ∨ v13 = v0 then 1 else 0))]))
      rw [show (if v13 = v1 ∨ v13 = v0 then (1 : Int32) else 0) = 0 from if_neg (fun q => q.elim hp99 hp98)]
      show OwnFin p e below _ (T232.setTop (mkF m 149 #[.val (.int k), .val (.ref b1), .val (.int (13 : Int32)), .val (.ref v13), .unset, .unset, .unset, .unset, .unset] [(.int (0 : Int32))]))
      refine OwnFin.step (fun tT kK => XS.istore X232.here hx rfl (hb hby at_149) rfl (l' := #[.val (.int k), .val (.ref b1), .val (.int (13 : Int32)), .val (.ref v13), .val (.int (0 : Int32)), .unset, .unset, .unset, .unset]) rfl kK) ?_
      show OwnFin p e below _ (T232.setTop (mkF m 151 #[.val (.int k), .val (.ref b1), .val (.int (13 : Int32)), .val (.ref v13), .val (.int (0 : Int32)), .unset, .unset, .unset, .unset] []))
      refine OwnFin.step (fun tT kK => XS.iloadN X232.here hx rfl (hb hby at_151) rfl kK) ?_
      show OwnFin p e below _ (T232.setTop (mkF m 152 #[.val (.int k), .val (.ref b1), .val (.int (13 : Int32)), .val (.ref v13), .val (.int (0 : Int32)), .unset, .unset, .unset, .unset] [(.int (13 : Int32))]))
      refine OwnFin.step (fun tT kK => XS.ifNo X232.here hx rfl (hb hby at_152) rfl ((if0 _ _).trans (feq (by decide : ¬ ((13 : Int32) = (0 : Int32)))).1) kK) ?_
      show OwnFin p e below _ (T232.setTop (mkF m 155 #[.val (.int k), .val (.ref b1), .val (.int (13 : Int32)), .val (.ref v13), .val (.int (0 : Int32)), .unset, .unset, .unset, .unset] []))
      refine OwnFin.step (fun tT kK => XS.iloadN X232.here hx rfl (hb hby at_155) rfl kK) ?_
      show OwnFin p e below _ (T232.setTop (mkF m 156 #[.val (.int k), .val (.ref b1), .val (.int (13 : Int32)), .val (.ref v13), .val (.int (0 : Int32)), .unset, .unset, .unset, .unset] [(.int (13 : Int32))]))
      refine OwnFin.step (fun tT kK => XS.iconst X232.here hx rfl (hb hby at_156) kK) ?_
      show OwnFin p e below _ (T232.setTop (mkF m 157 #[.val (.int k), .val (.ref b1), .val (.int (13 : Int32)), .val (.ref v13), .val (.int (0 : Int32)), .unset, .unset, .unset, .unset] [(.int (1 : Int32)), (.int (13 : Int32))]))
      refine OwnFin.step (fun tT kK => XS.icmpYes X232.here hx rfl (pc0 := 157) (pc' := 164) rfl (hb hby at_157) rfl (feq (by decide : ¬ ((13 : Int32) = (1 : Int32)))).2 (by decide) (by decide) kK) ?_
      show OwnFin p e below _ (T232.setTop (mkF m 164 #[.val (.int k), .val (.ref b1), .val (.int (13 : Int32)), .val (.ref v13), .val (.int (0 : Int32)), .unset, .unset, .unset, .unset] []))
      refine OwnFin.step (fun tT kK => XS.iconst X232.here hx rfl (hb hby at_164) kK) ?_
      show OwnFin p e below _ (T232.setTop (mkF m 165 #[.val (.int k), .val (.ref b1), .val (.int (13 : Int32)), .val (.ref v13), .val (.int (0 : Int32)), .unset, .unset, .unset, .unset] [(.int (0 : Int32))]))
      refine OwnFin.step (fun tT kK => XS.istore X232.here hx rfl (hb hby at_165) rfl (l' := #[.val (.int k), .val (.ref b1), .val (.int (13 : Int32)), .val (.ref v13), .val (.int (0 : Int32)), .val (.int (0 : Int32)), .unset, .unset, .unset]) rfl kK) ?_
      show OwnFin p e below _ (T232.setTop (mkF m 167 #[.val (.int k), .val (.ref b1), .val (.int (13 : Int32)), .val (.ref v13), .val (.int (0 : Int32)), .val (.int (0 : Int32)), .unset, .unset, .unset] []))
      refine OwnFin.step (fun tT kK => XS.aloadN X232.here hx rfl (hb hby at_167) rfl rfl kK) ?_
      show OwnFin p e below _ (T232.setTop (mkF m 168 #[.val (.int k), .val (.ref b1), .val (.int (13 : Int32)), .val (.ref v13), .val (.int (0 : Int32)), .val (.int (0 : Int32)), .unset, .unset, .unset] [(.ref v13)]))
      have f233 : Fld Z h115 v13 "com/example/cairn/cairn/engine/BinaryOperator" "opcode" "I" (.int (54 : Int32)) := (hp51.keep Kp116 nin0)
      obtain ⟨cq234, kq234, q234a, q234b, q234c⟩ := isOf hZ e232 f130
      obtain ⟨_, _, ⟨T234, L234, k234, n234⟩, -, X234, ⟨Lc234, hQ234, l234, y234, z234⟩, st234⟩ := X232.virtualBack hx (y := (⟨"com/example/cairn/cairn/engine/BinaryOperator", "opcode", "()I"⟩ : MethodName)) (z := (⟨"com/example/cairn/cairn/engine/BinaryOperator", "opcode", "()I"⟩ : MethodName)) hown (mvT hZ (hw _ (List.mem_of_getElem? (i := 50) rfl))) (mvT hZ (hw _ (List.mem_of_getElem? (i := 51) rfl))) (notFace_of_selects (args := #[]) (mvT hZ (hw _ (List.mem_of_getElem? (i := 53) rfl)))) (mvT hZ (hw _ (List.mem_of_getElem? (i := 53) rfl))) (mvT hZ (hw _ (List.mem_of_getElem? (i := 52) rfl))) (by decide) (backOf (W := 0) (rm2 l Z a0 hw [] v13 (54 : Int32) h115 n0 (Nat.le_trans Z0 Kp116.1) f233) hZ (hw _ (List.mem_of_getElem? (i := 54) rfl)) (hw _ (List.mem_of_getElem? (i := 3) rfl)) (by decide) (by decide)) q234a q234c (g := (mkF m 168 #[.val (.int k), .val (.ref b1), .val (.int (13 : Int32)), .val (.ref v13), .val (.int (0 : Int32)), .val (.int (0 : Int32)), .unset, .unset, .unset] [(.ref v13)])) rfl (by rw [hml]; rfl) (Steps.refl _) (argsL := []) (rest := []) (lenOf pd_19 rfl) rfl (by show 2 * 0 + _ ≤ _; exact Nat.le_of_eq rfl) (hb hby at_168) (fun _ _ => ⟨rfl, e232, (by decide : 1 + 0 ≤ _), (by decide : 19 + 0 ≤ _)⟩)
      dsimp only [Pt.U, Pt.locs, Pt.cells, Pt.slots] at X234 l234 y234 z234 st234 hQ234
      subst l234 y234 z234
      obtain ⟨rfl, N234q, e234⟩ := hQ234
      have N234 := Fr.app N232 N234q
      refine OwnFin.step (fun tT kK => st234.trans kK) ?_
      show OwnFin p e below _ (T234.setTop (mkF m 171 #[.val (.int k), .val (.ref b1), .val (.int (13 : Int32)), .val (.ref v13), .val (.int (0 : Int32)), .val (.int (0 : Int32)), .unset, .unset, .unset] [(.int (54 : Int32))]))
      refine OwnFin.step (fun tT kK => XS.istore X234.here hx rfl (hb hby at_171) rfl (l' := #[.val (.int k), .val (.ref b1), .val (.int (13 : Int32)), .val (.ref v13), .val (.int (0 : Int32)), .val (.int (0 : Int32)), .val (.int (54 : Int32)), .unset, .unset]) rfl kK) ?_
      show OwnFin p e below _ (T234.setTop (mkF m 173 #[.val (.int k), .val (.ref b1), .val (.int (13 : Int32)), .val (.ref v13), .val (.int (0 : Int32)), .val (.int (0 : Int32)), .val (.int (54 : Int32)), .unset, .unset] []))
      refine OwnFin.step (fun tT kK => XS.iload X234.here hx rfl (hb hby at_173) rfl kK) ?_
      show OwnFin p e below _ (T234.setTop (mkF m 175 #[.val (.int k), .val (.ref b1), .val (.int (13 : Int32)), .val (.ref v13), .val (.int (0 : Int32)), .val (.int (0 : Int32)), .val (.int (54 : Int32)), .unset, .unset] [(.int (54 : Int32))]))
      refine OwnFin.step (fun tT kK => XS.bipush X234.here hx rfl (hb hby at_175) kK) ?_
      show OwnFin p e below _ (T234.setTop (mkF m 177 #[.val (.int k), .val (.ref b1), .val (.int (13 : Int32)), .val (.ref v13), .val (.int (0 : Int32)), .val (.int (0 : Int32)), .val (.int (54 : Int32)), .unset, .unset] [(.int (37 : Int32)), (.int (54 : Int32))]))
      refine OwnFin.step (fun tT kK => XS.icmpNo X234.here hx rfl (hb hby at_177) rfl (feq (by decide : ¬ ((54 : Int32) = (37 : Int32)))).1 kK) ?_
      show OwnFin p e below _ (T234.setTop (mkF m 180 #[.val (.int k), .val (.ref b1), .val (.int (13 : Int32)), .val (.ref v13), .val (.int (0 : Int32)), .val (.int (0 : Int32)), .val (.int (54 : Int32)), .unset, .unset] []))
      refine OwnFin.step (fun tT kK => XS.iload X234.here hx rfl (hb hby at_180) rfl kK) ?_
      show OwnFin p e below _ (T234.setTop (mkF m 182 #[.val (.int k), .val (.ref b1), .val (.int (13 : Int32)), .val (.ref v13), .val (.int (0 : Int32)), .val (.int (0 : Int32)), .val (.int (54 : Int32)), .unset, .unset] [(.int (54 : Int32))]))
      refine OwnFin.step (fun tT kK => XS.bipush X234.here hx rfl (hb hby at_182) kK) ?_
      show OwnFin p e below _ (T234.setTop (mkF m 184 #[.val (.int k), .val (.ref b1), .val (.int (13 : Int32)), .val (.ref v13), .val (.int (0 : Int32)), .val (.int (0 : Int32)), .val (.int (54 : Int32)), .unset, .unset] [(.int (38 : Int32)), (.int (54 : Int32))]))
      refine OwnFin.step (fun tT kK => XS.icmpYes X234.here hx rfl (pc0 := 184) (pc' := 191) rfl (hb hby at_184) rfl (feq (by decide : ¬ ((54 : Int32) = (38 : Int32)))).2 (by decide) (by decide) kK) ?_
      show OwnFin p e below _ (T234.setTop (mkF m 191 #[.val (.int k), .val (.ref b1), .val (.int (13 : Int32)), .val (.ref v13), .val (.int (0 : Int32)), .val (.int (0 : Int32)), .val (.int (54 : Int32)), .unset, .unset] []))
      refine OwnFin.step (fun tT kK => XS.iconst X234.here hx rfl (hb hby at_191) kK) ?_
      show OwnFin p e below _ (T234.setTop (mkF m 192 #[.val (.int k), .val (.ref b1), .val (.int (13 : Int32)), .val (.ref v13), .val (.int (0 : Int32)), .val (.int (0 : Int32)), .val (.int (54 : Int32)), .unset, .unset] [(.int (0 : Int32))]))
      refine OwnFin.step (fun tT kK => XS.istore X234.here hx rfl (hb hby at_192) rfl (l' := #[.val (.int k), .val (.ref b1), .val (.int (13 : Int32)), .val (.ref v13), .val (.int (0 : Int32)), .val (.int (0 : Int32)), .val (.int (54 : Int32)), .val (.int (0 : Int32)), .unset]) rfl kK) ?_
      show OwnFin p e below _ (T234.setTop (mkF m 194 #[.val (.int k), .val (.ref b1), .val (.int (13 : Int32)), .val (.ref v13), .val (.int (0 : Int32)), .val (.int (0 : Int32)), .val (.int (54 : Int32)), .val (.int (0 : Int32)), .unset] []))
      refine OwnFin.step (fun tT kK => XS.aloadN X234.here hx rfl (hb hby at_194) rfl rfl kK) ?_
      show OwnFin p e below _ (T234.setTop (mkF m 195 #[.val (.int k), .val (.ref b1), .val (.int (13 : Int32)), .val (.ref v13), .val (.int (0 : Int32)), .val (.int (0 : Int32)), .val (.int (54 : Int32)), .val (.int (0 : Int32)), .unset] [(.ref v13)]))
      have f235 : Fld Z h115 v13 "com/example/cairn/cairn/engine/BinaryOperator" "precedence" "I" (.int (7 : Int32)) := (hp70.keep Kp116 nin0)
      obtain ⟨cq236, kq236, q236a, q236b, q236c⟩ := isOf hZ e234 f130
      obtain ⟨_, _, ⟨T236, L236, k236, n236⟩, -, X236, ⟨Lc236, hQ236, l236, y236, z236⟩, st236⟩ := X234.virtualBack hx (y := (⟨"com/example/cairn/cairn/engine/BinaryOperator", "precedence", "()I"⟩ : MethodName)) (z := (⟨"com/example/cairn/cairn/engine/BinaryOperator", "precedence", "()I"⟩ : MethodName)) hown (mvT hZ (hw _ (List.mem_of_getElem? (i := 57) rfl))) (mvT hZ (hw _ (List.mem_of_getElem? (i := 58) rfl))) (notFace_of_selects (args := #[]) (mvT hZ (hw _ (List.mem_of_getElem? (i := 60) rfl)))) (mvT hZ (hw _ (List.mem_of_getElem? (i := 60) rfl))) (mvT hZ (hw _ (List.mem_of_getElem? (i := 59) rfl))) (by decide) (backOf (W := 0) (rm3 l Z a0 hw [] v13 (7 : Int32) h115 n0 (Nat.le_trans Z0 Kp116.1) f235) hZ (hw _ (List.mem_of_getElem? (i := 61) rfl)) (hw _ (List.mem_of_getElem? (i := 3) rfl)) (by decide) (by decide)) q236a q236c (g := (mkF m 195 #[.val (.int k), .val (.ref b1), .val (.int (13 : Int32)), .val (.ref v13), .val (.int (0 : Int32)), .val (.int (0 : Int32)), .val (.int (54 : Int32)), .val (.int (0 : Int32)), .unset] [(.ref v13)])) rfl (by rw [hml]; rfl) (Steps.refl _) (argsL := []) (rest := []) (lenOf pd_19 rfl) rfl (by show 2 * 0 + _ ≤ _; exact Nat.le_of_eq rfl) (hb hby at_195) (fun _ _ => ⟨rfl, e234, (by decide : 1 + 0 ≤ _), (by decide : 19 + 0 ≤ _)⟩)
      dsimp only [Pt.U, Pt.locs, Pt.cells, Pt.slots] at X236 l236 y236 z236 st236 hQ236
      subst l236 y236 z236
      obtain ⟨rfl, N236q, e236⟩ := hQ236
      have N236 := Fr.app N234 N236q
      refine OwnFin.step (fun tT kK => st236.trans kK) ?_
      show OwnFin p e below _ (T236.setTop (mkF m 198 #[.val (.int k), .val (.ref b1), .val (.int (13 : Int32)), .val (.ref v13), .val (.int (0 : Int32)), .val (.int (0 : Int32)), .val (.int (54 : Int32)), .val (.int (0 : Int32)), .unset] [(.int (7 : Int32))]))
      refine OwnFin.step (fun tT kK => XS.iconst X236.here hx rfl (hb hby at_198) kK) ?_
      show OwnFin p e below _ (T236.setTop (mkF m 199 #[.val (.int k), .val (.ref b1), .val (.int (13 : Int32)), .val (.ref v13), .val (.int (0 : Int32)), .val (.int (0 : Int32)), .val (.int (54 : Int32)), .val (.int (0 : Int32)), .unset] [(.int (2 : Int32)), (.int (7 : Int32))]))
      refine OwnFin.step (fun tT kK => XS.icmpYes X236.here hx rfl (pc0 := 199) (pc' := 206) rfl (hb hby at_199) rfl (tlt (by decide : (2 : Int32) < (7 : Int32))).2.2.1 (by decide) (by decide) kK) ?_
      show OwnFin p e below _ (T236.setTop (mkF m 206 #[.val (.int k), .val (.ref b1), .val (.int (13 : Int32)), .val (.ref v13), .val (.int (0 : Int32)), .val (.int (0 : Int32)), .val (.int (54 : Int32)), .val (.int (0 : Int32)), .unset] []))
      refine OwnFin.step (fun tT kK => XS.iconst X236.here hx rfl (hb hby at_206) kK) ?_
      show OwnFin p e below _ (T236.setTop (mkF m 207 #[.val (.int k), .val (.ref b1), .val (.int (13 : Int32)), .val (.ref v13), .val (.int (0 : Int32)), .val (.int (0 : Int32)), .val (.int (54 : Int32)), .val (.int (0 : Int32)), .unset] [(.int (0 : Int32))]))
      refine OwnFin.step (fun tT kK => XS.istore X236.here hx rfl (hb hby at_207) rfl (l' := #[.val (.int k), .val (.ref b1), .val (.int (13 : Int32)), .val (.ref v13), .val (.int (0 : Int32)), .val (.int (0 : Int32)), .val (.int (54 : Int32)), .val (.int (0 : Int32)), .val (.int (0 : Int32))]) rfl kK) ?_
      show OwnFin p e below _ (T236.setTop (mkF m 209 #[.val (.int k), .val (.ref b1), .val (.int (13 : Int32)), .val (.ref v13), .val (.int (0 : Int32)), .val (.int (0 : Int32)), .val (.int (54 : Int32)), .val (.int (0 : Int32)), .val (.int (0 : Int32))] []))
      refine OwnFin.step (fun tT kK => XS.iload X236.here hx rfl (hb hby at_209) rfl kK) ?_
      show OwnFin p e below _ (T236.setTop (mkF m 211 #[.val (.int k), .val (.ref b1), .val (.int (13 : Int32)), .val (.ref v13), .val (.int (0 : Int32)), .val (.int (0 : Int32)), .val (.int (54 : Int32)), .val (.int (0 : Int32)), .val (.int (0 : Int32))] [(.int (0 : Int32))]))
      refine OwnFin.step (fun tT kK => XS.iload X236.here hx rfl (hb hby at_211) rfl kK) ?_
      show OwnFin p e below _ (T236.setTop (mkF m 213 #[.val (.int k), .val (.ref b1), .val (.int (13 : Int32)), .val (.ref v13), .val (.int (0 : Int32)), .val (.int (0 : Int32)), .val (.int (54 : Int32)), .val (.int (0 : Int32)), .val (.int (0 : Int32))] [(.int (0 : Int32)), (.int (0 : Int32))]))
      refine OwnFin.step (fun tT kK => XS.icmpNo X236.here hx rfl (hb hby at_213) rfl (teq (rfl : (0 : Int32) = (0 : Int32))).2 kK) ?_
      show OwnFin p e below _ (T236.setTop (mkF m 216 #[.val (.int k), .val (.ref b1), .val (.int (13 : Int32)), .val (.ref v13), .val (.int (0 : Int32)), .val (.int (0 : Int32)), .val (.int (54 : Int32)), .val (.int (0 : Int32)), .val (.int (0 : Int32))] []))
      refine OwnFin.step (fun tT kK => XS.iload X236.here hx rfl (hb hby at_216) rfl kK) ?_
      show OwnFin p e below _ (T236.setTop (mkF m 218 #[.val (.int k), .val (.ref b1), .val (.int (13 : Int32)), .val (.ref v13), .val (.int (0 : Int32)), .val (.int (0 : Int32)), .val (.int (54 : Int32)), .val (.int (0 : Int32)), .val (.int (0 : Int32))] [(.int (0 : Int32))]))
      refine OwnFin.step (fun tT kK => XS.iload X236.here hx rfl (hb hby at_218) rfl kK) ?_
      show OwnFin p e below _ (T236.setTop (mkF m 220 #[.val (.int k), .val (.ref b1), .val (.int (13 : Int32)), .val (.ref v13), .val (.int (0 : Int32)), .val (.int (0 : Int32)), .val (.int (54 : Int32)), .val (.int (0 : Int32)), .val (.int (0 : Int32))] [(.int (0 : Int32)), (.int (0 : Int32))]))
      refine OwnFin.step (fun tT kK => XS.icmpNo X236.here hx rfl (hb hby at_220) rfl (teq (rfl : (0 : Int32) = (0 : Int32))).2 kK) ?_
      show OwnFin p e below _ (T236.setTop (mkF m 223 #[.val (.int k), .val (.ref b1), .val (.int (13 : Int32)), .val (.ref v13), .val (.int (0 : Int32)), .val (.int (0 : Int32)), .val (.int (54 : Int32)), .val (.int (0 : Int32)), .val (.int (0 : Int32))] []))
      refine OwnFin.step (fun tT kK => XS.iload X236.here hx rfl (hb hby at_223) rfl kK) ?_
      show OwnFin p e below _ (T236.setTop (mkF m 225 #[.val (.int k), .val (.ref b1), .val (.int (13 : Int32)), .val (.ref v13), .val (.int (0 : Int32)), .val (.int (0 : Int32)), .val (.int (54 : Int32)), .val (.int (0 : Int32)), .val (.int (0 : Int32))] [(.int (0 : Int32))]))
      refine OwnFin.step (fun tT kK => XS.iload X236.here hx rfl (hb hby at_225) rfl kK) ?_
      show OwnFin p e below _ (T236.setTop (mkF m 227 #[.val (.int k), .val (.ref b1), .val (.int (13 : Int32)), .val (.ref v13), .val (.int (0 : Int32)), .val (.int (0 : Int32)), .val (.int (54 : Int32)), .val (.int (0 : Int32)), .val (.int (0 : Int32))] [(.int (0 : Int32)), (.int (0 : Int32))]))
      refine OwnFin.step (fun tT kK => XS.icmpNo X236.here hx rfl (hb hby at_227) rfl (teq (rfl : (0 : Int32) = (0 : Int32))).2 kK) ?_
      show OwnFin p e below _ (T236.setTop (mkF m 230 #[.val (.int k), .val (.ref b1), .val (.int (13 : Int32)), .val (.ref v13), .val (.int (0 : Int32)), .val (.int (0 : Int32)), .val (.int (54 : Int32)), .val (.int (0 : Int32)), .val (.int (0 : Int32))] []))
      refine OwnFin.step (fun tT kK => XS.iconst X236.here hx rfl (hb hby at_230) kK) ?_
      show OwnFin p e below _ (T236.setTop (mkF m 231 #[.val (.int k), .val (.ref b1), .val (.int (13 : Int32)), .val (.ref v13), .val (.int (0 : Int32)), .val (.int (0 : Int32)), .val (.int (54 : Int32)), .val (.int (0 : Int32)), .val (.int (0 : Int32))] [(.int (1 : Int32))]))
      refine OwnFin.step (fun tT kK => XS.goto X236.here hx rfl (pc0 := 231) (pc' := 235) rfl (hb hby at_231) (by decide) (by decide) kK) ?_
      show OwnFin p e below _ (T236.setTop (mkF m 235 #[.val (.int k), .val (.ref b1), .val (.int (13 : Int32)), .val (.ref v13), .val (.int (0 : Int32)), .val (.int (0 : Int32)), .val (.int (54 : Int32)), .val (.int (0 : Int32)), .val (.int (0 : Int32))] [(.int (1 : Int32))]))
      obtain ⟨fs237, hr237, hrun237, hended237, hW237, hsame237⟩ := X236.leave (v := (some (.int (1 : Int32)))) (fun h => by rw [Bd.returns] at h; cases h)
      refine ⟨_, _, retN X236 hx (t := .boolean) Bd.returns (by simp) (hb hby at_235) hr237, hrun237, hended237, _, _, rfl, ?_, ⟨_, rfl⟩, hW237, hsame237.mono (by decide) (by decide)⟩
      show Q0 Z k v0 v1 v2 v3 v4 v5 v6 v7 v8 v9 v10 v11 v12 v13 v14 v15 v16 v17 v18 h0 n0 _ T236.heap _
      rw [e236]
      exact ⟨rfl, N236, Kp116⟩
    · skip
      show OwnFin p e below _ (T139.setTop (mkF m 141 #[.val (.int k), .val (.ref b1), .val (.int (14 : Int32)), .unset, .unset, .unset, .unset, .unset, .unset] []))
      refine OwnFin.step (fun tT kK => XS.aloadN X139.here hx rfl (hb hby at_141) rfl rfl kK) ?_
      show OwnFin p e below _ (T139.setTop (mkF m 142 #[.val (.int k), .val (.ref b1), .val (.int (14 : Int32)), .unset, .unset, .unset, .unset, .unset, .unset] [(.ref b1)]))
      refine OwnFin.step (fun tT kK => XS.iloadN X139.here hx rfl (hb hby at_142) rfl kK) ?_
      show OwnFin p e below _ (T139.setTop (mkF m 143 #[.val (.int k), .val (.ref b1), .val (.int (14 : Int32)), .unset, .unset, .unset, .unset, .unset, .unset] [(.int (14 : Int32)), (.ref b1)]))
      obtain ⟨cl238, Ar238, q238, Sz238, Ng238, H238, G238⟩ := id V115
      have hin238 : ¬ ((14 : Int32) < 0 ∨ cl238.slots.size ≤ ((14 : Int32)).toNatClampNeg) := inb_of Sz238 ⟨by decide, by decide⟩
      refine OwnFin.step (fun tT kK => X139.aaload hx (j := (14 : Int32)) (v := (.ref v14)) (by rw [e139]; exact Ar238.1) (State.isArrayOf_alike hZ.alike Ar238.2.1) rfl Ar238.2.2 hin238 (H238.at hin238 rfl) (g := (mkF m 143 #[.val (.int k), .val (.ref b1), .val (.int (14 : Int32)), .unset, .unset, .unset, .unset, .unset, .unset] [(.int (14 : Int32)), (.ref b1)])) rfl rfl (hb hby at_143) _ kK) ?_
      show OwnFin p e below _ (T139.setTop (mkF m 144 #[.val (.int k), .val (.ref b1), .val (.int (14 : Int32)), .unset, .unset, .unset, .unset, .unset, .unset] [(.ref v14)]))
      refine OwnFin.step (fun tT kK => XS.astoreN X139.here hx rfl (hb hby at_144) rfl rfl (l' := #[.val (.int k), .val (.ref b1), .val (.int (14 : Int32)), .val (.ref v14), .unset, .unset, .unset, .unset, .unset]) rfl kK) ?_
      show OwnFin p e below _ (T139.setTop (mkF m 145 #[.val (.int k), .val (.ref b1), .val (.int (14 : Int32)), .val (.ref v14), .unset, .unset, .unset, .unset, .unset] []))
      refine OwnFin.step (fun tT kK => XS.aloadN X139.here hx rfl (hb hby at_145) rfl rfl kK) ?_
      show OwnFin p e below _ (T139.setTop (mkF m 146 #[.val (.int k), .val (.ref b1), .val (.int (14 : Int32)), .val (.ref v14), .unset, .unset, .unset, .unset, .unset] [(.ref v14)]))
      obtain ⟨cq239, kq239, q239a, q239b, q239c⟩ := isOf hZ e139 f131
      obtain ⟨_, _, ⟨T239, L239, k239, n239⟩, -, X239, ⟨Lc239, hQ239, l239, y239, z239⟩, st239⟩ := X139.virtualBack hx (y := (⟨"com/example/cairn/cairn/engine/BinaryOperator", "shortCircuits", "()Z"⟩ : MethodName)) (z := (⟨"com/example/cairn/cairn/engine/BinaryOperator", "shortCircuits", "()Z"⟩ : MethodName)) hown (mvT hZ (hw _ (List.mem_of_getElem? (i := 43) rfl))) (mvT hZ (hw _ (List.mem_of_getElem? (i := 44) rfl))) (notFace_of_selects (args := #[]) (mvT hZ (hw _ (List.mem_of_getElem? (i := 46) rfl)))) (mvT hZ (hw _ (List.mem_of_getElem? (i := 46) rfl))) (mvT hZ (hw _ (List.mem_of_getElem? (i := 45) rfl))) (by decide) (backOf (W := 0) (rm1 l Z a0 hw [] v14 v1 v0 h115 n0 (Nat.le_trans Z0 Kp116.1) f136 f137) hZ (hw _ (List.mem_of_getElem? (i := 47) rfl)) (hw _ (List.mem_of_getElem? (i := 3) rfl)) (by decide) (by decide)) q239a q239c (g := (mkF m 146 #[.val (.int k), .val (.ref b1), .val (.int (14 : Int32)), .val (.ref v14), .unset, .unset, .unset, .unset, .unset] [(.ref v14)])) rfl (by rw [hml]; rfl) (Steps.refl _) (argsL := []) (rest := []) (lenOf pd_18 rfl) rfl (by show 2 * 0 + _ ≤ _; exact Nat.le_of_eq rfl) (hb hby at_146) (fun _ _ => ⟨rfl, e139, (by decide : 1 + 0 ≤ _), (by decide : 19 + 0 ≤ _)⟩)
      dsimp only [Pt.U, Pt.locs, Pt.cells, Pt.slots] at X239 l239 y239 z239 st239 hQ239
      subst l239 y239 z239
      obtain ⟨rfl, N239q, e239⟩ := hQ239
      have N239 := Fr.app N139 N239q
      refine OwnFin.step (fun tT kK => st239.trans kK) ?_
      show OwnFin p e below _ (T239.setTop (mkF m 149 #[.val (.int k), .val (.ref b1), .val (.int (14 : Int32)), .val (.ref v14), .unset, .unset, .unset, .unset, .unset] [(.int (if v14 = v1 ∨ v14 = v0 then 1 else 0))]))
      rw [show (if v14 = v1 ∨ v14 = v0 then (1 : Int32) else 0) = 0 from if_neg (fun q => q.elim hp101 hp100)]
      show OwnFin p e below _ (T239.setTop (mkF m 149 #[.val (.int k), .val (.ref b1), .val (.int (14 : Int32)), .val (.ref v14), .unset, .unset, .unset, .unset, .unset] [(.int (0 : Int32))]))
      refine OwnFin.step (fun tT kK => XS.istore X239.here hx rfl (hb hby at_149) rfl (l' := #[.val (.int k), .val (.ref b1), .val (.int (14 : Int32)), .val (.ref v14), .val (.int (0 : Int32)), .unset, .unset, .unset, .unset]) rfl kK) ?_
      show OwnFin p e below _ (T239.setTop (mkF m 151 #[.val (.int k), .val (.ref b1), .val (.int (14 : Int32)), .val (.ref v14), .val (.int (0 : Int32)), .unset, .unset, .unset, .unset] []))
      refine OwnFin.step (fun tT kK => XS.iloadN X239.here hx rfl (hb hby at_151) rfl kK) ?_
      show OwnFin p e below _ (T239.setTop (mkF m 152 #[.val (.int k), .val (.ref b1), .val (.int (14 : Int32)), .val (.ref v14), .val (.int (0 : Int32)), .unset, .unset, .unset, .unset] [(.int (14 : Int32))]))
      refine OwnFin.step (fun tT kK => XS.ifNo X239.here hx rfl (hb hby at_152) rfl ((if0 _ _).trans (feq (by decide : ¬ ((14 : Int32) = (0 : Int32)))).1) kK) ?_
      show OwnFin p e below _ (T239.setTop (mkF m 155 #[.val (.int k), .val (.ref b1), .val (.int (14 : Int32)), .val (.ref v14), .val (.int (0 : Int32)), .unset, .unset, .unset, .unset] []))
      refine OwnFin.step (fun tT kK => XS.iloadN X239.here hx rfl (hb hby at_155) rfl kK) ?_
      show OwnFin p e below _ (T239.setTop (mkF m 156 #[.val (.int k), .val (.ref b1), .val (.int (14 : Int32)), .val (.ref v14), .val (.int (0 : Int32)), .unset, .unset, .unset, .unset] [(.int (14 : Int32))]))
      refine OwnFin.step (fun tT kK => XS.iconst X239.here hx rfl (hb hby at_156) kK) ?_
      show OwnFin p e below _ (T239.setTop (mkF m 157 #[.val (.int k), .val (.ref b1), .val (.int (14 : Int32)), .val (.ref v14), .val (.int (0 : Int32)), .unset, .unset, .unset, .unset] [(.int (1 : Int32)), (.int (14 : Int32))]))
      refine OwnFin.step (fun tT kK => XS.icmpYes X239.here hx rfl (pc0 := 157) (pc' := 164) rfl (hb hby at_157) rfl (feq (by decide : ¬ ((14 : Int32) = (1 : Int32)))).2 (by decide) (by decide) kK) ?_
      show OwnFin p e below _ (T239.setTop (mkF m 164 #[.val (.int k), .val (.ref b1), .val (.int (14 : Int32)), .val (.ref v14), .val (.int (0 : Int32)), .unset, .unset, .unset, .unset] []))
      refine OwnFin.step (fun tT kK => XS.iconst X239.here hx rfl (hb hby at_164) kK) ?_
      show OwnFin p e below _ (T239.setTop (mkF m 165 #[.val (.int k), .val (.ref b1), .val (.int (14 : Int32)), .val (.ref v14), .val (.int (0 : Int32)), .unset, .unset, .unset, .unset] [(.int (0 : Int32))]))
      refine OwnFin.step (fun tT kK => XS.istore X239.here hx rfl (hb hby at_165) rfl (l' := #[.val (.int k), .val (.ref b1), .val (.int (14 : Int32)), .val (.ref v14), .val (.int (0 : Int32)), .val (.int (0 : Int32)), .unset, .unset, .unset]) rfl kK) ?_
      show OwnFin p e below _ (T239.setTop (mkF m 167 #[.val (.int k), .val (.ref b1), .val (.int (14 : Int32)), .val (.ref v14), .val (.int (0 : Int32)), .val (.int (0 : Int32)), .unset, .unset, .unset] []))
      refine OwnFin.step (fun tT kK => XS.aloadN X239.here hx rfl (hb hby at_167) rfl rfl kK) ?_
      show OwnFin p e below _ (T239.setTop (mkF m 168 #[.val (.int k), .val (.ref b1), .val (.int (14 : Int32)), .val (.ref v14), .val (.int (0 : Int32)), .val (.int (0 : Int32)), .unset, .unset, .unset] [(.ref v14)]))
      have f240 : Fld Z h115 v14 "com/example/cairn/cairn/engine/BinaryOperator" "opcode" "I" (.int (4 : Int32)) := (hp52.keep Kp116 nin0)
      obtain ⟨cq241, kq241, q241a, q241b, q241c⟩ := isOf hZ e239 f131
      obtain ⟨_, _, ⟨T241, L241, k241, n241⟩, -, X241, ⟨Lc241, hQ241, l241, y241, z241⟩, st241⟩ := X239.virtualBack hx (y := (⟨"com/example/cairn/cairn/engine/BinaryOperator", "opcode", "()I"⟩ : MethodName)) (z := (⟨"com/example/cairn/cairn/engine/BinaryOperator", "opcode", "()I"⟩ : MethodName)) hown (mvT hZ (hw _ (List.mem_of_getElem? (i := 50) rfl))) (mvT hZ (hw _ (List.mem_of_getElem? (i := 51) rfl))) (notFace_of_selects (args := #[]) (mvT hZ (hw _ (List.mem_of_getElem? (i := 53) rfl)))) (mvT hZ (hw _ (List.mem_of_getElem? (i := 53) rfl))) (mvT hZ (hw _ (List.mem_of_getElem? (i := 52) rfl))) (by decide) (backOf (W := 0) (rm2 l Z a0 hw [] v14 (4 : Int32) h115 n0 (Nat.le_trans Z0 Kp116.1) f240) hZ (hw _ (List.mem_of_getElem? (i := 54) rfl)) (hw _ (List.mem_of_getElem? (i := 3) rfl)) (by decide) (by decide)) q241a q241c (g := (mkF m 168 #[.val (.int k), .val (.ref b1), .val (.int (14 : Int32)), .val (.ref v14), .val (.int (0 : Int32)), .val (.int (0 : Int32)), .unset, .unset, .unset] [(.ref v14)])) rfl (by rw [hml]; rfl) (Steps.refl _) (argsL := []) (rest := []) (lenOf pd_19 rfl) rfl (by show 2 * 0 + _ ≤ _; exact Nat.le_of_eq rfl) (hb hby at_168) (fun _ _ => ⟨rfl, e239, (by decide : 1 + 0 ≤ _), (by decide : 19 + 0 ≤ _)⟩)
      dsimp only [Pt.U, Pt.locs, Pt.cells, Pt.slots] at X241 l241 y241 z241 st241 hQ241
      subst l241 y241 z241
      obtain ⟨rfl, N241q, e241⟩ := hQ241
      have N241 := Fr.app N239 N241q
      refine OwnFin.step (fun tT kK => st241.trans kK) ?_
      show OwnFin p e below _ (T241.setTop (mkF m 171 #[.val (.int k), .val (.ref b1), .val (.int (14 : Int32)), .val (.ref v14), .val (.int (0 : Int32)), .val (.int (0 : Int32)), .unset, .unset, .unset] [(.int (4 : Int32))]))
      refine OwnFin.step (fun tT kK => XS.istore X241.here hx rfl (hb hby at_171) rfl (l' := #[.val (.int k), .val (.ref b1), .val (.int (14 : Int32)), .val (.ref v14), .val (.int (0 : Int32)), .val (.int (0 : Int32)), .val (.int (4 : Int32)), .unset, .unset]) rfl kK) ?_
      show OwnFin p e below _ (T241.setTop (mkF m 173 #[.val (.int k), .val (.ref b1), .val (.int (14 : Int32)), .val (.ref v14), .val (.int (0 : Int32)), .val (.int (0 : Int32)), .val (.int (4 : Int32)), .unset, .unset] []))
      refine OwnFin.step (fun tT kK => XS.iload X241.here hx rfl (hb hby at_173) rfl kK) ?_
      show OwnFin p e below _ (T241.setTop (mkF m 175 #[.val (.int k), .val (.ref b1), .val (.int (14 : Int32)), .val (.ref v14), .val (.int (0 : Int32)), .val (.int (0 : Int32)), .val (.int (4 : Int32)), .unset, .unset] [(.int (4 : Int32))]))
      refine OwnFin.step (fun tT kK => XS.bipush X241.here hx rfl (hb hby at_175) kK) ?_
      show OwnFin p e below _ (T241.setTop (mkF m 177 #[.val (.int k), .val (.ref b1), .val (.int (14 : Int32)), .val (.ref v14), .val (.int (0 : Int32)), .val (.int (0 : Int32)), .val (.int (4 : Int32)), .unset, .unset] [(.int (37 : Int32)), (.int (4 : Int32))]))
      refine OwnFin.step (fun tT kK => XS.icmpNo X241.here hx rfl (hb hby at_177) rfl (feq (by decide : ¬ ((4 : Int32) = (37 : Int32)))).1 kK) ?_
      show OwnFin p e below _ (T241.setTop (mkF m 180 #[.val (.int k), .val (.ref b1), .val (.int (14 : Int32)), .val (.ref v14), .val (.int (0 : Int32)), .val (.int (0 : Int32)), .val (.int (4 : Int32)), .unset, .unset] []))
      refine OwnFin.step (fun tT kK => XS.iload X241.here hx rfl (hb hby at_180) rfl kK) ?_
      show OwnFin p e below _ (T241.setTop (mkF m 182 #[.val (.int k), .val (.ref b1), .val (.int (14 : Int32)), .val (.ref v14), .val (.int (0 : Int32)), .val (.int (0 : Int32)), .val (.int (4 : Int32)), .unset, .unset] [(.int (4 : Int32))]))
      refine OwnFin.step (fun tT kK => XS.bipush X241.here hx rfl (hb hby at_182) kK) ?_
      show OwnFin p e below _ (T241.setTop (mkF m 184 #[.val (.int k), .val (.ref b1), .val (.int (14 : Int32)), .val (.ref v14), .val (.int (0 : Int32)), .val (.int (0 : Int32)), .val (.int (4 : Int32)), .unset, .unset] [(.int (38 : Int32)), (.int (4 : Int32))]))
      refine OwnFin.step (fun tT kK => XS.icmpYes X241.here hx rfl (pc0 := 184) (pc' := 191) rfl (hb hby at_184) rfl (feq (by decide : ¬ ((4 : Int32) = (38 : Int32)))).2 (by decide) (by decide) kK) ?_
      show OwnFin p e below _ (T241.setTop (mkF m 191 #[.val (.int k), .val (.ref b1), .val (.int (14 : Int32)), .val (.ref v14), .val (.int (0 : Int32)), .val (.int (0 : Int32)), .val (.int (4 : Int32)), .unset, .unset] []))
      refine OwnFin.step (fun tT kK => XS.iconst X241.here hx rfl (hb hby at_191) kK) ?_
      show OwnFin p e below _ (T241.setTop (mkF m 192 #[.val (.int k), .val (.ref b1), .val (.int (14 : Int32)), .val (.ref v14), .val (.int (0 : Int32)), .val (.int (0 : Int32)), .val (.int (4 : Int32)), .unset, .unset] [(.int (0 : Int32))]))
      refine OwnFin.step (fun tT kK => XS.istore X241.here hx rfl (hb hby at_192) rfl (l' := #[.val (.int k), .val (.ref b1), .val (.int (14 : Int32)), .val (.ref v14), .val (.int (0 : Int32)), .val (.int (0 : Int32)), .val (.int (4 : Int32)), .val (.int (0 : Int32)), .unset]) rfl kK) ?_
      show OwnFin p e below _ (T241.setTop (mkF m 194 #[.val (.int k), .val (.ref b1), .val (.int (14 : Int32)), .val (.ref v14), .val (.int (0 : Int32)), .val (.int (0 : Int32)), .val (.int (4 : Int32)), .val (.int (0 : Int32)), .unset] []))
      refine OwnFin.step (fun tT kK => XS.aloadN X241.here hx rfl (hb hby at_194) rfl rfl kK) ?_
      show OwnFin p e below _ (T241.setTop (mkF m 195 #[.val (.int k), .val (.ref b1), .val (.int (14 : Int32)), .val (.ref v14), .val (.int (0 : Int32)), .val (.int (0 : Int32)), .val (.int (4 : Int32)), .val (.int (0 : Int32)), .unset] [(.ref v14)]))
      have f242 : Fld Z h115 v14 "com/example/cairn/cairn/engine/BinaryOperator" "precedence" "I" (.int (8 : Int32)) := (hp71.keep Kp116 nin0)
      obtain ⟨cq243, kq243, q243a, q243b, q243c⟩ := isOf hZ e241 f131
      obtain ⟨_, _, ⟨T243, L243, k243, n243⟩, -, X243, ⟨Lc243, hQ243, l243, y243, z243⟩, st243⟩ := X241.virtualBack hx (y := (⟨"com/example/cairn/cairn/engine/BinaryOperator", "precedence", "()I"⟩ : MethodName)) (z := (⟨"com/example/cairn/cairn/engine/BinaryOperator", "precedence", "()I"⟩ : MethodName)) hown (mvT hZ (hw _ (List.mem_of_getElem? (i := 57) rfl))) (mvT hZ (hw _ (List.mem_of_getElem? (i := 58) rfl))) (notFace_of_selects (args := #[]) (mvT hZ (hw _ (List.mem_of_getElem? (i := 60) rfl)))) (mvT hZ (hw _ (List.mem_of_getElem? (i := 60) rfl))) (mvT hZ (hw _ (List.mem_of_getElem? (i := 59) rfl))) (by decide) (backOf (W := 0) (rm3 l Z a0 hw [] v14 (8 : Int32) h115 n0 (Nat.le_trans Z0 Kp116.1) f242) hZ (hw _ (List.mem_of_getElem? (i := 61) rfl)) (hw _ (List.mem_of_getElem? (i := 3) rfl)) (by decide) (by decide)) q243a q243c (g := (mkF m 195 #[.val (.int k), .val (.ref b1), .val (.int (14 : Int32)), .val (.ref v14), .val (.int (0 : Int32)), .val (.int (0 : Int32)), .val (.int (4 : Int32)), .val (.int (0 : Int32)), .unset] [(.ref v14)])) rfl (by rw [hml]; rfl) (Steps.refl _) (argsL := []) (rest := []) (lenOf pd_19 rfl) rfl (by show 2 * 0 + _ ≤ _; exact Nat.le_of_eq rfl) (hb hby at_195) (fun _ _ => ⟨rfl, e241, (by decide : 1 + 0 ≤ _), (by decide : 19 + 0 ≤ _)⟩)
      dsimp only [Pt.U, Pt.locs, Pt.cells, Pt.slots] at X243 l243 y243 z243 st243 hQ243
      subst l243 y243 z243
      obtain ⟨rfl, N243q, e243⟩ := hQ243
      have N243 := Fr.app N241 N243q
      refine OwnFin.step (fun tT kK => st243.trans kK) ?_
      show OwnFin p e below _ (T243.setTop (mkF m 198 #[.val (.int k), .val (.ref b1), .val (.int (14 : Int32)), .val (.ref v14), .val (.int (0 : Int32)), .val (.int (0 : Int32)), .val (.int (4 : Int32)), .val (.int (0 : Int32)), .unset] [(.int (8 : Int32))]))
      refine OwnFin.step (fun tT kK => XS.iconst X243.here hx rfl (hb hby at_198) kK) ?_
      show OwnFin p e below _ (T243.setTop (mkF m 199 #[.val (.int k), .val (.ref b1), .val (.int (14 : Int32)), .val (.ref v14), .val (.int (0 : Int32)), .val (.int (0 : Int32)), .val (.int (4 : Int32)), .val (.int (0 : Int32)), .unset] [(.int (2 : Int32)), (.int (8 : Int32))]))
      refine OwnFin.step (fun tT kK => XS.icmpYes X243.here hx rfl (pc0 := 199) (pc' := 206) rfl (hb hby at_199) rfl (tlt (by decide : (2 : Int32) < (8 : Int32))).2.2.1 (by decide) (by decide) kK) ?_
      show OwnFin p e below _ (T243.setTop (mkF m 206 #[.val (.int k), .val (.ref b1), .val (.int (14 : Int32)), .val (.ref v14), .val (.int (0 : Int32)), .val (.int (0 : Int32)), .val (.int (4 : Int32)), .val (.int (0 : Int32)), .unset] []))
      refine OwnFin.step (fun tT kK => XS.iconst X243.here hx rfl (hb hby at_206) kK) ?_
      show OwnFin p e below _ (T243.setTop (mkF m 207 #[.val (.int k), .val (.ref b1), .val (.int (14 : Int32)), .val (.ref v14), .val (.int (0 : Int32)), .val (.int (0 : Int32)), .val (.int (4 : Int32)), .val (.int (0 : Int32)), .unset] [(.int (0 : Int32))]))
      refine OwnFin.step (fun tT kK => XS.istore X243.here hx rfl (hb hby at_207) rfl (l' := #[.val (.int k), .val (.ref b1), .val (.int (14 : Int32)), .val (.ref v14), .val (.int (0 : Int32)), .val (.int (0 : Int32)), .val (.int (4 : Int32)), .val (.int (0 : Int32)), .val (.int (0 : Int32))]) rfl kK) ?_
      show OwnFin p e below _ (T243.setTop (mkF m 209 #[.val (.int k), .val (.ref b1), .val (.int (14 : Int32)), .val (.ref v14), .val (.int (0 : Int32)), .val (.int (0 : Int32)), .val (.int (4 : Int32)), .val (.int (0 : Int32)), .val (.int (0 : Int32))] []))
      refine OwnFin.step (fun tT kK => XS.iload X243.here hx rfl (hb hby at_209) rfl kK) ?_
      show OwnFin p e below _ (T243.setTop (mkF m 211 #[.val (.int k), .val (.ref b1), .val (.int (14 : Int32)), .val (.ref v14), .val (.int (0 : Int32)), .val (.int (0 : Int32)), .val (.int (4 : Int32)), .val (.int (0 : Int32)), .val (.int (0 : Int32))] [(.int (0 : Int32))]))
      refine OwnFin.step (fun tT kK => XS.iload X243.here hx rfl (hb hby at_211) rfl kK) ?_
      show OwnFin p e below _ (T243.setTop (mkF m 213 #[.val (.int k), .val (.ref b1), .val (.int (14 : Int32)), .val (.ref v14), .val (.int (0 : Int32)), .val (.int (0 : Int32)), .val (.int (4 : Int32)), .val (.int (0 : Int32)), .val (.int (0 : Int32))] [(.int (0 : Int32)), (.int (0 : Int32))]))
      refine OwnFin.step (fun tT kK => XS.icmpNo X243.here hx rfl (hb hby at_213) rfl (teq (rfl : (0 : Int32) = (0 : Int32))).2 kK) ?_
      show OwnFin p e below _ (T243.setTop (mkF m 216 #[.val (.int k), .val (.ref b1), .val (.int (14 : Int32)), .val (.ref v14), .val (.int (0 : Int32)), .val (.int (0 : Int32)), .val (.int (4 : Int32)), .val (.int (0 : Int32)), .val (.int (0 : Int32))] []))
      refine OwnFin.step (fun tT kK => XS.iload X243.here hx rfl (hb hby at_216) rfl kK) ?_
      show OwnFin p e below _ (T243.setTop (mkF m 218 #[.val (.int k), .val (.ref b1), .val (.int (14 : Int32)), .val (.ref v14), .val (.int (0 : Int32)), .val (.int (0 : Int32)), .val (.int (4 : Int32)), .val (.int (0 : Int32)), .val (.int (0 : Int32))] [(.int (0 : Int32))]))
      refine OwnFin.step (fun tT kK => XS.iload X243.here hx rfl (hb hby at_218) rfl kK) ?_
      show OwnFin p e below _ (T243.setTop (mkF m 220 #[.val (.int k), .val (.ref b1), .val (.int (14 : Int32)), .val (.ref v14), .val (.int (0 : Int32)), .val (.int (0 : Int32)), .val (.int (4 : Int32)), .val (.int (0 : Int32)), .val (.int (0 : Int32))] [(.int (0 : Int32)), (.int (0 : Int32))]))
      refine OwnFin.step (fun tT kK => XS.icmpNo X243.here hx rfl (hb hby at_220) rfl (teq (rfl : (0 : Int32) = (0 : Int32))).2 kK) ?_
      show OwnFin p e below _ (T243.setTop (mkF m 223 #[.val (.int k), .val (.ref b1), .val (.int (14 : Int32)), .val (.ref v14), .val (.int (0 : Int32)), .val (.int (0 : Int32)), .val (.int (4 : Int32)), .val (.int (0 : Int32)), .val (.int (0 : Int32))] []))
      refine OwnFin.step (fun tT kK => XS.iload X243.here hx rfl (hb hby at_223) rfl kK) ?_
      show OwnFin p e below _ (T243.setTop (mkF m 225 #[.val (.int k), .val (.ref b1), .val (.int (14 : Int32)), .val (.ref v14), .val (.int (0 : Int32)), .val (.int (0 : Int32)), .val (.int (4 : Int32)), .val (.int (0 : Int32)), .val (.int (0 : Int32))] [(.int (0 : Int32))]))
      refine OwnFin.step (fun tT kK => XS.iload X243.here hx rfl (hb hby at_225) rfl kK) ?_
      show OwnFin p e below _ (T243.setTop (mkF m 227 #[.val (.int k), .val (.ref b1), .val (.int (14 : Int32)), .val (.ref v14), .val (.int (0 : Int32)), .val (.int (0 : Int32)), .val (.int (4 : Int32)), .val (.int (0 : Int32)), .val (.int (0 : Int32))] [(.int (0 : Int32)), (.int (0 : Int32))]))
      refine OwnFin.step (fun tT kK => XS.icmpNo X243.here hx rfl (hb hby at_227) rfl (teq (rfl : (0 : Int32) = (0 : Int32))).2 kK) ?_
      show OwnFin p e below _ (T243.setTop (mkF m 230 #[.val (.int k), .val (.ref b1), .val (.int (14 : Int32)), .val (.ref v14), .val (.int (0 : Int32)), .val (.int (0 : Int32)), .val (.int (4 : Int32)), .val (.int (0 : Int32)), .val (.int (0 : Int32))] []))
      refine OwnFin.step (fun tT kK => XS.iconst X243.here hx rfl (hb hby at_230) kK) ?_
      show OwnFin p e below _ (T243.setTop (mkF m 231 #[.val (.int k), .val (.ref b1), .val (.int (14 : Int32)), .val (.ref v14), .val (.int (0 : Int32)), .val (.int (0 : Int32)), .val (.int (4 : Int32)), .val (.int (0 : Int32)), .val (.int (0 : Int32))] [(.int (1 : Int32))]))
      refine OwnFin.step (fun tT kK => XS.goto X243.here hx rfl (pc0 := 231) (pc' := 235) rfl (hb hby at_231) (by decide) (by decide) kK) ?_
      show OwnFin p e below _ (T243.setTop (mkF m 235 #[.val (.int k), .val (.ref b1), .val (.int (14 : Int32)), .val (.ref v14), .val (.int (0 : Int32)), .val (.int (0 : Int32)), .val (.int (4 : Int32)), .val (.int (0 : Int32)), .val (.int (0 : Int32))] [(.int (1 : Int32))]))
      obtain ⟨fs244, hr244, hrun244, hended244, hW244, hsame244⟩ := X243.leave (v := (some (.int (1 : Int32)))) (fun h => by rw [Bd.returns] at h; cases h)
      refine ⟨_, _, retN X243 hx (t := .boolean) Bd.returns (by simp) (hb hby at_235) hr244, hrun244, hended244, _, _, rfl, ?_, ⟨_, rfl⟩, hW244, hsame244.mono (by decide) (by decide)⟩
      show Q0 Z k v0 v1 v2 v3 v4 v5 v6 v7 v8 v9 v10 v11 v12 v13 v14 v15 v16 v17 v18 h0 n0 _ T243.heap _
      rw [e243]
      exact ⟨rfl, N243, Kp116⟩
    · skip
      show OwnFin p e below _ (T139.setTop (mkF m 141 #[.val (.int k), .val (.ref b1), .val (.int (15 : Int32)), .unset, .unset, .unset, .unset, .unset, .unset] []))
      refine OwnFin.step (fun tT kK => XS.aloadN X139.here hx rfl (hb hby at_141) rfl rfl kK) ?_
      show OwnFin p e below _ (T139.setTop (mkF m 142 #[.val (.int k), .val (.ref b1), .val (.int (15 : Int32)), .unset, .unset, .unset, .unset, .unset, .unset] [(.ref b1)]))
      refine OwnFin.step (fun tT kK => XS.iloadN X139.here hx rfl (hb hby at_142) rfl kK) ?_
      show OwnFin p e below _ (T139.setTop (mkF m 143 #[.val (.int k), .val (.ref b1), .val (.int (15 : Int32)), .unset, .unset, .unset, .unset, .unset, .unset] [(.int (15 : Int32)), (.ref b1)]))
      obtain ⟨cl245, Ar245, q245, Sz245, Ng245, H245, G245⟩ := id V115
      have hin245 : ¬ ((15 : Int32) < 0 ∨ cl245.slots.size ≤ ((15 : Int32)).toNatClampNeg) := inb_of Sz245 ⟨by decide, by decide⟩
      refine OwnFin.step (fun tT kK => X139.aaload hx (j := (15 : Int32)) (v := (.ref v15)) (by rw [e139]; exact Ar245.1) (State.isArrayOf_alike hZ.alike Ar245.2.1) rfl Ar245.2.2 hin245 (H245.at hin245 rfl) (g := (mkF m 143 #[.val (.int k), .val (.ref b1), .val (.int (15 : Int32)), .unset, .unset, .unset, .unset, .unset, .unset] [(.int (15 : Int32)), (.ref b1)])) rfl rfl (hb hby at_143) _ kK) ?_
      show OwnFin p e below _ (T139.setTop (mkF m 144 #[.val (.int k), .val (.ref b1), .val (.int (15 : Int32)), .unset, .unset, .unset, .unset, .unset, .unset] [(.ref v15)]))
      refine OwnFin.step (fun tT kK => XS.astoreN X139.here hx rfl (hb hby at_144) rfl rfl (l' := #[.val (.int k), .val (.ref b1), .val (.int (15 : Int32)), .val (.ref v15), .unset, .unset, .unset, .unset, .unset]) rfl kK) ?_
      show OwnFin p e below _ (T139.setTop (mkF m 145 #[.val (.int k), .val (.ref b1), .val (.int (15 : Int32)), .val (.ref v15), .unset, .unset, .unset, .unset, .unset] []))
      refine OwnFin.step (fun tT kK => XS.aloadN X139.here hx rfl (hb hby at_145) rfl rfl kK) ?_
      show OwnFin p e below _ (T139.setTop (mkF m 146 #[.val (.int k), .val (.ref b1), .val (.int (15 : Int32)), .val (.ref v15), .unset, .unset, .unset, .unset, .unset] [(.ref v15)]))
      obtain ⟨cq246, kq246, q246a, q246b, q246c⟩ := isOf hZ e139 f132
      obtain ⟨_, _, ⟨T246, L246, k246, n246⟩, -, X246, ⟨Lc246, hQ246, l246, y246, z246⟩, st246⟩ := X139.virtualBack hx (y := (⟨"com/example/cairn/cairn/engine/BinaryOperator", "shortCircuits", "()Z"⟩ : MethodName)) (z := (⟨"com/example/cairn/cairn/engine/BinaryOperator", "shortCircuits", "()Z"⟩ : MethodName)) hown (mvT hZ (hw _ (List.mem_of_getElem? (i := 43) rfl))) (mvT hZ (hw _ (List.mem_of_getElem? (i := 44) rfl))) (notFace_of_selects (args := #[]) (mvT hZ (hw _ (List.mem_of_getElem? (i := 46) rfl)))) (mvT hZ (hw _ (List.mem_of_getElem? (i := 46) rfl))) (mvT hZ (hw _ (List.mem_of_getElem? (i := 45) rfl))) (by decide) (backOf (W := 0) (rm1 l Z a0 hw [] v15 v1 v0 h115 n0 (Nat.le_trans Z0 Kp116.1) f136 f137) hZ (hw _ (List.mem_of_getElem? (i := 47) rfl)) (hw _ (List.mem_of_getElem? (i := 3) rfl)) (by decide) (by decide)) q246a q246c (g := (mkF m 146 #[.val (.int k), .val (.ref b1), .val (.int (15 : Int32)), .val (.ref v15), .unset, .unset, .unset, .unset, .unset] [(.ref v15)])) rfl (by rw [hml]; rfl) (Steps.refl _) (argsL := []) (rest := []) (lenOf pd_18 rfl) rfl (by show 2 * 0 + _ ≤ _; exact Nat.le_of_eq rfl) (hb hby at_146) (fun _ _ => ⟨rfl, e139, (by decide : 1 + 0 ≤ _), (by decide : 19 + 0 ≤ _)⟩)
      dsimp only [Pt.U, Pt.locs, Pt.cells, Pt.slots] at X246 l246 y246 z246 st246 hQ246
      subst l246 y246 z246
      obtain ⟨rfl, N246q, e246⟩ := hQ246
      have N246 := Fr.app N139 N246q
      refine OwnFin.step (fun tT kK => st246.trans kK) ?_
      show OwnFin p e below _ (T246.setTop (mkF m 149 #[.val (.int k), .val (.ref b1), .val (.int (15 : Int32)), .val (.ref v15), .unset, .unset, .unset, .unset, .unset] [(.int (if v15 = v1 ∨ v15 = v0 then 1 else 0))]))
      rw [show (if v15 = v1 ∨ v15 = v0 then (1 : Int32) else 0) = 0 from if_neg (fun q => q.elim hp103 hp102)]
      show OwnFin p e below _ (T246.setTop (mkF m 149 #[.val (.int k), .val (.ref b1), .val (.int (15 : Int32)), .val (.ref v15), .unset, .unset, .unset, .unset, .unset] [(.int (0 : Int32))]))
      refine OwnFin.step (fun tT kK => XS.istore X246.here hx rfl (hb hby at_149) rfl (l' := #[.val (.int k), .val (.ref b1), .val (.int (15 : Int32)), .val (.ref v15), .val (.int (0 : Int32)), .unset, .unset, .unset, .unset]) rfl kK) ?_
      show OwnFin p e below _ (T246.setTop (mkF m 151 #[.val (.int k), .val (.ref b1), .val (.int (15 : Int32)), .val (.ref v15), .val (.int (0 : Int32)), .unset, .unset, .unset, .unset] []))
      refine OwnFin.step (fun tT kK => XS.iloadN X246.here hx rfl (hb hby at_151) rfl kK) ?_
      show OwnFin p e below _ (T246.setTop (mkF m 152 #[.val (.int k), .val (.ref b1), .val (.int (15 : Int32)), .val (.ref v15), .val (.int (0 : Int32)), .unset, .unset, .unset, .unset] [(.int (15 : Int32))]))
      refine OwnFin.step (fun tT kK => XS.ifNo X246.here hx rfl (hb hby at_152) rfl ((if0 _ _).trans (feq (by decide : ¬ ((15 : Int32) = (0 : Int32)))).1) kK) ?_
      show OwnFin p e below _ (T246.setTop (mkF m 155 #[.val (.int k), .val (.ref b1), .val (.int (15 : Int32)), .val (.ref v15), .val (.int (0 : Int32)), .unset, .unset, .unset, .unset] []))
      refine OwnFin.step (fun tT kK => XS.iloadN X246.here hx rfl (hb hby at_155) rfl kK) ?_
      show OwnFin p e below _ (T246.setTop (mkF m 156 #[.val (.int k), .val (.ref b1), .val (.int (15 : Int32)), .val (.ref v15), .val (.int (0 : Int32)), .unset, .unset, .unset, .unset] [(.int (15 : Int32))]))
      refine OwnFin.step (fun tT kK => XS.iconst X246.here hx rfl (hb hby at_156) kK) ?_
      show OwnFin p e below _ (T246.setTop (mkF m 157 #[.val (.int k), .val (.ref b1), .val (.int (15 : Int32)), .val (.ref v15), .val (.int (0 : Int32)), .unset, .unset, .unset, .unset] [(.int (1 : Int32)), (.int (15 : Int32))]))
      refine OwnFin.step (fun tT kK => XS.icmpYes X246.here hx rfl (pc0 := 157) (pc' := 164) rfl (hb hby at_157) rfl (feq (by decide : ¬ ((15 : Int32) = (1 : Int32)))).2 (by decide) (by decide) kK) ?_
      show OwnFin p e below _ (T246.setTop (mkF m 164 #[.val (.int k), .val (.ref b1), .val (.int (15 : Int32)), .val (.ref v15), .val (.int (0 : Int32)), .unset, .unset, .unset, .unset] []))
      refine OwnFin.step (fun tT kK => XS.iconst X246.here hx rfl (hb hby at_164) kK) ?_
      show OwnFin p e below _ (T246.setTop (mkF m 165 #[.val (.int k), .val (.ref b1), .val (.int (15 : Int32)), .val (.ref v15), .val (.int (0 : Int32)), .unset, .unset, .unset, .unset] [(.int (0 : Int32))]))
      refine OwnFin.step (fun tT kK => XS.istore X246.here hx rfl (hb hby at_165) rfl (l' := #[.val (.int k), .val (.ref b1), .val (.int (15 : Int32)), .val (.ref v15), .val (.int (0 : Int32)), .val (.int (0 : Int32)), .unset, .unset, .unset]) rfl kK) ?_
      show OwnFin p e below _ (T246.setTop (mkF m 167 #[.val (.int k), .val (.ref b1), .val (.int (15 : Int32)), .val (.ref v15), .val (.int (0 : Int32)), .val (.int (0 : Int32)), .unset, .unset, .unset] []))
      refine OwnFin.step (fun tT kK => XS.aloadN X246.here hx rfl (hb hby at_167) rfl rfl kK) ?_
      show OwnFin p e below _ (T246.setTop (mkF m 168 #[.val (.int k), .val (.ref b1), .val (.int (15 : Int32)), .val (.ref v15), .val (.int (0 : Int32)), .val (.int (0 : Int32)), .unset, .unset, .unset] [(.ref v15)]))
      have f247 : Fld Z h115 v15 "com/example/cairn/cairn/engine/BinaryOperator" "opcode" "I" (.int (5 : Int32)) := (hp53.keep Kp116 nin0)
      obtain ⟨cq248, kq248, q248a, q248b, q248c⟩ := isOf hZ e246 f132
      obtain ⟨_, _, ⟨T248, L248, k248, n248⟩, -, X248, ⟨Lc248, hQ248, l248, y248, z248⟩, st248⟩ := X246.virtualBack hx (y := (⟨"com/example/cairn/cairn/engine/BinaryOperator", "opcode", "()I"⟩ : MethodName)) (z := (⟨"com/example/cairn/cairn/engine/BinaryOperator", "opcode", "()I"⟩ : MethodName)) hown (mvT hZ (hw _ (List.mem_of_getElem? (i := 50) rfl))) (mvT hZ (hw _ (List.mem_of_getElem? (i := 51) rfl))) (notFace_of_selects (args := #[]) (mvT hZ (hw _ (List.mem_of_getElem? (i := 53) rfl)))) (mvT hZ (hw _ (List.mem_of_getElem? (i := 53) rfl))) (mvT hZ (hw _ (List.mem_of_getElem? (i := 52) rfl))) (by decide) (backOf (W := 0) (rm2 l Z a0 hw [] v15 (5 : Int32) h115 n0 (Nat.le_trans Z0 Kp116.1) f247) hZ (hw _ (List.mem_of_getElem? (i := 54) rfl)) (hw _ (List.mem_of_getElem? (i := 3) rfl)) (by decide) (by decide)) q248a q248c (g := (mkF m 168 #[.val (.int k), .val (.ref b1), .val (.int (15 : Int32)), .val (.ref v15), .val (.int (0 : Int32)), .val (.int (0 : Int32)), .unset, .unset, .unset] [(.ref v15)])) rfl (by rw [hml]; rfl) (Steps.refl _) (argsL := []) (rest := []) (lenOf pd_19 rfl) rfl (by show 2 * 0 + _ ≤ _; exact Nat.le_of_eq rfl) (hb hby at_168) (fun _ _ => ⟨rfl, e246, (by decide : 1 + 0 ≤ _), (by decide : 19 + 0 ≤ _)⟩)
      dsimp only [Pt.U, Pt.locs, Pt.cells, Pt.slots] at X248 l248 y248 z248 st248 hQ248
      subst l248 y248 z248
      obtain ⟨rfl, N248q, e248⟩ := hQ248
      have N248 := Fr.app N246 N248q
      refine OwnFin.step (fun tT kK => st248.trans kK) ?_
      show OwnFin p e below _ (T248.setTop (mkF m 171 #[.val (.int k), .val (.ref b1), .val (.int (15 : Int32)), .val (.ref v15), .val (.int (0 : Int32)), .val (.int (0 : Int32)), .unset, .unset, .unset] [(.int (5 : Int32))]))
      refine OwnFin.step (fun tT kK => XS.istore X248.here hx rfl (hb hby at_171) rfl (l' := #[.val (.int k), .val (.ref b1), .val (.int (15 : Int32)), .val (.ref v15), .val (.int (0 : Int32)), .val (.int (0 : Int32)), .val (.int (5 : Int32)), .unset, .unset]) rfl kK) ?_
      show OwnFin p e below _ (T248.setTop (mkF m 173 #[.val (.int k), .val (.ref b1), .val (.int (15 : Int32)), .val (.ref v15), .val (.int (0 : Int32)), .val (.int (0 : Int32)), .val (.int (5 : Int32)), .unset, .unset] []))
      refine OwnFin.step (fun tT kK => XS.iload X248.here hx rfl (hb hby at_173) rfl kK) ?_
      show OwnFin p e below _ (T248.setTop (mkF m 175 #[.val (.int k), .val (.ref b1), .val (.int (15 : Int32)), .val (.ref v15), .val (.int (0 : Int32)), .val (.int (0 : Int32)), .val (.int (5 : Int32)), .unset, .unset] [(.int (5 : Int32))]))
      refine OwnFin.step (fun tT kK => XS.bipush X248.here hx rfl (hb hby at_175) kK) ?_
      show OwnFin p e below _ (T248.setTop (mkF m 177 #[.val (.int k), .val (.ref b1), .val (.int (15 : Int32)), .val (.ref v15), .val (.int (0 : Int32)), .val (.int (0 : Int32)), .val (.int (5 : Int32)), .unset, .unset] [(.int (37 : Int32)), (.int (5 : Int32))]))
      refine OwnFin.step (fun tT kK => XS.icmpNo X248.here hx rfl (hb hby at_177) rfl (feq (by decide : ¬ ((5 : Int32) = (37 : Int32)))).1 kK) ?_
      show OwnFin p e below _ (T248.setTop (mkF m 180 #[.val (.int k), .val (.ref b1), .val (.int (15 : Int32)), .val (.ref v15), .val (.int (0 : Int32)), .val (.int (0 : Int32)), .val (.int (5 : Int32)), .unset, .unset] []))
      refine OwnFin.step (fun tT kK => XS.iload X248.here hx rfl (hb hby at_180) rfl kK) ?_
      show OwnFin p e below _ (T248.setTop (mkF m 182 #[.val (.int k), .val (.ref b1), .val (.int (15 : Int32)), .val (.ref v15), .val (.int (0 : Int32)), .val (.int (0 : Int32)), .val (.int (5 : Int32)), .unset, .unset] [(.int (5 : Int32))]))
      refine OwnFin.step (fun tT kK => XS.bipush X248.here hx rfl (hb hby at_182) kK) ?_
      show OwnFin p e below _ (T248.setTop (mkF m 184 #[.val (.int k), .val (.ref b1), .val (.int (15 : Int32)), .val (.ref v15), .val (.int (0 : Int32)), .val (.int (0 : Int32)), .val (.int (5 : Int32)), .unset, .unset] [(.int (38 : Int32)), (.int (5 : Int32))]))
      refine OwnFin.step (fun tT kK => XS.icmpYes X248.here hx rfl (pc0 := 184) (pc' := 191) rfl (hb hby at_184) rfl (feq (by decide : ¬ ((5 : Int32) = (38 : Int32)))).2 (by decide) (by decide) kK) ?_
      show OwnFin p e below _ (T248.setTop (mkF m 191 #[.val (.int k), .val (.ref b1), .val (.int (15 : Int32)), .val (.ref v15), .val (.int (0 : Int32)), .val (.int (0 : Int32)), .val (.int (5 : Int32)), .unset, .unset] []))
      refine OwnFin.step (fun tT kK => XS.iconst X248.here hx rfl (hb hby at_191) kK) ?_
      show OwnFin p e below _ (T248.setTop (mkF m 192 #[.val (.int k), .val (.ref b1), .val (.int (15 : Int32)), .val (.ref v15), .val (.int (0 : Int32)), .val (.int (0 : Int32)), .val (.int (5 : Int32)), .unset, .unset] [(.int (0 : Int32))]))
      refine OwnFin.step (fun tT kK => XS.istore X248.here hx rfl (hb hby at_192) rfl (l' := #[.val (.int k), .val (.ref b1), .val (.int (15 : Int32)), .val (.ref v15), .val (.int (0 : Int32)), .val (.int (0 : Int32)), .val (.int (5 : Int32)), .val (.int (0 : Int32)), .unset]) rfl kK) ?_
      show OwnFin p e below _ (T248.setTop (mkF m 194 #[.val (.int k), .val (.ref b1), .val (.int (15 : Int32)), .val (.ref v15), .val (.int (0 : Int32)), .val (.int (0 : Int32)), .val (.int (5 : Int32)), .val (.int (0 : Int32)), .unset] []))
      refine OwnFin.step (fun tT kK => XS.aloadN X248.here hx rfl (hb hby at_194) rfl rfl kK) ?_
      show OwnFin p e below _ (T248.setTop (mkF m 195 #[.val (.int k), .val (.ref b1), .val (.int (15 : Int32)), .val (.ref v15), .val (.int (0 : Int32)), .val (.int (0 : Int32)), .val (.int (5 : Int32)), .val (.int (0 : Int32)), .unset] [(.ref v15)]))
      have f249 : Fld Z h115 v15 "com/example/cairn/cairn/engine/BinaryOperator" "precedence" "I" (.int (8 : Int32)) := (hp72.keep Kp116 nin0)
      obtain ⟨cq250, kq250, q250a, q250b, q250c⟩ := isOf hZ e248 f132
      obtain ⟨_, _, ⟨T250, L250, k250, n250⟩, -, X250, ⟨Lc250, hQ250, l250, y250, z250⟩, st250⟩ := X248.virtualBack hx (y := (⟨"com/example/cairn/cairn/engine/BinaryOperator", "precedence", "()I"⟩ : MethodName)) (z := (⟨"com/example/cairn/cairn/engine/BinaryOperator", "precedence", "()I"⟩ : MethodName)) hown (mvT hZ (hw _ (List.mem_of_getElem? (i := 57) rfl))) (mvT hZ (hw _ (List.mem_of_getElem? (i := 58) rfl))) (notFace_of_selects (args := #[]) (mvT hZ (hw _ (List.mem_of_getElem? (i := 60) rfl)))) (mvT hZ (hw _ (List.mem_of_getElem? (i := 60) rfl))) (mvT hZ (hw _ (List.mem_of_getElem? (i := 59) rfl))) (by decide) (backOf (W := 0) (rm3 l Z a0 hw [] v15 (8 : Int32) h115 n0 (Nat.le_trans Z0 Kp116.1) f249) hZ (hw _ (List.mem_of_getElem? (i := 61) rfl)) (hw _ (List.mem_of_getElem? (i := 3) rfl)) (by decide) (by decide)) q250a q250c (g := (mkF m 195 #[.val (.int k), .val (.ref b1), .val (.int (15 : Int32)), .val (.ref v15), .val (.int (0 : Int32)), .val (.int (0 : Int32)), .val (.int (5 : Int32)), .val (.int (0 : Int32)), .unset] [(.ref v15)])) rfl (by rw [hml]; rfl) (Steps.refl _) (argsL := []) (rest := []) (lenOf pd_19 rfl) rfl (by show 2 * 0 + _ ≤ _; exact Nat.le_of_eq rfl) (hb hby at_195) (fun _ _ => ⟨rfl, e248, (by decide : 1 + 0 ≤ _), (by decide : 19 + 0 ≤ _)⟩)
      dsimp only [Pt.U, Pt.locs, Pt.cells, Pt.slots] at X250 l250 y250 z250 st250 hQ250
      subst l250 y250 z250
      obtain ⟨rfl, N250q, e250⟩ := hQ250
      have N250 := Fr.app N248 N250q
      refine OwnFin.step (fun tT kK => st250.trans kK) ?_
      show OwnFin p e below _ (T250.setTop (mkF m 198 #[.val (.int k), .val (.ref b1), .val (.int (15 : Int32)), .val (.ref v15), .val (.int (0 : Int32)), .val (.int (0 : Int32)), .val (.int (5 : Int32)), .val (.int (0 : Int32)), .unset] [(.int (8 : Int32))]))
      refine OwnFin.step (fun tT kK => XS.iconst X250.here hx rfl (hb hby at_198) kK) ?_
      show OwnFin p e below _ (T250.setTop (mkF m 199 #[.val (.int k), .val (.ref b1), .val (.int (15 : Int32)), .val (.ref v15), .val (.int (0 : Int32)), .val (.int (0 : Int32)), .val (.int (5 : Int32)), .val (.int (0 : Int32)), .unset] [(.int (2 : Int32)), (.int (8 : Int32))]))
      refine OwnFin.step (fun tT kK => XS.icmpYes X250.here hx rfl (pc0 := 199) (pc' := 206) rfl (hb hby at_199) rfl (tlt (by decide : (2 : Int32) < (8 : Int32))).2.2.1 (by decide) (by decide) kK) ?_
      show OwnFin p e below _ (T250.setTop (mkF m 206 #[.val (.int k), .val (.ref b1), .val (.int (15 : Int32)), .val (.ref v15), .val (.int (0 : Int32)), .val (.int (0 : Int32)), .val (.int (5 : Int32)), .val (.int (0 : Int32)), .unset] []))
      refine OwnFin.step (fun tT kK => XS.iconst X250.here hx rfl (hb hby at_206) kK) ?_
      show OwnFin p e below _ (T250.setTop (mkF m 207 #[.val (.int k), .val (.ref b1), .val (.int (15 : Int32)), .val (.ref v15), .val (.int (0 : Int32)), .val (.int (0 : Int32)), .val (.int (5 : Int32)), .val (.int (0 : Int32)), .unset] [(.int (0 : Int32))]))
      refine OwnFin.step (fun tT kK => XS.istore X250.here hx rfl (hb hby at_207) rfl (l' := #[.val (.int k), .val (.ref b1), .val (.int (15 : Int32)), .val (.ref v15), .val (.int (0 : Int32)), .val (.int (0 : Int32)), .val (.int (5 : Int32)), .val (.int (0 : Int32)), .val (.int (0 : Int32))]) rfl kK) ?_
      show OwnFin p e below _ (T250.setTop (mkF m 209 #[.val (.int k), .val (.ref b1), .val (.int (15 : Int32)), .val (.ref v15), .val (.int (0 : Int32)), .val (.int (0 : Int32)), .val (.int (5 : Int32)), .val (.int (0 : Int32)), .val (.int (0 : Int32))] []))
      refine OwnFin.step (fun tT kK => XS.iload X250.here hx rfl (hb hby at_209) rfl kK) ?_
      show OwnFin p e below _ (T250.setTop (mkF m 211 #[.val (.int k), .val (.ref b1), .val (.int (15 : Int32)), .val (.ref v15), .val (.int (0 : Int32)), .val (.int (0 : Int32)), .val (.int (5 : Int32)), .val (.int (0 : Int32)), .val (.int (0 : Int32))] [(.int (0 : Int32))]))
      refine OwnFin.step (fun tT kK => XS.iload X250.here hx rfl (hb hby at_211) rfl kK) ?_
      show OwnFin p e below _ (T250.setTop (mkF m 213 #[.val (.int k), .val (.ref b1), .val (.int (15 : Int32)), .val (.ref v15), .val (.int (0 : Int32)), .val (.int (0 : Int32)), .val (.int (5 : Int32)), .val (.int (0 : Int32)), .val (.int (0 : Int32))] [(.int (0 : Int32)), (.int (0 : Int32))]))
      refine OwnFin.step (fun tT kK => XS.icmpNo X250.here hx rfl (hb hby at_213) rfl (teq (rfl : (0 : Int32) = (0 : Int32))).2 kK) ?_
      show OwnFin p e below _ (T250.setTop (mkF m 216 #[.val (.int k), .val (.ref b1), .val (.int (15 : Int32)), .val (.ref v15), .val (.int (0 : Int32)), .val (.int (0 : Int32)), .val (.int (5 : Int32)), .val (.int (0 : Int32)), .val (.int (0 : Int32))] []))
      refine OwnFin.step (fun tT kK => XS.iload X250.here hx rfl (hb hby at_216) rfl kK) ?_
      show OwnFin p e below _ (T250.setTop (mkF m 218 #[.val (.int k), .val (.ref b1), .val (.int (15 : Int32)), .val (.ref v15), .val (.int (0 : Int32)), .val (.int (0 : Int32)), .val (.int (5 : Int32)), .val (.int (0 : Int32)), .val (.int (0 : Int32))] [(.int (0 : Int32))]))
      refine OwnFin.step (fun tT kK => XS.iload X250.here hx rfl (hb hby at_218) rfl kK) ?_
      show OwnFin p e below _ (T250.setTop (mkF m 220 #[.val (.int k), .val (.ref b1), .val (.int (15 : Int32)), .val (.ref v15), .val (.int (0 : Int32)), .val (.int (0 : Int32)), .val (.int (5 : Int32)), .val (.int (0 : Int32)), .val (.int (0 : Int32))] [(.int (0 : Int32)), (.int (0 : Int32))]))
      refine OwnFin.step (fun tT kK => XS.icmpNo X250.here hx rfl (hb hby at_220) rfl (teq (rfl : (0 : Int32) = (0 : Int32))).2 kK) ?_
      show OwnFin p e below _ (T250.setTop (mkF m 223 #[.val (.int k), .val (.ref b1), .val (.int (15 : Int32)), .val (.ref v15), .val (.int (0 : Int32)), .val (.int (0 : Int32)), .val (.int (5 : Int32)), .val (.int (0 : Int32)), .val (.int (0 : Int32))] []))
      refine OwnFin.step (fun tT kK => XS.iload X250.here hx rfl (hb hby at_223) rfl kK) ?_
      show OwnFin p e below _ (T250.setTop (mkF m 225 #[.val (.int k), .val (.ref b1), .val (.int (15 : Int32)), .val (.ref v15), .val (.int (0 : Int32)), .val (.int (0 : Int32)), .val (.int (5 : Int32)), .val (.int (0 : Int32)), .val (.int (0 : Int32))] [(.int (0 : Int32))]))
      refine OwnFin.step (fun tT kK => XS.iload X250.here hx rfl (hb hby at_225) rfl kK) ?_
      show OwnFin p e below _ (T250.setTop (mkF m 227 #[.val (.int k), .val (.ref b1), .val (.int (15 : Int32)), .val (.ref v15), .val (.int (0 : Int32)), .val (.int (0 : Int32)), .val (.int (5 : Int32)), .val (.int (0 : Int32)), .val (.int (0 : Int32))] [(.int (0 : Int32)), (.int (0 : Int32))]))
      refine OwnFin.step (fun tT kK => XS.icmpNo X250.here hx rfl (hb hby at_227) rfl (teq (rfl : (0 : Int32) = (0 : Int32))).2 kK) ?_
      show OwnFin p e below _ (T250.setTop (mkF m 230 #[.val (.int k), .val (.ref b1), .val (.int (15 : Int32)), .val (.ref v15), .val (.int (0 : Int32)), .val (.int (0 : Int32)), .val (.int (5 : Int32)), .val (.int (0 : Int32)), .val (.int (0 : Int32))] []))
      refine OwnFin.step (fun tT kK => XS.iconst X250.here hx rfl (hb hby at_230) kK) ?_
      show OwnFin p e below _ (T250.setTop (mkF m 231 #[.val (.int k), .val (.ref b1), .val (.int (15 : Int32)), .val (.ref v15), .val (.int (0 : Int32)), .val (.int (0 : Int32)), .val (.int (5 : Int32)), .val (.int (0 : Int32)), .val (.int (0 : Int32))] [(.int (1 : Int32))]))
      refine OwnFin.step (fun tT kK => XS.goto X250.here hx rfl (pc0 := 231) (pc' := 235) rfl (hb hby at_231) (by decide) (by decide) kK) ?_
      show OwnFin p e below _ (T250.setTop (mkF m 235 #[.val (.int k), .val (.ref b1), .val (.int (15 : Int32)), .val (.ref v15), .val (.int (0 : Int32)), .val (.int (0 : Int32)), .val (.int (5 : Int32)), .val (.int (0 : Int32)), .val (.int (0 : Int32))] [(.int (1 : Int32))]))
      obtain ⟨fs251, hr251, hrun251, hended251, hW251, hsame251⟩ := X250.leave (v := (some (.int (1 : Int32)))) (fun h => by rw [Bd.returns] at h; cases h)
      refine ⟨_, _, retN X250 hx (t := .boolean) Bd.returns (by simp) (hb hby at_235) hr251, hrun251, hended251, _, _, rfl, ?_, ⟨_, rfl⟩, hW251, hsame251.mono (by decide) (by decide)⟩
      show Q0 Z k v0 v1 v2 v3 v4 v5 v6 v7 v8 v9 v10 v11 v12 v13 v14 v15 v16 v17 v18 h0 n0 _ T250.heap _
      rw [e250]
      exact ⟨rfl, N250, Kp116⟩
    · skip
      show OwnFin p e below _ (T139.setTop (mkF m 141 #[.val (.int k), .val (.ref b1), .val (.int (16 : Int32)), .unset, .unset, .unset, .unset, .unset, .unset] []))
      refine OwnFin.step (fun tT kK => XS.aloadN X139.here hx rfl (hb hby at_141) rfl rfl kK) ?_
      show OwnFin p e below _ (T139.setTop (mkF m 142 #[.val (.int k), .val (.ref b1), .val (.int (16 : Int32)), .unset, .unset, .unset, .unset, .unset, .unset] [(.ref b1)]))
      refine OwnFin.step (fun tT kK => XS.iloadN X139.here hx rfl (hb hby at_142) rfl kK) ?_
      show OwnFin p e below _ (T139.setTop (mkF m 143 #[.val (.int k), .val (.ref b1), .val (.int (16 : Int32)), .unset, .unset, .unset, .unset, .unset, .unset] [(.int (16 : Int32)), (.ref b1)]))
      obtain ⟨cl252, Ar252, q252, Sz252, Ng252, H252, G252⟩ := id V115
      have hin252 : ¬ ((16 : Int32) < 0 ∨ cl252.slots.size ≤ ((16 : Int32)).toNatClampNeg) := inb_of Sz252 ⟨by decide, by decide⟩
      refine OwnFin.step (fun tT kK => X139.aaload hx (j := (16 : Int32)) (v := (.ref v16)) (by rw [e139]; exact Ar252.1) (State.isArrayOf_alike hZ.alike Ar252.2.1) rfl Ar252.2.2 hin252 (H252.at hin252 rfl) (g := (mkF m 143 #[.val (.int k), .val (.ref b1), .val (.int (16 : Int32)), .unset, .unset, .unset, .unset, .unset, .unset] [(.int (16 : Int32)), (.ref b1)])) rfl rfl (hb hby at_143) _ kK) ?_
      show OwnFin p e below _ (T139.setTop (mkF m 144 #[.val (.int k), .val (.ref b1), .val (.int (16 : Int32)), .unset, .unset, .unset, .unset, .unset, .unset] [(.ref v16)]))
      refine OwnFin.step (fun tT kK => XS.astoreN X139.here hx rfl (hb hby at_144) rfl rfl (l' := #[.val (.int k), .val (.ref b1), .val (.int (16 : Int32)), .val (.ref v16), .unset, .unset, .unset, .unset, .unset]) rfl kK) ?_
      show OwnFin p e below _ (T139.setTop (mkF m 145 #[.val (.int k), .val (.ref b1), .val (.int (16 : Int32)), .val (.ref v16), .unset, .unset, .unset, .unset, .unset] []))
      refine OwnFin.step (fun tT kK => XS.aloadN X139.here hx rfl (hb hby at_145) rfl rfl kK) ?_
      show OwnFin p e below _ (T139.setTop (mkF m 146 #[.val (.int k), .val (.ref b1), .val (.int (16 : Int32)), .val (.ref v16), .unset, .unset, .unset, .unset, .unset] [(.ref v16)]))
      obtain ⟨cq253, kq253, q253a, q253b, q253c⟩ := isOf hZ e139 f133
      obtain ⟨_, _, ⟨T253, L253, k253, n253⟩, -, X253, ⟨Lc253, hQ253, l253, y253, z253⟩, st253⟩ := X139.virtualBack hx (y := (⟨"com/example/cairn/cairn/engine/BinaryOperator", "shortCircuits", "()Z"⟩ : MethodName)) (z := (⟨"com/example/cairn/cairn/engine/BinaryOperator", "shortCircuits", "()Z"⟩ : MethodName)) hown (mvT hZ (hw _ (List.mem_of_getElem? (i := 43) rfl))) (mvT hZ (hw _ (List.mem_of_getElem? (i := 44) rfl))) (notFace_of_selects (args := #[]) (mvT hZ (hw _ (List.mem_of_getElem? (i := 46) rfl)))) (mvT hZ (hw _ (List.mem_of_getElem? (i := 46) rfl))) (mvT hZ (hw _ (List.mem_of_getElem? (i := 45) rfl))) (by decide) (backOf (W := 0) (rm1 l Z a0 hw [] v16 v1 v0 h115 n0 (Nat.le_trans Z0 Kp116.1) f136 f137) hZ (hw _ (List.mem_of_getElem? (i := 47) rfl)) (hw _ (List.mem_of_getElem? (i := 3) rfl)) (by decide) (by decide)) q253a q253c (g := (mkF m 146 #[.val (.int k), .val (.ref b1), .val (.int (16 : Int32)), .val (.ref v16), .unset, .unset, .unset, .unset, .unset] [(.ref v16)])) rfl (by rw [hml]; rfl) (Steps.refl _) (argsL := []) (rest := []) (lenOf pd_18 rfl) rfl (by show 2 * 0 + _ ≤ _; exact Nat.le_of_eq rfl) (hb hby at_146) (fun _ _ => ⟨rfl, e139, (by decide : 1 + 0 ≤ _), (by decide : 19 + 0 ≤ _)⟩)
      dsimp only [Pt.U, Pt.locs, Pt.cells, Pt.slots] at X253 l253 y253 z253 st253 hQ253
      subst l253 y253 z253
      obtain ⟨rfl, N253q, e253⟩ := hQ253
      have N253 := Fr.app N139 N253q
      refine OwnFin.step (fun tT kK => st253.trans kK) ?_
      show OwnFin p e below _ (T253.setTop (mkF m 149 #[.val (.int k), .val (.ref b1), .val (.int (16 : Int32)), .val (.ref v16), .unset, .unset, .unset, .unset, .unset] [(.int (if v16 = v1 ∨ v16 = v0 then 1 else 0))]))
      rw [show (if v16 = v1 ∨ v16 = v0 then (1 : Int32) else 0) = 0 from if_neg (fun q => q.elim hp105 hp104)]
      show OwnFin p e below _ (T253.setTop (mkF m 149 #[.val (.int k), .val (.ref b1), .val (.int (16 : Int32)), .val (.ref v16), .unset, .unset, .unset, .unset, .unset] [(.int (0 : Int32))]))
      refine OwnFin.step (fun tT kK => XS.istore X253.here hx rfl (hb hby at_149) rfl (l' := #[.val (.int k), .val (.ref b1), .val (.int (16 : Int32)), .val (.ref v16), .val (.int (0 : Int32)), .unset, .unset, .unset, .unset]) rfl kK) ?_
      show OwnFin p e below _ (T253.setTop (mkF m 151 #[.val (.int k), .val (.ref b1), .val (.int (16 : Int32)), .val (.ref v16), .val (.int (0 : Int32)), .unset, .unset, .unset, .unset] []))
      refine OwnFin.step (fun tT kK => XS.iloadN X253.here hx rfl (hb hby at_151) rfl kK) ?_
      show OwnFin p e below _ (T253.setTop (mkF m 152 #[.val (.int k), .val (.ref b1), .val (.int (16 : Int32)), .val (.ref v16), .val (.int (0 : Int32)), .unset, .unset, .unset, .unset] [(.int (16 : Int32))]))
      refine OwnFin.step (fun tT kK => XS.ifNo X253.here hx rfl (hb hby at_152) rfl ((if0 _ _).trans (feq (by decide : ¬ ((16 : Int32) = (0 : Int32)))).1) kK) ?_
      show OwnFin p e below _ (T253.setTop (mkF m 155 #[.val (.int k), .val (.ref b1), .val (.int (16 : Int32)), .val (.ref v16), .val (.int (0 : Int32)), .unset, .unset, .unset, .unset] []))
      refine OwnFin.step (fun tT kK => XS.iloadN X253.here hx rfl (hb hby at_155) rfl kK) ?_
      show OwnFin p e below _ (T253.setTop (mkF m 156 #[.val (.int k), .val (.ref b1), .val (.int (16 : Int32)), .val (.ref v16), .val (.int (0 : Int32)), .unset, .unset, .unset, .unset] [(.int (16 : Int32))]))
      refine OwnFin.step (fun tT kK => XS.iconst X253.here hx rfl (hb hby at_156) kK) ?_
      show OwnFin p e below _ (T253.setTop (mkF m 157 #[.val (.int k), .val (.ref b1), .val (.int (16 : Int32)), .val (.ref v16), .val (.int (0 : Int32)), .unset, .unset, .unset, .unset] [(.int (1 : Int32)), (.int (16 : Int32))]))
      refine OwnFin.step (fun tT kK => XS.icmpYes X253.here hx rfl (pc0 := 157) (pc' := 164) rfl (hb hby at_157) rfl (feq (by decide : ¬ ((16 : Int32) = (1 : Int32)))).2 (by decide) (by decide) kK) ?_
      show OwnFin p e below _ (T253.setTop (mkF m 164 #[.val (.int k), .val (.ref b1), .val (.int (16 : Int32)), .val (.ref v16), .val (.int (0 : Int32)), .unset, .unset, .unset, .unset] []))
      refine OwnFin.step (fun tT kK => XS.iconst X253.here hx rfl (hb hby at_164) kK) ?_
      show OwnFin p e below _ (T253.setTop (mkF m 165 #[.val (.int k), .val (.ref b1), .val (.int (16 : Int32)), .val (.ref v16), .val (.int (0 : Int32)), .unset, .unset, .unset, .unset] [(.int (0 : Int32))]))
      refine OwnFin.step (fun tT kK => XS.istore X253.here hx rfl (hb hby at_165) rfl (l' := #[.val (.int k), .val (.ref b1), .val (.int (16 : Int32)), .val (.ref v16), .val (.int (0 : Int32)), .val (.int (0 : Int32)), .unset, .unset, .unset]) rfl kK) ?_
      show OwnFin p e below _ (T253.setTop (mkF m 167 #[.val (.int k), .val (.ref b1), .val (.int (16 : Int32)), .val (.ref v16), .val (.int (0 : Int32)), .val (.int (0 : Int32)), .unset, .unset, .unset] []))
      refine OwnFin.step (fun tT kK => XS.aloadN X253.here hx rfl (hb hby at_167) rfl rfl kK) ?_
      show OwnFin p e below _ (T253.setTop (mkF m 168 #[.val (.int k), .val (.ref b1), .val (.int (16 : Int32)), .val (.ref v16), .val (.int (0 : Int32)), .val (.int (0 : Int32)), .unset, .unset, .unset] [(.ref v16)]))
      have f254 : Fld Z h115 v16 "com/example/cairn/cairn/engine/BinaryOperator" "opcode" "I" (.int (6 : Int32)) := (hp54.keep Kp116 nin0)
      obtain ⟨cq255, kq255, q255a, q255b, q255c⟩ := isOf hZ e253 f133
      obtain ⟨_, _, ⟨T255, L255, k255, n255⟩, -, X255, ⟨Lc255, hQ255, l255, y255, z255⟩, st255⟩ := X253.virtualBack hx (y := (⟨"com/example/cairn/cairn/engine/BinaryOperator", "opcode", "()I"⟩ : MethodName)) (z := (⟨"com/example/cairn/cairn/engine/BinaryOperator", "opcode", "()I"⟩ : MethodName)) hown (mvT hZ (hw _ (List.mem_of_getElem? (i := 50) rfl))) (mvT hZ (hw _ (List.mem_of_getElem? (i := 51) rfl))) (notFace_of_selects (args := #[]) (mvT hZ (hw _ (List.mem_of_getElem? (i := 53) rfl)))) (mvT hZ (hw _ (List.mem_of_getElem? (i := 53) rfl))) (mvT hZ (hw _ (List.mem_of_getElem? (i := 52) rfl))) (by decide) (backOf (W := 0) (rm2 l Z a0 hw [] v16 (6 : Int32) h115 n0 (Nat.le_trans Z0 Kp116.1) f254) hZ (hw _ (List.mem_of_getElem? (i := 54) rfl)) (hw _ (List.mem_of_getElem? (i := 3) rfl)) (by decide) (by decide)) q255a q255c (g := (mkF m 168 #[.val (.int k), .val (.ref b1), .val (.int (16 : Int32)), .val (.ref v16), .val (.int (0 : Int32)), .val (.int (0 : Int32)), .unset, .unset, .unset] [(.ref v16)])) rfl (by rw [hml]; rfl) (Steps.refl _) (argsL := []) (rest := []) (lenOf pd_19 rfl) rfl (by show 2 * 0 + _ ≤ _; exact Nat.le_of_eq rfl) (hb hby at_168) (fun _ _ => ⟨rfl, e253, (by decide : 1 + 0 ≤ _), (by decide : 19 + 0 ≤ _)⟩)
      dsimp only [Pt.U, Pt.locs, Pt.cells, Pt.slots] at X255 l255 y255 z255 st255 hQ255
      subst l255 y255 z255
      obtain ⟨rfl, N255q, e255⟩ := hQ255
      have N255 := Fr.app N253 N255q
      refine OwnFin.step (fun tT kK => st255.trans kK) ?_
      show OwnFin p e below _ (T255.setTop (mkF m 171 #[.val (.int k), .val (.ref b1), .val (.int (16 : Int32)), .val (.ref v16), .val (.int (0 : Int32)), .val (.int (0 : Int32)), .unset, .unset, .unset] [(.int (6 : Int32))]))
      refine OwnFin.step (fun tT kK => XS.istore X255.here hx rfl (hb hby at_171) rfl (l' := #[.val (.int k), .val (.ref b1), .val (.int (16 : Int32)), .val (.ref v16), .val (.int (0 : Int32)), .val (.int (0 : Int32)), .val (.int (6 : Int32)), .unset, .unset]) rfl kK) ?_
      show OwnFin p e below _ (T255.setTop (mkF m 173 #[.val (.int k), .val (.ref b1), .val (.int (16 : Int32)), .val (.ref v16), .val (.int (0 : Int32)), .val (.int (0 : Int32)), .val (.int (6 : Int32)), .unset, .unset] []))
      refine OwnFin.step (fun tT kK => XS.iload X255.here hx rfl (hb hby at_173) rfl kK) ?_
      show OwnFin p e below _ (T255.setTop (mkF m 175 #[.val (.int k), .val (.ref b1), .val (.int (16 : Int32)), .val (.ref v16), .val (.int (0 : Int32)), .val (.int (0 : Int32)), .val (.int (6 : Int32)), .unset, .unset] [(.int (6 : Int32))]))
      refine OwnFin.step (fun tT kK => XS.bipush X255.here hx rfl (hb hby at_175) kK) ?_
      show OwnFin p e below _ (T255.setTop (mkF m 177 #[.val (.int k), .val (.ref b1), .val (.int (16 : Int32)), .val (.ref v16), .val (.int (0 : Int32)), .val (.int (0 : Int32)), .val (.int (6 : Int32)), .unset, .unset] [(.int (37 : Int32)), (.int (6 : Int32))]))
      refine OwnFin.step (fun tT kK => XS.icmpNo X255.here hx rfl (hb hby at_177) rfl (feq (by decide : ¬ ((6 : Int32) = (37 : Int32)))).1 kK) ?_
      show OwnFin p e below _ (T255.setTop (mkF m 180 #[.val (.int k), .val (.ref b1), .val (.int (16 : Int32)), .val (.ref v16), .val (.int (0 : Int32)), .val (.int (0 : Int32)), .val (.int (6 : Int32)), .unset, .unset] []))
      refine OwnFin.step (fun tT kK => XS.iload X255.here hx rfl (hb hby at_180) rfl kK) ?_
      show OwnFin p e below _ (T255.setTop (mkF m 182 #[.val (.int k), .val (.ref b1), .val (.int (16 : Int32)), .val (.ref v16), .val (.int (0 : Int32)), .val (.int (0 : Int32)), .val (.int (6 : Int32)), .unset, .unset] [(.int (6 : Int32))]))
      refine OwnFin.step (fun tT kK => XS.bipush X255.here hx rfl (hb hby at_182) kK) ?_
      show OwnFin p e below _ (T255.setTop (mkF m 184 #[.val (.int k), .val (.ref b1), .val (.int (16 : Int32)), .val (.ref v16), .val (.int (0 : Int32)), .val (.int (0 : Int32)), .val (.int (6 : Int32)), .unset, .unset] [(.int (38 : Int32)), (.int (6 : Int32))]))
      refine OwnFin.step (fun tT kK => XS.icmpYes X255.here hx rfl (pc0 := 184) (pc' := 191) rfl (hb hby at_184) rfl (feq (by decide : ¬ ((6 : Int32) = (38 : Int32)))).2 (by decide) (by decide) kK) ?_
      show OwnFin p e below _ (T255.setTop (mkF m 191 #[.val (.int k), .val (.ref b1), .val (.int (16 : Int32)), .val (.ref v16), .val (.int (0 : Int32)), .val (.int (0 : Int32)), .val (.int (6 : Int32)), .unset, .unset] []))
      refine OwnFin.step (fun tT kK => XS.iconst X255.here hx rfl (hb hby at_191) kK) ?_
      show OwnFin p e below _ (T255.setTop (mkF m 192 #[.val (.int k), .val (.ref b1), .val (.int (16 : Int32)), .val (.ref v16), .val (.int (0 : Int32)), .val (.int (0 : Int32)), .val (.int (6 : Int32)), .unset, .unset] [(.int (0 : Int32))]))
      refine OwnFin.step (fun tT kK => XS.istore X255.here hx rfl (hb hby at_192) rfl (l' := #[.val (.int k), .val (.ref b1), .val (.int (16 : Int32)), .val (.ref v16), .val (.int (0 : Int32)), .val (.int (0 : Int32)), .val (.int (6 : Int32)), .val (.int (0 : Int32)), .unset]) rfl kK) ?_
      show OwnFin p e below _ (T255.setTop (mkF m 194 #[.val (.int k), .val (.ref b1), .val (.int (16 : Int32)), .val (.ref v16), .val (.int (0 : Int32)), .val (.int (0 : Int32)), .val (.int (6 : Int32)), .val (.int (0 : Int32)), .unset] []))
      refine OwnFin.step (fun tT kK => XS.aloadN X255.here hx rfl (hb hby at_194) rfl rfl kK) ?_
      show OwnFin p e below _ (T255.setTop (mkF m 195 #[.val (.int k), .val (.ref b1), .val (.int (16 : Int32)), .val (.ref v16), .val (.int (0 : Int32)), .val (.int (0 : Int32)), .val (.int (6 : Int32)), .val (.int (0 : Int32)), .unset] [(.ref v16)]))
      have f256 : Fld Z h115 v16 "com/example/cairn/cairn/engine/BinaryOperator" "precedence" "I" (.int (9 : Int32)) := (hp73.keep Kp116 nin0)
      obtain ⟨cq257, kq257, q257a, q257b, q257c⟩ := isOf hZ e255 f133
      obtain ⟨_, _, ⟨T257, L257, k257, n257⟩, -, X257, ⟨Lc257, hQ257, l257, y257, z257⟩, st257⟩ := X255.virtualBack hx (y := (⟨"com/example/cairn/cairn/engine/BinaryOperator", "precedence", "()I"⟩ : MethodName)) (z := (⟨"com/example/cairn/cairn/engine/BinaryOperator", "precedence", "()I"⟩ : MethodName)) hown (mvT hZ (hw _ (List.mem_of_getElem? (i := 57) rfl))) (mvT hZ (hw _ (List.mem_of_getElem? (i := 58) rfl))) (notFace_of_selects (args := #[]) (mvT hZ (hw _ (List.mem_of_getElem? (i := 60) rfl)))) (mvT hZ (hw _ (List.mem_of_getElem? (i := 60) rfl))) (mvT hZ (hw _ (List.mem_of_getElem? (i := 59) rfl))) (by decide) (backOf (W := 0) (rm3 l Z a0 hw [] v16 (9 : Int32) h115 n0 (Nat.le_trans Z0 Kp116.1) f256) hZ (hw _ (List.mem_of_getElem? (i := 61) rfl)) (hw _ (List.mem_of_getElem? (i := 3) rfl)) (by decide) (by decide)) q257a q257c (g := (mkF m 195 #[.val (.int k), .val (.ref b1), .val (.int (16 : Int32)), .val (.ref v16), .val (.int (0 : Int32)), .val (.int (0 : Int32)), .val (.int (6 : Int32)), .val (.int (0 : Int32)), .unset] [(.ref v16)])) rfl (by rw [hml]; rfl) (Steps.refl _) (argsL := []) (rest := []) (lenOf pd_19 rfl) rfl (by show 2 * 0 + _ ≤ _; exact Nat.le_of_eq rfl) (hb hby at_195) (fun _ _ => ⟨rfl, e255, (by decide : 1 + 0 ≤ _), (by decide : 19 + 0 ≤ _)⟩)
      dsimp only [Pt.U, Pt.locs, Pt.cells, Pt.slots] at X257 l257 y257 z257 st257 hQ257
      subst l257 y257 z257
      obtain ⟨rfl, N257q, e257⟩ := hQ257
      have N257 := Fr.app N255 N257q
      refine OwnFin.step (fun tT kK => st257.trans kK) ?_
      show OwnFin p e below _ (T257.setTop (mkF m 198 #[.val (.int k), .val (.ref b1), .val (.int (16 : Int32)), .val (.ref v16), .val (.int (0 : Int32)), .val (.int (0 : Int32)), .val (.int (6 : Int32)), .val (.int (0 : Int32)), .unset] [(.int (9 : Int32))]))
      refine OwnFin.step (fun tT kK => XS.iconst X257.here hx rfl (hb hby at_198) kK) ?_
      show OwnFin p e below _ (T257.setTop (mkF m 199 #[.val (.int k), .val (.ref b1), .val (.int (16 : Int32)), .val (.ref v16), .val (.int (0 : Int32)), .val (.int (0 : Int32)), .val (.int (6 : Int32)), .val (.int (0 : Int32)), .unset] [(.int (2 : Int32)), (.int (9 : Int32))]))
      refine OwnFin.step (fun tT kK => XS.icmpYes X257.here hx rfl (pc0 := 199) (pc' := 206) rfl (hb hby at_199) rfl (tlt (by decide : (2 : Int32) < (9 : Int32))).2.2.1 (by decide) (by decide) kK) ?_
      show OwnFin p e below _ (T257.setTop (mkF m 206 #[.val (.int k), .val (.ref b1), .val (.int (16 : Int32)), .val (.ref v16), .val (.int (0 : Int32)), .val (.int (0 : Int32)), .val (.int (6 : Int32)), .val (.int (0 : Int32)), .unset] []))
      refine OwnFin.step (fun tT kK => XS.iconst X257.here hx rfl (hb hby at_206) kK) ?_
      show OwnFin p e below _ (T257.setTop (mkF m 207 #[.val (.int k), .val (.ref b1), .val (.int (16 : Int32)), .val (.ref v16), .val (.int (0 : Int32)), .val (.int (0 : Int32)), .val (.int (6 : Int32)), .val (.int (0 : Int32)), .unset] [(.int (0 : Int32))]))
      refine OwnFin.step (fun tT kK => XS.istore X257.here hx rfl (hb hby at_207) rfl (l' := #[.val (.int k), .val (.ref b1), .val (.int (16 : Int32)), .val (.ref v16), .val (.int (0 : Int32)), .val (.int (0 : Int32)), .val (.int (6 : Int32)), .val (.int (0 : Int32)), .val (.int (0 : Int32))]) rfl kK) ?_
      show OwnFin p e below _ (T257.setTop (mkF m 209 #[.val (.int k), .val (.ref b1), .val (.int (16 : Int32)), .val (.ref v16), .val (.int (0 : Int32)), .val (.int (0 : Int32)), .val (.int (6 : Int32)), .val (.int (0 : Int32)), .val (.int (0 : Int32))] []))
      refine OwnFin.step (fun tT kK => XS.iload X257.here hx rfl (hb hby at_209) rfl kK) ?_
      show OwnFin p e below _ (T257.setTop (mkF m 211 #[.val (.int k), .val (.ref b1), .val (.int (16 : Int32)), .val (.ref v16), .val (.int (0 : Int32)), .val (.int (0 : Int32)), .val (.int (6 : Int32)), .val (.int (0 : Int32)), .val (.int (0 : Int32))] [(.int (0 : Int32))]))
      refine OwnFin.step (fun tT kK => XS.iload X257.here hx rfl (hb hby at_211) rfl kK) ?_
      show OwnFin p e below _ (T257.setTop (mkF m 213 #[.val (.int k), .val (.ref b1), .val (.int (16 : Int32)), .val (.ref v16), .val (.int (0 : Int32)), .val (.int (0 : Int32)), .val (.int (6 : Int32)), .val (.int (0 : Int32)), .val (.int (0 : Int32))] [(.int (0 : Int32)), (.int (0 : Int32))]))
      refine OwnFin.step (fun tT kK => XS.icmpNo X257.here hx rfl (hb hby at_213) rfl (teq (rfl : (0 : Int32) = (0 : Int32))).2 kK) ?_
      show OwnFin p e below _ (T257.setTop (mkF m 216 #[.val (.int k), .val (.ref b1), .val (.int (16 : Int32)), .val (.ref v16), .val (.int (0 : Int32)), .val (.int (0 : Int32)), .val (.int (6 : Int32)), .val (.int (0 : Int32)), .val (.int (0 : Int32))] []))
      refine OwnFin.step (fun tT kK => XS.iload X257.here hx rfl (hb hby at_216) rfl kK) ?_
      show OwnFin p e below _ (T257.setTop (mkF m 218 #[.val (.int k), .val (.ref b1), .val (.int (16 : Int32)), .val (.ref v16), .val (.int (0 : Int32)), .val (.int (0 : Int32)), .val (.int (6 : Int32)), .val (.int (0 : Int32)), .val (.int (0 : Int32))] [(.int (0 : Int32))]))
      refine OwnFin.step (fun tT kK => XS.iload X257.here hx rfl (hb hby at_218) rfl kK) ?_
      show OwnFin p e below _ (T257.setTop (mkF m 220 #[.val (.int k), .val (.ref b1), .val (.int (16 : Int32)), .val (.ref v16), .val (.int (0 : Int32)), .val (.int (0 : Int32)), .val (.int (6 : Int32)), .val (.int (0 : Int32)), .val (.int (0 : Int32))] [(.int (0 : Int32)), (.int (0 : Int32))]))
      refine OwnFin.step (fun tT kK => XS.icmpNo X257.here hx rfl (hb hby at_220) rfl (teq (rfl : (0 : Int32) = (0 : Int32))).2 kK) ?_
      show OwnFin p e below _ (T257.setTop (mkF m 223 #[.val (.int k), .val (.ref b1), .val (.int (16 : Int32)), .val (.ref v16), .val (.int (0 : Int32)), .val (.int (0 : Int32)), .val (.int (6 : Int32)), .val (.int (0 : Int32)), .val (.int (0 : Int32))] []))
      refine OwnFin.step (fun tT kK => XS.iload X257.here hx rfl (hb hby at_223) rfl kK) ?_
      show OwnFin p e below _ (T257.setTop (mkF m 225 #[.val (.int k), .val (.ref b1), .val (.int (16 : Int32)), .val (.ref v16), .val (.int (0 : Int32)), .val (.int (0 : Int32)), .val (.int (6 : Int32)), .val (.int (0 : Int32)), .val (.int (0 : Int32))] [(.int (0 : Int32))]))
      refine OwnFin.step (fun tT kK => XS.iload X257.here hx rfl (hb hby at_225) rfl kK) ?_
      show OwnFin p e below _ (T257.setTop (mkF m 227 #[.val (.int k), .val (.ref b1), .val (.int (16 : Int32)), .val (.ref v16), .val (.int (0 : Int32)), .val (.int (0 : Int32)), .val (.int (6 : Int32)), .val (.int (0 : Int32)), .val (.int (0 : Int32))] [(.int (0 : Int32)), (.int (0 : Int32))]))
      refine OwnFin.step (fun tT kK => XS.icmpNo X257.here hx rfl (hb hby at_227) rfl (teq (rfl : (0 : Int32) = (0 : Int32))).2 kK) ?_
      show OwnFin p e below _ (T257.setTop (mkF m 230 #[.val (.int k), .val (.ref b1), .val (.int (16 : Int32)), .val (.ref v16), .val (.int (0 : Int32)), .val (.int (0 : Int32)), .val (.int (6 : Int32)), .val (.int (0 : Int32)), .val (.int (0 : Int32))] []))
      refine OwnFin.step (fun tT kK => XS.iconst X257.here hx rfl (hb hby at_230) kK) ?_
      show OwnFin p e below _ (T257.setTop (mkF m 231 #[.val (.int k), .val (.ref b1), .val (.int (16 : Int32)), .val (.ref v16), .val (.int (0 : Int32)), .val (.int (0 : Int32)), .val (.int (6 : Int32)), .val (.int (0 : Int32)), .val (.int (0 : Int32))] [(.int (1 : Int32))]))
      refine OwnFin.step (fun tT kK => XS.goto X257.here hx rfl (pc0 := 231) (pc' := 235) rfl (hb hby at_231) (by decide) (by decide) kK) ?_
      show OwnFin p e below _ (T257.setTop (mkF m 235 #[.val (.int k), .val (.ref b1), .val (.int (16 : Int32)), .val (.ref v16), .val (.int (0 : Int32)), .val (.int (0 : Int32)), .val (.int (6 : Int32)), .val (.int (0 : Int32)), .val (.int (0 : Int32))] [(.int (1 : Int32))]))
      obtain ⟨fs258, hr258, hrun258, hended258, hW258, hsame258⟩ := X257.leave (v := (some (.int (1 : Int32)))) (fun h => by rw [Bd.returns] at h; cases h)
      refine ⟨_, _, retN X257 hx (t := .boolean) Bd.returns (by simp) (hb hby at_235) hr258, hrun258, hended258, _, _, rfl, ?_, ⟨_, rfl⟩, hW258, hsame258.mono (by decide) (by decide)⟩
      show Q0 Z k v0 v1 v2 v3 v4 v5 v6 v7 v8 v9 v10 v11 v12 v13 v14 v15 v16 v17 v18 h0 n0 _ T257.heap _
      rw [e257]
      exact ⟨rfl, N257, Kp116⟩
    · skip
      show OwnFin p e below _ (T139.setTop (mkF m 141 #[.val (.int k), .val (.ref b1), .val (.int (17 : Int32)), .unset, .unset, .unset, .unset, .unset, .unset] []))
      refine OwnFin.step (fun tT kK => XS.aloadN X139.here hx rfl (hb hby at_141) rfl rfl kK) ?_
      show OwnFin p e below _ (T139.setTop (mkF m 142 #[.val (.int k), .val (.ref b1), .val (.int (17 : Int32)), .unset, .unset, .unset, .unset, .unset, .unset] [(.ref b1)]))
      refine OwnFin.step (fun tT kK => XS.iloadN X139.here hx rfl (hb hby at_142) rfl kK) ?_
      show OwnFin p e below _ (T139.setTop (mkF m 143 #[.val (.int k), .val (.ref b1), .val (.int (17 : Int32)), .unset, .unset, .unset, .unset, .unset, .unset] [(.int (17 : Int32)), (.ref b1)]))
      obtain ⟨cl259, Ar259, q259, Sz259, Ng259, H259, G259⟩ := id V115
      have hin259 : ¬ ((17 : Int32) < 0 ∨ cl259.slots.size ≤ ((17 : Int32)).toNatClampNeg) := inb_of Sz259 ⟨by decide, by decide⟩
      refine OwnFin.step (fun tT kK => X139.aaload hx (j := (17 : Int32)) (v := (.ref v17)) (by rw [e139]; exact Ar259.1) (State.isArrayOf_alike hZ.alike Ar259.2.1) rfl Ar259.2.2 hin259 (H259.at hin259 rfl) (g := (mkF m 143 #[.val (.int k), .val (.ref b1), .val (.int (17 : Int32)), .unset, .unset, .unset, .unset, .unset, .unset] [(.int (17 : Int32)), (.ref b1)])) rfl rfl (hb hby at_143) _ kK) ?_
      show OwnFin p e below _ (T139.setTop (mkF m 144 #[.val (.int k), .val (.ref b1), .val (.int (17 : Int32)), .unset, .unset, .unset, .unset, .unset, .unset] [(.ref v17)]))
      refine OwnFin.step (fun tT kK => XS.astoreN X139.here hx rfl (hb hby at_144) rfl rfl (l' := #[.val (.int k), .val (.ref b1), .val (.int (17 : Int32)), .val (.ref v17), .unset, .unset, .unset, .unset, .unset]) rfl kK) ?_
      show OwnFin p e below _ (T139.setTop (mkF m 145 #[.val (.int k), .val (.ref b1), .val (.int (17 : Int32)), .val (.ref v17), .unset, .unset, .unset, .unset, .unset] []))
      refine OwnFin.step (fun tT kK => XS.aloadN X139.here hx rfl (hb hby at_145) rfl rfl kK) ?_
      show OwnFin p e below _ (T139.setTop (mkF m 146 #[.val (.int k), .val (.ref b1), .val (.int (17 : Int32)), .val (.ref v17), .unset, .unset, .unset, .unset, .unset] [(.ref v17)]))
      obtain ⟨cq260, kq260, q260a, q260b, q260c⟩ := isOf hZ e139 f134
      obtain ⟨_, _, ⟨T260, L260, k260, n260⟩, -, X260, ⟨Lc260, hQ260, l260, y260, z260⟩, st260⟩ := X139.virtualBack hx (y := (⟨"com/example/cairn/cairn/engine/BinaryOperator", "shortCircuits", "()Z"⟩ : MethodName)) (z := (⟨"com/example/cairn/cairn/engine/BinaryOperator", "shortCircuits", "()Z"⟩ : MethodName)) hown (mvT hZ (hw _ (List.mem_of_getElem? (i := 43) rfl))) (mvT hZ (hw _ (List.mem_of_getElem? (i := 44) rfl))) (notFace_of_selects (args := #[]) (mvT hZ (hw _ (List.mem_of_getElem? (i := 46) rfl)))) (mvT hZ (hw _ (List.mem_of_getElem? (i := 46) rfl))) (mvT hZ (hw _ (List.mem_of_getElem? (i := 45) rfl))) (by decide) (backOf (W := 0) (rm1 l Z a0 hw [] v17 v1 v0 h115 n0 (Nat.le_trans Z0 Kp116.1) f136 f137) hZ (hw _ (List.mem_of_getElem? (i := 47) rfl)) (hw _ (List.mem_of_getElem? (i := 3) rfl)) (by decide) (by decide)) q260a q260c (g := (mkF m 146 #[.val (.int k), .val (.ref b1), .val (.int (17 : Int32)), .val (.ref v17), .unset, .unset, .unset, .unset, .unset] [(.ref v17)])) rfl (by rw [hml]; rfl) (Steps.refl _) (argsL := []) (rest := []) (lenOf pd_18 rfl) rfl (by show 2 * 0 + _ ≤ _; exact Nat.le_of_eq rfl) (hb hby at_146) (fun _ _ => ⟨rfl, e139, (by decide : 1 + 0 ≤ _), (by decide : 19 + 0 ≤ _)⟩)
      dsimp only [Pt.U, Pt.locs, Pt.cells, Pt.slots] at X260 l260 y260 z260 st260 hQ260
      subst l260 y260 z260
      obtain ⟨rfl, N260q, e260⟩ := hQ260
      have N260 := Fr.app N139 N260q
      refine OwnFin.step (fun tT kK => st260.trans kK) ?_
      show OwnFin p e below _ (T260.setTop (mkF m 149 #[.val (.int k), .val (.ref b1), .val (.int (17 : Int32)), .val (.ref v17), .unset, .unset, .unset, .unset, .unset] [(.int (if v17 = v1 ∨ v17 = v0 then 1 else 0))]))
      rw [show (if v17 = v1 ∨ v17 = v0 then (1 : Int32) else 0) = 0 from if_neg (fun q => q.elim hp107 hp106)]
      show OwnFin p e below _ (T260.setTop (mkF m 149 #[.val (.int k), .val (.ref b1), .val (.int (17 : Int32)), .val (.ref v17), .unset, .unset, .unset, .unset, .unset] [(.int (0 : Int32))]))
      refine OwnFin.step (fun tT kK => XS.istore X260.here hx rfl (hb hby at_149) rfl (l' := #[.val (.int k), .val (.ref b1), .val (.int (17 : Int32)), .val (.ref v17), .val (.int (0 : Int32)), .unset, .unset, .unset, .unset]) rfl kK) ?_
      show OwnFin p e below _ (T260.setTop (mkF m 151 #[.val (.int k), .val (.ref b1), .val (.int (17 : Int32)), .val (.ref v17), .val (.int (0 : Int32)), .unset, .unset, .unset, .unset] []))
      refine OwnFin.step (fun tT kK => XS.iloadN X260.here hx rfl (hb hby at_151) rfl kK) ?_
      show OwnFin p e below _ (T260.setTop (mkF m 152 #[.val (.int k), .val (.ref b1), .val (.int (17 : Int32)), .val (.ref v17), .val (.int (0 : Int32)), .unset, .unset, .unset, .unset] [(.int (17 : Int32))]))
      refine OwnFin.step (fun tT kK => XS.ifNo X260.here hx rfl (hb hby at_152) rfl ((if0 _ _).trans (feq (by decide : ¬ ((17 : Int32) = (0 : Int32)))).1) kK) ?_
      show OwnFin p e below _ (T260.setTop (mkF m 155 #[.val (.int k), .val (.ref b1), .val (.int (17 : Int32)), .val (.ref v17), .val (.int (0 : Int32)), .unset, .unset, .unset, .unset] []))
      refine OwnFin.step (fun tT kK => XS.iloadN X260.here hx rfl (hb hby at_155) rfl kK) ?_
      show OwnFin p e below _ (T260.setTop (mkF m 156 #[.val (.int k), .val (.ref b1), .val (.int (17 : Int32)), .val (.ref v17), .val (.int (0 : Int32)), .unset, .unset, .unset, .unset] [(.int (17 : Int32))]))
      refine OwnFin.step (fun tT kK => XS.iconst X260.here hx rfl (hb hby at_156) kK) ?_
      show OwnFin p e below _ (T260.setTop (mkF m 157 #[.val (.int k), .val (.ref b1), .val (.int (17 : Int32)), .val (.ref v17), .val (.int (0 : Int32)), .unset, .unset, .unset, .unset] [(.int (1 : Int32)), (.int (17 : Int32))]))
      refine OwnFin.step (fun tT kK => XS.icmpYes X260.here hx rfl (pc0 := 157) (pc' := 164) rfl (hb hby at_157) rfl (feq (by decide : ¬ ((17 : Int32) = (1 : Int32)))).2 (by decide) (by decide) kK) ?_
      show OwnFin p e below _ (T260.setTop (mkF m 164 #[.val (.int k), .val (.ref b1), .val (.int (17 : Int32)), .val (.ref v17), .val (.int (0 : Int32)), .unset, .unset, .unset, .unset] []))
      refine OwnFin.step (fun tT kK => XS.iconst X260.here hx rfl (hb hby at_164) kK) ?_
      show OwnFin p e below _ (T260.setTop (mkF m 165 #[.val (.int k), .val (.ref b1), .val (.int (17 : Int32)), .val (.ref v17), .val (.int (0 : Int32)), .unset, .unset, .unset, .unset] [(.int (0 : Int32))]))
      refine OwnFin.step (fun tT kK => XS.istore X260.here hx rfl (hb hby at_165) rfl (l' := #[.val (.int k), .val (.ref b1), .val (.int (17 : Int32)), .val (.ref v17), .val (.int (0 : Int32)), .val (.int (0 : Int32)), .unset, .unset, .unset]) rfl kK) ?_
      show OwnFin p e below _ (T260.setTop (mkF m 167 #[.val (.int k), .val (.ref b1), .val (.int (17 : Int32)), .val (.ref v17), .val (.int (0 : Int32)), .val (.int (0 : Int32)), .unset, .unset, .unset] []))
      refine OwnFin.step (fun tT kK => XS.aloadN X260.here hx rfl (hb hby at_167) rfl rfl kK) ?_
      show OwnFin p e below _ (T260.setTop (mkF m 168 #[.val (.int k), .val (.ref b1), .val (.int (17 : Int32)), .val (.ref v17), .val (.int (0 : Int32)), .val (.int (0 : Int32)), .unset, .unset, .unset] [(.ref v17)]))
      have f261 : Fld Z h115 v17 "com/example/cairn/cairn/engine/BinaryOperator" "opcode" "I" (.int (7 : Int32)) := (hp55.keep Kp116 nin0)
      obtain ⟨cq262, kq262, q262a, q262b, q262c⟩ := isOf hZ e260 f134
      obtain ⟨_, _, ⟨T262, L262, k262, n262⟩, -, X262, ⟨Lc262, hQ262, l262, y262, z262⟩, st262⟩ := X260.virtualBack hx (y := (⟨"com/example/cairn/cairn/engine/BinaryOperator", "opcode", "()I"⟩ : MethodName)) (z := (⟨"com/example/cairn/cairn/engine/BinaryOperator", "opcode", "()I"⟩ : MethodName)) hown (mvT hZ (hw _ (List.mem_of_getElem? (i := 50) rfl))) (mvT hZ (hw _ (List.mem_of_getElem? (i := 51) rfl))) (notFace_of_selects (args := #[]) (mvT hZ (hw _ (List.mem_of_getElem? (i := 53) rfl)))) (mvT hZ (hw _ (List.mem_of_getElem? (i := 53) rfl))) (mvT hZ (hw _ (List.mem_of_getElem? (i := 52) rfl))) (by decide) (backOf (W := 0) (rm2 l Z a0 hw [] v17 (7 : Int32) h115 n0 (Nat.le_trans Z0 Kp116.1) f261) hZ (hw _ (List.mem_of_getElem? (i := 54) rfl)) (hw _ (List.mem_of_getElem? (i := 3) rfl)) (by decide) (by decide)) q262a q262c (g := (mkF m 168 #[.val (.int k), .val (.ref b1), .val (.int (17 : Int32)), .val (.ref v17), .val (.int (0 : Int32)), .val (.int (0 : Int32)), .unset, .unset, .unset] [(.ref v17)])) rfl (by rw [hml]; rfl) (Steps.refl _) (argsL := []) (rest := []) (lenOf pd_19 rfl) rfl (by show 2 * 0 + _ ≤ _; exact Nat.le_of_eq rfl) (hb hby at_168) (fun _ _ => ⟨rfl, e260, (by decide : 1 + 0 ≤ _), (by decide : 19 + 0 ≤ _)⟩)
      dsimp only [Pt.U, Pt.locs, Pt.cells, Pt.slots] at X262 l262 y262 z262 st262 hQ262
      subst l262 y262 z262
      obtain ⟨rfl, N262q, e262⟩ := hQ262
      have N262 := Fr.app N260 N262q
      refine OwnFin.step (fun tT kK => st262.trans kK) ?_
      show OwnFin p e below _ (T262.setTop (mkF m 171 #[.val (.int k), .val (.ref b1), .val (.int (17 : Int32)), .val (.ref v17), .val (.int (0 : Int32)), .val (.int (0 : Int32)), .unset, .unset, .unset] [(.int (7 : Int32))]))
      refine OwnFin.step (fun tT kK => XS.istore X262.here hx rfl (hb hby at_171) rfl (l' := #[.val (.int k), .val (.ref b1), .val (.int (17 : Int32)), .val (.ref v17), .val (.int (0 : Int32)), .val (.int (0 : Int32)), .val (.int (7 : Int32)), .unset, .unset]) rfl kK) ?_
      show OwnFin p e below _ (T262.setTop (mkF m 173 #[.val (.int k), .val (.ref b1), .val (.int (17 : Int32)), .val (.ref v17), .val (.int (0 : Int32)), .val (.int (0 : Int32)), .val (.int (7 : Int32)), .unset, .unset] []))
      refine OwnFin.step (fun tT kK => XS.iload X262.here hx rfl (hb hby at_173) rfl kK) ?_
      show OwnFin p e below _ (T262.setTop (mkF m 175 #[.val (.int k), .val (.ref b1), .val (.int (17 : Int32)), .val (.ref v17), .val (.int (0 : Int32)), .val (.int (0 : Int32)), .val (.int (7 : Int32)), .unset, .unset] [(.int (7 : Int32))]))
      refine OwnFin.step (fun tT kK => XS.bipush X262.here hx rfl (hb hby at_175) kK) ?_
      show OwnFin p e below _ (T262.setTop (mkF m 177 #[.val (.int k), .val (.ref b1), .val (.int (17 : Int32)), .val (.ref v17), .val (.int (0 : Int32)), .val (.int (0 : Int32)), .val (.int (7 : Int32)), .unset, .unset] [(.int (37 : Int32)), (.int (7 : Int32))]))
      refine OwnFin.step (fun tT kK => XS.icmpNo X262.here hx rfl (hb hby at_177) rfl (feq (by decide : ¬ ((7 : Int32) = (37 : Int32)))).1 kK) ?_
      show OwnFin p e below _ (T262.setTop (mkF m 180 #[.val (.int k), .val (.ref b1), .val (.int (17 : Int32)), .val (.ref v17), .val (.int (0 : Int32)), .val (.int (0 : Int32)), .val (.int (7 : Int32)), .unset, .unset] []))
      refine OwnFin.step (fun tT kK => XS.iload X262.here hx rfl (hb hby at_180) rfl kK) ?_
      show OwnFin p e below _ (T262.setTop (mkF m 182 #[.val (.int k), .val (.ref b1), .val (.int (17 : Int32)), .val (.ref v17), .val (.int (0 : Int32)), .val (.int (0 : Int32)), .val (.int (7 : Int32)), .unset, .unset] [(.int (7 : Int32))]))
      refine OwnFin.step (fun tT kK => XS.bipush X262.here hx rfl (hb hby at_182) kK) ?_
      show OwnFin p e below _ (T262.setTop (mkF m 184 #[.val (.int k), .val (.ref b1), .val (.int (17 : Int32)), .val (.ref v17), .val (.int (0 : Int32)), .val (.int (0 : Int32)), .val (.int (7 : Int32)), .unset, .unset] [(.int (38 : Int32)), (.int (7 : Int32))]))
      refine OwnFin.step (fun tT kK => XS.icmpYes X262.here hx rfl (pc0 := 184) (pc' := 191) rfl (hb hby at_184) rfl (feq (by decide : ¬ ((7 : Int32) = (38 : Int32)))).2 (by decide) (by decide) kK) ?_
      show OwnFin p e below _ (T262.setTop (mkF m 191 #[.val (.int k), .val (.ref b1), .val (.int (17 : Int32)), .val (.ref v17), .val (.int (0 : Int32)), .val (.int (0 : Int32)), .val (.int (7 : Int32)), .unset, .unset] []))
      refine OwnFin.step (fun tT kK => XS.iconst X262.here hx rfl (hb hby at_191) kK) ?_
      show OwnFin p e below _ (T262.setTop (mkF m 192 #[.val (.int k), .val (.ref b1), .val (.int (17 : Int32)), .val (.ref v17), .val (.int (0 : Int32)), .val (.int (0 : Int32)), .val (.int (7 : Int32)), .unset, .unset] [(.int (0 : Int32))]))
      refine OwnFin.step (fun tT kK => XS.istore X262.here hx rfl (hb hby at_192) rfl (l' := #[.val (.int k), .val (.ref b1), .val (.int (17 : Int32)), .val (.ref v17), .val (.int (0 : Int32)), .val (.int (0 : Int32)), .val (.int (7 : Int32)), .val (.int (0 : Int32)), .unset]) rfl kK) ?_
      show OwnFin p e below _ (T262.setTop (mkF m 194 #[.val (.int k), .val (.ref b1), .val (.int (17 : Int32)), .val (.ref v17), .val (.int (0 : Int32)), .val (.int (0 : Int32)), .val (.int (7 : Int32)), .val (.int (0 : Int32)), .unset] []))
      refine OwnFin.step (fun tT kK => XS.aloadN X262.here hx rfl (hb hby at_194) rfl rfl kK) ?_
      show OwnFin p e below _ (T262.setTop (mkF m 195 #[.val (.int k), .val (.ref b1), .val (.int (17 : Int32)), .val (.ref v17), .val (.int (0 : Int32)), .val (.int (0 : Int32)), .val (.int (7 : Int32)), .val (.int (0 : Int32)), .unset] [(.ref v17)]))
      have f263 : Fld Z h115 v17 "com/example/cairn/cairn/engine/BinaryOperator" "precedence" "I" (.int (9 : Int32)) := (hp74.keep Kp116 nin0)
      obtain ⟨cq264, kq264, q264a, q264b, q264c⟩ := isOf hZ e262 f134
      obtain ⟨_, _, ⟨T264, L264, k264, n264⟩, -, X264, ⟨Lc264, hQ264, l264, y264, z264⟩, st264⟩ := X262.virtualBack hx (y := (⟨"com/example/cairn/cairn/engine/BinaryOperator", "precedence", "()I"⟩ : MethodName)) (z := (⟨"com/example/cairn/cairn/engine/BinaryOperator", "precedence", "()I"⟩ : MethodName)) hown (mvT hZ (hw _ (List.mem_of_getElem? (i := 57) rfl))) (mvT hZ (hw _ (List.mem_of_getElem? (i := 58) rfl))) (notFace_of_selects (args := #[]) (mvT hZ (hw _ (List.mem_of_getElem? (i := 60) rfl)))) (mvT hZ (hw _ (List.mem_of_getElem? (i := 60) rfl))) (mvT hZ (hw _ (List.mem_of_getElem? (i := 59) rfl))) (by decide) (backOf (W := 0) (rm3 l Z a0 hw [] v17 (9 : Int32) h115 n0 (Nat.le_trans Z0 Kp116.1) f263) hZ (hw _ (List.mem_of_getElem? (i := 61) rfl)) (hw _ (List.mem_of_getElem? (i := 3) rfl)) (by decide) (by decide)) q264a q264c (g := (mkF m 195 #[.val (.int k), .val (.ref b1), .val (.int (17 : Int32)), .val (.ref v17), .val (.int (0 : Int32)), .val (.int (0 : Int32)), .val (.int (7 : Int32)), .val (.int (0 : Int32)), .unset] [(.ref v17)])) rfl (by rw [hml]; rfl) (Steps.refl _) (argsL := []) (rest := []) (lenOf pd_19 rfl) rfl (by show 2 * 0 + _ ≤ _; exact Nat.le_of_eq rfl) (hb hby at_195) (fun _ _ => ⟨rfl, e262, (by decide : 1 + 0 ≤ _), (by decide : 19 + 0 ≤ _)⟩)
      dsimp only [Pt.U, Pt.locs, Pt.cells, Pt.slots] at X264 l264 y264 z264 st264 hQ264
      subst l264 y264 z264
      obtain ⟨rfl, N264q, e264⟩ := hQ264
      have N264 := Fr.app N262 N264q
      refine OwnFin.step (fun tT kK => st264.trans kK) ?_
      show OwnFin p e below _ (T264.setTop (mkF m 198 #[.val (.int k), .val (.ref b1), .val (.int (17 : Int32)), .val (.ref v17), .val (.int (0 : Int32)), .val (.int (0 : Int32)), .val (.int (7 : Int32)), .val (.int (0 : Int32)), .unset] [(.int (9 : Int32))]))
      refine OwnFin.step (fun tT kK => XS.iconst X264.here hx rfl (hb hby at_198) kK) ?_
      show OwnFin p e below _ (T264.setTop (mkF m 199 #[.val (.int k), .val (.ref b1), .val (.int (17 : Int32)), .val (.ref v17), .val (.int (0 : Int32)), .val (.int (0 : Int32)), .val (.int (7 : Int32)), .val (.int (0 : Int32)), .unset] [(.int (2 : Int32)), (.int (9 : Int32))]))
      refine OwnFin.step (fun tT kK => XS.icmpYes X264.here hx rfl (pc0 := 199) (pc' := 206) rfl (hb hby at_199) rfl (tlt (by decide : (2 : Int32) < (9 : Int32))).2.2.1 (by decide) (by decide) kK) ?_
      show OwnFin p e below _ (T264.setTop (mkF m 206 #[.val (.int k), .val (.ref b1), .val (.int (17 : Int32)), .val (.ref v17), .val (.int (0 : Int32)), .val (.int (0 : Int32)), .val (.int (7 : Int32)), .val (.int (0 : Int32)), .unset] []))
      refine OwnFin.step (fun tT kK => XS.iconst X264.here hx rfl (hb hby at_206) kK) ?_
      show OwnFin p e below _ (T264.setTop (mkF m 207 #[.val (.int k), .val (.ref b1), .val (.int (17 : Int32)), .val (.ref v17), .val (.int (0 : Int32)), .val (.int (0 : Int32)), .val (.int (7 : Int32)), .val (.int (0 : Int32)), .unset] [(.int (0 : Int32))]))
      refine OwnFin.step (fun tT kK => XS.istore X264.here hx rfl (hb hby at_207) rfl (l' := #[.val (.int k), .val (.ref b1), .val (.int (17 : Int32)), .val (.ref v17), .val (.int (0 : Int32)), .val (.int (0 : Int32)), .val (.int (7 : Int32)), .val (.int (0 : Int32)), .val (.int (0 : Int32))]) rfl kK) ?_
      show OwnFin p e below _ (T264.setTop (mkF m 209 #[.val (.int k), .val (.ref b1), .val (.int (17 : Int32)), .val (.ref v17), .val (.int (0 : Int32)), .val (.int (0 : Int32)), .val (.int (7 : Int32)), .val (.int (0 : Int32)), .val (.int (0 : Int32))] []))
      refine OwnFin.step (fun tT kK => XS.iload X264.here hx rfl (hb hby at_209) rfl kK) ?_
      show OwnFin p e below _ (T264.setTop (mkF m 211 #[.val (.int k), .val (.ref b1), .val (.int (17 : Int32)), .val (.ref v17), .val (.int (0 : Int32)), .val (.int (0 : Int32)), .val (.int (7 : Int32)), .val (.int (0 : Int32)), .val (.int (0 : Int32))] [(.int (0 : Int32))]))
      refine OwnFin.step (fun tT kK => XS.iload X264.here hx rfl (hb hby at_211) rfl kK) ?_
      show OwnFin p e below _ (T264.setTop (mkF m 213 #[.val (.int k), .val (.ref b1), .val (.int (17 : Int32)), .val (.ref v17), .val (.int (0 : Int32)), .val (.int (0 : Int32)), .val (.int (7 : Int32)), .val (.int (0 : Int32)), .val (.int (0 : Int32))] [(.int (0 : Int32)), (.int (0 : Int32))]))
      refine OwnFin.step (fun tT kK => XS.icmpNo X264.here hx rfl (hb hby at_213) rfl (teq (rfl : (0 : Int32) = (0 : Int32))).2 kK) ?_
      show OwnFin p e below _ (T264.setTop (mkF m 216 #[.val (.int k), .val (.ref b1), .val (.int (17 : Int32)), .val (.ref v17), .val (.int (0 : Int32)), .val (.int (0 : Int32)), .val (.int (7 : Int32)), .val (.int (0 : Int32)), .val (.int (0 : Int32))] []))
      refine OwnFin.step (fun tT kK => XS.iload X264.here hx rfl (hb hby at_216) rfl kK) ?_
      show OwnFin p e below _ (T264.setTop (mkF m 218 #[.val (.int k), .val (.ref b1), .val (.int (17 : Int32)), .val (.ref v17), .val (.int (0 : Int32)), .val (.int (0 : Int32)), .val (.int (7 : Int32)), .val (.int (0 : Int32)), .val (.int (0 : Int32))] [(.int (0 : Int32))]))
      refine OwnFin.step (fun tT kK => XS.iload X264.here hx rfl (hb hby at_218) rfl kK) ?_
      show OwnFin p e below _ (T264.setTop (mkF m 220 #[.val (.int k), .val (.ref b1), .val (.int (17 : Int32)), .val (.ref v17), .val (.int (0 : Int32)), .val (.int (0 : Int32)), .val (.int (7 : Int32)), .val (.int (0 : Int32)), .val (.int (0 : Int32))] [(.int (0 : Int32)), (.int (0 : Int32))]))
      refine OwnFin.step (fun tT kK => XS.icmpNo X264.here hx rfl (hb hby at_220) rfl (teq (rfl : (0 : Int32) = (0 : Int32))).2 kK) ?_
      show OwnFin p e below _ (T264.setTop (mkF m 223 #[.val (.int k), .val (.ref b1), .val (.int (17 : Int32)), .val (.ref v17), .val (.int (0 : Int32)), .val (.int (0 : Int32)), .val (.int (7 : Int32)), .val (.int (0 : Int32)), .val (.int (0 : Int32))] []))
      refine OwnFin.step (fun tT kK => XS.iload X264.here hx rfl (hb hby at_223) rfl kK) ?_
      show OwnFin p e below _ (T264.setTop (mkF m 225 #[.val (.int k), .val (.ref b1), .val (.int (17 : Int32)), .val (.ref v17), .val (.int (0 : Int32)), .val (.int (0 : Int32)), .val (.int (7 : Int32)), .val (.int (0 : Int32)), .val (.int (0 : Int32))] [(.int (0 : Int32))]))
      refine OwnFin.step (fun tT kK => XS.iload X264.here hx rfl (hb hby at_225) rfl kK) ?_
      show OwnFin p e below _ (T264.setTop (mkF m 227 #[.val (.int k), .val (.ref b1), .val (.int (17 : Int32)), .val (.ref v17), .val (.int (0 : Int32)), .val (.int (0 : Int32)), .val (.int (7 : Int32)), .val (.int (0 : Int32)), .val (.int (0 : Int32))] [(.int (0 : Int32)), (.int (0 : Int32))]))
      refine OwnFin.step (fun tT kK => XS.icmpNo X264.here hx rfl (hb hby at_227) rfl (teq (rfl : (0 : Int32) = (0 : Int32))).2 kK) ?_
      show OwnFin p e below _ (T264.setTop (mkF m 230 #[.val (.int k), .val (.ref b1), .val (.int (17 : Int32)), .val (.ref v17), .val (.int (0 : Int32)), .val (.int (0 : Int32)), .val (.int (7 : Int32)), .val (.int (0 : Int32)), .val (.int (0 : Int32))] []))
      refine OwnFin.step (fun tT kK => XS.iconst X264.here hx rfl (hb hby at_230) kK) ?_
      show OwnFin p e below _ (T264.setTop (mkF m 231 #[.val (.int k), .val (.ref b1), .val (.int (17 : Int32)), .val (.ref v17), .val (.int (0 : Int32)), .val (.int (0 : Int32)), .val (.int (7 : Int32)), .val (.int (0 : Int32)), .val (.int (0 : Int32))] [(.int (1 : Int32))]))
      refine OwnFin.step (fun tT kK => XS.goto X264.here hx rfl (pc0 := 231) (pc' := 235) rfl (hb hby at_231) (by decide) (by decide) kK) ?_
      show OwnFin p e below _ (T264.setTop (mkF m 235 #[.val (.int k), .val (.ref b1), .val (.int (17 : Int32)), .val (.ref v17), .val (.int (0 : Int32)), .val (.int (0 : Int32)), .val (.int (7 : Int32)), .val (.int (0 : Int32)), .val (.int (0 : Int32))] [(.int (1 : Int32))]))
      obtain ⟨fs265, hr265, hrun265, hended265, hW265, hsame265⟩ := X264.leave (v := (some (.int (1 : Int32)))) (fun h => by rw [Bd.returns] at h; cases h)
      refine ⟨_, _, retN X264 hx (t := .boolean) Bd.returns (by simp) (hb hby at_235) hr265, hrun265, hended265, _, _, rfl, ?_, ⟨_, rfl⟩, hW265, hsame265.mono (by decide) (by decide)⟩
      show Q0 Z k v0 v1 v2 v3 v4 v5 v6 v7 v8 v9 v10 v11 v12 v13 v14 v15 v16 v17 v18 h0 n0 _ T264.heap _
      rw [e264]
      exact ⟨rfl, N264, Kp116⟩
    · skip
      show OwnFin p e below _ (T139.setTop (mkF m 141 #[.val (.int k), .val (.ref b1), .val (.int (18 : Int32)), .unset, .unset, .unset, .unset, .unset, .unset] []))
      refine OwnFin.step (fun tT kK => XS.aloadN X139.here hx rfl (hb hby at_141) rfl rfl kK) ?_
      show OwnFin p e below _ (T139.setTop (mkF m 142 #[.val (.int k), .val (.ref b1), .val (.int (18 : Int32)), .unset, .unset, .unset, .unset, .unset, .unset] [(.ref b1)]))
      refine OwnFin.step (fun tT kK => XS.iloadN X139.here hx rfl (hb hby at_142) rfl kK) ?_
      show OwnFin p e below _ (T139.setTop (mkF m 143 #[.val (.int k), .val (.ref b1), .val (.int (18 : Int32)), .unset, .unset, .unset, .unset, .unset, .unset] [(.int (18 : Int32)), (.ref b1)]))
      obtain ⟨cl266, Ar266, q266, Sz266, Ng266, H266, G266⟩ := id V115
      have hin266 : ¬ ((18 : Int32) < 0 ∨ cl266.slots.size ≤ ((18 : Int32)).toNatClampNeg) := inb_of Sz266 ⟨by decide, by decide⟩
      refine OwnFin.step (fun tT kK => X139.aaload hx (j := (18 : Int32)) (v := (.ref v18)) (by rw [e139]; exact Ar266.1) (State.isArrayOf_alike hZ.alike Ar266.2.1) rfl Ar266.2.2 hin266 (H266.at hin266 rfl) (g := (mkF m 143 #[.val (.int k), .val (.ref b1), .val (.int (18 : Int32)), .unset, .unset, .unset, .unset, .unset, .unset] [(.int (18 : Int32)), (.ref b1)])) rfl rfl (hb hby at_143) _ kK) ?_
      show OwnFin p e below _ (T139.setTop (mkF m 144 #[.val (.int k), .val (.ref b1), .val (.int (18 : Int32)), .unset, .unset, .unset, .unset, .unset, .unset] [(.ref v18)]))
      refine OwnFin.step (fun tT kK => XS.astoreN X139.here hx rfl (hb hby at_144) rfl rfl (l' := #[.val (.int k), .val (.ref b1), .val (.int (18 : Int32)), .val (.ref v18), .unset, .unset, .unset, .unset, .unset]) rfl kK) ?_
      show OwnFin p e below _ (T139.setTop (mkF m 145 #[.val (.int k), .val (.ref b1), .val (.int (18 : Int32)), .val (.ref v18), .unset, .unset, .unset, .unset, .unset] []))
      refine OwnFin.step (fun tT kK => XS.aloadN X139.here hx rfl (hb hby at_145) rfl rfl kK) ?_
      show OwnFin p e below _ (T139.setTop (mkF m 146 #[.val (.int k), .val (.ref b1), .val (.int (18 : Int32)), .val (.ref v18), .unset, .unset, .unset, .unset, .unset] [(.ref v18)]))
      obtain ⟨cq267, kq267, q267a, q267b, q267c⟩ := isOf hZ e139 f135
      obtain ⟨_, _, ⟨T267, L267, k267, n267⟩, -, X267, ⟨Lc267, hQ267, l267, y267, z267⟩, st267⟩ := X139.virtualBack hx (y := (⟨"com/example/cairn/cairn/engine/BinaryOperator", "shortCircuits", "()Z"⟩ : MethodName)) (z := (⟨"com/example/cairn/cairn/engine/BinaryOperator", "shortCircuits", "()Z"⟩ : MethodName)) hown (mvT hZ (hw _ (List.mem_of_getElem? (i := 43) rfl))) (mvT hZ (hw _ (List.mem_of_getElem? (i := 44) rfl))) (notFace_of_selects (args := #[]) (mvT hZ (hw _ (List.mem_of_getElem? (i := 46) rfl)))) (mvT hZ (hw _ (List.mem_of_getElem? (i := 46) rfl))) (mvT hZ (hw _ (List.mem_of_getElem? (i := 45) rfl))) (by decide) (backOf (W := 0) (rm1 l Z a0 hw [] v18 v1 v0 h115 n0 (Nat.le_trans Z0 Kp116.1) f136 f137) hZ (hw _ (List.mem_of_getElem? (i := 47) rfl)) (hw _ (List.mem_of_getElem? (i := 3) rfl)) (by decide) (by decide)) q267a q267c (g := (mkF m 146 #[.val (.int k), .val (.ref b1), .val (.int (18 : Int32)), .val (.ref v18), .unset, .unset, .unset, .unset, .unset] [(.ref v18)])) rfl (by rw [hml]; rfl) (Steps.refl _) (argsL := []) (rest := []) (lenOf pd_18 rfl) rfl (by show 2 * 0 + _ ≤ _; exact Nat.le_of_eq rfl) (hb hby at_146) (fun _ _ => ⟨rfl, e139, (by decide : 1 + 0 ≤ _), (by decide : 19 + 0 ≤ _)⟩)
      dsimp only [Pt.U, Pt.locs, Pt.cells, Pt.slots] at X267 l267 y267 z267 st267 hQ267
      subst l267 y267 z267
      obtain ⟨rfl, N267q, e267⟩ := hQ267
      have N267 := Fr.app N139 N267q
      refine OwnFin.step (fun tT kK => st267.trans kK) ?_
      show OwnFin p e below _ (T267.setTop (mkF m 149 #[.val (.int k), .val (.ref b1), .val (.int (18 : Int32)), .val (.ref v18), .unset, .unset, .unset, .unset, .unset] [(.int (if v18 = v1 ∨ v18 = v0 then 1 else 0))]))
      rw [show (if v18 = v1 ∨ v18 = v0 then (1 : Int32) else 0) = 0 from if_neg (fun q => q.elim hp109 hp108)]
      show OwnFin p e below _ (T267.setTop (mkF m 149 #[.val (.int k), .val (.ref b1), .val (.int (18 : Int32)), .val (.ref v18), .unset, .unset, .unset, .unset, .unset] [(.int (0 : Int32))]))
      refine OwnFin.step (fun tT kK => XS.istore X267.here hx rfl (hb hby at_149) rfl (l' := #[.val (.int k), .val (.ref b1), .val (.int (18 : Int32)), .val (.ref v18), .val (.int (0 : Int32)), .unset, .unset, .unset, .unset]) rfl kK) ?_
      show OwnFin p e below _ (T267.setTop (mkF m 151 #[.val (.int k), .val (.ref b1), .val (.int (18 : Int32)), .val (.ref v18), .val (.int (0 : Int32)), .unset, .unset, .unset, .unset] []))
      refine OwnFin.step (fun tT kK => XS.iloadN X267.here hx rfl (hb hby at_151) rfl kK) ?_
      show OwnFin p e below _ (T267.setTop (mkF m 152 #[.val (.int k), .val (.ref b1), .val (.int (18 : Int32)), .val (.ref v18), .val (.int (0 : Int32)), .unset, .unset, .unset, .unset] [(.int (18 : Int32))]))
      refine OwnFin.step (fun tT kK => XS.ifNo X267.here hx rfl (hb hby at_152) rfl ((if0 _ _).trans (feq (by decide : ¬ ((18 : Int32) = (0 : Int32)))).1) kK) ?_
      show OwnFin p e below _ (T267.setTop (mkF m 155 #[.val (.int k), .val (.ref b1), .val (.int (18 : Int32)), .val (.ref v18), .val (.int (0 : Int32)), .unset, .unset, .unset, .unset] []))
      refine OwnFin.step (fun tT kK => XS.iloadN X267.here hx rfl (hb hby at_155) rfl kK) ?_
      show OwnFin p e below _ (T267.setTop (mkF m 156 #[.val (.int k), .val (.ref b1), .val (.int (18 : Int32)), .val (.ref v18), .val (.int (0 : Int32)), .unset, .unset, .unset, .unset] [(.int (18 : Int32))]))
      refine OwnFin.step (fun tT kK => XS.iconst X267.here hx rfl (hb hby at_156) kK) ?_
      show OwnFin p e below _ (T267.setTop (mkF m 157 #[.val (.int k), .val (.ref b1), .val (.int (18 : Int32)), .val (.ref v18), .val (.int (0 : Int32)), .unset, .unset, .unset, .unset] [(.int (1 : Int32)), (.int (18 : Int32))]))
      refine OwnFin.step (fun tT kK => XS.icmpYes X267.here hx rfl (pc0 := 157) (pc' := 164) rfl (hb hby at_157) rfl (feq (by decide : ¬ ((18 : Int32) = (1 : Int32)))).2 (by decide) (by decide) kK) ?_
      show OwnFin p e below _ (T267.setTop (mkF m 164 #[.val (.int k), .val (.ref b1), .val (.int (18 : Int32)), .val (.ref v18), .val (.int (0 : Int32)), .unset, .unset, .unset, .unset] []))
      refine OwnFin.step (fun tT kK => XS.iconst X267.here hx rfl (hb hby at_164) kK) ?_
      show OwnFin p e below _ (T267.setTop (mkF m 165 #[.val (.int k), .val (.ref b1), .val (.int (18 : Int32)), .val (.ref v18), .val (.int (0 : Int32)), .unset, .unset, .unset, .unset] [(.int (0 : Int32))]))
      refine OwnFin.step (fun tT kK => XS.istore X267.here hx rfl (hb hby at_165) rfl (l' := #[.val (.int k), .val (.ref b1), .val (.int (18 : Int32)), .val (.ref v18), .val (.int (0 : Int32)), .val (.int (0 : Int32)), .unset, .unset, .unset]) rfl kK) ?_
      show OwnFin p e below _ (T267.setTop (mkF m 167 #[.val (.int k), .val (.ref b1), .val (.int (18 : Int32)), .val (.ref v18), .val (.int (0 : Int32)), .val (.int (0 : Int32)), .unset, .unset, .unset] []))
      refine OwnFin.step (fun tT kK => XS.aloadN X267.here hx rfl (hb hby at_167) rfl rfl kK) ?_
      show OwnFin p e below _ (T267.setTop (mkF m 168 #[.val (.int k), .val (.ref b1), .val (.int (18 : Int32)), .val (.ref v18), .val (.int (0 : Int32)), .val (.int (0 : Int32)), .unset, .unset, .unset] [(.ref v18)]))
      have f268 : Fld Z h115 v18 "com/example/cairn/cairn/engine/BinaryOperator" "opcode" "I" (.int (8 : Int32)) := (hp56.keep Kp116 nin0)
      obtain ⟨cq269, kq269, q269a, q269b, q269c⟩ := isOf hZ e267 f135
      obtain ⟨_, _, ⟨T269, L269, k269, n269⟩, -, X269, ⟨Lc269, hQ269, l269, y269, z269⟩, st269⟩ := X267.virtualBack hx (y := (⟨"com/example/cairn/cairn/engine/BinaryOperator", "opcode", "()I"⟩ : MethodName)) (z := (⟨"com/example/cairn/cairn/engine/BinaryOperator", "opcode", "()I"⟩ : MethodName)) hown (mvT hZ (hw _ (List.mem_of_getElem? (i := 50) rfl))) (mvT hZ (hw _ (List.mem_of_getElem? (i := 51) rfl))) (notFace_of_selects (args := #[]) (mvT hZ (hw _ (List.mem_of_getElem? (i := 53) rfl)))) (mvT hZ (hw _ (List.mem_of_getElem? (i := 53) rfl))) (mvT hZ (hw _ (List.mem_of_getElem? (i := 52) rfl))) (by decide) (backOf (W := 0) (rm2 l Z a0 hw [] v18 (8 : Int32) h115 n0 (Nat.le_trans Z0 Kp116.1) f268) hZ (hw _ (List.mem_of_getElem? (i := 54) rfl)) (hw _ (List.mem_of_getElem? (i := 3) rfl)) (by decide) (by decide)) q269a q269c (g := (mkF m 168 #[.val (.int k), .val (.ref b1), .val (.int (18 : Int32)), .val (.ref v18), .val (.int (0 : Int32)), .val (.int (0 : Int32)), .unset, .unset, .unset] [(.ref v18)])) rfl (by rw [hml]; rfl) (Steps.refl _) (argsL := []) (rest := []) (lenOf pd_19 rfl) rfl (by show 2 * 0 + _ ≤ _; exact Nat.le_of_eq rfl) (hb hby at_168) (fun _ _ => ⟨rfl, e267, (by decide : 1 + 0 ≤ _), (by decide : 19 + 0 ≤ _)⟩)
      dsimp only [Pt.U, Pt.locs, Pt.cells, Pt.slots] at X269 l269 y269 z269 st269 hQ269
      subst l269 y269 z269
      obtain ⟨rfl, N269q, e269⟩ := hQ269
      have N269 := Fr.app N267 N269q
      refine OwnFin.step (fun tT kK => st269.trans kK) ?_
      show OwnFin p e below _ (T269.setTop (mkF m 171 #[.val (.int k), .val (.ref b1), .val (.int (18 : Int32)), .val (.ref v18), .val (.int (0 : Int32)), .val (.int (0 : Int32)), .unset, .unset, .unset] [(.int (8 : Int32))]))
      refine OwnFin.step (fun tT kK => XS.istore X269.here hx rfl (hb hby at_171) rfl (l' := #[.val (.int k), .val (.ref b1), .val (.int (18 : Int32)), .val (.ref v18), .val (.int (0 : Int32)), .val (.int (0 : Int32)), .val (.int (8 : Int32)), .unset, .unset]) rfl kK) ?_
      show OwnFin p e below _ (T269.setTop (mkF m 173 #[.val (.int k), .val (.ref b1), .val (.int (18 : Int32)), .val (.ref v18), .val (.int (0 : Int32)), .val (.int (0 : Int32)), .val (.int (8 : Int32)), .unset, .unset] []))
      refine OwnFin.step (fun tT kK => XS.iload X269.here hx rfl (hb hby at_173) rfl kK) ?_
      show OwnFin p e below _ (T269.setTop (mkF m 175 #[.val (.int k), .val (.ref b1), .val (.int (18 : Int32)), .val (.ref v18), .val (.int (0 : Int32)), .val (.int (0 : Int32)), .val (.int (8 : Int32)), .unset, .unset] [(.int (8 : Int32))]))
      refine OwnFin.step (fun tT kK => XS.bipush X269.here hx rfl (hb hby at_175) kK) ?_
      show OwnFin p e below _ (T269.setTop (mkF m 177 #[.val (.int k), .val (.ref b1), .val (.int (18 : Int32)), .val (.ref v18), .val (.int (0 : Int32)), .val (.int (0 : Int32)), .val (.int (8 : Int32)), .unset, .unset] [(.int (37 : Int32)), (.int (8 : Int32))]))
      refine OwnFin.step (fun tT kK => XS.icmpNo X269.here hx rfl (hb hby at_177) rfl (feq (by decide : ¬ ((8 : Int32) = (37 : Int32)))).1 kK) ?_
      show OwnFin p e below _ (T269.setTop (mkF m 180 #[.val (.int k), .val (.ref b1), .val (.int (18 : Int32)), .val (.ref v18), .val (.int (0 : Int32)), .val (.int (0 : Int32)), .val (.int (8 : Int32)), .unset, .unset] []))
      refine OwnFin.step (fun tT kK => XS.iload X269.here hx rfl (hb hby at_180) rfl kK) ?_
      show OwnFin p e below _ (T269.setTop (mkF m 182 #[.val (.int k), .val (.ref b1), .val (.int (18 : Int32)), .val (.ref v18), .val (.int (0 : Int32)), .val (.int (0 : Int32)), .val (.int (8 : Int32)), .unset, .unset] [(.int (8 : Int32))]))
      refine OwnFin.step (fun tT kK => XS.bipush X269.here hx rfl (hb hby at_182) kK) ?_
      show OwnFin p e below _ (T269.setTop (mkF m 184 #[.val (.int k), .val (.ref b1), .val (.int (18 : Int32)), .val (.ref v18), .val (.int (0 : Int32)), .val (.int (0 : Int32)), .val (.int (8 : Int32)), .unset, .unset] [(.int (38 : Int32)), (.int (8 : Int32))]))
      refine OwnFin.step (fun tT kK => XS.icmpYes X269.here hx rfl (pc0 := 184) (pc' := 191) rfl (hb hby at_184) rfl (feq (by decide : ¬ ((8 : Int32) = (38 : Int32)))).2 (by decide) (by decide) kK) ?_
      show OwnFin p e below _ (T269.setTop (mkF m 191 #[.val (.int k), .val (.ref b1), .val (.int (18 : Int32)), .val (.ref v18), .val (.int (0 : Int32)), .val (.int (0 : Int32)), .val (.int (8 : Int32)), .unset, .unset] []))
      refine OwnFin.step (fun tT kK => XS.iconst X269.here hx rfl (hb hby at_191) kK) ?_
      show OwnFin p e below _ (T269.setTop (mkF m 192 #[.val (.int k), .val (.ref b1), .val (.int (18 : Int32)), .val (.ref v18), .val (.int (0 : Int32)), .val (.int (0 : Int32)), .val (.int (8 : Int32)), .unset, .unset] [(.int (0 : Int32))]))
      refine OwnFin.step (fun tT kK => XS.istore X269.here hx rfl (hb hby at_192) rfl (l' := #[.val (.int k), .val (.ref b1), .val (.int (18 : Int32)), .val (.ref v18), .val (.int (0 : Int32)), .val (.int (0 : Int32)), .val (.int (8 : Int32)), .val (.int (0 : Int32)), .unset]) rfl kK) ?_
      show OwnFin p e below _ (T269.setTop (mkF m 194 #[.val (.int k), .val (.ref b1), .val (.int (18 : Int32)), .val (.ref v18), .val (.int (0 : Int32)), .val (.int (0 : Int32)), .val (.int (8 : Int32)), .val (.int (0 : Int32)), .unset] []))
      refine OwnFin.step (fun tT kK => XS.aloadN X269.here hx rfl (hb hby at_194) rfl rfl kK) ?_
      show OwnFin p e below _ (T269.setTop (mkF m 195 #[.val (.int k), .val (.ref b1), .val (.int (18 : Int32)), .val (.ref v18), .val (.int (0 : Int32)), .val (.int (0 : Int32)), .val (.int (8 : Int32)), .val (.int (0 : Int32)), .unset] [(.ref v18)]))
      have f270 : Fld Z h115 v18 "com/example/cairn/cairn/engine/BinaryOperator" "precedence" "I" (.int (9 : Int32)) := (hp75.keep Kp116 nin0)
      obtain ⟨cq271, kq271, q271a, q271b, q271c⟩ := isOf hZ e269 f135
      obtain ⟨_, _, ⟨T271, L271, k271, n271⟩, -, X271, ⟨Lc271, hQ271, l271, y271, z271⟩, st271⟩ := X269.virtualBack hx (y := (⟨"com/example/cairn/cairn/engine/BinaryOperator", "precedence", "()I"⟩ : MethodName)) (z := (⟨"com/example/cairn/cairn/engine/BinaryOperator", "precedence", "()I"⟩ : MethodName)) hown (mvT hZ (hw _ (List.mem_of_getElem? (i := 57) rfl))) (mvT hZ (hw _ (List.mem_of_getElem? (i := 58) rfl))) (notFace_of_selects (args := #[]) (mvT hZ (hw _ (List.mem_of_getElem? (i := 60) rfl)))) (mvT hZ (hw _ (List.mem_of_getElem? (i := 60) rfl))) (mvT hZ (hw _ (List.mem_of_getElem? (i := 59) rfl))) (by decide) (backOf (W := 0) (rm3 l Z a0 hw [] v18 (9 : Int32) h115 n0 (Nat.le_trans Z0 Kp116.1) f270) hZ (hw _ (List.mem_of_getElem? (i := 61) rfl)) (hw _ (List.mem_of_getElem? (i := 3) rfl)) (by decide) (by decide)) q271a q271c (g := (mkF m 195 #[.val (.int k), .val (.ref b1), .val (.int (18 : Int32)), .val (.ref v18), .val (.int (0 : Int32)), .val (.int (0 : Int32)), .val (.int (8 : Int32)), .val (.int (0 : Int32)), .unset] [(.ref v18)])) rfl (by rw [hml]; rfl) (Steps.refl _) (argsL := []) (rest := []) (lenOf pd_19 rfl) rfl (by show 2 * 0 + _ ≤ _; exact Nat.le_of_eq rfl) (hb hby at_195) (fun _ _ => ⟨rfl, e269, (by decide : 1 + 0 ≤ _), (by decide : 19 + 0 ≤ _)⟩)
      dsimp only [Pt.U, Pt.locs, Pt.cells, Pt.slots] at X271 l271 y271 z271 st271 hQ271
      subst l271 y271 z271
      obtain ⟨rfl, N271q, e271⟩ := hQ271
      have N271 := Fr.app N269 N271q
      refine OwnFin.step (fun tT kK => st271.trans kK) ?_
      show OwnFin p e below _ (T271.setTop (mkF m 198 #[.val (.int k), .val (.ref b1), .val (.int (18 : Int32)), .val (.ref v18), .val (.int (0 : Int32)), .val (.int (0 : Int32)), .val (.int (8 : Int32)), .val (.int (0 : Int32)), .unset] [(.int (9 : Int32))]))
      refine OwnFin.step (fun tT kK => XS.iconst X271.here hx rfl (hb hby at_198) kK) ?_
      show OwnFin p e below _ (T271.setTop (mkF m 199 #[.val (.int k), .val (.ref b1), .val (.int (18 : Int32)), .val (.ref v18), .val (.int (0 : Int32)), .val (.int (0 : Int32)), .val (.int (8 : Int32)), .val (.int (0 : Int32)), .unset] [(.int (2 : Int32)), (.int (9 : Int32))]))
      refine OwnFin.step (fun tT kK => XS.icmpYes X271.here hx rfl (pc0 := 199) (pc' := 206) rfl (hb hby at_199) rfl (tlt (by decide : (2 : Int32) < (9 : Int32))).2.2.1 (by decide) (by decide) kK) ?_
      show OwnFin p e below _ (T271.setTop (mkF m 206 #[.val (.int k), .val (.ref b1), .val (.int (18 : Int32)), .val (.ref v18), .val (.int (0 : Int32)), .val (.int (0 : Int32)), .val (.int (8 : Int32)), .val (.int (0 : Int32)), .unset] []))
      refine OwnFin.step (fun tT kK => XS.iconst X271.here hx rfl (hb hby at_206) kK) ?_
      show OwnFin p e below _ (T271.setTop (mkF m 207 #[.val (.int k), .val (.ref b1), .val (.int (18 : Int32)), .val (.ref v18), .val (.int (0 : Int32)), .val (.int (0 : Int32)), .val (.int (8 : Int32)), .val (.int (0 : Int32)), .unset] [(.int (0 : Int32))]))
      refine OwnFin.step (fun tT kK => XS.istore X271.here hx rfl (hb hby at_207) rfl (l' := #[.val (.int k), .val (.ref b1), .val (.int (18 : Int32)), .val (.ref v18), .val (.int (0 : Int32)), .val (.int (0 : Int32)), .val (.int (8 : Int32)), .val (.int (0 : Int32)), .val (.int (0 : Int32))]) rfl kK) ?_
      show OwnFin p e below _ (T271.setTop (mkF m 209 #[.val (.int k), .val (.ref b1), .val (.int (18 : Int32)), .val (.ref v18), .val (.int (0 : Int32)), .val (.int (0 : Int32)), .val (.int (8 : Int32)), .val (.int (0 : Int32)), .val (.int (0 : Int32))] []))
      refine OwnFin.step (fun tT kK => XS.iload X271.here hx rfl (hb hby at_209) rfl kK) ?_
      show OwnFin p e below _ (T271.setTop (mkF m 211 #[.val (.int k), .val (.ref b1), .val (.int (18 : Int32)), .val (.ref v18), .val (.int (0 : Int32)), .val (.int (0 : Int32)), .val (.int (8 : Int32)), .val (.int (0 : Int32)), .val (.int (0 : Int32))] [(.int (0 : Int32))]))
      refine OwnFin.step (fun tT kK => XS.iload X271.here hx rfl (hb hby at_211) rfl kK) ?_
      show OwnFin p e below _ (T271.setTop (mkF m 213 #[.val (.int k), .val (.ref b1), .val (.int (18 : Int32)), .val (.ref v18), .val (.int (0 : Int32)), .val (.int (0 : Int32)), .val (.int (8 : Int32)), .val (.int (0 : Int32)), .val (.int (0 : Int32))] [(.int (0 : Int32)), (.int (0 : Int32))]))
      refine OwnFin.step (fun tT kK => XS.icmpNo X271.here hx rfl (hb hby at_213) rfl (teq (rfl : (0 : Int32) = (0 : Int32))).2 kK) ?_
      show OwnFin p e below _ (T271.setTop (mkF m 216 #[.val (.int k), .val (.ref b1), .val (.int (18 : Int32)), .val (.ref v18), .val (.int (0 : Int32)), .val (.int (0 : Int32)), .val (.int (8 : Int32)), .val (.int (0 : Int32)), .val (.int (0 : Int32))] []))
      refine OwnFin.step (fun tT kK => XS.iload X271.here hx rfl (hb hby at_216) rfl kK) ?_
      show OwnFin p e below _ (T271.setTop (mkF m 218 #[.val (.int k), .val (.ref b1), .val (.int (18 : Int32)), .val (.ref v18), .val (.int (0 : Int32)), .val (.int (0 : Int32)), .val (.int (8 : Int32)), .val (.int (0 : Int32)), .val (.int (0 : Int32))] [(.int (0 : Int32))]))
      refine OwnFin.step (fun tT kK => XS.iload X271.here hx rfl (hb hby at_218) rfl kK) ?_
      show OwnFin p e below _ (T271.setTop (mkF m 220 #[.val (.int k), .val (.ref b1), .val (.int (18 : Int32)), .val (.ref v18), .val (.int (0 : Int32)), .val (.int (0 : Int32)), .val (.int (8 : Int32)), .val (.int (0 : Int32)), .val (.int (0 : Int32))] [(.int (0 : Int32)), (.int (0 : Int32))]))
      refine OwnFin.step (fun tT kK => XS.icmpNo X271.here hx rfl (hb hby at_220) rfl (teq (rfl : (0 : Int32) = (0 : Int32))).2 kK) ?_
      show OwnFin p e below _ (T271.setTop (mkF m 223 #[.val (.int k), .val (.ref b1), .val (.int (18 : Int32)), .val (.ref v18), .val (.int (0 : Int32)), .val (.int (0 : Int32)), .val (.int (8 : Int32)), .val (.int (0 : Int32)), .val (.int (0 : Int32))] []))
      refine OwnFin.step (fun tT kK => XS.iload X271.here hx rfl (hb hby at_223) rfl kK) ?_
      show OwnFin p e below _ (T271.setTop (mkF m 225 #[.val (.int k), .val (.ref b1), .val (.int (18 : Int32)), .val (.ref v18), .val (.int (0 : Int32)), .val (.int (0 : Int32)), .val (.int (8 : Int32)), .val (.int (0 : Int32)), .val (.int (0 : Int32))] [(.int (0 : Int32))]))
      refine OwnFin.step (fun tT kK => XS.iload X271.here hx rfl (hb hby at_225) rfl kK) ?_
      show OwnFin p e below _ (T271.setTop (mkF m 227 #[.val (.int k), .val (.ref b1), .val (.int (18 : Int32)), .val (.ref v18), .val (.int (0 : Int32)), .val (.int (0 : Int32)), .val (.int (8 : Int32)), .val (.int (0 : Int32)), .val (.int (0 : Int32))] [(.int (0 : Int32)), (.int (0 : Int32))]))
      refine OwnFin.step (fun tT kK => XS.icmpNo X271.here hx rfl (hb hby at_227) rfl (teq (rfl : (0 : Int32) = (0 : Int32))).2 kK) ?_
      show OwnFin p e below _ (T271.setTop (mkF m 230 #[.val (.int k), .val (.ref b1), .val (.int (18 : Int32)), .val (.ref v18), .val (.int (0 : Int32)), .val (.int (0 : Int32)), .val (.int (8 : Int32)), .val (.int (0 : Int32)), .val (.int (0 : Int32))] []))
      refine OwnFin.step (fun tT kK => XS.iconst X271.here hx rfl (hb hby at_230) kK) ?_
      show OwnFin p e below _ (T271.setTop (mkF m 231 #[.val (.int k), .val (.ref b1), .val (.int (18 : Int32)), .val (.ref v18), .val (.int (0 : Int32)), .val (.int (0 : Int32)), .val (.int (8 : Int32)), .val (.int (0 : Int32)), .val (.int (0 : Int32))] [(.int (1 : Int32))]))
      refine OwnFin.step (fun tT kK => XS.goto X271.here hx rfl (pc0 := 231) (pc' := 235) rfl (hb hby at_231) (by decide) (by decide) kK) ?_
      show OwnFin p e below _ (T271.setTop (mkF m 235 #[.val (.int k), .val (.ref b1), .val (.int (18 : Int32)), .val (.ref v18), .val (.int (0 : Int32)), .val (.int (0 : Int32)), .val (.int (8 : Int32)), .val (.int (0 : Int32)), .val (.int (0 : Int32))] [(.int (1 : Int32))]))
      obtain ⟨fs272, hr272, hrun272, hended272, hW272, hsame272⟩ := X271.leave (v := (some (.int (1 : Int32)))) (fun h => by rw [Bd.returns] at h; cases h)
      refine ⟨_, _, retN X271 hx (t := .boolean) Bd.returns (by simp) (hb hby at_235) hr272, hrun272, hended272, _, _, rfl, ?_, ⟨_, rfl⟩, hW272, hsame272.mono (by decide) (by decide)⟩
      show Q0 Z k v0 v1 v2 v3 v4 v5 v6 v7 v8 v9 v10 v11 v12 v13 v14 v15 v16 v17 v18 h0 n0 _ T271.heap _
      rw [e271]
      exact ⟨rfl, N271, Kp116⟩
  exact key138 _ _ X115 e115 N115  
set_option maxRecDepth 65536 in
set_option maxHeartbeats 40000000 in
theorem comes_1 {Post : Tables → Env → Array Value → State → Outcome → State → Prop} (hpost : ∀ tb e args s v u, (limb_1_1.after args s (.returned v) u = true ∧ limb_1_2.after args s (.returned v) u = true ∧ True) → FrameEnd s (.returned v) u (Jvm.fieldLocs frame_1_writes args s ++ Jvm.arrayLocs frame_1_arrays args s ++ Jvm.staticLocs frame_1_statics s) 16 128 → Post tb e args s (.returned v) u) :
    ArmFor flags0 classFile x code maxLocals ret World_1 tables_1 room_1 Calls_1 rest_1 Pre_1 Post := by
  intro l hfl _ _ p e ha hc hk s m args below hf hA hF happ hP
  obtain ⟨hcalls, hrest, hpre⟩ := hP
  obtain ⟨-, -, -, hnamed, -, -, -, hat⟩ := (Spec.applies_iff hf).mp happ
  obtain ⟨hg, hn⟩ := and_e (Cond.before_iff.mp (show (Jvm.Cond.and given_1 narrow_1).before args s = true from hpre))
  obtain ⟨g1, g2⟩ := and_e hg
  obtain ⟨w_0, rfl⟩ : ∃ w_0 : Value, args = #[w_0] := by
    have hs : args.size = 1 := by simpa [Cond.value, given_1] using g1
    obtain ⟨L⟩ := args
    match L, hs with
    | [w_0], _ => exact ⟨w_0, rfl⟩
  have hw := fun d (hd : d ∈ tables_1) => atoms_spec (ws := Jvm.Cond.code x code maxLocals ret :: tables_1) hat d (List.mem_cons_of_mem _ hd)
  have hfit : Fit s := fun {y c} hc i hi => by
    obtain ⟨ha, rfl⟩ := Array.getElem?_eq_some_iff.mp hc
    have q := List.all_eq_true.mp ((Array.all_eq_true_iff_forall_mem.mp hF) _ (Array.getElem_mem ha)) i (List.mem_range.mpr hi)
    simpa [Array.getElem?_eq_getElem hi] using q
  obtain ⟨k, ei0⟩ := is_v g2
  obtain rfl : w_0 = (.int k) := Option.some.inj ei0
  obtain ⟨g3, g4⟩ := and_e hn
  obtain ⟨w5, ev_w5⟩ := exa_v g3
  have S_w5 := Sta.start ev_w5 (Or.inr ⟨(hw _ (List.mem_of_getElem? (i := 3) rfl)), (hw _ (List.mem_of_getElem? (i := 4) rfl))⟩)
  have E_w5_g3 := Exa.start ev_w5 g3
  obtain ⟨g6, g7⟩ := and_e g4
  obtain ⟨w8, ev_w8⟩ := exa_v g6
  have S_w8 := Sta.start ev_w8 (Or.inr ⟨(hw _ (List.mem_of_getElem? (i := 3) rfl)), (hw _ (List.mem_of_getElem? (i := 7) rfl))⟩)
  have E_w8_g6 := Exa.start ev_w8 g6
  obtain ⟨g9, g10⟩ := and_e g7
  obtain ⟨w11, ev_w11⟩ := exa_v g9
  have S_w11 := Sta.start ev_w11 (Or.inr ⟨(hw _ (List.mem_of_getElem? (i := 3) rfl)), (hw _ (List.mem_of_getElem? (i := 9) rfl))⟩)
  have E_w11_g9 := Exa.start ev_w11 g9
  obtain ⟨g12, g13⟩ := and_e g10
  obtain ⟨w14, ev_w14⟩ := exa_v g12
  have S_w14 := Sta.start ev_w14 (Or.inr ⟨(hw _ (List.mem_of_getElem? (i := 3) rfl)), (hw _ (List.mem_of_getElem? (i := 11) rfl))⟩)
  have E_w14_g12 := Exa.start ev_w14 g12
  obtain ⟨g15, g16⟩ := and_e g13
  obtain ⟨w17, ev_w17⟩ := exa_v g15
  have S_w17 := Sta.start ev_w17 (Or.inr ⟨(hw _ (List.mem_of_getElem? (i := 3) rfl)), (hw _ (List.mem_of_getElem? (i := 13) rfl))⟩)
  have E_w17_g15 := Exa.start ev_w17 g15
  obtain ⟨g18, g19⟩ := and_e g16
  obtain ⟨w20, ev_w20⟩ := exa_v g18
  have S_w20 := Sta.start ev_w20 (Or.inr ⟨(hw _ (List.mem_of_getElem? (i := 3) rfl)), (hw _ (List.mem_of_getElem? (i := 15) rfl))⟩)
  have E_w20_g18 := Exa.start ev_w20 g18
  obtain ⟨g21, g22⟩ := and_e g19
  obtain ⟨w23, ev_w23⟩ := exa_v g21
  have S_w23 := Sta.start ev_w23 (Or.inr ⟨(hw _ (List.mem_of_getElem? (i := 3) rfl)), (hw _ (List.mem_of_getElem? (i := 17) rfl))⟩)
  have E_w23_g21 := Exa.start ev_w23 g21
  obtain ⟨g24, g25⟩ := and_e g22
  obtain ⟨w26, ev_w26⟩ := exa_v g24
  have S_w26 := Sta.start ev_w26 (Or.inr ⟨(hw _ (List.mem_of_getElem? (i := 3) rfl)), (hw _ (List.mem_of_getElem? (i := 19) rfl))⟩)
  have E_w26_g24 := Exa.start ev_w26 g24
  obtain ⟨g27, g28⟩ := and_e g25
  obtain ⟨w29, ev_w29⟩ := exa_v g27
  have S_w29 := Sta.start ev_w29 (Or.inr ⟨(hw _ (List.mem_of_getElem? (i := 3) rfl)), (hw _ (List.mem_of_getElem? (i := 21) rfl))⟩)
  have E_w29_g27 := Exa.start ev_w29 g27
  obtain ⟨g30, g31⟩ := and_e g28
  obtain ⟨w32, ev_w32⟩ := exa_v g30
  have S_w32 := Sta.start ev_w32 (Or.inr ⟨(hw _ (List.mem_of_getElem? (i := 3) rfl)), (hw _ (List.mem_of_getElem? (i := 23) rfl))⟩)
  have E_w32_g30 := Exa.start ev_w32 g30
  obtain ⟨g33, g34⟩ := and_e g31
  obtain ⟨w35, ev_w35⟩ := exa_v g33
  have S_w35 := Sta.start ev_w35 (Or.inr ⟨(hw _ (List.mem_of_getElem? (i := 3) rfl)), (hw _ (List.mem_of_getElem? (i := 25) rfl))⟩)
  have E_w35_g33 := Exa.start ev_w35 g33
  obtain ⟨g36, g37⟩ := and_e g34
  obtain ⟨w38, ev_w38⟩ := exa_v g36
  have S_w38 := Sta.start ev_w38 (Or.inr ⟨(hw _ (List.mem_of_getElem? (i := 3) rfl)), (hw _ (List.mem_of_getElem? (i := 27) rfl))⟩)
  have E_w38_g36 := Exa.start ev_w38 g36
  obtain ⟨g39, g40⟩ := and_e g37
  obtain ⟨w41, ev_w41⟩ := exa_v g39
  have S_w41 := Sta.start ev_w41 (Or.inr ⟨(hw _ (List.mem_of_getElem? (i := 3) rfl)), (hw _ (List.mem_of_getElem? (i := 29) rfl))⟩)
  have E_w41_g39 := Exa.start ev_w41 g39
  obtain ⟨g42, g43⟩ := and_e g40
  obtain ⟨w44, ev_w44⟩ := exa_v g42
  have S_w44 := Sta.start ev_w44 (Or.inr ⟨(hw _ (List.mem_of_getElem? (i := 3) rfl)), (hw _ (List.mem_of_getElem? (i := 31) rfl))⟩)
  have E_w44_g42 := Exa.start ev_w44 g42
  obtain ⟨g45, g46⟩ := and_e g43
  obtain ⟨w47, ev_w47⟩ := exa_v g45
  have S_w47 := Sta.start ev_w47 (Or.inr ⟨(hw _ (List.mem_of_getElem? (i := 3) rfl)), (hw _ (List.mem_of_getElem? (i := 33) rfl))⟩)
  have E_w47_g45 := Exa.start ev_w47 g45
  obtain ⟨g48, g49⟩ := and_e g46
  obtain ⟨w50, ev_w50⟩ := exa_v g48
  have S_w50 := Sta.start ev_w50 (Or.inr ⟨(hw _ (List.mem_of_getElem? (i := 3) rfl)), (hw _ (List.mem_of_getElem? (i := 35) rfl))⟩)
  have E_w50_g48 := Exa.start ev_w50 g48
  obtain ⟨g51, g52⟩ := and_e g49
  obtain ⟨w53, ev_w53⟩ := exa_v g51
  have S_w53 := Sta.start ev_w53 (Or.inr ⟨(hw _ (List.mem_of_getElem? (i := 3) rfl)), (hw _ (List.mem_of_getElem? (i := 37) rfl))⟩)
  have E_w53_g51 := Exa.start ev_w53 g51
  obtain ⟨g54, g55⟩ := and_e g52
  obtain ⟨w56, ev_w56⟩ := exa_v g54
  have S_w56 := Sta.start ev_w56 (Or.inr ⟨(hw _ (List.mem_of_getElem? (i := 3) rfl)), (hw _ (List.mem_of_getElem? (i := 39) rfl))⟩)
  have E_w56_g54 := Exa.start ev_w56 g54
  obtain ⟨g57, g58⟩ := and_e g55
  obtain ⟨w59, ev_w59⟩ := exa_v g57
  have S_w59 := Sta.start ev_w59 (Or.inr ⟨(hw _ (List.mem_of_getElem? (i := 3) rfl)), (hw _ (List.mem_of_getElem? (i := 41) rfl))⟩)
  have E_w59_g57 := Exa.start ev_w59 g57
  obtain ⟨g60, g61⟩ := and_e g58
  have F_w5_g60 := own_fldI ev_w5 g60
  obtain ⟨g62, g63⟩ := and_e g61
  have F_w8_g62 := own_fldI ev_w8 g62
  obtain ⟨g64, g65⟩ := and_e g63
  have F_w5_g64 := own_fldI ev_w5 g64
  obtain ⟨g66, g67⟩ := and_e g65
  have F_w5_g66 := own_fldI ev_w5 g66
  obtain ⟨g68, g69⟩ := and_e g67
  have F_w14_g68 := own_fldI ev_w14 g68
  obtain ⟨g70, g71⟩ := and_e g69
  have F_w14_g70 := own_fldI ev_w14 g70
  obtain ⟨g72, g73⟩ := and_e g71
  have F_w14_g72 := own_fldI ev_w14 g72
  obtain ⟨g74, g75⟩ := and_e g73
  have F_w50_g74 := own_fldI ev_w50 g74
  obtain ⟨g76, g77⟩ := and_e g75
  have F_w50_g76 := own_fldI ev_w50 g76
  obtain ⟨g78, g79⟩ := and_e g77
  have F_w50_g78 := own_fldI ev_w50 g78
  obtain ⟨g80, g81⟩ := and_e g79
  have F_w20_g80 := own_fldI ev_w20 g80
  obtain ⟨g82, g83⟩ := and_e g81
  have F_w20_g82 := own_fldI ev_w20 g82
  obtain ⟨g84, g85⟩ := and_e g83
  have F_w20_g84 := own_fldI ev_w20 g84
  obtain ⟨g86, g87⟩ := and_e g85
  have F_w56_g86 := own_fldI ev_w56 g86
  obtain ⟨g88, g89⟩ := and_e g87
  have F_w56_g88 := own_fldI ev_w56 g88
  obtain ⟨g90, g91⟩ := and_e g89
  have F_w56_g90 := own_fldI ev_w56 g90
  obtain ⟨g92, g93⟩ := and_e g91
  have F_w26_g92 := own_fldI ev_w26 g92
  obtain ⟨g94, g95⟩ := and_e g93
  have F_w26_g94 := own_fldI ev_w26 g94
  obtain ⟨g96, g97⟩ := and_e g95
  have F_w26_g96 := own_fldI ev_w26 g96
  obtain ⟨g98, g99⟩ := and_e g97
  have F_w11_g98 := own_fldI ev_w11 g98
  obtain ⟨g100, g101⟩ := and_e g99
  have F_w11_g100 := own_fldI ev_w11 g100
  obtain ⟨g102, g103⟩ := and_e g101
  have F_w11_g102 := own_fldI ev_w11 g102
  obtain ⟨g104, g105⟩ := and_e g103
  have F_w38_g104 := own_fldI ev_w38 g104
  obtain ⟨g106, g107⟩ := and_e g105
  have F_w38_g106 := own_fldI ev_w38 g106
  obtain ⟨g108, g109⟩ := and_e g107
  have F_w38_g108 := own_fldI ev_w38 g108
  obtain ⟨g110, g111⟩ := and_e g109
  have F_w35_g110 := own_fldI ev_w35 g110
  obtain ⟨g112, g113⟩ := and_e g111
  have F_w35_g112 := own_fldI ev_w35 g112
  obtain ⟨g114, g115⟩ := and_e g113
  have F_w35_g114 := own_fldI ev_w35 g114
  obtain ⟨g116, g117⟩ := and_e g115
  have F_w29_g116 := own_fldI ev_w29 g116
  obtain ⟨g118, g119⟩ := and_e g117
  have F_w29_g118 := own_fldI ev_w29 g118
  obtain ⟨g120, g121⟩ := and_e g119
  have F_w29_g120 := own_fldI ev_w29 g120
  obtain ⟨g122, g123⟩ := and_e g121
  have F_w8_g122 := own_fldI ev_w8 g122
  obtain ⟨g124, g125⟩ := and_e g123
  have F_w8_g124 := own_fldI ev_w8 g124
  obtain ⟨g126, g127⟩ := and_e g125
  have F_w47_g126 := own_fldI ev_w47 g126
  obtain ⟨g128, g129⟩ := and_e g127
  have F_w47_g128 := own_fldI ev_w47 g128
  obtain ⟨g130, g131⟩ := and_e g129
  have F_w47_g130 := own_fldI ev_w47 g130
  obtain ⟨g132, g133⟩ := and_e g131
  have F_w59_g132 := own_fldI ev_w59 g132
  obtain ⟨g134, g135⟩ := and_e g133
  have F_w59_g134 := own_fldI ev_w59 g134
  obtain ⟨g136, g137⟩ := and_e g135
  have F_w59_g136 := own_fldI ev_w59 g136
  obtain ⟨g138, g139⟩ := and_e g137
  have F_w23_g138 := own_fldI ev_w23 g138
  obtain ⟨g140, g141⟩ := and_e g139
  have F_w23_g140 := own_fldI ev_w23 g140
  obtain ⟨g142, g143⟩ := and_e g141
  have F_w23_g142 := own_fldI ev_w23 g142
  obtain ⟨g144, g145⟩ := and_e g143
  have F_w53_g144 := own_fldI ev_w53 g144
  obtain ⟨g146, g147⟩ := and_e g145
  have F_w53_g146 := own_fldI ev_w53 g146
  obtain ⟨g148, g149⟩ := and_e g147
  have F_w53_g148 := own_fldI ev_w53 g148
  obtain ⟨g150, g151⟩ := and_e g149
  have F_w17_g150 := own_fldI ev_w17 g150
  obtain ⟨g152, g153⟩ := and_e g151
  have F_w17_g152 := own_fldI ev_w17 g152
  obtain ⟨g154, g155⟩ := and_e g153
  have F_w17_g154 := own_fldI ev_w17 g154
  obtain ⟨g156, g157⟩ := and_e g155
  have F_w32_g156 := own_fldI ev_w32 g156
  obtain ⟨g158, g159⟩ := and_e g157
  have F_w32_g158 := own_fldI ev_w32 g158
  obtain ⟨g160, g161⟩ := and_e g159
  have F_w32_g160 := own_fldI ev_w32 g160
  obtain ⟨g162, g163⟩ := and_e g161
  have F_w41_g162 := own_fldI ev_w41 g162
  obtain ⟨g164, g165⟩ := and_e g163
  have F_w41_g164 := own_fldI ev_w41 g164
  obtain ⟨g166, g167⟩ := and_e g165
  have F_w41_g166 := own_fldI ev_w41 g166
  obtain ⟨g168, g169⟩ := and_e g167
  have F_w44_g168 := own_fldI ev_w44 g168
  obtain ⟨g170, g171⟩ := and_e g169
  have F_w44_g170 := own_fldI ev_w44 g170
  have F_w44_g171 := own_fldI ev_w44 g171
  obtain ⟨n, o, h1, h2, h3, _, L, rfl, ⟨rfl, N, -⟩, hq⟩ := rm0 l s _ hw tables_1 k w5 w8 w11 w14 w17 w20 w23 w26 w29 w32 w35 w38 w41 w44 w47 w50 w53 w56 w59 s.heap s.heap.size (Nat.le_refl _) S_w5 S_w8 S_w11 S_w14 S_w17 S_w20 S_w23 S_w26 S_w29 S_w32 S_w35 S_w38 S_w41 S_w44 S_w47 S_w50 S_w53 S_w56 S_w59 E_w5_g3 E_w8_g6 E_w11_g9 E_w14_g12 E_w17_g15 E_w20_g18 E_w23_g21 E_w26_g24 E_w29_g27 E_w32_g30 E_w35_g33 E_w38_g36 E_w41_g39 E_w44_g42 E_w47_g45 E_w50_g48 E_w53_g51 E_w56_g54 E_w59_g57 F_w5_g64 F_w8_g122 F_w11_g100 F_w14_g70 F_w17_g152 F_w20_g82 F_w23_g140 F_w26_g94 F_w29_g118 F_w32_g158 F_w35_g112 F_w38_g106 F_w41_g164 F_w44_g170 F_w47_g128 F_w50_g76 F_w53_g146 F_w56_g88 F_w59_g134 F_w5_g66 F_w8_g124 F_w11_g102 F_w14_g72 F_w17_g154 F_w20_g84 F_w23_g142 F_w26_g96 F_w29_g120 F_w32_g160 F_w35_g114 F_w38_g108 F_w41_g166 F_w44_g171 F_w47_g130 F_w50_g78 F_w53_g148 F_w56_g90 F_w59_g136 (Fld.ne F_w11_g98 F_w5_g60 (by decide)) (Fld.ne F_w11_g98 F_w8_g62 (by decide)) (Fld.ne F_w14_g68 F_w5_g60 (by decide)) (Fld.ne F_w14_g68 F_w8_g62 (by decide)) (Fld.ne F_w17_g150 F_w5_g60 (by decide)) (Fld.ne F_w17_g150 F_w8_g62 (by decide)) (Fld.ne F_w20_g80 F_w5_g60 (by decide)) (Fld.ne F_w20_g80 F_w8_g62 (by decide)) (Fld.ne F_w23_g138 F_w5_g60 (by decide)) (Fld.ne F_w23_g138 F_w8_g62 (by decide)) (Fld.ne F_w26_g92 F_w5_g60 (by decide)) (Fld.ne F_w26_g92 F_w8_g62 (by decide)) (Fld.ne F_w29_g116 F_w5_g60 (by decide)) (Fld.ne F_w29_g116 F_w8_g62 (by decide)) (Fld.ne F_w32_g156 F_w5_g60 (by decide)) (Fld.ne F_w32_g156 F_w8_g62 (by decide)) (Fld.ne F_w35_g110 F_w5_g60 (by decide)) (Fld.ne F_w35_g110 F_w8_g62 (by decide)) (Fld.ne F_w38_g104 F_w5_g60 (by decide)) (Fld.ne F_w38_g104 F_w8_g62 (by decide)) (Fld.ne F_w41_g162 F_w5_g60 (by decide)) (Fld.ne F_w41_g162 F_w8_g62 (by decide)) (Fld.ne F_w44_g168 F_w5_g60 (by decide)) (Fld.ne F_w44_g168 F_w8_g62 (by decide)) (Fld.ne F_w47_g126 F_w5_g60 (by decide)) (Fld.ne F_w47_g126 F_w8_g62 (by decide)) (Fld.ne F_w50_g74 F_w5_g60 (by decide)) (Fld.ne F_w50_g74 F_w8_g62 (by decide)) (Fld.ne F_w53_g144 F_w5_g60 (by decide)) (Fld.ne F_w53_g144 F_w8_g62 (by decide)) (Fld.ne F_w56_g86 F_w5_g60 (by decide)) (Fld.ne F_w56_g86 F_w8_g62 (by decide)) (Fld.ne F_w59_g132 F_w5_g60 (by decide)) (Fld.ne F_w59_g132 F_w8_g62 (by decide)) p e ha hc hk s m _ below hf ((Spec.applies_iff_loose hf).mp happ).1 ⟨rfl, State.Warmed39.refl s, rfl⟩ trivial
  refine ⟨n, _, h1, h2, h3, hpost _ _ _ _ _ _ ⟨Cond.after_iff.mpr rfl, Cond.after_iff.mpr (eq_i res_at (Term.int_eval (1)) rfl), trivial⟩ ⟨hq.1, hq.2.1, (hq.2.2.sift fun y hy => Or.inr (N y hy)).mono (by decide) (by decide)⟩⟩
theorem main_1_1 : Claimed_1_1 := comes_1 fun _ _ _ _ _ _ h hF => ⟨h.1, hF⟩
theorem main_1_2 : Claimed_1_2 := comes_1 fun _ _ _ _ _ _ h hF => ⟨h.2.1, hF⟩
end Jvm.Pilot.@@N@@
namespace Jvm.Pilot.@@N@@
open Jvm Jvm.ClassFile Sem Op Lib Jvm.Free Jvm.Stand Jvm.Pilot.@@N@@.Jvm.D
/-! MADE BY PROGRAM (witnessworld.py) out of the Statement's table words and the real class files: 13 classes; the members and pool entries that the words name. The judged class is class 1, her method 1. -/
namespace start1
open Jvm.ClassFile
def u (s : String) : CpInfo := .utf8 (stringToUtf16 s)
/-- a pool by its gaps: so many unusable entries, then the entry; so many at the end -/
def gap : Nat → List CpInfo → List CpInfo
  | 0, r => r
  | n + 1, r => .unusable :: gap n r
def poolList (es : List (Nat × CpInfo)) (last : Nat) : List CpInfo := es.foldr (fun e r => gap e.1 (e.2 :: r)) (gap last [])
def pool (es : List (Nat × CpInfo)) (last : Nat) : Array CpInfo := ⟨poolList es last⟩
def fileOf (pool : Array CpInfo) (this : Nat) (attrs : Array Attribute := #[]) (ms : Array MethodInfo := #[]) (fl : Nat := 33) (sup : Nat := 0) (ifs : Array Nat := #[]) (fds : Array FieldInfo := #[]) : ClassFile where
  minorVersion := 0
  majorVersion := 65
  constantPool := pool
  accessFlags := fl
  thisClass := this
  superClass := sup
  interfaces := ifs
  fields := fds
  methods := ms
  attributes := attrs
def plain (name : String) (sup : Option ClassId) : Class where
  name := name
  kind := .ordinary
  loader := none
  accessFlags := 33
  super := sup
  interfaces := #[]
  cf := none
  fields := #[]
  methods := #[]
  instanceTypes := #[]
  staticTypes := #[]
  resolved := #[]
  callSites := []
  init := .initialized
  statics := none
  mirror := none

def pool0 : Array CpInfo := pool [(5, u "<init>"), (0, u "()V"), (1, .class_ 10), (1, u "java/lang/Object")] 113

def k0m0 : Method := { name := "<init>", desc := "()V", sig := { parameters := [], returnType := none }, accessFlags := 1, code := none }
/-- java/lang/Object -/
def k0 : Class := { plain "java/lang/Object" none with
  accessFlags := 33
  interfaces := #[]
  cf := some (fileOf pool0 8 #[] #[{ accessFlags := 1, nameIndex := 5, descriptorIndex := 6, attributes := #[] }] 33 0 #[] #[])
  fields := #[]
  methods := #[k0m0]
  instanceTypes := #[]
  staticTypes := #[]
  resolved := Array.replicate 124 none
  statics := none }

def pool1 : Array CpInfo := pool [(2, .class_ 4), (1, u "java/lang/Object"), (0, u "<init>"), (0, u "()V"), (0, .class_ 8), (0, u "com/example/cairn/cairn/engine/BinaryOperator"), (0, .fieldref 7 10), (0, .nameAndType 11 12), (0, u "OR"), (0, u "Lcom/example/cairn/cairn/engine/BinaryOperator;"), (0, .fieldref 7 14), (0, .nameAndType 15 12), (0, u "AND"), (0, .fieldref 7 17), (0, .nameAndType 18 12), (0, u "EQUAL"), (0, .fieldref 7 20), (0, .nameAndType 21 12), (0, u "NOT_EQUAL"), (0, .fieldref 7 23), (0, .nameAndType 24 12), (0, u "LESS"), (0, .fieldref 7 26), (0, .nameAndType 27 12), (0, u "LESS_EQUAL"), (0, .fieldref 7 29), (0, .nameAndType 30 12), (0, u "GREATER"), (0, .fieldref 7 32), (0, .nameAndType 33 12), (0, u "GREATER_EQUAL"), (0, .fieldref 7 35), (0, .nameAndType 36 12), (0, u "BIT_OR"), (0, .fieldref 7 38), (0, .nameAndType 39 12), (0, u "BIT_XOR"), (0, .fieldref 7 41), (0, .nameAndType 42 12), (0, u "BIT_AND"), (0, .fieldref 7 44), (0, .nameAndType 45 12), (0, u "SHIFT_LEFT"), (0, .fieldref 7 47), (0, .nameAndType 48 12), (0, u "SHIFT_RIGHT"), (0, .fieldref 7 50), (0, .nameAndType 51 12), (0, u "SHIFT_RIGHT_UNSIGNED"), (0, .fieldref 7 53), (0, .nameAndType 54 12), (0, u "ADD"), (0, .fieldref 7 56), (0, .nameAndType 57 12), (0, u "SUBTRACT"), (0, .fieldref 7 59), (0, .nameAndType 60 12), (0, u "MULTIPLY"), (0, .fieldref 7 62), (0, .nameAndType 63 12), (0, u "DIVIDE"), (0, .fieldref 7 65), (0, .nameAndType 66 12), (0, u "REMAINDER"), (0, .integer 2147483647), (0, .methodref 7 69), (0, .nameAndType 70 71), (0, u "shortCircuits"), (0, u "()Z"), (0, .methodref 7 73), (0, .nameAndType 74 75), (0, u "opcode"), (0, u "()I"), (2, .methodref 7 79), (0, .nameAndType 80 75), (0, u "precedence"), (0, .class_ 82), (0, u "com/example/cairn/cairn/engine/BinaryOperatorShortCircuitsPinLaw"), (2, u "law"), (0, u "(I)Z")] 5

def k1m0 : Method := { name := "<init>", desc := "()V", sig := { parameters := [], returnType := none }, accessFlags := 2, code := none }
def k1c1 : Code := { maxStack := 4, maxLocals := 9, code := code, exceptionTable := #[], attributes := #[] }
def k1m1 : Method := { name := "law", desc := "(I)Z", sig := { parameters := [.int], returnType := some .boolean }, accessFlags := 9, code := some k1c1 }
/-- com/example/cairn/cairn/engine/BinaryOperatorShortCircuitsPinLaw -/
def k1 : Class := { plain "com/example/cairn/cairn/engine/BinaryOperatorShortCircuitsPinLaw" (some 0) with
  accessFlags := 49
  interfaces := #[]
  cf := some (fileOf pool1 81 #[] #[{ accessFlags := 2, nameIndex := 5, descriptorIndex := 6, attributes := #[] }, { accessFlags := 9, nameIndex := 85, descriptorIndex := 86, attributes := #[] }] 49 2 #[] #[])
  fields := #[]
  methods := #[k1m0, k1m1]
  instanceTypes := #[]
  staticTypes := #[]
  resolved := Array.replicate 92 none
  statics := none }

def pool2 : Array CpInfo := pool [(1, .class_ 2), (0, u "java/lang/constant/Constable"), (0, .class_ 4), (0, u "java/lang/Object")] 6

/-- java/lang/constant/Constable -/
def k2 : Class := { plain "java/lang/constant/Constable" (some 0) with
  accessFlags := 1537
  interfaces := #[]
  cf := some (fileOf pool2 1 #[] #[] 1537 3 #[] #[])
  fields := #[]
  methods := #[]
  instanceTypes := #[]
  staticTypes := #[]
  resolved := Array.replicate 11 none
  statics := none }

def pool3 : Array CpInfo := pool [(1, .class_ 2), (0, u "java/lang/Comparable"), (0, .class_ 4), (0, u "java/lang/Object")] 7

/-- java/lang/Comparable -/
def k3 : Class := { plain "java/lang/Comparable" (some 0) with
  accessFlags := 1537
  interfaces := #[]
  cf := some (fileOf pool3 1 #[] #[] 1537 3 #[] #[])
  fields := #[]
  methods := #[]
  instanceTypes := #[]
  staticTypes := #[]
  resolved := Array.replicate 12 none
  statics := none }

def pool4 : Array CpInfo := pool [(1, .class_ 2), (0, u "java/io/Serializable"), (0, .class_ 4), (0, u "java/lang/Object")] 2

/-- java/io/Serializable -/
def k4 : Class := { plain "java/io/Serializable" (some 0) with
  accessFlags := 1537
  interfaces := #[]
  cf := some (fileOf pool4 1 #[] #[] 1537 3 #[] #[])
  fields := #[]
  methods := #[]
  instanceTypes := #[]
  staticTypes := #[]
  resolved := Array.replicate 7 none
  statics := none }

def pool5 : Array CpInfo := pool [(2, .class_ 4), (1, u "java/lang/Enum"), (0, u "name"), (0, u "Ljava/lang/String;"), (2, u "ordinal"), (0, u "I"), (1, .class_ 14), (1, u "java/lang/Object"), (4, u "hash"), (86, .class_ 108), (1, u "java/lang/Enum$EnumDesc"), (2, .class_ 112), (0, u "java/lang/constant/Constable"), (0, .class_ 114), (0, u "java/lang/Comparable"), (0, .class_ 116), (0, u "java/io/Serializable")] 87

/-- java/lang/Enum -/
def k5 : Class := { plain "java/lang/Enum" (some 0) with
  accessFlags := 1057
  interfaces := #[2, 3, 4]
  cf := some (fileOf pool5 2 #[.nestMembers #[106]] #[] 1057 12 #[111, 113, 115] #[{ accessFlags := 18, nameIndex := 5, descriptorIndex := 6, attributes := #[] }, { accessFlags := 18, nameIndex := 9, descriptorIndex := 10, attributes := #[] }, { accessFlags := 2, nameIndex := 19, descriptorIndex := 10, attributes := #[] }])
  fields := #[{ name := "name", type := (.object "java/lang/String"), accessFlags := 18, slot := 0, constantValue := 0 }, { name := "ordinal", type := .int, accessFlags := 18, slot := 1, constantValue := 0 }, { name := "hash", type := .int, accessFlags := 2, slot := 2, constantValue := 0 }]
  methods := #[]
  instanceTypes := #[(.object "java/lang/String"), .int, .int]
  staticTypes := #[]
  resolved := Array.replicate 204 none
  statics := none }

def pool6 : Array CpInfo := pool [(1, .class_ 2), (0, u "com/example/cairn/cairn/engine/BinaryOperator"), (0, .fieldref 1 4), (0, .nameAndType 5 6), (0, u "OR"), (0, u "Lcom/example/cairn/cairn/engine/BinaryOperator;"), (0, .fieldref 1 8), (0, .nameAndType 9 6), (0, u "AND"), (2, u "EQUAL"), (2, u "NOT_EQUAL"), (2, u "LESS"), (2, u "LESS_EQUAL"), (2, u "GREATER"), (2, u "GREATER_EQUAL"), (2, u "BIT_OR"), (2, u "BIT_XOR"), (2, u "BIT_AND"), (2, u "SHIFT_LEFT"), (2, u "SHIFT_RIGHT"), (2, u "SHIFT_RIGHT_UNSIGNED"), (2, u "ADD"), (2, u "SUBTRACT"), (2, u "MULTIPLY"), (2, u "DIVIDE"), (2, u "REMAINDER"), (2, u "$VALUES"), (0, u "[Lcom/example/cairn/cairn/engine/BinaryOperator;"), (6, .class_ 73), (1, u "java/lang/Enum"), (11, u "token"), (0, u "Lcom/example/cairn/cairn/engine/Token$Kind;"), (0, .fieldref 1 88), (0, .nameAndType 89 90), (0, u "precedence"), (0, u "I"), (0, .fieldref 1 92), (0, .nameAndType 93 90), (0, u "opcode"), (2, u "jumpUnlessOpcode"), (2, u "BY_TOKEN"), (0, u "Ljava/util/Map;"), (97, u "NO_JUMP"), (12, u "()I"), (0, u "shortCircuits"), (0, u "()Z")] 10

def k6c0 : Code := { maxStack := 1, maxLocals := 1, code := prog_5_method_6_code, exceptionTable := #[], attributes := #[] }
def k6m0 : Method := { name := "precedence", desc := "()I", sig := { parameters := [], returnType := some .int }, accessFlags := 0, code := some k6c0 }
def k6c1 : Code := { maxStack := 2, maxLocals := 1, code := prog_5_method_7_code, exceptionTable := #[], attributes := #[] }
def k6m1 : Method := { name := "shortCircuits", desc := "()Z", sig := { parameters := [], returnType := some .boolean }, accessFlags := 0, code := some k6c1 }
def k6c2 : Code := { maxStack := 1, maxLocals := 1, code := prog_5_method_8_code, exceptionTable := #[], attributes := #[] }
def k6m2 : Method := { name := "opcode", desc := "()I", sig := { parameters := [], returnType := some .int }, accessFlags := 0, code := some k6c2 }
/-- com/example/cairn/cairn/engine/BinaryOperator -/
def k6 : Class := { plain "com/example/cairn/cairn/engine/BinaryOperator" (some 5) with
  accessFlags := 16432
  interfaces := #[]
  cf := some (fileOf pool6 1 #[] #[{ accessFlags := 0, nameIndex := 89, descriptorIndex := 211, attributes := #[] }, { accessFlags := 0, nameIndex := 212, descriptorIndex := 213, attributes := #[] }, { accessFlags := 0, nameIndex := 93, descriptorIndex := 211, attributes := #[] }] 16432 71 #[] #[{ accessFlags := 16409, nameIndex := 5, descriptorIndex := 6, attributes := #[] }, { accessFlags := 16409, nameIndex := 9, descriptorIndex := 6, attributes := #[] }, { accessFlags := 16409, nameIndex := 12, descriptorIndex := 6, attributes := #[] }, { accessFlags := 16409, nameIndex := 15, descriptorIndex := 6, attributes := #[] }, { accessFlags := 16409, nameIndex := 18, descriptorIndex := 6, attributes := #[] }, { accessFlags := 16409, nameIndex := 21, descriptorIndex := 6, attributes := #[] }, { accessFlags := 16409, nameIndex := 24, descriptorIndex := 6, attributes := #[] }, { accessFlags := 16409, nameIndex := 27, descriptorIndex := 6, attributes := #[] }, { accessFlags := 16409, nameIndex := 30, descriptorIndex := 6, attributes := #[] }, { accessFlags := 16409, nameIndex := 33, descriptorIndex := 6, attributes := #[] }, { accessFlags := 16409, nameIndex := 36, descriptorIndex := 6, attributes := #[] }, { accessFlags := 16409, nameIndex := 39, descriptorIndex := 6, attributes := #[] }, { accessFlags := 16409, nameIndex := 42, descriptorIndex := 6, attributes := #[] }, { accessFlags := 16409, nameIndex := 45, descriptorIndex := 6, attributes := #[] }, { accessFlags := 16409, nameIndex := 48, descriptorIndex := 6, attributes := #[] }, { accessFlags := 16409, nameIndex := 51, descriptorIndex := 6, attributes := #[] }, { accessFlags := 16409, nameIndex := 54, descriptorIndex := 6, attributes := #[] }, { accessFlags := 16409, nameIndex := 57, descriptorIndex := 6, attributes := #[] }, { accessFlags := 16409, nameIndex := 60, descriptorIndex := 6, attributes := #[] }, { accessFlags := 24, nameIndex := 198, descriptorIndex := 90, attributes := #[] }, { accessFlags := 26, nameIndex := 99, descriptorIndex := 100, attributes := #[] }, { accessFlags := 18, nameIndex := 85, descriptorIndex := 86, attributes := #[] }, { accessFlags := 18, nameIndex := 89, descriptorIndex := 90, attributes := #[] }, { accessFlags := 18, nameIndex := 93, descriptorIndex := 90, attributes := #[] }, { accessFlags := 18, nameIndex := 96, descriptorIndex := 90, attributes := #[] }, { accessFlags := 4122, nameIndex := 63, descriptorIndex := 64, attributes := #[] }])
  fields := #[{ name := "OR", type := (.object "com/example/cairn/cairn/engine/BinaryOperator"), accessFlags := 16409, slot := 0, constantValue := 0 }, { name := "AND", type := (.object "com/example/cairn/cairn/engine/BinaryOperator"), accessFlags := 16409, slot := 1, constantValue := 0 }, { name := "EQUAL", type := (.object "com/example/cairn/cairn/engine/BinaryOperator"), accessFlags := 16409, slot := 2, constantValue := 0 }, { name := "NOT_EQUAL", type := (.object "com/example/cairn/cairn/engine/BinaryOperator"), accessFlags := 16409, slot := 3, constantValue := 0 }, { name := "LESS", type := (.object "com/example/cairn/cairn/engine/BinaryOperator"), accessFlags := 16409, slot := 4, constantValue := 0 }, { name := "LESS_EQUAL", type := (.object "com/example/cairn/cairn/engine/BinaryOperator"), accessFlags := 16409, slot := 5, constantValue := 0 }, { name := "GREATER", type := (.object "com/example/cairn/cairn/engine/BinaryOperator"), accessFlags := 16409, slot := 6, constantValue := 0 }, { name := "GREATER_EQUAL", type := (.object "com/example/cairn/cairn/engine/BinaryOperator"), accessFlags := 16409, slot := 7, constantValue := 0 }, { name := "BIT_OR", type := (.object "com/example/cairn/cairn/engine/BinaryOperator"), accessFlags := 16409, slot := 8, constantValue := 0 }, { name := "BIT_XOR", type := (.object "com/example/cairn/cairn/engine/BinaryOperator"), accessFlags := 16409, slot := 9, constantValue := 0 }, { name := "BIT_AND", type := (.object "com/example/cairn/cairn/engine/BinaryOperator"), accessFlags := 16409, slot := 10, constantValue := 0 }, { name := "SHIFT_LEFT", type := (.object "com/example/cairn/cairn/engine/BinaryOperator"), accessFlags := 16409, slot := 11, constantValue := 0 }, { name := "SHIFT_RIGHT", type := (.object "com/example/cairn/cairn/engine/BinaryOperator"), accessFlags := 16409, slot := 12, constantValue := 0 }, { name := "SHIFT_RIGHT_UNSIGNED", type := (.object "com/example/cairn/cairn/engine/BinaryOperator"), accessFlags := 16409, slot := 13, constantValue := 0 }, { name := "ADD", type := (.object "com/example/cairn/cairn/engine/BinaryOperator"), accessFlags := 16409, slot := 14, constantValue := 0 }, { name := "SUBTRACT", type := (.object "com/example/cairn/cairn/engine/BinaryOperator"), accessFlags := 16409, slot := 15, constantValue := 0 }, { name := "MULTIPLY", type := (.object "com/example/cairn/cairn/engine/BinaryOperator"), accessFlags := 16409, slot := 16, constantValue := 0 }, { name := "DIVIDE", type := (.object "com/example/cairn/cairn/engine/BinaryOperator"), accessFlags := 16409, slot := 17, constantValue := 0 }, { name := "REMAINDER", type := (.object "com/example/cairn/cairn/engine/BinaryOperator"), accessFlags := 16409, slot := 18, constantValue := 0 }, { name := "NO_JUMP", type := .int, accessFlags := 24, slot := 19, constantValue := 0 }, { name := "BY_TOKEN", type := (.object "java/util/Map"), accessFlags := 26, slot := 20, constantValue := 0 }, { name := "token", type := (.object "com/example/cairn/cairn/engine/Token$Kind"), accessFlags := 18, slot := 3, constantValue := 0 }, { name := "precedence", type := .int, accessFlags := 18, slot := 4, constantValue := 0 }, { name := "opcode", type := .int, accessFlags := 18, slot := 5, constantValue := 0 }, { name := "jumpUnlessOpcode", type := .int, accessFlags := 18, slot := 6, constantValue := 0 }, { name := "$VALUES", type := (.array (.object "com/example/cairn/cairn/engine/BinaryOperator")), accessFlags := 4122, slot := 21, constantValue := 0 }]
  methods := #[k6m0, k6m1, k6m2]
  instanceTypes := #[(.object "java/lang/String"), .int, .int, (.object "com/example/cairn/cairn/engine/Token$Kind"), .int, .int, .int]
  staticTypes := #[(.object "com/example/cairn/cairn/engine/BinaryOperator"), (.object "com/example/cairn/cairn/engine/BinaryOperator"), (.object "com/example/cairn/cairn/engine/BinaryOperator"), (.object "com/example/cairn/cairn/engine/BinaryOperator"), (.object "com/example/cairn/cairn/engine/BinaryOperator"), (.object "com/example/cairn/cairn/engine/BinaryOperator"), (.object "com/example/cairn/cairn/engine/BinaryOperator"), (.object "com/example/cairn/cairn/engine/BinaryOperator"), (.object "com/example/cairn/cairn/engine/BinaryOperator"), (.object "com/example/cairn/cairn/engine/BinaryOperator"), (.object "com/example/cairn/cairn/engine/BinaryOperator"), (.object "com/example/cairn/cairn/engine/BinaryOperator"), (.object "com/example/cairn/cairn/engine/BinaryOperator"), (.object "com/example/cairn/cairn/engine/BinaryOperator"), (.object "com/example/cairn/cairn/engine/BinaryOperator"), (.object "com/example/cairn/cairn/engine/BinaryOperator"), (.object "com/example/cairn/cairn/engine/BinaryOperator"), (.object "com/example/cairn/cairn/engine/BinaryOperator"), (.object "com/example/cairn/cairn/engine/BinaryOperator"), .int, (.object "java/util/Map"), (.array (.object "com/example/cairn/cairn/engine/BinaryOperator"))]
  resolved := Array.replicate 224 none
  statics := some 0 }

def pool7 : Array CpInfo := pool [(1, u "java/lang/Cloneable"), (0, .class_ 1), (0, u "java/lang/Object"), (0, .class_ 3)] 3

/-- java/lang/Cloneable -/
def k7 : Class := { plain "java/lang/Cloneable" (some 0) with
  accessFlags := 1537
  interfaces := #[]
  cf := some (fileOf pool7 2 #[] #[] 1537 4 #[] #[])
  fields := #[]
  methods := #[]
  instanceTypes := #[]
  staticTypes := #[]
  resolved := Array.replicate 8 none
  statics := none }

/-- the primitive byte -/
def k8 : Class := { plain "byte" none with kind := .primitive 'B', accessFlags := 0x411 }
/-- [B -/
def k9 : Class := { plain "[B" (some 0) with kind := .array 8 .byte, interfaces := #[7, 4], accessFlags := 1041 }

/-- the primitive int -/
def k10 : Class := { plain "int" none with kind := .primitive 'I', accessFlags := 0x411 }
/-- [I -/
def k11 : Class := { plain "[I" (some 0) with kind := .array 10 .int, interfaces := #[7, 4], accessFlags := 1041 }

/-- [Lcom/example/cairn/cairn/engine/BinaryOperator; -/
def k12 : Class := { plain "[Lcom/example/cairn/cairn/engine/BinaryOperator;" (some 0) with kind := .array 6 (.object "com/example/cairn/cairn/engine/BinaryOperator"), interfaces := #[7, 4], accessFlags := 1041 }

def heap : Heap := #[{ cls := 6, slots := #[.ref 1, .ref 2, .ref 3, .ref 4, .ref 5, .ref 6, .ref 7, .ref 8, .ref 9, .ref 10, .ref 11, .ref 12, .ref 13, .ref 14, .ref 15, .ref 16, .ref 17, .ref 18, .ref 19, .int 0, .null, .null], vm := .statics 6 },
  { cls := 6, slots := #[.null, .int 0, .int 0, .null, .int 1, .int 38, .int 0], vm := .none },
  { cls := 6, slots := #[.null, .int 1, .int 0, .null, .int 2, .int 37, .int 0], vm := .none },
  { cls := 6, slots := #[.null, .int 2, .int 0, .null, .int 3, .int 10, .int 0], vm := .none },
  { cls := 6, slots := #[.null, .int 3, .int 0, .null, .int 3, .int 32, .int 0], vm := .none },
  { cls := 6, slots := #[.null, .int 4, .int 0, .null, .int 3, .int 11, .int 0], vm := .none },
  { cls := 6, slots := #[.null, .int 5, .int 0, .null, .int 3, .int 33, .int 0], vm := .none },
  { cls := 6, slots := #[.null, .int 6, .int 0, .null, .int 3, .int 12, .int 0], vm := .none },
  { cls := 6, slots := #[.null, .int 7, .int 0, .null, .int 3, .int 34, .int 0], vm := .none },
  { cls := 6, slots := #[.null, .int 8, .int 0, .null, .int 4, .int 50, .int 0], vm := .none },
  { cls := 6, slots := #[.null, .int 9, .int 0, .null, .int 5, .int 51, .int 0], vm := .none },
  { cls := 6, slots := #[.null, .int 10, .int 0, .null, .int 6, .int 49, .int 0], vm := .none },
  { cls := 6, slots := #[.null, .int 11, .int 0, .null, .int 7, .int 52, .int 0], vm := .none },
  { cls := 6, slots := #[.null, .int 12, .int 0, .null, .int 7, .int 53, .int 0], vm := .none },
  { cls := 6, slots := #[.null, .int 13, .int 0, .null, .int 7, .int 54, .int 0], vm := .none },
  { cls := 6, slots := #[.null, .int 14, .int 0, .null, .int 8, .int 4, .int 0], vm := .none },
  { cls := 6, slots := #[.null, .int 15, .int 0, .null, .int 8, .int 5, .int 0], vm := .none },
  { cls := 6, slots := #[.null, .int 16, .int 0, .null, .int 9, .int 6, .int 0], vm := .none },
  { cls := 6, slots := #[.null, .int 17, .int 0, .null, .int 9, .int 7, .int 0], vm := .none },
  { cls := 6, slots := #[.null, .int 18, .int 0, .null, .int 9, .int 8, .int 0], vm := .none }]
def classes : Array Class := #[k0, k1, k2, k3, k4, k5, k6, k7, k8, k9, k10, k11, k12]
def interned : List (Array UInt16 × Addr) := []
def slotsUsed : Nat := 155
def theMethod : MethodId := ⟨1, 1⟩
def args0 : Array Value := #[.int 5]
def aboutOver (below : List Frame) : State where
  vm := { classes := classes, interned := interned.toArray }
  heap := heap
  slotsUsed := slotsUsed
  threads := #[{ frames := .invoking theMethod args0 :: below }]
def below0 : List Frame := [.native { method := ⟨0, 0⟩, args := #[] }]
def about1 : State := aboutOver below0
def p0 : Program := .bare "" "" ""
def e0 : Env := launch0.env 0 0 0
theorem w_frames : about1.frames = Frame.invoking theMethod args0 :: below0 := rfl
set_option maxRecDepth 65536 in
theorem w_args : argsFit about1.vm theMethod args0 = true := by decide +kernel
set_option maxRecDepth 65536 in
theorem w_heap : heapFits about1 = true := by decide +kernel
set_option maxRecDepth 65536 in
theorem w_runnable : about1.curStatus? = some .runnable := by decide +kernel
set_option maxRecDepth 65536 in
theorem w_alone : about1.alone = true := by decide +kernel
set_option maxRecDepth 65536 in
theorem w_named : about1.methodNamed? x = some theMethod := by decide +kernel
set_option maxRecDepth 65536 in
theorem w_hears : about1.hears theMethod below0 = true := by decide +kernel
set_option maxRecDepth 65536 in
theorem w_ripe : about1.ripe theMethod args0 below0 = true := by decide +kernel
theorem w_running : about1.status = .running := rfl
set_option maxRecDepth 65536 in
theorem w_room : about1.hasRoom e0.platform room_1 = true :=
  launch0.hasRoom_least _ room_1 (by decide +kernel) (by decide +kernel) (by decide +kernel) (by decide +kernel) (by decide +kernel) (by decide +kernel)
theorem allAtoms_all (ts : List Jvm.Cond) (a : Array Jvm.Value) (st : Jvm.State) : (allAtoms ts).before a st = ts.all (fun c => c.before a st) := by
  induction ts with
  | nil => rfl
  | cons c t ih =>
    show (Jvm.Cond.and c (allAtoms t)).before a st = _
    rw [Jvm.Cond.before_and, ih, List.all_cons]
def words1 : List Jvm.Cond := Jvm.Cond.code x code maxLocals ret :: tables_1
/-- a 'code' word, met by the world's own term for the bytes: nothing is compared byte by byte -/
theorem code_word {y : MethodName} {bytes : ByteArray} {mx : Nat} {rt : Option FieldType} {a : Array Value} {s : State} {m : MethodId} {meth : Method} {c : Code} (h1 : s.methodNamed? y = some m) (h2 : s.vm.method? m = some meth) (h3 : meth.code = some c) (h4 : c.code = bytes)
    (h5 : (c.maxLocals == mx && c.exceptionTable.isEmpty && decide (c.maxStack ≤ mostOperands) && decide (meth.sig.returnType = rt) && !meth.locks && decide (parseMethodDescriptor y.desc = some meth.sig)) = true) : (Jvm.Cond.code y bytes mx rt).before a s = true := by
  simp only [Bool.and_eq_true, beq_iff_eq, Bool.not_eq_true', decide_eq_true_eq] at h5
  obtain ⟨⟨⟨⟨⟨g1, g2⟩, g3⟩, g4⟩, g5⟩, g6⟩ := h5
  simp [Cond.before, Cond.holds, Cond.value, h1, h2, h3, h4, g1, g2, g3, g4, g5, g6]
def isCode : Jvm.Cond → Bool
  | .code _ _ _ _ => true
  | _ => false
theorem all_split {L : List Jvm.Cond} {P : Jvm.Cond → Bool} (h1 : L.all (fun c => isCode c || P c) = true) (h2 : ∀ c ∈ L.filter isCode, P c = true) : L.all P = true := by
  refine List.all_eq_true.mpr fun c hc => ?_
  have h := List.all_eq_true.mp h1 c hc
  rcases Bool.eq_false_or_eq_true (isCode c) with hi | hi
  · exact h2 c (List.mem_filter.mpr ⟨hc, hi⟩)
  · simpa [hi] using h
set_option maxRecDepth 65536 in
theorem w_c0 : (Jvm.Cond.code x code maxLocals ret).before args0 about1 = true := code_word (m := ⟨1, 1⟩) (meth := k1m1) (c := k1c1) (by decide +kernel) rfl rfl rfl (by decide +kernel)
set_option maxRecDepth 65536 in
theorem w_c1 : (Jvm.Cond.code ({ cls := "com/example/cairn/cairn/engine/BinaryOperator", name := "shortCircuits", desc := "()Z" } : Jvm.MethodName) prog_5_method_7_code (1 : Nat) (Option.some Jvm.ClassFile.FieldType.boolean)).before args0 about1 = true := code_word (m := ⟨6, 1⟩) (meth := k6m1) (c := k6c1) (by decide +kernel) rfl rfl rfl (by decide +kernel)
set_option maxRecDepth 65536 in
theorem w_c2 : (Jvm.Cond.code ({ cls := "com/example/cairn/cairn/engine/BinaryOperator", name := "opcode", desc := "()I" } : Jvm.MethodName) prog_5_method_8_code (1 : Nat) (Option.some Jvm.ClassFile.FieldType.int)).before args0 about1 = true := code_word (m := ⟨6, 2⟩) (meth := k6m2) (c := k6c2) (by decide +kernel) rfl rfl rfl (by decide +kernel)
set_option maxRecDepth 65536 in
theorem w_c3 : (Jvm.Cond.code ({ cls := "com/example/cairn/cairn/engine/BinaryOperator", name := "precedence", desc := "()I" } : Jvm.MethodName) prog_5_method_6_code (1 : Nat) (Option.some Jvm.ClassFile.FieldType.int)).before args0 about1 = true := code_word (m := ⟨6, 0⟩) (meth := k6m0) (c := k6c0) (by decide +kernel) rfl rfl rfl (by decide +kernel)
def codes1 : List Jvm.Cond := [Jvm.Cond.code x code maxLocals ret, Jvm.Cond.code ({ cls := "com/example/cairn/cairn/engine/BinaryOperator", name := "shortCircuits", desc := "()Z" } : Jvm.MethodName) prog_5_method_7_code (1 : Nat) (Option.some Jvm.ClassFile.FieldType.boolean), Jvm.Cond.code ({ cls := "com/example/cairn/cairn/engine/BinaryOperator", name := "opcode", desc := "()I" } : Jvm.MethodName) prog_5_method_8_code (1 : Nat) (Option.some Jvm.ClassFile.FieldType.int), Jvm.Cond.code ({ cls := "com/example/cairn/cairn/engine/BinaryOperator", name := "precedence", desc := "()I" } : Jvm.MethodName) prog_5_method_6_code (1 : Nat) (Option.some Jvm.ClassFile.FieldType.int)]
set_option maxRecDepth 65536 in
theorem codes_eq : words1.filter isCode = codes1 := rfl
theorem w_codes : ∀ c ∈ words1.filter isCode, c.before args0 about1 = true := by
  rw [codes_eq]
  intro c hc
  simp only [codes1, List.mem_cons, List.not_mem_nil, or_false] at hc
  rcases hc with rfl | rfl | rfl | rfl
  · exact w_c0
  · exact w_c1
  · exact w_c2
  · exact w_c3
set_option maxRecDepth 65536 in
theorem w_t1 : (words1.take 24).all (fun c => isCode c || c.before args0 about1) = true := by decide +kernel
set_option maxRecDepth 65536 in
theorem w_t2 : ((words1.drop 24).take 24).all (fun c => isCode c || c.before args0 about1) = true := by decide +kernel
set_option maxRecDepth 65536 in
theorem w_t3 : ((words1.drop 24).drop 24).all (fun c => isCode c || c.before args0 about1) = true := by decide +kernel
theorem w_tables : (allAtoms (Jvm.Cond.code x code maxLocals ret :: tables_1)).before args0 about1 = true := by
  rw [allAtoms_all]
  show words1.all (fun c => c.before args0 about1) = true
  refine all_split ?_ w_codes
  rw [← List.take_append_drop 24 words1, List.all_append, w_t1, ← List.take_append_drop 24 (words1.drop 24), List.all_append, w_t2, w_t3]
  rfl
set_option maxRecDepth 65536 in
theorem w_case : (Jvm.Cond.and given_1 narrow_1).before args0 about1 = true := by decide +kernel
theorem w_applies : (headSpec (Jvm.Cond.code x code maxLocals ret :: tables_1) room_1).applies x e0.platform about1 = true :=
  (Spec.applies_iff w_frames).mpr ⟨w_running, w_runnable, w_alone, w_named, w_hears, w_ripe, w_room, w_tables⟩
theorem atStart : AtStart classFile x code maxLocals ret World_1 tables_1 room_1 Calls_1 rest_1 Pre_1 launch0 p0 e0 about1 theMethod args0 below0 :=
  ⟨lists_1, trivial, launch0.admits_env _ _ _, launch0.least_env, fairChoices_fair.cas, fairChoices_fair.clock, w_frames, w_args, w_heap, w_applies, trivial, trivial, w_case⟩
end start1
theorem witness_1 : WitnessClaimed_1 := ⟨start1.p0, start1.e0, start1.about1, start1.theMethod, start1.args0, start1.below0, start1.atStart⟩
end Jvm.Pilot.@@N@@
