import JvmDerived
import JvmDerived.Pilot.@@N@@Statement
import JvmDerived.Pilot.@@N@@Code
set_option linter.unusedVariables false
set_option linter.unusedSimpArgs false

namespace Jvm.Pilot.@@N@@
open Jvm Jvm.ClassFile Sem Op Lib Jvm.Free Jvm.Stand Jvm.LawKit Jvm.RoadKit Bundle Jvm.Pilot.@@N@@.Jvm.D
def OwnFin (p : Program) (e : Env) (below : List Frame) (Q : Outcome → State → Prop) (T : State) : Prop := ∃ s₂ o, Steps p.tables e below T s₂ ∧ s₂.status = .running ∧ Ended s₂ below o ∧ Q o s₂
theorem OwnFin.step {p : Program} {e : Env} {below : List Frame} {Q : Outcome → State → Prop} {A B : State} (h : ∀ t, Steps p.tables e below A t → Steps p.tables e below B t) (k : OwnFin p e below Q A) : OwnFin p e below Q B := by
  obtain ⟨s₂, o, h1, h2⟩ := k
  exact ⟨s₂, o, h _ h1, h2⟩
theorem own_safe_nil {Z : State} {vm : Vm} {h : Heap} {x : Addr} : Safe Z [] vm h x := fun ⟨_, hp, _⟩ => nomatch hp
theorem own_safe_str {Z : State} {EL : List (String × Nat)} {vm : Vm} {h : Heap} {x : Addr} (hal : Z.vm.Alike vm) (E : Exa Z h x "java/lang/String") (F : Fld Z h x "java/lang/String" "value" "[B" .null) : Safe Z EL vm h x := fun B => by
  obtain ⟨p, -, u, a, -, q, -, G, rfl | rfl⟩ := B
  · obtain ⟨cell, cf, k, i, f, h1, h2, h3, h4, h5, h6, h7⟩ := F
    cases (show h[q.sa]? = some q.sC from G.ha).symm.trans h1
    obtain ⟨cS, ⟨⟨-, -, -, ⟨c1, k1, i1, f1, -⟩, -, -, -, v1, -⟩, -⟩, -⟩ := G
    obtain ⟨k3, e3, -⟩ := State.fieldFound?_setVm (s := Z) hal h2
    have e4 := (show (Wst Z vm h).fieldFound? _ _ _ = _ from e3).symm.trans f1
    simp only [Option.some.injEq, Prod.mk.injEq] at e4
    rw [← e4.2.2.2, h7] at v1
    simp at v1
  · obtain ⟨cell, k, e1, e2, e3, -, -⟩ := E
    cases (show h[q.sd]? = some q.SA from G.hd).symm.trans e1
    obtain ⟨cS, -, -, f, -⟩ := G
    have f : vm.findClass "[B" = some q.SA.cls := f
    rw [hal.findClass] at f
    obtain ⟨k1, q1, q2⟩ := Vm.findClass_spec f
    obtain ⟨k2, q3, q4⟩ := Vm.findClass_spec e2
    cases q1.symm.trans q3
    exact absurd (q2.symm.trans q4) (by decide)
theorem own_fits {C : String} {v : Value} (h : v.isRef = true) : fits (.object C) v = true := by cases v <;> simp_all [Value.isRef, fits]
theorem own_cat {v : Value} (h : v.isRef = true) : v.category = 1 := by cases v <;> simp_all [Value.isRef, Value.category]
theorem own_nonsta {Z : State} {h : Heap} {a : Addr} {C : String} (E : Exa Z h a C) : ∃ cell : Cell, h[a]? = some cell ∧ cell.vm.isStatics = false := by
  obtain ⟨cell, k, h1, -, -, h2, -⟩ := E
  exact ⟨cell, h1, h2⟩
theorem own_sta_keep {Z : State} {h h' : Heap} {ws : List Addr} {C n d : String} {v : Value} (F : Sta Z h C n d v) (K : Keep h h' ws) (q : ∀ x ∈ ws, ∃ cell : Cell, h[x]? = some cell ∧ cell.vm.isStatics = false) : Sta Z h' C n d v := by
  obtain ⟨cf, i, k, f, st, cell, h1, h2, h3, h4, h5, h6, h7⟩ := F
  refine ⟨cf, i, k, f, st, cell, h1, h2, h3, h4, K.2.1 _ _ h5 fun z => ?_, h6, h7⟩
  obtain ⟨c2, e1, e2⟩ := q st z
  rw [h5] at e1
  cases e1
  rw [h6] at e2
  cases e2
theorem own_arr_keep {Z : State} {h h' : Heap} {ws : List Addr} {a : Addr} {c : Cell} {ty : FieldType} (A : Arr Z h a c ty) (K : Keep h h' ws) (q : a ∉ ws) : Arr Z h' a c ty := ⟨K.2.1 a c A.1 q, A.2⟩
section OwnLen
variable {p : Program} {l : Launch} {e : Env} {R : Room} {s : State} {m : MethodId} {args : Array Value} {below : List Frame} {meth : Method} {c : Code} {T : State} {locs : List Loc} {cells slots : Nat} {Z : State} {h : Heap}
theorem own_len (X : Stand p l e R s m args below meth c T locs cells slots) (hx : p.tables.exec = Jvm.exec) (hZ : Z.Warmed39 s.vm) (eT : T.heap = h) {a : Addr} {cl : Cell} {ty : FieldType} (A : Arr Z h a cl ty) {z : Int32} (Sz : cl.slots.size = z.toNatClampNeg) (Ng : ¬ z < 0) {g : JFrame} (hg : g.method = m) {rest : List Value} (hs : g.stack = .ref a :: rest) (hd : decode c.code g.pc = .ok (.arraylength, 1)) {t : State}
    (k : Steps p.tables e below (T.setTop { g with pc := g.pc + 1, stack := .int z :: rest }) t) : Steps p.tables e below (T.setTop g) t := by
  refine X.arraylength hx (by rw [eT]; exact A.1) (State.isArrayOf_alike hZ.alike A.2.1) hg hs hd _ ?_
  rw [len_of Sz Ng]
  exact k
end OwnLen

section OwnStart
variable {args : Array Value} {s : State} {t : Term} {x : Addr}
theorem own_eqI {a : Term} {k : Int32} (h : (Jvm.Cond.eq a (Term.int k)).value args s none s [] = some true) : a.eval args s none [] s = some (.int k) := by
  obtain ⟨v, y, e1, e2, k1, k2⟩ := cmp_v (Or.inl h)
  have e3 : (Term.int k).eval args s none [] s = some (.int k) := Term.int_eval k
  rw [e3] at e2
  cases e2
  obtain ⟨z, rfl⟩ := k2
  simp [Cond.value, e1, e3] at h
  subst h
  exact e1
theorem own_fldI {C n d : String} {k : Int32} (ht : t.eval args s none [] s = some (.ref x)) (h : (Jvm.Cond.eq (Term.field t C n d) (Term.int k)).value args s none s [] = some true) : Fld s s.heap x C n d (.int k) := Fld.start (by rw [← fld_at ht (args := args) (first := s) (o := none) (idx := [])]; exact own_eqI h)
theorem own_neI {a : Term} {z k : Int32} (e1 : a.eval args s none [] s = some (.int z)) (h : (Jvm.Cond.not (Jvm.Cond.eq a (Term.int k))).value args s none s [] = some true) : ¬ z = k := by
  have h2 := not_v h
  have e3 : (Term.int k).eval args s none [] s = some (.int k) := Term.int_eval k
  intro e
  subst e
  simp [Cond.value, e1, e3] at h2
theorem own_eqR {a b : Term} {y : Addr} (hb : b.eval args s none [] s = some (.ref y)) (h : (Jvm.Cond.eq a b).value args s none s [] = some true) : a.eval args s none [] s = some (.ref y) := by
  obtain ⟨v, z, e1, e2, k1, k2⟩ := cmp_v (Or.inl h)
  rw [hb] at e2
  cases e2
  have hv : v.isRef = true := k2.2
  rw [eq_R e1 hb hv rfl] at h
  have := of_decide_eq_true (Option.some.inj h)
  subst this
  exact e1
theorem own_arv {t : Term} {a : Addr} {cl : Cell} {ty : FieldType} {z : Int32} {vs : List Value} {dv : Value} (hf : Fit s) (A : Arr s s.heap a cl ty) (ev : t.eval args s none [] s = some (.ref a)) (hl : (Term.length t).eval args s none [] s = some (.int z)) (hz : ¬ z < 0) (hn : z.toNatClampNeg = vs.length) (H : HasL cl 0 vs) : Arv s s.heap a cl.cls ty z vs dv := by
  obtain ⟨b, cell, h1, h2, h3⟩ := Term.length_spec hl
  cases ev.symm.trans h1
  obtain ⟨hcell, -⟩ := State.arrayAt?_spec h2
  cases A.1.symm.trans hcell
  have hsz : cl.slots.size < 2 ^ 31 := by
    simp only [Term.eval, ev, h2, Option.bind_eq_bind, Option.bind_some] at hl
    by_cases hlt : cl.slots.size < 2147483648
    · exact hlt
    · simp [hlt] at hl
  exact Arv.start hf A hsz (Value.int.inj h3).symm hz hn H
theorem own_elem {t : Term} {a : Addr} {cl : Cell} {ty : FieldType} {j : Int32} {v : Value} (A : Arr s s.heap a cl ty) (ev : t.eval args s none [] s = some (.ref a)) (h : (Term.elem t (Term.int j)).eval args s none [] s = some v) : cl.slots[j.toNatClampNeg]? = some v := (elem_in h ev (Term.int_eval j) A.1).2
end OwnStart

theorem pn_0 : plainName "com/example/collide/collide/verdict/Verdict" = true := by first | (simp [plainName, overriddenIn]; done) | decide +kernel
theorem d_prog_67_method_5_0 : decode prog_67_method_5_code 0 = .ok (.aload_n 0, 1) := by decide +kernel
theorem d_prog_67_method_5_1 : decode prog_67_method_5_code 1 = .ok (.getstatic 19, 3) := by decide +kernel
theorem d_prog_67_method_5_4 : decode prog_67_method_5_code 4 = .ok (.if_acmp .eq 14, 3) := by decide +kernel
theorem d_prog_67_method_5_18 : decode prog_67_method_5_code 18 = .ok (.iconst 0, 1) := by decide +kernel
theorem d_prog_67_method_5_19 : decode prog_67_method_5_code 19 = .ok (.ireturn, 1) := by decide +kernel
theorem d_prog_67_method_5_7 : decode prog_67_method_5_code 7 = .ok (.aload_n 0, 1) := by decide +kernel
theorem d_prog_67_method_5_8 : decode prog_67_method_5_code 8 = .ok (.getstatic 22, 3) := by decide +kernel
theorem d_prog_67_method_5_11 : decode prog_67_method_5_code 11 = .ok (.if_acmp .eq 7, 3) := by decide +kernel
theorem d_prog_67_method_5_14 : decode prog_67_method_5_code 14 = .ok (.iconst 1, 1) := by decide +kernel
theorem d_prog_67_method_5_15 : decode prog_67_method_5_code 15 = .ok (.goto 4, 3) := by decide +kernel
theorem ef_1 (m : MethodId) (a : Addr) : entryFrame m #[(.ref a)] 1 = mkF m 0 #[.val (.ref a)] [] := by first | (simp [entryFrame, mkF, argsToLocals, Value.category]; done) | rfl
def Q1 (Z : State) (a : Addr) (f : Addr) (u : Addr) (h0 : Heap) (n0 : Nat) (vV : Option Value) (hH : Heap) (LL : List Loc) : Prop := vV = some (.int (if a = f ∨ a = u then 0 else 1)) ∧ Fr n0 LL ∧ hH = h0
def R1 (Z : State) (a : Addr) (f : Addr) (u : Addr) (h0 : Heap) (n0 : Nat) (U : State) (o : Outcome) (U' : State) : Prop := ∃ vV LL, o = .returned vV ∧ Q1 Z a f u h0 n0 vV U'.heap LL ∧ FrameEnd U o U' LL ({ frames := 0, cells := 0, slots := 0, locals := 0 } : Room).cells ({ frames := 0, cells := 0, slots := 0, locals := 0 } : Room).slots
set_option maxRecDepth 65536 in
set_option maxHeartbeats 40000000 in
theorem rm1 (l : Launch) (Z : State) (a0 : Array Value) (hw : ∀ d ∈ tables_1, d.before a0 Z = true) (ws : List Jvm.Cond) (a : Addr) (f : Addr) (u : Addr) (h0 : Heap) (n0 : Nat) (Z0 : n0 ≤ h0.size) (hp0 : Sta Z h0 "com/example/collide/collide/verdict/Verdict" "FAILED" "Lcom/example/collide/collide/verdict/Verdict;" (.ref f)) (hp1 : Sta Z h0 "com/example/collide/collide/verdict/Verdict" "UNDECIDED" "Lcom/example/collide/collide/verdict/Verdict;" (.ref u)) :
    MetFree l (⟨"com/example/collide/collide/verdict/Verdict", "isDecided", "()Z"⟩ : MethodName) (head1 (Jvm.Cond.code (⟨"com/example/collide/collide/verdict/Verdict", "isDecided", "()Z"⟩ : MethodName) prog_67_method_5_code 1 (some .boolean) :: ws) ({ frames := 0, cells := 0, slots := 0, locals := 0 } : Room)) (fun aA U => aA = #[(.ref a)] ∧ Z.Warmed39 U.vm ∧ U.heap = h0) (fun _ _ _ _ _ => True) (fun _ U o U' => ∃ vV LL, o = .returned vV ∧ Q1 Z a f u h0 n0 vV U'.heap LL ∧ FrameEnd U o U' LL ({ frames := 0, cells := 0, slots := 0, locals := 0 } : Room).cells ({ frames := 0, cells := 0, slots := 0, locals := 0 } : Room).slots) := by
  refine MetFree.of_bodySF (plainFor_of_name pn_0) hisR ?_
  intro p e s m args below meth cC s₁ Bd hml0 hP hK
  obtain ⟨rfl, hZ, hh⟩ := hP
  have hx := Bd.exec
  have hby := Bd.bytes
  have hml : cC.maxLocals = 1 := hml0
  have hown : s.vm.findClass "com/example/collide/collide/verdict/Verdict" = some m.cls := findClass_of_methodNamed Bd.named
  have hnm := (name_of_methodNamed Bd.named Bd.method).1
  have X0 : Stand p l e ({ frames := 0, cells := 0, slots := 0, locals := 0 } : Room) s m #[(.ref a)] below meth cC s₁ [] 0 0 := Stand.of_body Bd
  have e0 : s₁.heap = h0 := by rw [← hh, Bd.state]; rfl
  have N0 := Fr.nil n0
  show OwnFin p e below (R1 Z a f u h0 n0 s) (s₁.setTop (entryFrame m #[(.ref a)] 1))
  rw [ef_1 m a]
  refine OwnFin.step (fun tT kK => XS.aloadN X0.here hx rfl (hb hby d_prog_67_method_5_0) rfl rfl kK) ?_
  show OwnFin p e below _ (s₁.setTop (mkF m 1 #[.val (.ref a)] [(.ref a)]))
  obtain ⟨T1, X1, e1, st1⟩ := getS2 X0 hx hZ hown (host := "") (Or.inl (hw _ (List.mem_of_getElem? (i := 9) rfl))) Via.refl e0 hp0 (g := (mkF m 1 #[.val (.ref a)] [(.ref a)])) rfl (hb hby d_prog_67_method_5_1)
  refine OwnFin.step st1 ?_
  show OwnFin p e below _ (T1.setTop (mkF m 4 #[.val (.ref a)] [(.ref f), (.ref a)]))
  by_cases hc2 : a = f
  · skip
    refine OwnFin.step (fun tT kK => Jvm.RoadKit.acmp (g := (mkF m 4 #[.val (.ref a)] [(.ref f), (.ref a)])) X1 hx rfl rfl rfl (pc0 := 4) (pc' := 18) (same := true) rfl (hb hby d_prog_67_method_5_4) rfl (decide_eq_true (congrArg Value.ref (hc2 : a = f))) (by decide) (by decide) kK) ?_
    show OwnFin p e below _ (T1.setTop (mkF m 18 #[.val (.ref a)] []))
    refine OwnFin.step (fun tT kK => XS.iconst X1.here hx rfl (hb hby d_prog_67_method_5_18) kK) ?_
    show OwnFin p e below _ (T1.setTop (mkF m 19 #[.val (.ref a)] [(.int (0 : Int32))]))
    obtain ⟨fs3, hr3, hrun3, hended3, hW3, hsame3⟩ := X1.leave (v := (some (.int (0 : Int32)))) (fun h => by rw [Bd.returns] at h; cases h)
    refine ⟨_, _, retN X1 hx (t := .boolean) Bd.returns (by simp) (hb hby d_prog_67_method_5_19) hr3, hrun3, hended3, _, _, rfl, ?_, ⟨_, rfl⟩, hW3, hsame3.mono (by decide) (by decide)⟩
    show Q1 Z a f u h0 n0 _ T1.heap _
    rw [e1]
    exact ⟨(by rw [if_pos (Or.inl hc2)]), N0, rfl⟩
  · skip
    refine OwnFin.step (fun tT kK => Jvm.RoadKit.acmp (g := (mkF m 4 #[.val (.ref a)] [(.ref f), (.ref a)])) X1 hx rfl rfl rfl (pc0 := 4) (pc' := 7) (same := false) rfl (hb hby d_prog_67_method_5_4) rfl (decide_eq_false fun q => (hc2 : ¬ (a = f)) (Value.ref.inj q)) (by decide) (by decide) kK) ?_
    show OwnFin p e below _ (T1.setTop (mkF m 7 #[.val (.ref a)] []))
    refine OwnFin.step (fun tT kK => XS.aloadN X1.here hx rfl (hb hby d_prog_67_method_5_7) rfl rfl kK) ?_
    show OwnFin p e below _ (T1.setTop (mkF m 8 #[.val (.ref a)] [(.ref a)]))
    obtain ⟨T4, X4, e4, st4⟩ := getS2 X1 hx hZ hown (host := "") (Or.inl (hw _ (List.mem_of_getElem? (i := 11) rfl))) Via.refl e1 hp1 (g := (mkF m 8 #[.val (.ref a)] [(.ref a)])) rfl (hb hby d_prog_67_method_5_8)
    refine OwnFin.step st4 ?_
    show OwnFin p e below _ (T4.setTop (mkF m 11 #[.val (.ref a)] [(.ref u), (.ref a)]))
    by_cases hc5 : a = u
    · skip
      refine OwnFin.step (fun tT kK => Jvm.RoadKit.acmp (g := (mkF m 11 #[.val (.ref a)] [(.ref u), (.ref a)])) X4 hx rfl rfl rfl (pc0 := 11) (pc' := 18) (same := true) rfl (hb hby d_prog_67_method_5_11) rfl (decide_eq_true (congrArg Value.ref (hc5 : a = u))) (by decide) (by decide) kK) ?_
      show OwnFin p e below _ (T4.setTop (mkF m 18 #[.val (.ref a)] []))
      refine OwnFin.step (fun tT kK => XS.iconst X4.here hx rfl (hb hby d_prog_67_method_5_18) kK) ?_
      show OwnFin p e below _ (T4.setTop (mkF m 19 #[.val (.ref a)] [(.int (0 : Int32))]))
      obtain ⟨fs6, hr6, hrun6, hended6, hW6, hsame6⟩ := X4.leave (v := (some (.int (0 : Int32)))) (fun h => by rw [Bd.returns] at h; cases h)
      refine ⟨_, _, retN X4 hx (t := .boolean) Bd.returns (by simp) (hb hby d_prog_67_method_5_19) hr6, hrun6, hended6, _, _, rfl, ?_, ⟨_, rfl⟩, hW6, hsame6.mono (by decide) (by decide)⟩
      show Q1 Z a f u h0 n0 _ T4.heap _
      rw [e4]
      exact ⟨(by rw [if_pos (Or.inr hc5)]), N0, rfl⟩
    · skip
      refine OwnFin.step (fun tT kK => Jvm.RoadKit.acmp (g := (mkF m 11 #[.val (.ref a)] [(.ref u), (.ref a)])) X4 hx rfl rfl rfl (pc0 := 11) (pc' := 14) (same := false) rfl (hb hby d_prog_67_method_5_11) rfl (decide_eq_false fun q => (hc5 : ¬ (a = u)) (Value.ref.inj q)) (by decide) (by decide) kK) ?_
      show OwnFin p e below _ (T4.setTop (mkF m 14 #[.val (.ref a)] []))
      refine OwnFin.step (fun tT kK => XS.iconst X4.here hx rfl (hb hby d_prog_67_method_5_14) kK) ?_
      show OwnFin p e below _ (T4.setTop (mkF m 15 #[.val (.ref a)] [(.int (1 : Int32))]))
      refine OwnFin.step (fun tT kK => XS.goto X4.here hx rfl (pc0 := 15) (pc' := 19) rfl (hb hby d_prog_67_method_5_15) (by decide) (by decide) kK) ?_
      show OwnFin p e below _ (T4.setTop (mkF m 19 #[.val (.ref a)] [(.int (1 : Int32))]))
      obtain ⟨fs7, hr7, hrun7, hended7, hW7, hsame7⟩ := X4.leave (v := (some (.int (1 : Int32)))) (fun h => by rw [Bd.returns] at h; cases h)
      refine ⟨_, _, retN X4 hx (t := .boolean) Bd.returns (by simp) (hb hby d_prog_67_method_5_19) hr7, hrun7, hended7, _, _, rfl, ?_, ⟨_, rfl⟩, hW7, hsame7.mono (by decide) (by decide)⟩
      show Q1 Z a f u h0 n0 _ T4.heap _
      rw [e4]
      exact ⟨(by rw [if_neg (fun q => q.elim hc2 hc5)]), N0, rfl⟩
theorem pn_11 : plainName "com/example/collide/collide/verdict/VerdictIsDecidedPinLaw" = true := by first | (simp [plainName, overriddenIn]; done) | decide +kernel
theorem pd_12 : parseMethodDescriptor "()Z" = some ⟨[], some .boolean⟩ := by decide +kernel
theorem ef_0 (m : MethodId) (k : Int32) : entryFrame m #[(.int k)] maxLocals = mkF m 0 #[.val (.int k), .unset, .unset, .unset] [] := by first | (simp [entryFrame, mkF, argsToLocals, Value.category, maxLocals]; done) | rfl
def Q0 (Z : State) (k : Int32) (v0 : Addr) (v1 : Addr) (v2 : Addr) (v3 : Addr) (v4 : Addr) (v5 : Addr) (v6 : Addr) (h0 : Heap) (n0 : Nat) (vV : Option Value) (hH : Heap) (LL : List Loc) : Prop := vV = some (.int (1 : Int32)) ∧ Fr n0 LL ∧ hH = h0
def R0 (Z : State) (k : Int32) (v0 : Addr) (v1 : Addr) (v2 : Addr) (v3 : Addr) (v4 : Addr) (v5 : Addr) (v6 : Addr) (h0 : Heap) (n0 : Nat) (U : State) (o : Outcome) (U' : State) : Prop := ∃ vV LL, o = .returned vV ∧ Q0 Z k v0 v1 v2 v3 v4 v5 v6 h0 n0 vV U'.heap LL ∧ FrameEnd U o U' LL room_1.cells room_1.slots
set_option maxRecDepth 65536 in
set_option maxHeartbeats 40000000 in
theorem rm0 (l : Launch) (Z : State) (a0 : Array Value) (hw : ∀ d ∈ tables_1, d.before a0 Z = true) (ws : List Jvm.Cond) (k : Int32) (v0 : Addr) (v1 : Addr) (v2 : Addr) (v3 : Addr) (v4 : Addr) (v5 : Addr) (v6 : Addr) (h0 : Heap) (n0 : Nat) (Z0 : n0 ≤ h0.size) (hp0 : Sta Z h0 "com/example/collide/collide/verdict/Verdict" "OBSERVED" "Lcom/example/collide/collide/verdict/Verdict;" (.ref v0)) (hp1 : Sta Z h0 "com/example/collide/collide/verdict/Verdict" "PREVENTED_BLOCKED" "Lcom/example/collide/collide/verdict/Verdict;" (.ref v1)) (hp2 : Sta Z h0 "com/example/collide/collide/verdict/Verdict" "PREVENTED_ABORTED" "Lcom/example/collide/collide/verdict/Verdict;" (.ref v2)) (hp3 : Sta Z h0 "com/example/collide/collide/verdict/Verdict" "PREVENTED_SNAPSHOT" "Lcom/example/collide/collide/verdict/Verdict;" (.ref v3)) (hp4 : Sta Z h0 "com/example/collide/collide/verdict/Verdict" "NOT_OBSERVED" "Lcom/example/collide/collide/verdict/Verdict;" (.ref v4)) (hp5 : Sta Z h0 "com/example/collide/collide/verdict/Verdict" "FAILED" "Lcom/example/collide/collide/verdict/Verdict;" (.ref v5)) (hp6 : Sta Z h0 "com/example/collide/collide/verdict/Verdict" "UNDECIDED" "Lcom/example/collide/collide/verdict/Verdict;" (.ref v6)) (hp7 : Exa Z h0 v0 "com/example/collide/collide/verdict/Verdict") (hp8 : Exa Z h0 v1 "com/example/collide/collide/verdict/Verdict") (hp9 : Exa Z h0 v2 "com/example/collide/collide/verdict/Verdict") (hp10 : Exa Z h0 v3 "com/example/collide/collide/verdict/Verdict") (hp11 : Exa Z h0 v4 "com/example/collide/collide/verdict/Verdict") (hp12 : Exa Z h0 v5 "com/example/collide/collide/verdict/Verdict") (hp13 : Exa Z h0 v6 "com/example/collide/collide/verdict/Verdict") (hp14 : v0 ≠ v5) (hp15 : v0 ≠ v6) (hp16 : v1 ≠ v5) (hp17 : v1 ≠ v6) (hp18 : v2 ≠ v5) (hp19 : v2 ≠ v6) (hp20 : v3 ≠ v5) (hp21 : v3 ≠ v6) (hp22 : v4 ≠ v5) (hp23 : v4 ≠ v6) :
    MetFree l x (head1 (Jvm.Cond.code x code maxLocals ret :: ws) room_1) (fun aA U => aA = #[(.int k)] ∧ Z.Warmed39 U.vm ∧ U.heap = h0) (fun _ _ _ _ _ => True) (fun _ U o U' => ∃ vV LL, o = .returned vV ∧ Q0 Z k v0 v1 v2 v3 v4 v5 v6 h0 n0 vV U'.heap LL ∧ FrameEnd U o U' LL room_1.cells room_1.slots) := by
  refine MetFree.of_bodySF (plainFor_of_name pn_11) hisR ?_
  intro p e s m args below meth cC s₁ Bd hml0 hP hK
  obtain ⟨rfl, hZ, hh⟩ := hP
  have hx := Bd.exec
  have hby := Bd.bytes
  have hml : cC.maxLocals = 4 := hml0
  have hown : s.vm.findClass "com/example/collide/collide/verdict/VerdictIsDecidedPinLaw" = some m.cls := findClass_of_methodNamed Bd.named
  have hnm := (name_of_methodNamed Bd.named Bd.method).1
  have X0 : Stand p l e room_1 s m #[(.int k)] below meth cC s₁ [] 0 0 := Stand.of_body Bd
  have e0 : s₁.heap = h0 := by rw [← hh, Bd.state]; rfl
  have N0 := Fr.nil n0
  show OwnFin p e below (R0 Z k v0 v1 v2 v3 v4 v5 v6 h0 n0 s) (s₁.setTop (entryFrame m #[(.int k)] maxLocals))
  rw [ef_0 m k]
  refine OwnFin.step (fun tT kK => XS.iloadN X0.here hx rfl (hb hby at_0) rfl kK) ?_
  show OwnFin p e below _ (s₁.setTop (mkF m 1 #[.val (.int k), .unset, .unset, .unset] [(.int k)]))
  refine OwnFin.step (fun tT kK => X0.ldcI hx hown (mvT hZ (hw _ (List.mem_of_getElem? (i := 0) rfl))) (g := (mkF m 1 #[.val (.int k), .unset, .unset, .unset] [(.int k)])) rfl (hb hby at_1) kK) ?_
  show OwnFin p e below _ (s₁.setTop (mkF m 3 #[.val (.int k), .unset, .unset, .unset] [(.int (2147483647 : Int32)), (.int k)]))
  refine OwnFin.step (fun tT kK => XS.iand X0.here hx rfl (hb hby at_3) rfl kK) ?_
  show OwnFin p e below _ (s₁.setTop (mkF m 4 #[.val (.int k), .unset, .unset, .unset] [(.int (k &&& (2147483647 : Int32)))]))
  refine OwnFin.step (fun tT kK => XS.bipush X0.here hx rfl (hb hby at_4) kK) ?_
  show OwnFin p e below _ (s₁.setTop (mkF m 6 #[.val (.int k), .unset, .unset, .unset] [(.int (7 : Int32)), (.int (k &&& (2147483647 : Int32)))]))
  refine OwnFin.step (fun tT kK => iremM (g := (mkF m 6 #[.val (.int k), .unset, .unset, .unset] [(.int (7 : Int32)), (.int (k &&& (2147483647 : Int32)))])) X0 hx rfl (hb hby at_6) rfl (by decide) kK) ?_
  show OwnFin p e below _ (s₁.setTop (mkF m 7 #[.val (.int k), .unset, .unset, .unset] [(.int ((k &&& (2147483647 : Int32)) % (7 : Int32)))]))
  refine OwnFin.step (fun tT kK => XS.istoreN X0.here hx rfl (hb hby at_7) rfl (l' := #[.val (.int k), .val (.int ((k &&& (2147483647 : Int32)) % (7 : Int32))), .unset, .unset]) rfl kK) ?_
  show OwnFin p e below _ (s₁.setTop (mkF m 8 #[.val (.int k), .val (.int ((k &&& (2147483647 : Int32)) % (7 : Int32))), .unset, .unset] []))
  refine OwnFin.step (fun tT kK => XS.iloadN X0.here hx rfl (hb hby at_8) rfl kK) ?_
  show OwnFin p e below _ (s₁.setTop (mkF m 9 #[.val (.int k), .val (.int ((k &&& (2147483647 : Int32)) % (7 : Int32))), .unset, .unset] [(.int ((k &&& (2147483647 : Int32)) % (7 : Int32)))]))
  by_cases hc1 : ((k &&& (2147483647 : Int32)) % (7 : Int32)) = (0 : Int32)
  · skip
    refine OwnFin.step (fun tT kK => XS.ifNo X0.here hx rfl (hb hby at_9) rfl ((if0 _ _).trans (teq (hc1 : ((k &&& (2147483647 : Int32)) % (7 : Int32)) = (0 : Int32))).2) kK) ?_
    show OwnFin p e below _ (s₁.setTop (mkF m 12 #[.val (.int k), .val (.int ((k &&& (2147483647 : Int32)) % (7 : Int32))), .unset, .unset] []))
    obtain ⟨T2, X2, e2, st2⟩ := getS2 X0 hx hZ hown (host := "") (Or.inl (hw _ (List.mem_of_getElem? (i := 1) rfl))) Via.refl e0 hp0 (g := (mkF m 12 #[.val (.int k), .val (.int ((k &&& (2147483647 : Int32)) % (7 : Int32))), .unset, .unset] [])) rfl (hb hby at_12)
    refine OwnFin.step st2 ?_
    show OwnFin p e below _ (T2.setTop (mkF m 15 #[.val (.int k), .val (.int ((k &&& (2147483647 : Int32)) % (7 : Int32))), .unset, .unset] [(.ref v0)]))
    refine OwnFin.step (fun tT kK => XS.astoreN X2.here hx rfl (hb hby at_15) rfl rfl (l' := #[.val (.int k), .val (.int ((k &&& (2147483647 : Int32)) % (7 : Int32))), .val (.ref v0), .unset]) rfl kK) ?_
    show OwnFin p e below _ (T2.setTop (mkF m 16 #[.val (.int k), .val (.int ((k &&& (2147483647 : Int32)) % (7 : Int32))), .val (.ref v0), .unset] []))
    refine OwnFin.step (fun tT kK => XS.iconst X2.here hx rfl (hb hby at_16) kK) ?_
    show OwnFin p e below _ (T2.setTop (mkF m 17 #[.val (.int k), .val (.int ((k &&& (2147483647 : Int32)) % (7 : Int32))), .val (.ref v0), .unset] [(.int (1 : Int32))]))
    refine OwnFin.step (fun tT kK => XS.istoreN X2.here hx rfl (hb hby at_17) rfl (l' := #[.val (.int k), .val (.int ((k &&& (2147483647 : Int32)) % (7 : Int32))), .val (.ref v0), .val (.int (1 : Int32))]) rfl kK) ?_
    show OwnFin p e below _ (T2.setTop (mkF m 18 #[.val (.int k), .val (.int ((k &&& (2147483647 : Int32)) % (7 : Int32))), .val (.ref v0), .val (.int (1 : Int32))] []))
    refine OwnFin.step (fun tT kK => XS.goto X2.here hx rfl (pc0 := 18) (pc' := 97) rfl (hb hby at_18) (by decide) (by decide) kK) ?_
    show OwnFin p e below _ (T2.setTop (mkF m 97 #[.val (.int k), .val (.int ((k &&& (2147483647 : Int32)) % (7 : Int32))), .val (.ref v0), .val (.int (1 : Int32))] []))
    refine OwnFin.step (fun tT kK => XS.aloadN X2.here hx rfl (hb hby at_97) rfl rfl kK) ?_
    show OwnFin p e below _ (T2.setTop (mkF m 98 #[.val (.int k), .val (.int ((k &&& (2147483647 : Int32)) % (7 : Int32))), .val (.ref v0), .val (.int (1 : Int32))] [(.ref v0)]))
    obtain ⟨cq3, kq3, q3a, q3b, q3c⟩ := isOf hZ e2 hp7
    obtain ⟨_, _, ⟨T3, L3, k3, n3⟩, -, X3, ⟨Lc3, hQ3, l3, y3, z3⟩, st3⟩ := X2.virtualBack hx (y := (⟨"com/example/collide/collide/verdict/Verdict", "isDecided", "()Z"⟩ : MethodName)) (z := (⟨"com/example/collide/collide/verdict/Verdict", "isDecided", "()Z"⟩ : MethodName)) hown (mvT hZ (hw _ (List.mem_of_getElem? (i := 4) rfl))) (mvT hZ (hw _ (List.mem_of_getElem? (i := 5) rfl))) (notFace_of_selects (args := #[]) (mvT hZ (hw _ (List.mem_of_getElem? (i := 7) rfl)))) (mvT hZ (hw _ (List.mem_of_getElem? (i := 7) rfl))) (mvT hZ (hw _ (List.mem_of_getElem? (i := 6) rfl))) (by decide) (backOf (W := 0) (rm1 l Z a0 hw [] v0 v5 v6 h0 n0 Z0 hp5 hp6) hZ (hw _ (List.mem_of_getElem? (i := 8) rfl)) (hw _ (List.mem_of_getElem? (i := 2) rfl)) (by decide) (by decide)) q3a q3c (g := (mkF m 98 #[.val (.int k), .val (.int ((k &&& (2147483647 : Int32)) % (7 : Int32))), .val (.ref v0), .val (.int (1 : Int32))] [(.ref v0)])) rfl (by rw [hml]; rfl) (Steps.refl _) (argsL := []) (rest := []) (lenOf pd_12 rfl) rfl (by show 2 * 0 + _ ≤ _; exact Nat.le_of_eq rfl) (hb hby at_98) (fun _ _ => ⟨rfl, e2, (by decide : 0 + 0 ≤ _), (by decide : 0 + 0 ≤ _)⟩)
    dsimp only [Pt.U, Pt.locs, Pt.cells, Pt.slots] at X3 l3 y3 z3 st3 hQ3
    subst l3 y3 z3
    obtain ⟨rfl, N3q, e3⟩ := hQ3
    have N3 := Fr.app N0 N3q
    refine OwnFin.step (fun tT kK => st3.trans kK) ?_
    show OwnFin p e below _ (T3.setTop (mkF m 101 #[.val (.int k), .val (.int ((k &&& (2147483647 : Int32)) % (7 : Int32))), .val (.ref v0), .val (.int (1 : Int32))] [(.int (if v0 = v5 ∨ v0 = v6 then 0 else 1))]))
    have hv4 : (if v0 = v5 ∨ v0 = v6 then (0 : Int32) else 1) = 1 := if_neg (fun q => q.elim hp14 hp15)
    rw [hv4]
    show OwnFin p e below _ (T3.setTop (mkF m 101 #[.val (.int k), .val (.int ((k &&& (2147483647 : Int32)) % (7 : Int32))), .val (.ref v0), .val (.int (1 : Int32))] [(.int (1 : Int32))]))
    refine OwnFin.step (fun tT kK => XS.iloadN X3.here hx rfl (hb hby at_101) rfl kK) ?_
    show OwnFin p e below _ (T3.setTop (mkF m 102 #[.val (.int k), .val (.int ((k &&& (2147483647 : Int32)) % (7 : Int32))), .val (.ref v0), .val (.int (1 : Int32))] [(.int (1 : Int32)), (.int (1 : Int32))]))
    refine OwnFin.step (fun tT kK => XS.icmpNo X3.here hx rfl (hb hby at_102) rfl (teq (rfl : (1 : Int32) = (1 : Int32))).2 kK) ?_
    show OwnFin p e below _ (T3.setTop (mkF m 105 #[.val (.int k), .val (.int ((k &&& (2147483647 : Int32)) % (7 : Int32))), .val (.ref v0), .val (.int (1 : Int32))] []))
    refine OwnFin.step (fun tT kK => XS.iconst X3.here hx rfl (hb hby at_105) kK) ?_
    show OwnFin p e below _ (T3.setTop (mkF m 106 #[.val (.int k), .val (.int ((k &&& (2147483647 : Int32)) % (7 : Int32))), .val (.ref v0), .val (.int (1 : Int32))] [(.int (1 : Int32))]))
    refine OwnFin.step (fun tT kK => XS.goto X3.here hx rfl (pc0 := 106) (pc' := 110) rfl (hb hby at_106) (by decide) (by decide) kK) ?_
    show OwnFin p e below _ (T3.setTop (mkF m 110 #[.val (.int k), .val (.int ((k &&& (2147483647 : Int32)) % (7 : Int32))), .val (.ref v0), .val (.int (1 : Int32))] [(.int (1 : Int32))]))
    obtain ⟨fs5, hr5, hrun5, hended5, hW5, hsame5⟩ := X3.leave (v := (some (.int (1 : Int32)))) (fun h => by rw [Bd.returns] at h; cases h)
    refine ⟨_, _, retN X3 hx (t := .boolean) Bd.returns (by simp) (hb hby at_110) hr5, hrun5, hended5, _, _, rfl, ?_, ⟨_, rfl⟩, hW5, hsame5.mono (by decide) (by decide)⟩
    show Q0 Z k v0 v1 v2 v3 v4 v5 v6 h0 n0 _ T3.heap _
    rw [e3]
    exact ⟨rfl, N3, rfl⟩
  · skip
    refine OwnFin.step (fun tT kK => XS.ifYes X0.here hx rfl (pc0 := 9) (pc' := 21) rfl (hb hby at_9) rfl ((if0 _ _).trans (feq (hc1 : ¬ (((k &&& (2147483647 : Int32)) % (7 : Int32)) = (0 : Int32)))).2) (by decide) (by decide) kK) ?_
    show OwnFin p e below _ (s₁.setTop (mkF m 21 #[.val (.int k), .val (.int ((k &&& (2147483647 : Int32)) % (7 : Int32))), .unset, .unset] []))
    refine OwnFin.step (fun tT kK => XS.iloadN X0.here hx rfl (hb hby at_21) rfl kK) ?_
    show OwnFin p e below _ (s₁.setTop (mkF m 22 #[.val (.int k), .val (.int ((k &&& (2147483647 : Int32)) % (7 : Int32))), .unset, .unset] [(.int ((k &&& (2147483647 : Int32)) % (7 : Int32)))]))
    refine OwnFin.step (fun tT kK => XS.iconst X0.here hx rfl (hb hby at_22) kK) ?_
    show OwnFin p e below _ (s₁.setTop (mkF m 23 #[.val (.int k), .val (.int ((k &&& (2147483647 : Int32)) % (7 : Int32))), .unset, .unset] [(.int (1 : Int32)), (.int ((k &&& (2147483647 : Int32)) % (7 : Int32)))]))
    by_cases hc6 : ((k &&& (2147483647 : Int32)) % (7 : Int32)) = (1 : Int32)
    · skip
      refine OwnFin.step (fun tT kK => XS.icmpNo X0.here hx rfl (hb hby at_23) rfl (teq (hc6 : ((k &&& (2147483647 : Int32)) % (7 : Int32)) = (1 : Int32))).2 kK) ?_
      show OwnFin p e below _ (s₁.setTop (mkF m 26 #[.val (.int k), .val (.int ((k &&& (2147483647 : Int32)) % (7 : Int32))), .unset, .unset] []))
      obtain ⟨T7, X7, e7, st7⟩ := getS2 X0 hx hZ hown (host := "") (Or.inl (hw _ (List.mem_of_getElem? (i := 21) rfl))) Via.refl e0 hp1 (g := (mkF m 26 #[.val (.int k), .val (.int ((k &&& (2147483647 : Int32)) % (7 : Int32))), .unset, .unset] [])) rfl (hb hby at_26)
      refine OwnFin.step st7 ?_
      show OwnFin p e below _ (T7.setTop (mkF m 29 #[.val (.int k), .val (.int ((k &&& (2147483647 : Int32)) % (7 : Int32))), .unset, .unset] [(.ref v1)]))
      refine OwnFin.step (fun tT kK => XS.astoreN X7.here hx rfl (hb hby at_29) rfl rfl (l' := #[.val (.int k), .val (.int ((k &&& (2147483647 : Int32)) % (7 : Int32))), .val (.ref v1), .unset]) rfl kK) ?_
      show OwnFin p e below _ (T7.setTop (mkF m 30 #[.val (.int k), .val (.int ((k &&& (2147483647 : Int32)) % (7 : Int32))), .val (.ref v1), .unset] []))
      refine OwnFin.step (fun tT kK => XS.iconst X7.here hx rfl (hb hby at_30) kK) ?_
      show OwnFin p e below _ (T7.setTop (mkF m 31 #[.val (.int k), .val (.int ((k &&& (2147483647 : Int32)) % (7 : Int32))), .val (.ref v1), .unset] [(.int (1 : Int32))]))
      refine OwnFin.step (fun tT kK => XS.istoreN X7.here hx rfl (hb hby at_31) rfl (l' := #[.val (.int k), .val (.int ((k &&& (2147483647 : Int32)) % (7 : Int32))), .val (.ref v1), .val (.int (1 : Int32))]) rfl kK) ?_
      show OwnFin p e below _ (T7.setTop (mkF m 32 #[.val (.int k), .val (.int ((k &&& (2147483647 : Int32)) % (7 : Int32))), .val (.ref v1), .val (.int (1 : Int32))] []))
      refine OwnFin.step (fun tT kK => XS.goto X7.here hx rfl (pc0 := 32) (pc' := 97) rfl (hb hby at_32) (by decide) (by decide) kK) ?_
      show OwnFin p e below _ (T7.setTop (mkF m 97 #[.val (.int k), .val (.int ((k &&& (2147483647 : Int32)) % (7 : Int32))), .val (.ref v1), .val (.int (1 : Int32))] []))
      refine OwnFin.step (fun tT kK => XS.aloadN X7.here hx rfl (hb hby at_97) rfl rfl kK) ?_
      show OwnFin p e below _ (T7.setTop (mkF m 98 #[.val (.int k), .val (.int ((k &&& (2147483647 : Int32)) % (7 : Int32))), .val (.ref v1), .val (.int (1 : Int32))] [(.ref v1)]))
      obtain ⟨cq8, kq8, q8a, q8b, q8c⟩ := isOf hZ e7 hp8
      obtain ⟨_, _, ⟨T8, L8, k8, n8⟩, -, X8, ⟨Lc8, hQ8, l8, y8, z8⟩, st8⟩ := X7.virtualBack hx (y := (⟨"com/example/collide/collide/verdict/Verdict", "isDecided", "()Z"⟩ : MethodName)) (z := (⟨"com/example/collide/collide/verdict/Verdict", "isDecided", "()Z"⟩ : MethodName)) hown (mvT hZ (hw _ (List.mem_of_getElem? (i := 4) rfl))) (mvT hZ (hw _ (List.mem_of_getElem? (i := 5) rfl))) (notFace_of_selects (args := #[]) (mvT hZ (hw _ (List.mem_of_getElem? (i := 7) rfl)))) (mvT hZ (hw _ (List.mem_of_getElem? (i := 7) rfl))) (mvT hZ (hw _ (List.mem_of_getElem? (i := 6) rfl))) (by decide) (backOf (W := 0) (rm1 l Z a0 hw [] v1 v5 v6 h0 n0 Z0 hp5 hp6) hZ (hw _ (List.mem_of_getElem? (i := 8) rfl)) (hw _ (List.mem_of_getElem? (i := 2) rfl)) (by decide) (by decide)) q8a q8c (g := (mkF m 98 #[.val (.int k), .val (.int ((k &&& (2147483647 : Int32)) % (7 : Int32))), .val (.ref v1), .val (.int (1 : Int32))] [(.ref v1)])) rfl (by rw [hml]; rfl) (Steps.refl _) (argsL := []) (rest := []) (lenOf pd_12 rfl) rfl (by show 2 * 0 + _ ≤ _; exact Nat.le_of_eq rfl) (hb hby at_98) (fun _ _ => ⟨rfl, e7, (by decide : 0 + 0 ≤ _), (by decide : 0 + 0 ≤ _)⟩)
      dsimp only [Pt.U, Pt.locs, Pt.cells, Pt.slots] at X8 l8 y8 z8 st8 hQ8
      subst l8 y8 z8
      obtain ⟨rfl, N8q, e8⟩ := hQ8
      have N8 := Fr.app N0 N8q
      refine OwnFin.step (fun tT kK => st8.trans kK) ?_
      show OwnFin p e below _ (T8.setTop (mkF m 101 #[.val (.int k), .val (.int ((k &&& (2147483647 : Int32)) % (7 : Int32))), .val (.ref v1), .val (.int (1 : Int32))] [(.int (if v1 = v5 ∨ v1 = v6 then 0 else 1))]))
      have hv9 : (if v1 = v5 ∨ v1 = v6 then (0 : Int32) else 1) = 1 := if_neg (fun q => q.elim hp16 hp17)
      rw [hv9]
      show OwnFin p e below _ (T8.setTop (mkF m 101 #[.val (.int k), .val (.int ((k &&& (2147483647 : Int32)) % (7 : Int32))), .val (.ref v1), .val (.int (1 : Int32))] [(.int (1 : Int32))]))
      refine OwnFin.step (fun tT kK => XS.iloadN X8.here hx rfl (hb hby at_101) rfl kK) ?_
      show OwnFin p e below _ (T8.setTop (mkF m 102 #[.val (.int k), .val (.int ((k &&& (2147483647 : Int32)) % (7 : Int32))), .val (.ref v1), .val (.int (1 : Int32))] [(.int (1 : Int32)), (.int (1 : Int32))]))
      refine OwnFin.step (fun tT kK => XS.icmpNo X8.here hx rfl (hb hby at_102) rfl (teq (rfl : (1 : Int32) = (1 : Int32))).2 kK) ?_
      show OwnFin p e below _ (T8.setTop (mkF m 105 #[.val (.int k), .val (.int ((k &&& (2147483647 : Int32)) % (7 : Int32))), .val (.ref v1), .val (.int (1 : Int32))] []))
      refine OwnFin.step (fun tT kK => XS.iconst X8.here hx rfl (hb hby at_105) kK) ?_
      show OwnFin p e below _ (T8.setTop (mkF m 106 #[.val (.int k), .val (.int ((k &&& (2147483647 : Int32)) % (7 : Int32))), .val (.ref v1), .val (.int (1 : Int32))] [(.int (1 : Int32))]))
      refine OwnFin.step (fun tT kK => XS.goto X8.here hx rfl (pc0 := 106) (pc' := 110) rfl (hb hby at_106) (by decide) (by decide) kK) ?_
      show OwnFin p e below _ (T8.setTop (mkF m 110 #[.val (.int k), .val (.int ((k &&& (2147483647 : Int32)) % (7 : Int32))), .val (.ref v1), .val (.int (1 : Int32))] [(.int (1 : Int32))]))
      obtain ⟨fs10, hr10, hrun10, hended10, hW10, hsame10⟩ := X8.leave (v := (some (.int (1 : Int32)))) (fun h => by rw [Bd.returns] at h; cases h)
      refine ⟨_, _, retN X8 hx (t := .boolean) Bd.returns (by simp) (hb hby at_110) hr10, hrun10, hended10, _, _, rfl, ?_, ⟨_, rfl⟩, hW10, hsame10.mono (by decide) (by decide)⟩
      show Q0 Z k v0 v1 v2 v3 v4 v5 v6 h0 n0 _ T8.heap _
      rw [e8]
      exact ⟨rfl, N8, rfl⟩
    · skip
      refine OwnFin.step (fun tT kK => XS.icmpYes X0.here hx rfl (pc0 := 23) (pc' := 35) rfl (hb hby at_23) rfl (feq (hc6 : ¬ (((k &&& (2147483647 : Int32)) % (7 : Int32)) = (1 : Int32)))).2 (by decide) (by decide) kK) ?_
      show OwnFin p e below _ (s₁.setTop (mkF m 35 #[.val (.int k), .val (.int ((k &&& (2147483647 : Int32)) % (7 : Int32))), .unset, .unset] []))
      refine OwnFin.step (fun tT kK => XS.iloadN X0.here hx rfl (hb hby at_35) rfl kK) ?_
      show OwnFin p e below _ (s₁.setTop (mkF m 36 #[.val (.int k), .val (.int ((k &&& (2147483647 : Int32)) % (7 : Int32))), .unset, .unset] [(.int ((k &&& (2147483647 : Int32)) % (7 : Int32)))]))
      refine OwnFin.step (fun tT kK => XS.iconst X0.here hx rfl (hb hby at_36) kK) ?_
      show OwnFin p e below _ (s₁.setTop (mkF m 37 #[.val (.int k), .val (.int ((k &&& (2147483647 : Int32)) % (7 : Int32))), .unset, .unset] [(.int (2 : Int32)), (.int ((k &&& (2147483647 : Int32)) % (7 : Int32)))]))
      by_cases hc11 : ((k &&& (2147483647 : Int32)) % (7 : Int32)) = (2 : Int32)
      · skip
        refine OwnFin.step (fun tT kK => XS.icmpNo X0.here hx rfl (hb hby at_37) rfl (teq (hc11 : ((k &&& (2147483647 : Int32)) % (7 : Int32)) = (2 : Int32))).2 kK) ?_
        show OwnFin p e below _ (s₁.setTop (mkF m 40 #[.val (.int k), .val (.int ((k &&& (2147483647 : Int32)) % (7 : Int32))), .unset, .unset] []))
        obtain ⟨T12, X12, e12, st12⟩ := getS2 X0 hx hZ hown (host := "") (Or.inl (hw _ (List.mem_of_getElem? (i := 19) rfl))) Via.refl e0 hp2 (g := (mkF m 40 #[.val (.int k), .val (.int ((k &&& (2147483647 : Int32)) % (7 : Int32))), .unset, .unset] [])) rfl (hb hby at_40)
        refine OwnFin.step st12 ?_
        show OwnFin p e below _ (T12.setTop (mkF m 43 #[.val (.int k), .val (.int ((k &&& (2147483647 : Int32)) % (7 : Int32))), .unset, .unset] [(.ref v2)]))
        refine OwnFin.step (fun tT kK => XS.astoreN X12.here hx rfl (hb hby at_43) rfl rfl (l' := #[.val (.int k), .val (.int ((k &&& (2147483647 : Int32)) % (7 : Int32))), .val (.ref v2), .unset]) rfl kK) ?_
        show OwnFin p e below _ (T12.setTop (mkF m 44 #[.val (.int k), .val (.int ((k &&& (2147483647 : Int32)) % (7 : Int32))), .val (.ref v2), .unset] []))
        refine OwnFin.step (fun tT kK => XS.iconst X12.here hx rfl (hb hby at_44) kK) ?_
        show OwnFin p e below _ (T12.setTop (mkF m 45 #[.val (.int k), .val (.int ((k &&& (2147483647 : Int32)) % (7 : Int32))), .val (.ref v2), .unset] [(.int (1 : Int32))]))
        refine OwnFin.step (fun tT kK => XS.istoreN X12.here hx rfl (hb hby at_45) rfl (l' := #[.val (.int k), .val (.int ((k &&& (2147483647 : Int32)) % (7 : Int32))), .val (.ref v2), .val (.int (1 : Int32))]) rfl kK) ?_
        show OwnFin p e below _ (T12.setTop (mkF m 46 #[.val (.int k), .val (.int ((k &&& (2147483647 : Int32)) % (7 : Int32))), .val (.ref v2), .val (.int (1 : Int32))] []))
        refine OwnFin.step (fun tT kK => XS.goto X12.here hx rfl (pc0 := 46) (pc' := 97) rfl (hb hby at_46) (by decide) (by decide) kK) ?_
        show OwnFin p e below _ (T12.setTop (mkF m 97 #[.val (.int k), .val (.int ((k &&& (2147483647 : Int32)) % (7 : Int32))), .val (.ref v2), .val (.int (1 : Int32))] []))
        refine OwnFin.step (fun tT kK => XS.aloadN X12.here hx rfl (hb hby at_97) rfl rfl kK) ?_
        show OwnFin p e below _ (T12.setTop (mkF m 98 #[.val (.int k), .val (.int ((k &&& (2147483647 : Int32)) % (7 : Int32))), .val (.ref v2), .val (.int (1 : Int32))] [(.ref v2)]))
        obtain ⟨cq13, kq13, q13a, q13b, q13c⟩ := isOf hZ e12 hp9
        obtain ⟨_, _, ⟨T13, L13, k13, n13⟩, -, X13, ⟨Lc13, hQ13, l13, y13, z13⟩, st13⟩ := X12.virtualBack hx (y := (⟨"com/example/collide/collide/verdict/Verdict", "isDecided", "()Z"⟩ : MethodName)) (z := (⟨"com/example/collide/collide/verdict/Verdict", "isDecided", "()Z"⟩ : MethodName)) hown (mvT hZ (hw _ (List.mem_of_getElem? (i := 4) rfl))) (mvT hZ (hw _ (List.mem_of_getElem? (i := 5) rfl))) (notFace_of_selects (args := #[]) (mvT hZ (hw _ (List.mem_of_getElem? (i := 7) rfl)))) (mvT hZ (hw _ (List.mem_of_getElem? (i := 7) rfl))) (mvT hZ (hw _ (List.mem_of_getElem? (i := 6) rfl))) (by decide) (backOf (W := 0) (rm1 l Z a0 hw [] v2 v5 v6 h0 n0 Z0 hp5 hp6) hZ (hw _ (List.mem_of_getElem? (i := 8) rfl)) (hw _ (List.mem_of_getElem? (i := 2) rfl)) (by decide) (by decide)) q13a q13c (g := (mkF m 98 #[.val (.int k), .val (.int ((k &&& (2147483647 : Int32)) % (7 : Int32))), .val (.ref v2), .val (.int (1 : Int32))] [(.ref v2)])) rfl (by rw [hml]; rfl) (Steps.refl _) (argsL := []) (rest := []) (lenOf pd_12 rfl) rfl (by show 2 * 0 + _ ≤ _; exact Nat.le_of_eq rfl) (hb hby at_98) (fun _ _ => ⟨rfl, e12, (by decide : 0 + 0 ≤ _), (by decide : 0 + 0 ≤ _)⟩)
        dsimp only [Pt.U, Pt.locs, Pt.cells, Pt.slots] at X13 l13 y13 z13 st13 hQ13
        subst l13 y13 z13
        obtain ⟨rfl, N13q, e13⟩ := hQ13
        have N13 := Fr.app N0 N13q
        refine OwnFin.step (fun tT kK => st13.trans kK) ?_
        show OwnFin p e below _ (T13.setTop (mkF m 101 #[.val (.int k), .val (.int ((k &&& (2147483647 : Int32)) % (7 : Int32))), .val (.ref v2), .val (.int (1 : Int32))] [(.int (if v2 = v5 ∨ v2 = v6 then 0 else 1))]))
        have hv14 : (if v2 = v5 ∨ v2 = v6 then (0 : Int32) else 1) = 1 := if_neg (fun q => q.elim hp18 hp19)
        rw [hv14]
        show OwnFin p e below _ (T13.setTop (mkF m 101 #[.val (.int k), .val (.int ((k &&& (2147483647 : Int32)) % (7 : Int32))), .val (.ref v2), .val (.int (1 : Int32))] [(.int (1 : Int32))]))
        refine OwnFin.step (fun tT kK => XS.iloadN X13.here hx rfl (hb hby at_101) rfl kK) ?_
        show OwnFin p e below _ (T13.setTop (mkF m 102 #[.val (.int k), .val (.int ((k &&& (2147483647 : Int32)) % (7 : Int32))), .val (.ref v2), .val (.int (1 : Int32))] [(.int (1 : Int32)), (.int (1 : Int32))]))
        refine OwnFin.step (fun tT kK => XS.icmpNo X13.here hx rfl (hb hby at_102) rfl (teq (rfl : (1 : Int32) = (1 : Int32))).2 kK) ?_
        show OwnFin p e below _ (T13.setTop (mkF m 105 #[.val (.int k), .val (.int ((k &&& (2147483647 : Int32)) % (7 : Int32))), .val (.ref v2), .val (.int (1 : Int32))] []))
        refine OwnFin.step (fun tT kK => XS.iconst X13.here hx rfl (hb hby at_105) kK) ?_
        show OwnFin p e below _ (T13.setTop (mkF m 106 #[.val (.int k), .val (.int ((k &&& (2147483647 : Int32)) % (7 : Int32))), .val (.ref v2), .val (.int (1 : Int32))] [(.int (1 : Int32))]))
        refine OwnFin.step (fun tT kK => XS.goto X13.here hx rfl (pc0 := 106) (pc' := 110) rfl (hb hby at_106) (by decide) (by decide) kK) ?_
        show OwnFin p e below _ (T13.setTop (mkF m 110 #[.val (.int k), .val (.int ((k &&& (2147483647 : Int32)) % (7 : Int32))), .val (.ref v2), .val (.int (1 : Int32))] [(.int (1 : Int32))]))
        obtain ⟨fs15, hr15, hrun15, hended15, hW15, hsame15⟩ := X13.leave (v := (some (.int (1 : Int32)))) (fun h => by rw [Bd.returns] at h; cases h)
        refine ⟨_, _, retN X13 hx (t := .boolean) Bd.returns (by simp) (hb hby at_110) hr15, hrun15, hended15, _, _, rfl, ?_, ⟨_, rfl⟩, hW15, hsame15.mono (by decide) (by decide)⟩
        show Q0 Z k v0 v1 v2 v3 v4 v5 v6 h0 n0 _ T13.heap _
        rw [e13]
        exact ⟨rfl, N13, rfl⟩
      · skip
        refine OwnFin.step (fun tT kK => XS.icmpYes X0.here hx rfl (pc0 := 37) (pc' := 49) rfl (hb hby at_37) rfl (feq (hc11 : ¬ (((k &&& (2147483647 : Int32)) % (7 : Int32)) = (2 : Int32)))).2 (by decide) (by decide) kK) ?_
        show OwnFin p e below _ (s₁.setTop (mkF m 49 #[.val (.int k), .val (.int ((k &&& (2147483647 : Int32)) % (7 : Int32))), .unset, .unset] []))
        refine OwnFin.step (fun tT kK => XS.iloadN X0.here hx rfl (hb hby at_49) rfl kK) ?_
        show OwnFin p e below _ (s₁.setTop (mkF m 50 #[.val (.int k), .val (.int ((k &&& (2147483647 : Int32)) % (7 : Int32))), .unset, .unset] [(.int ((k &&& (2147483647 : Int32)) % (7 : Int32)))]))
        refine OwnFin.step (fun tT kK => XS.iconst X0.here hx rfl (hb hby at_50) kK) ?_
        show OwnFin p e below _ (s₁.setTop (mkF m 51 #[.val (.int k), .val (.int ((k &&& (2147483647 : Int32)) % (7 : Int32))), .unset, .unset] [(.int (3 : Int32)), (.int ((k &&& (2147483647 : Int32)) % (7 : Int32)))]))
        by_cases hc16 : ((k &&& (2147483647 : Int32)) % (7 : Int32)) = (3 : Int32)
        · skip
          refine OwnFin.step (fun tT kK => XS.icmpNo X0.here hx rfl (hb hby at_51) rfl (teq (hc16 : ((k &&& (2147483647 : Int32)) % (7 : Int32)) = (3 : Int32))).2 kK) ?_
          show OwnFin p e below _ (s₁.setTop (mkF m 54 #[.val (.int k), .val (.int ((k &&& (2147483647 : Int32)) % (7 : Int32))), .unset, .unset] []))
          obtain ⟨T17, X17, e17, st17⟩ := getS2 X0 hx hZ hown (host := "") (Or.inl (hw _ (List.mem_of_getElem? (i := 13) rfl))) Via.refl e0 hp3 (g := (mkF m 54 #[.val (.int k), .val (.int ((k &&& (2147483647 : Int32)) % (7 : Int32))), .unset, .unset] [])) rfl (hb hby at_54)
          refine OwnFin.step st17 ?_
          show OwnFin p e below _ (T17.setTop (mkF m 57 #[.val (.int k), .val (.int ((k &&& (2147483647 : Int32)) % (7 : Int32))), .unset, .unset] [(.ref v3)]))
          refine OwnFin.step (fun tT kK => XS.astoreN X17.here hx rfl (hb hby at_57) rfl rfl (l' := #[.val (.int k), .val (.int ((k &&& (2147483647 : Int32)) % (7 : Int32))), .val (.ref v3), .unset]) rfl kK) ?_
          show OwnFin p e below _ (T17.setTop (mkF m 58 #[.val (.int k), .val (.int ((k &&& (2147483647 : Int32)) % (7 : Int32))), .val (.ref v3), .unset] []))
          refine OwnFin.step (fun tT kK => XS.iconst X17.here hx rfl (hb hby at_58) kK) ?_
          show OwnFin p e below _ (T17.setTop (mkF m 59 #[.val (.int k), .val (.int ((k &&& (2147483647 : Int32)) % (7 : Int32))), .val (.ref v3), .unset] [(.int (1 : Int32))]))
          refine OwnFin.step (fun tT kK => XS.istoreN X17.here hx rfl (hb hby at_59) rfl (l' := #[.val (.int k), .val (.int ((k &&& (2147483647 : Int32)) % (7 : Int32))), .val (.ref v3), .val (.int (1 : Int32))]) rfl kK) ?_
          show OwnFin p e below _ (T17.setTop (mkF m 60 #[.val (.int k), .val (.int ((k &&& (2147483647 : Int32)) % (7 : Int32))), .val (.ref v3), .val (.int (1 : Int32))] []))
          refine OwnFin.step (fun tT kK => XS.goto X17.here hx rfl (pc0 := 60) (pc' := 97) rfl (hb hby at_60) (by decide) (by decide) kK) ?_
          show OwnFin p e below _ (T17.setTop (mkF m 97 #[.val (.int k), .val (.int ((k &&& (2147483647 : Int32)) % (7 : Int32))), .val (.ref v3), .val (.int (1 : Int32))] []))
          refine OwnFin.step (fun tT kK => XS.aloadN X17.here hx rfl (hb hby at_97) rfl rfl kK) ?_
          show OwnFin p e below _ (T17.setTop (mkF m 98 #[.val (.int k), .val (.int ((k &&& (2147483647 : Int32)) % (7 : Int32))), .val (.ref v3), .val (.int (1 : Int32))] [(.ref v3)]))
          obtain ⟨cq18, kq18, q18a, q18b, q18c⟩ := isOf hZ e17 hp10
          obtain ⟨_, _, ⟨T18, L18, k18, n18⟩, -, X18, ⟨Lc18, hQ18, l18, y18, z18⟩, st18⟩ := X17.virtualBack hx (y := (⟨"com/example/collide/collide/verdict/Verdict", "isDecided", "()Z"⟩ : MethodName)) (z := (⟨"com/example/collide/collide/verdict/Verdict", "isDecided", "()Z"⟩ : MethodName)) hown (mvT hZ (hw _ (List.mem_of_getElem? (i := 4) rfl))) (mvT hZ (hw _ (List.mem_of_getElem? (i := 5) rfl))) (notFace_of_selects (args := #[]) (mvT hZ (hw _ (List.mem_of_getElem? (i := 7) rfl)))) (mvT hZ (hw _ (List.mem_of_getElem? (i := 7) rfl))) (mvT hZ (hw _ (List.mem_of_getElem? (i := 6) rfl))) (by decide) (backOf (W := 0) (rm1 l Z a0 hw [] v3 v5 v6 h0 n0 Z0 hp5 hp6) hZ (hw _ (List.mem_of_getElem? (i := 8) rfl)) (hw _ (List.mem_of_getElem? (i := 2) rfl)) (by decide) (by decide)) q18a q18c (g := (mkF m 98 #[.val (.int k), .val (.int ((k &&& (2147483647 : Int32)) % (7 : Int32))), .val (.ref v3), .val (.int (1 : Int32))] [(.ref v3)])) rfl (by rw [hml]; rfl) (Steps.refl _) (argsL := []) (rest := []) (lenOf pd_12 rfl) rfl (by show 2 * 0 + _ ≤ _; exact Nat.le_of_eq rfl) (hb hby at_98) (fun _ _ => ⟨rfl, e17, (by decide : 0 + 0 ≤ _), (by decide : 0 + 0 ≤ _)⟩)
          dsimp only [Pt.U, Pt.locs, Pt.cells, Pt.slots] at X18 l18 y18 z18 st18 hQ18
          subst l18 y18 z18
          obtain ⟨rfl, N18q, e18⟩ := hQ18
          have N18 := Fr.app N0 N18q
          refine OwnFin.step (fun tT kK => st18.trans kK) ?_
          show OwnFin p e below _ (T18.setTop (mkF m 101 #[.val (.int k), .val (.int ((k &&& (2147483647 : Int32)) % (7 : Int32))), .val (.ref v3), .val (.int (1 : Int32))] [(.int (if v3 = v5 ∨ v3 = v6 then 0 else 1))]))
          have hv19 : (if v3 = v5 ∨ v3 = v6 then (0 : Int32) else 1) = 1 := if_neg (fun q => q.elim hp20 hp21)
          rw [hv19]
          show OwnFin p e below _ (T18.setTop (mkF m 101 #[.val (.int k), .val (.int ((k &&& (2147483647 : Int32)) % (7 : Int32))), .val (.ref v3), .val (.int (1 : Int32))] [(.int (1 : Int32))]))
          refine OwnFin.step (fun tT kK => XS.iloadN X18.here hx rfl (hb hby at_101) rfl kK) ?_
          show OwnFin p e below _ (T18.setTop (mkF m 102 #[.val (.int k), .val (.int ((k &&& (2147483647 : Int32)) % (7 : Int32))), .val (.ref v3), .val (.int (1 : Int32))] [(.int (1 : Int32)), (.int (1 : Int32))]))
          refine OwnFin.step (fun tT kK => XS.icmpNo X18.here hx rfl (hb hby at_102) rfl (teq (rfl : (1 : Int32) = (1 : Int32))).2 kK) ?_
          show OwnFin p e below _ (T18.setTop (mkF m 105 #[.val (.int k), .val (.int ((k &&& (2147483647 : Int32)) % (7 : Int32))), .val (.ref v3), .val (.int (1 : Int32))] []))
          refine OwnFin.step (fun tT kK => XS.iconst X18.here hx rfl (hb hby at_105) kK) ?_
          show OwnFin p e below _ (T18.setTop (mkF m 106 #[.val (.int k), .val (.int ((k &&& (2147483647 : Int32)) % (7 : Int32))), .val (.ref v3), .val (.int (1 : Int32))] [(.int (1 : Int32))]))
          refine OwnFin.step (fun tT kK => XS.goto X18.here hx rfl (pc0 := 106) (pc' := 110) rfl (hb hby at_106) (by decide) (by decide) kK) ?_
          show OwnFin p e below _ (T18.setTop (mkF m 110 #[.val (.int k), .val (.int ((k &&& (2147483647 : Int32)) % (7 : Int32))), .val (.ref v3), .val (.int (1 : Int32))] [(.int (1 : Int32))]))
          obtain ⟨fs20, hr20, hrun20, hended20, hW20, hsame20⟩ := X18.leave (v := (some (.int (1 : Int32)))) (fun h => by rw [Bd.returns] at h; cases h)
          refine ⟨_, _, retN X18 hx (t := .boolean) Bd.returns (by simp) (hb hby at_110) hr20, hrun20, hended20, _, _, rfl, ?_, ⟨_, rfl⟩, hW20, hsame20.mono (by decide) (by decide)⟩
          show Q0 Z k v0 v1 v2 v3 v4 v5 v6 h0 n0 _ T18.heap _
          rw [e18]
          exact ⟨rfl, N18, rfl⟩
        · skip
          refine OwnFin.step (fun tT kK => XS.icmpYes X0.here hx rfl (pc0 := 51) (pc' := 63) rfl (hb hby at_51) rfl (feq (hc16 : ¬ (((k &&& (2147483647 : Int32)) % (7 : Int32)) = (3 : Int32)))).2 (by decide) (by decide) kK) ?_
          show OwnFin p e below _ (s₁.setTop (mkF m 63 #[.val (.int k), .val (.int ((k &&& (2147483647 : Int32)) % (7 : Int32))), .unset, .unset] []))
          refine OwnFin.step (fun tT kK => XS.iloadN X0.here hx rfl (hb hby at_63) rfl kK) ?_
          show OwnFin p e below _ (s₁.setTop (mkF m 64 #[.val (.int k), .val (.int ((k &&& (2147483647 : Int32)) % (7 : Int32))), .unset, .unset] [(.int ((k &&& (2147483647 : Int32)) % (7 : Int32)))]))
          refine OwnFin.step (fun tT kK => XS.iconst X0.here hx rfl (hb hby at_64) kK) ?_
          show OwnFin p e below _ (s₁.setTop (mkF m 65 #[.val (.int k), .val (.int ((k &&& (2147483647 : Int32)) % (7 : Int32))), .unset, .unset] [(.int (4 : Int32)), (.int ((k &&& (2147483647 : Int32)) % (7 : Int32)))]))
          by_cases hc21 : ((k &&& (2147483647 : Int32)) % (7 : Int32)) = (4 : Int32)
          · skip
            refine OwnFin.step (fun tT kK => XS.icmpNo X0.here hx rfl (hb hby at_65) rfl (teq (hc21 : ((k &&& (2147483647 : Int32)) % (7 : Int32)) = (4 : Int32))).2 kK) ?_
            show OwnFin p e below _ (s₁.setTop (mkF m 68 #[.val (.int k), .val (.int ((k &&& (2147483647 : Int32)) % (7 : Int32))), .unset, .unset] []))
            obtain ⟨T22, X22, e22, st22⟩ := getS2 X0 hx hZ hown (host := "") (Or.inl (hw _ (List.mem_of_getElem? (i := 17) rfl))) Via.refl e0 hp4 (g := (mkF m 68 #[.val (.int k), .val (.int ((k &&& (2147483647 : Int32)) % (7 : Int32))), .unset, .unset] [])) rfl (hb hby at_68)
            refine OwnFin.step st22 ?_
            show OwnFin p e below _ (T22.setTop (mkF m 71 #[.val (.int k), .val (.int ((k &&& (2147483647 : Int32)) % (7 : Int32))), .unset, .unset] [(.ref v4)]))
            refine OwnFin.step (fun tT kK => XS.astoreN X22.here hx rfl (hb hby at_71) rfl rfl (l' := #[.val (.int k), .val (.int ((k &&& (2147483647 : Int32)) % (7 : Int32))), .val (.ref v4), .unset]) rfl kK) ?_
            show OwnFin p e below _ (T22.setTop (mkF m 72 #[.val (.int k), .val (.int ((k &&& (2147483647 : Int32)) % (7 : Int32))), .val (.ref v4), .unset] []))
            refine OwnFin.step (fun tT kK => XS.iconst X22.here hx rfl (hb hby at_72) kK) ?_
            show OwnFin p e below _ (T22.setTop (mkF m 73 #[.val (.int k), .val (.int ((k &&& (2147483647 : Int32)) % (7 : Int32))), .val (.ref v4), .unset] [(.int (1 : Int32))]))
            refine OwnFin.step (fun tT kK => XS.istoreN X22.here hx rfl (hb hby at_73) rfl (l' := #[.val (.int k), .val (.int ((k &&& (2147483647 : Int32)) % (7 : Int32))), .val (.ref v4), .val (.int (1 : Int32))]) rfl kK) ?_
            show OwnFin p e below _ (T22.setTop (mkF m 74 #[.val (.int k), .val (.int ((k &&& (2147483647 : Int32)) % (7 : Int32))), .val (.ref v4), .val (.int (1 : Int32))] []))
            refine OwnFin.step (fun tT kK => XS.goto X22.here hx rfl (pc0 := 74) (pc' := 97) rfl (hb hby at_74) (by decide) (by decide) kK) ?_
            show OwnFin p e below _ (T22.setTop (mkF m 97 #[.val (.int k), .val (.int ((k &&& (2147483647 : Int32)) % (7 : Int32))), .val (.ref v4), .val (.int (1 : Int32))] []))
            refine OwnFin.step (fun tT kK => XS.aloadN X22.here hx rfl (hb hby at_97) rfl rfl kK) ?_
            show OwnFin p e below _ (T22.setTop (mkF m 98 #[.val (.int k), .val (.int ((k &&& (2147483647 : Int32)) % (7 : Int32))), .val (.ref v4), .val (.int (1 : Int32))] [(.ref v4)]))
            obtain ⟨cq23, kq23, q23a, q23b, q23c⟩ := isOf hZ e22 hp11
            obtain ⟨_, _, ⟨T23, L23, k23, n23⟩, -, X23, ⟨Lc23, hQ23, l23, y23, z23⟩, st23⟩ := X22.virtualBack hx (y := (⟨"com/example/collide/collide/verdict/Verdict", "isDecided", "()Z"⟩ : MethodName)) (z := (⟨"com/example/collide/collide/verdict/Verdict", "isDecided", "()Z"⟩ : MethodName)) hown (mvT hZ (hw _ (List.mem_of_getElem? (i := 4) rfl))) (mvT hZ (hw _ (List.mem_of_getElem? (i := 5) rfl))) (notFace_of_selects (args := #[]) (mvT hZ (hw _ (List.mem_of_getElem? (i := 7) rfl)))) (mvT hZ (hw _ (List.mem_of_getElem? (i := 7) rfl))) (mvT hZ (hw _ (List.mem_of_getElem? (i := 6) rfl))) (by decide) (backOf (W := 0) (rm1 l Z a0 hw [] v4 v5 v6 h0 n0 Z0 hp5 hp6) hZ (hw _ (List.mem_of_getElem? (i := 8) rfl)) (hw _ (List.mem_of_getElem? (i := 2) rfl)) (by decide) (by decide)) q23a q23c (g := (mkF m 98 #[.val (.int k), .val (.int ((k &&& (2147483647 : Int32)) % (7 : Int32))), .val (.ref v4), .val (.int (1 : Int32))] [(.ref v4)])) rfl (by rw [hml]; rfl) (Steps.refl _) (argsL := []) (rest := []) (lenOf pd_12 rfl) rfl (by show 2 * 0 + _ ≤ _; exact Nat.le_of_eq rfl) (hb hby at_98) (fun _ _ => ⟨rfl, e22, (by decide : 0 + 0 ≤ _), (by decide : 0 + 0 ≤ _)⟩)
            dsimp only [Pt.U, Pt.locs, Pt.cells, Pt.slots] at X23 l23 y23 z23 st23 hQ23
            subst l23 y23 z23
            obtain ⟨rfl, N23q, e23⟩ := hQ23
            have N23 := Fr.app N0 N23q
            refine OwnFin.step (fun tT kK => st23.trans kK) ?_
            show OwnFin p e below _ (T23.setTop (mkF m 101 #[.val (.int k), .val (.int ((k &&& (2147483647 : Int32)) % (7 : Int32))), .val (.ref v4), .val (.int (1 : Int32))] [(.int (if v4 = v5 ∨ v4 = v6 then 0 else 1))]))
            have hv24 : (if v4 = v5 ∨ v4 = v6 then (0 : Int32) else 1) = 1 := if_neg (fun q => q.elim hp22 hp23)
            rw [hv24]
            show OwnFin p e below _ (T23.setTop (mkF m 101 #[.val (.int k), .val (.int ((k &&& (2147483647 : Int32)) % (7 : Int32))), .val (.ref v4), .val (.int (1 : Int32))] [(.int (1 : Int32))]))
            refine OwnFin.step (fun tT kK => XS.iloadN X23.here hx rfl (hb hby at_101) rfl kK) ?_
            show OwnFin p e below _ (T23.setTop (mkF m 102 #[.val (.int k), .val (.int ((k &&& (2147483647 : Int32)) % (7 : Int32))), .val (.ref v4), .val (.int (1 : Int32))] [(.int (1 : Int32)), (.int (1 : Int32))]))
            refine OwnFin.step (fun tT kK => XS.icmpNo X23.here hx rfl (hb hby at_102) rfl (teq (rfl : (1 : Int32) = (1 : Int32))).2 kK) ?_
            show OwnFin p e below _ (T23.setTop (mkF m 105 #[.val (.int k), .val (.int ((k &&& (2147483647 : Int32)) % (7 : Int32))), .val (.ref v4), .val (.int (1 : Int32))] []))
            refine OwnFin.step (fun tT kK => XS.iconst X23.here hx rfl (hb hby at_105) kK) ?_
            show OwnFin p e below _ (T23.setTop (mkF m 106 #[.val (.int k), .val (.int ((k &&& (2147483647 : Int32)) % (7 : Int32))), .val (.ref v4), .val (.int (1 : Int32))] [(.int (1 : Int32))]))
            refine OwnFin.step (fun tT kK => XS.goto X23.here hx rfl (pc0 := 106) (pc' := 110) rfl (hb hby at_106) (by decide) (by decide) kK) ?_
            show OwnFin p e below _ (T23.setTop (mkF m 110 #[.val (.int k), .val (.int ((k &&& (2147483647 : Int32)) % (7 : Int32))), .val (.ref v4), .val (.int (1 : Int32))] [(.int (1 : Int32))]))
            obtain ⟨fs25, hr25, hrun25, hended25, hW25, hsame25⟩ := X23.leave (v := (some (.int (1 : Int32)))) (fun h => by rw [Bd.returns] at h; cases h)
            refine ⟨_, _, retN X23 hx (t := .boolean) Bd.returns (by simp) (hb hby at_110) hr25, hrun25, hended25, _, _, rfl, ?_, ⟨_, rfl⟩, hW25, hsame25.mono (by decide) (by decide)⟩
            show Q0 Z k v0 v1 v2 v3 v4 v5 v6 h0 n0 _ T23.heap _
            rw [e23]
            exact ⟨rfl, N23, rfl⟩
          · skip
            refine OwnFin.step (fun tT kK => XS.icmpYes X0.here hx rfl (pc0 := 65) (pc' := 77) rfl (hb hby at_65) rfl (feq (hc21 : ¬ (((k &&& (2147483647 : Int32)) % (7 : Int32)) = (4 : Int32)))).2 (by decide) (by decide) kK) ?_
            show OwnFin p e below _ (s₁.setTop (mkF m 77 #[.val (.int k), .val (.int ((k &&& (2147483647 : Int32)) % (7 : Int32))), .unset, .unset] []))
            refine OwnFin.step (fun tT kK => XS.iloadN X0.here hx rfl (hb hby at_77) rfl kK) ?_
            show OwnFin p e below _ (s₁.setTop (mkF m 78 #[.val (.int k), .val (.int ((k &&& (2147483647 : Int32)) % (7 : Int32))), .unset, .unset] [(.int ((k &&& (2147483647 : Int32)) % (7 : Int32)))]))
            refine OwnFin.step (fun tT kK => XS.iconst X0.here hx rfl (hb hby at_78) kK) ?_
            show OwnFin p e below _ (s₁.setTop (mkF m 79 #[.val (.int k), .val (.int ((k &&& (2147483647 : Int32)) % (7 : Int32))), .unset, .unset] [(.int (5 : Int32)), (.int ((k &&& (2147483647 : Int32)) % (7 : Int32)))]))
            by_cases hc26 : ((k &&& (2147483647 : Int32)) % (7 : Int32)) = (5 : Int32)
            · skip
              refine OwnFin.step (fun tT kK => XS.icmpNo X0.here hx rfl (hb hby at_79) rfl (teq (hc26 : ((k &&& (2147483647 : Int32)) % (7 : Int32)) = (5 : Int32))).2 kK) ?_
              show OwnFin p e below _ (s₁.setTop (mkF m 82 #[.val (.int k), .val (.int ((k &&& (2147483647 : Int32)) % (7 : Int32))), .unset, .unset] []))
              obtain ⟨T27, X27, e27, st27⟩ := getS2 X0 hx hZ hown (host := "") (Or.inl (hw _ (List.mem_of_getElem? (i := 15) rfl))) Via.refl e0 hp5 (g := (mkF m 82 #[.val (.int k), .val (.int ((k &&& (2147483647 : Int32)) % (7 : Int32))), .unset, .unset] [])) rfl (hb hby at_82)
              refine OwnFin.step st27 ?_
              show OwnFin p e below _ (T27.setTop (mkF m 85 #[.val (.int k), .val (.int ((k &&& (2147483647 : Int32)) % (7 : Int32))), .unset, .unset] [(.ref v5)]))
              refine OwnFin.step (fun tT kK => XS.astoreN X27.here hx rfl (hb hby at_85) rfl rfl (l' := #[.val (.int k), .val (.int ((k &&& (2147483647 : Int32)) % (7 : Int32))), .val (.ref v5), .unset]) rfl kK) ?_
              show OwnFin p e below _ (T27.setTop (mkF m 86 #[.val (.int k), .val (.int ((k &&& (2147483647 : Int32)) % (7 : Int32))), .val (.ref v5), .unset] []))
              refine OwnFin.step (fun tT kK => XS.iconst X27.here hx rfl (hb hby at_86) kK) ?_
              show OwnFin p e below _ (T27.setTop (mkF m 87 #[.val (.int k), .val (.int ((k &&& (2147483647 : Int32)) % (7 : Int32))), .val (.ref v5), .unset] [(.int (0 : Int32))]))
              refine OwnFin.step (fun tT kK => XS.istoreN X27.here hx rfl (hb hby at_87) rfl (l' := #[.val (.int k), .val (.int ((k &&& (2147483647 : Int32)) % (7 : Int32))), .val (.ref v5), .val (.int (0 : Int32))]) rfl kK) ?_
              show OwnFin p e below _ (T27.setTop (mkF m 88 #[.val (.int k), .val (.int ((k &&& (2147483647 : Int32)) % (7 : Int32))), .val (.ref v5), .val (.int (0 : Int32))] []))
              refine OwnFin.step (fun tT kK => XS.goto X27.here hx rfl (pc0 := 88) (pc' := 97) rfl (hb hby at_88) (by decide) (by decide) kK) ?_
              show OwnFin p e below _ (T27.setTop (mkF m 97 #[.val (.int k), .val (.int ((k &&& (2147483647 : Int32)) % (7 : Int32))), .val (.ref v5), .val (.int (0 : Int32))] []))
              refine OwnFin.step (fun tT kK => XS.aloadN X27.here hx rfl (hb hby at_97) rfl rfl kK) ?_
              show OwnFin p e below _ (T27.setTop (mkF m 98 #[.val (.int k), .val (.int ((k &&& (2147483647 : Int32)) % (7 : Int32))), .val (.ref v5), .val (.int (0 : Int32))] [(.ref v5)]))
              obtain ⟨cq28, kq28, q28a, q28b, q28c⟩ := isOf hZ e27 hp12
              obtain ⟨_, _, ⟨T28, L28, k28, n28⟩, -, X28, ⟨Lc28, hQ28, l28, y28, z28⟩, st28⟩ := X27.virtualBack hx (y := (⟨"com/example/collide/collide/verdict/Verdict", "isDecided", "()Z"⟩ : MethodName)) (z := (⟨"com/example/collide/collide/verdict/Verdict", "isDecided", "()Z"⟩ : MethodName)) hown (mvT hZ (hw _ (List.mem_of_getElem? (i := 4) rfl))) (mvT hZ (hw _ (List.mem_of_getElem? (i := 5) rfl))) (notFace_of_selects (args := #[]) (mvT hZ (hw _ (List.mem_of_getElem? (i := 7) rfl)))) (mvT hZ (hw _ (List.mem_of_getElem? (i := 7) rfl))) (mvT hZ (hw _ (List.mem_of_getElem? (i := 6) rfl))) (by decide) (backOf (W := 0) (rm1 l Z a0 hw [] v5 v5 v6 h0 n0 Z0 hp5 hp6) hZ (hw _ (List.mem_of_getElem? (i := 8) rfl)) (hw _ (List.mem_of_getElem? (i := 2) rfl)) (by decide) (by decide)) q28a q28c (g := (mkF m 98 #[.val (.int k), .val (.int ((k &&& (2147483647 : Int32)) % (7 : Int32))), .val (.ref v5), .val (.int (0 : Int32))] [(.ref v5)])) rfl (by rw [hml]; rfl) (Steps.refl _) (argsL := []) (rest := []) (lenOf pd_12 rfl) rfl (by show 2 * 0 + _ ≤ _; exact Nat.le_of_eq rfl) (hb hby at_98) (fun _ _ => ⟨rfl, e27, (by decide : 0 + 0 ≤ _), (by decide : 0 + 0 ≤ _)⟩)
              dsimp only [Pt.U, Pt.locs, Pt.cells, Pt.slots] at X28 l28 y28 z28 st28 hQ28
              subst l28 y28 z28
              obtain ⟨rfl, N28q, e28⟩ := hQ28
              have N28 := Fr.app N0 N28q
              refine OwnFin.step (fun tT kK => st28.trans kK) ?_
              show OwnFin p e below _ (T28.setTop (mkF m 101 #[.val (.int k), .val (.int ((k &&& (2147483647 : Int32)) % (7 : Int32))), .val (.ref v5), .val (.int (0 : Int32))] [(.int (if v5 = v5 ∨ v5 = v6 then 0 else 1))]))
              have hv29 : (if v5 = v5 ∨ v5 = v6 then (0 : Int32) else 1) = 0 := if_pos (Or.inl rfl)
              rw [hv29]
              show OwnFin p e below _ (T28.setTop (mkF m 101 #[.val (.int k), .val (.int ((k &&& (2147483647 : Int32)) % (7 : Int32))), .val (.ref v5), .val (.int (0 : Int32))] [(.int (0 : Int32))]))
              refine OwnFin.step (fun tT kK => XS.iloadN X28.here hx rfl (hb hby at_101) rfl kK) ?_
              show OwnFin p e below _ (T28.setTop (mkF m 102 #[.val (.int k), .val (.int ((k &&& (2147483647 : Int32)) % (7 : Int32))), .val (.ref v5), .val (.int (0 : Int32))] [(.int (0 : Int32)), (.int (0 : Int32))]))
              refine OwnFin.step (fun tT kK => XS.icmpNo X28.here hx rfl (hb hby at_102) rfl (teq (rfl : (0 : Int32) = (0 : Int32))).2 kK) ?_
              show OwnFin p e below _ (T28.setTop (mkF m 105 #[.val (.int k), .val (.int ((k &&& (2147483647 : Int32)) % (7 : Int32))), .val (.ref v5), .val (.int (0 : Int32))] []))
              refine OwnFin.step (fun tT kK => XS.iconst X28.here hx rfl (hb hby at_105) kK) ?_
              show OwnFin p e below _ (T28.setTop (mkF m 106 #[.val (.int k), .val (.int ((k &&& (2147483647 : Int32)) % (7 : Int32))), .val (.ref v5), .val (.int (0 : Int32))] [(.int (1 : Int32))]))
              refine OwnFin.step (fun tT kK => XS.goto X28.here hx rfl (pc0 := 106) (pc' := 110) rfl (hb hby at_106) (by decide) (by decide) kK) ?_
              show OwnFin p e below _ (T28.setTop (mkF m 110 #[.val (.int k), .val (.int ((k &&& (2147483647 : Int32)) % (7 : Int32))), .val (.ref v5), .val (.int (0 : Int32))] [(.int (1 : Int32))]))
              obtain ⟨fs30, hr30, hrun30, hended30, hW30, hsame30⟩ := X28.leave (v := (some (.int (1 : Int32)))) (fun h => by rw [Bd.returns] at h; cases h)
              refine ⟨_, _, retN X28 hx (t := .boolean) Bd.returns (by simp) (hb hby at_110) hr30, hrun30, hended30, _, _, rfl, ?_, ⟨_, rfl⟩, hW30, hsame30.mono (by decide) (by decide)⟩
              show Q0 Z k v0 v1 v2 v3 v4 v5 v6 h0 n0 _ T28.heap _
              rw [e28]
              exact ⟨rfl, N28, rfl⟩
            · skip
              refine OwnFin.step (fun tT kK => XS.icmpYes X0.here hx rfl (pc0 := 79) (pc' := 91) rfl (hb hby at_79) rfl (feq (hc26 : ¬ (((k &&& (2147483647 : Int32)) % (7 : Int32)) = (5 : Int32)))).2 (by decide) (by decide) kK) ?_
              show OwnFin p e below _ (s₁.setTop (mkF m 91 #[.val (.int k), .val (.int ((k &&& (2147483647 : Int32)) % (7 : Int32))), .unset, .unset] []))
              obtain ⟨T31, X31, e31, st31⟩ := getS2 X0 hx hZ hown (host := "") (Or.inl (hw _ (List.mem_of_getElem? (i := 16) rfl))) Via.refl e0 hp6 (g := (mkF m 91 #[.val (.int k), .val (.int ((k &&& (2147483647 : Int32)) % (7 : Int32))), .unset, .unset] [])) rfl (hb hby at_91)
              refine OwnFin.step st31 ?_
              show OwnFin p e below _ (T31.setTop (mkF m 94 #[.val (.int k), .val (.int ((k &&& (2147483647 : Int32)) % (7 : Int32))), .unset, .unset] [(.ref v6)]))
              refine OwnFin.step (fun tT kK => XS.astoreN X31.here hx rfl (hb hby at_94) rfl rfl (l' := #[.val (.int k), .val (.int ((k &&& (2147483647 : Int32)) % (7 : Int32))), .val (.ref v6), .unset]) rfl kK) ?_
              show OwnFin p e below _ (T31.setTop (mkF m 95 #[.val (.int k), .val (.int ((k &&& (2147483647 : Int32)) % (7 : Int32))), .val (.ref v6), .unset] []))
              refine OwnFin.step (fun tT kK => XS.iconst X31.here hx rfl (hb hby at_95) kK) ?_
              show OwnFin p e below _ (T31.setTop (mkF m 96 #[.val (.int k), .val (.int ((k &&& (2147483647 : Int32)) % (7 : Int32))), .val (.ref v6), .unset] [(.int (0 : Int32))]))
              refine OwnFin.step (fun tT kK => XS.istoreN X31.here hx rfl (hb hby at_96) rfl (l' := #[.val (.int k), .val (.int ((k &&& (2147483647 : Int32)) % (7 : Int32))), .val (.ref v6), .val (.int (0 : Int32))]) rfl kK) ?_
              show OwnFin p e below _ (T31.setTop (mkF m 97 #[.val (.int k), .val (.int ((k &&& (2147483647 : Int32)) % (7 : Int32))), .val (.ref v6), .val (.int (0 : Int32))] []))
              refine OwnFin.step (fun tT kK => XS.aloadN X31.here hx rfl (hb hby at_97) rfl rfl kK) ?_
              show OwnFin p e below _ (T31.setTop (mkF m 98 #[.val (.int k), .val (.int ((k &&& (2147483647 : Int32)) % (7 : Int32))), .val (.ref v6), .val (.int (0 : Int32))] [(.ref v6)]))
              obtain ⟨cq32, kq32, q32a, q32b, q32c⟩ := isOf hZ e31 hp13
              obtain ⟨_, _, ⟨T32, L32, k32, n32⟩, -, X32, ⟨Lc32, hQ32, l32, y32, z32⟩, st32⟩ := X31.virtualBack hx (y := (⟨"com/example/collide/collide/verdict/Verdict", "isDecided", "()Z"⟩ : MethodName)) (z := (⟨"com/example/collide/collide/verdict/Verdict", "isDecided", "()Z"⟩ : MethodName)) hown (mvT hZ (hw _ (List.mem_of_getElem? (i := 4) rfl))) (mvT hZ (hw _ (List.mem_of_getElem? (i := 5) rfl))) (notFace_of_selects (args := #[]) (mvT hZ (hw _ (List.mem_of_getElem? (i := 7) rfl)))) (mvT hZ (hw _ (List.mem_of_getElem? (i := 7) rfl))) (mvT hZ (hw _ (List.mem_of_getElem? (i := 6) rfl))) (by decide) (backOf (W := 0) (rm1 l Z a0 hw [] v6 v5 v6 h0 n0 Z0 hp5 hp6) hZ (hw _ (List.mem_of_getElem? (i := 8) rfl)) (hw _ (List.mem_of_getElem? (i := 2) rfl)) (by decide) (by decide)) q32a q32c (g := (mkF m 98 #[.val (.int k), .val (.int ((k &&& (2147483647 : Int32)) % (7 : Int32))), .val (.ref v6), .val (.int (0 : Int32))] [(.ref v6)])) rfl (by rw [hml]; rfl) (Steps.refl _) (argsL := []) (rest := []) (lenOf pd_12 rfl) rfl (by show 2 * 0 + _ ≤ _; exact Nat.le_of_eq rfl) (hb hby at_98) (fun _ _ => ⟨rfl, e31, (by decide : 0 + 0 ≤ _), (by decide : 0 + 0 ≤ _)⟩)
              dsimp only [Pt.U, Pt.locs, Pt.cells, Pt.slots] at X32 l32 y32 z32 st32 hQ32
              subst l32 y32 z32
              obtain ⟨rfl, N32q, e32⟩ := hQ32
              have N32 := Fr.app N0 N32q
              refine OwnFin.step (fun tT kK => st32.trans kK) ?_
              show OwnFin p e below _ (T32.setTop (mkF m 101 #[.val (.int k), .val (.int ((k &&& (2147483647 : Int32)) % (7 : Int32))), .val (.ref v6), .val (.int (0 : Int32))] [(.int (if v6 = v5 ∨ v6 = v6 then 0 else 1))]))
              have hv33 : (if v6 = v5 ∨ v6 = v6 then (0 : Int32) else 1) = 0 := if_pos (Or.inr rfl)
              rw [hv33]
              show OwnFin p e below _ (T32.setTop (mkF m 101 #[.val (.int k), .val (.int ((k &&& (2147483647 : Int32)) % (7 : Int32))), .val (.ref v6), .val (.int (0 : Int32))] [(.int (0 : Int32))]))
              refine OwnFin.step (fun tT kK => XS.iloadN X32.here hx rfl (hb hby at_101) rfl kK) ?_
              show OwnFin p e below _ (T32.setTop (mkF m 102 #[.val (.int k), .val (.int ((k &&& (2147483647 : Int32)) % (7 : Int32))), .val (.ref v6), .val (.int (0 : Int32))] [(.int (0 : Int32)), (.int (0 : Int32))]))
              refine OwnFin.step (fun tT kK => XS.icmpNo X32.here hx rfl (hb hby at_102) rfl (teq (rfl : (0 : Int32) = (0 : Int32))).2 kK) ?_
              show OwnFin p e below _ (T32.setTop (mkF m 105 #[.val (.int k), .val (.int ((k &&& (2147483647 : Int32)) % (7 : Int32))), .val (.ref v6), .val (.int (0 : Int32))] []))
              refine OwnFin.step (fun tT kK => XS.iconst X32.here hx rfl (hb hby at_105) kK) ?_
              show OwnFin p e below _ (T32.setTop (mkF m 106 #[.val (.int k), .val (.int ((k &&& (2147483647 : Int32)) % (7 : Int32))), .val (.ref v6), .val (.int (0 : Int32))] [(.int (1 : Int32))]))
              refine OwnFin.step (fun tT kK => XS.goto X32.here hx rfl (pc0 := 106) (pc' := 110) rfl (hb hby at_106) (by decide) (by decide) kK) ?_
              show OwnFin p e below _ (T32.setTop (mkF m 110 #[.val (.int k), .val (.int ((k &&& (2147483647 : Int32)) % (7 : Int32))), .val (.ref v6), .val (.int (0 : Int32))] [(.int (1 : Int32))]))
              obtain ⟨fs34, hr34, hrun34, hended34, hW34, hsame34⟩ := X32.leave (v := (some (.int (1 : Int32)))) (fun h => by rw [Bd.returns] at h; cases h)
              refine ⟨_, _, retN X32 hx (t := .boolean) Bd.returns (by simp) (hb hby at_110) hr34, hrun34, hended34, _, _, rfl, ?_, ⟨_, rfl⟩, hW34, hsame34.mono (by decide) (by decide)⟩
              show Q0 Z k v0 v1 v2 v3 v4 v5 v6 h0 n0 _ T32.heap _
              rw [e32]
              exact ⟨rfl, N32, rfl⟩
set_option maxRecDepth 65536 in
set_option maxHeartbeats 40000000 in
theorem comes_1 {Post : Tables → Env → Array Value → State → Outcome → State → Prop} (hpost : ∀ tb e args s v u, (limb_1_1.after args s (.returned v) u = true ∧ limb_1_2.after args s (.returned v) u = true ∧ True) → FrameEnd s (.returned v) u (Jvm.fieldLocs frame_1_writes args s ++ Jvm.arrayLocs frame_1_arrays args s ++ Jvm.staticLocs frame_1_statics s) 0 0 → Post tb e args s (.returned v) u) :
    ArmFor flags0 classFile x code maxLocals ret World_1 tables_1 room_1 Calls_1 rest_1 Pre_1 Post := by
  intro l hfl _ _ p e ha hc hk s m args below hf hA hF happ hP
  obtain ⟨hcalls, hrest, hpre⟩ := hP
  obtain ⟨-, -, -, hnamed, -, -, -, hat⟩ := (Spec.applies_iff hf).mp happ
  obtain ⟨hg, hn⟩ := and_e (Cond.before_iff.mp (show (Jvm.Cond.and given_1 narrow_1).before args s = true from hpre))
  obtain ⟨g1, g2⟩ := and_e hg
  obtain ⟨w_0, rfl⟩ : ∃ w_0 : Value, args = #[w_0] := by
    have hs : args.size = 1 := by simpa [Cond.value, given_1] using g1
    obtain ⟨L⟩ := args
    match L, hs with
    | [w_0], _ => exact ⟨w_0, rfl⟩
  have hw := fun d (hd : d ∈ tables_1) => atoms_spec (ws := Jvm.Cond.code x code maxLocals ret :: tables_1) hat d (List.mem_cons_of_mem _ hd)
  have hfit : Fit s := fun {y c} hc i hi => by
    obtain ⟨ha, rfl⟩ := Array.getElem?_eq_some_iff.mp hc
    have q := List.all_eq_true.mp ((Array.all_eq_true_iff_forall_mem.mp hF) _ (Array.getElem_mem ha)) i (List.mem_range.mpr hi)
    simpa [Array.getElem?_eq_getElem hi] using q
  obtain ⟨k, ei0⟩ := is_v g2
  obtain rfl : w_0 = (.int k) := Option.some.inj ei0
  obtain ⟨g3, g4⟩ := and_e hn
  obtain ⟨w5, ev_w5⟩ := exa_v g3
  have S_w5 := Sta.start ev_w5 (Or.inr ⟨(hw _ (List.mem_of_getElem? (i := 2) rfl)), (hw _ (List.mem_of_getElem? (i := 3) rfl))⟩)
  have E_w5_g3 := Exa.start ev_w5 g3
  obtain ⟨g6, g7⟩ := and_e g4
  obtain ⟨w8, ev_w8⟩ := exa_v g6
  have S_w8 := Sta.start ev_w8 (Or.inr ⟨(hw _ (List.mem_of_getElem? (i := 2) rfl)), (hw _ (List.mem_of_getElem? (i := 10) rfl))⟩)
  have E_w8_g6 := Exa.start ev_w8 g6
  obtain ⟨g9, g10⟩ := and_e g7
  have F_w5_g9 := own_fldI ev_w5 g9
  obtain ⟨g11, g12⟩ := and_e g10
  have F_w8_g11 := own_fldI ev_w8 g11
  obtain ⟨g13, g14⟩ := and_e g12
  obtain ⟨w15, ev_w15⟩ := exa_v g13
  have S_w15 := Sta.start ev_w15 (Or.inr ⟨(hw _ (List.mem_of_getElem? (i := 2) rfl)), (hw _ (List.mem_of_getElem? (i := 12) rfl))⟩)
  have E_w15_g13 := Exa.start ev_w15 g13
  obtain ⟨g16, g17⟩ := and_e g14
  have F_w15_g16 := own_fldI ev_w15 g16
  obtain ⟨g18, g19⟩ := and_e g17
  obtain ⟨w20, ev_w20⟩ := exa_v g18
  have S_w20 := Sta.start ev_w20 (Or.inr ⟨(hw _ (List.mem_of_getElem? (i := 2) rfl)), (hw _ (List.mem_of_getElem? (i := 14) rfl))⟩)
  have E_w20_g18 := Exa.start ev_w20 g18
  obtain ⟨g21, g22⟩ := and_e g19
  have F_w20_g21 := own_fldI ev_w20 g21
  obtain ⟨g23, g24⟩ := and_e g22
  obtain ⟨w25, ev_w25⟩ := exa_v g23
  have S_w25 := Sta.start ev_w25 (Or.inr ⟨(hw _ (List.mem_of_getElem? (i := 2) rfl)), (hw _ (List.mem_of_getElem? (i := 18) rfl))⟩)
  have E_w25_g23 := Exa.start ev_w25 g23
  obtain ⟨g26, g27⟩ := and_e g24
  have F_w25_g26 := own_fldI ev_w25 g26
  obtain ⟨g28, g29⟩ := and_e g27
  obtain ⟨w30, ev_w30⟩ := exa_v g28
  have S_w30 := Sta.start ev_w30 (Or.inr ⟨(hw _ (List.mem_of_getElem? (i := 2) rfl)), (hw _ (List.mem_of_getElem? (i := 20) rfl))⟩)
  have E_w30_g28 := Exa.start ev_w30 g28
  obtain ⟨g31, g32⟩ := and_e g29
  have F_w30_g31 := own_fldI ev_w30 g31
  obtain ⟨g33, g34⟩ := and_e g32
  obtain ⟨w35, ev_w35⟩ := exa_v g33
  have S_w35 := Sta.start ev_w35 (Or.inr ⟨(hw _ (List.mem_of_getElem? (i := 2) rfl)), (hw _ (List.mem_of_getElem? (i := 22) rfl))⟩)
  have E_w35_g33 := Exa.start ev_w35 g33
  have F_w35_g34 := own_fldI ev_w35 g34
  obtain ⟨n, o, h1, h2, h3, _, L, rfl, ⟨rfl, N, -⟩, hq⟩ := rm0 l s _ hw tables_1 k w5 w35 w30 w20 w25 w8 w15 s.heap s.heap.size (Nat.le_refl _) S_w5 S_w35 S_w30 S_w20 S_w25 S_w8 S_w15 E_w5_g3 E_w35_g33 E_w30_g28 E_w20_g18 E_w25_g23 E_w8_g6 E_w15_g13 (Fld.ne F_w5_g9 F_w8_g11 (by decide)) (Fld.ne F_w5_g9 F_w15_g16 (by decide)) (Fld.ne F_w35_g34 F_w8_g11 (by decide)) (Fld.ne F_w35_g34 F_w15_g16 (by decide)) (Fld.ne F_w30_g31 F_w8_g11 (by decide)) (Fld.ne F_w30_g31 F_w15_g16 (by decide)) (Fld.ne F_w20_g21 F_w8_g11 (by decide)) (Fld.ne F_w20_g21 F_w15_g16 (by decide)) (Fld.ne F_w25_g26 F_w8_g11 (by decide)) (Fld.ne F_w25_g26 F_w15_g16 (by decide)) p e ha hc hk s m _ below hf ((Spec.applies_iff_loose hf).mp happ).1 ⟨rfl, State.Warmed39.refl s, rfl⟩ trivial
  refine ⟨n, _, h1, h2, h3, hpost _ _ _ _ _ _ ⟨Cond.after_iff.mpr rfl, Cond.after_iff.mpr (eq_i res_at (Term.int_eval (1)) rfl), trivial⟩ ⟨hq.1, hq.2.1, (hq.2.2.sift fun y hy => Or.inr (N y hy)).mono (by decide) (by decide)⟩⟩
theorem main_1_1 : Claimed_1_1 := comes_1 fun _ _ _ _ _ _ h hF => ⟨h.1, hF⟩
theorem main_1_2 : Claimed_1_2 := comes_1 fun _ _ _ _ _ _ h hF => ⟨h.2.1, hF⟩
end Jvm.Pilot.@@N@@
namespace Jvm.Pilot.@@N@@
open Jvm Jvm.ClassFile Sem Op Lib Jvm.Free Jvm.Stand Jvm.Pilot.@@N@@.Jvm.D
/-! MADE BY PROGRAM (witnessworld.py) out of the Statement's table words and the real class files: 12 classes; the members and pool entries that the words name. The judged class is class 1, her method 1. -/
namespace start1
open Jvm.ClassFile
def u (s : String) : CpInfo := .utf8 (stringToUtf16 s)
/-- a pool by its gaps: so many unusable entries, then the entry; so many at the end -/
def gap : Nat → List CpInfo → List CpInfo
  | 0, r => r
  | n + 1, r => .unusable :: gap n r
def poolList (es : List (Nat × CpInfo)) (last : Nat) : List CpInfo := es.foldr (fun e r => gap e.1 (e.2 :: r)) (gap last [])
def pool (es : List (Nat × CpInfo)) (last : Nat) : Array CpInfo := ⟨poolList es last⟩
def fileOf (pool : Array CpInfo) (this : Nat) (attrs : Array Attribute := #[]) (ms : Array MethodInfo := #[]) (fl : Nat := 33) (sup : Nat := 0) (ifs : Array Nat := #[]) (fds : Array FieldInfo := #[]) : ClassFile where
  minorVersion := 0
  majorVersion := 65
  constantPool := pool
  accessFlags := fl
  thisClass := this
  superClass := sup
  interfaces := ifs
  fields := fds
  methods := ms
  attributes := attrs
def plain (name : String) (sup : Option ClassId) : Class where
  name := name
  kind := .ordinary
  loader := none
  accessFlags := 33
  super := sup
  interfaces := #[]
  cf := none
  fields := #[]
  methods := #[]
  instanceTypes := #[]
  staticTypes := #[]
  resolved := #[]
  callSites := []
  init := .initialized
  statics := none
  mirror := none

def pool0 : Array CpInfo := pool [(5, u "<init>"), (0, u "()V"), (1, .class_ 10), (1, u "java/lang/Object")] 113

def k0m0 : Method := { name := "<init>", desc := "()V", sig := { parameters := [], returnType := none }, accessFlags := 1, code := none }
/-- java/lang/Object -/
def k0 : Class := { plain "java/lang/Object" none with
  accessFlags := 33
  interfaces := #[]
  cf := some (fileOf pool0 8 #[] #[{ accessFlags := 1, nameIndex := 5, descriptorIndex := 6, attributes := #[] }] 33 0 #[] #[])
  fields := #[]
  methods := #[k0m0]
  instanceTypes := #[]
  staticTypes := #[]
  resolved := Array.replicate 124 none
  statics := none }

def pool1 : Array CpInfo := pool [(2, .class_ 4), (1, u "java/lang/Object"), (0, u "<init>"), (0, u "()V"), (0, .integer 2147483647), (0, .fieldref 9 10), (0, .class_ 11), (0, .nameAndType 12 13), (0, u "com/example/collide/collide/verdict/Verdict"), (0, u "OBSERVED"), (0, u "Lcom/example/collide/collide/verdict/Verdict;"), (0, .fieldref 9 15), (0, .nameAndType 16 13), (0, u "PREVENTED_BLOCKED"), (0, .fieldref 9 18), (0, .nameAndType 19 13), (0, u "PREVENTED_ABORTED"), (0, .fieldref 9 21), (0, .nameAndType 22 13), (0, u "PREVENTED_SNAPSHOT"), (0, .fieldref 9 24), (0, .nameAndType 25 13), (0, u "NOT_OBSERVED"), (0, .fieldref 9 27), (0, .nameAndType 28 13), (0, u "FAILED"), (0, .fieldref 9 30), (0, .nameAndType 31 13), (0, u "UNDECIDED"), (0, .methodref 9 33), (0, .nameAndType 34 35), (0, u "isDecided"), (0, u "()Z"), (0, .class_ 37), (0, u "com/example/collide/collide/verdict/VerdictIsDecidedPinLaw"), (2, u "law"), (0, u "(I)Z")] 3

def k1m0 : Method := { name := "<init>", desc := "()V", sig := { parameters := [], returnType := none }, accessFlags := 1, code := none }
def k1c1 : Code := { maxStack := 2, maxLocals := 4, code := code, exceptionTable := #[], attributes := #[] }
def k1m1 : Method := { name := "law", desc := "(I)Z", sig := { parameters := [.int], returnType := some .boolean }, accessFlags := 9, code := some k1c1 }
/-- com/example/collide/collide/verdict/VerdictIsDecidedPinLaw -/
def k1 : Class := { plain "com/example/collide/collide/verdict/VerdictIsDecidedPinLaw" (some 0) with
  accessFlags := 49
  interfaces := #[]
  cf := some (fileOf pool1 36 #[] #[{ accessFlags := 1, nameIndex := 5, descriptorIndex := 6, attributes := #[] }, { accessFlags := 9, nameIndex := 40, descriptorIndex := 41, attributes := #[] }] 49 2 #[] #[])
  fields := #[]
  methods := #[k1m0, k1m1]
  instanceTypes := #[]
  staticTypes := #[]
  resolved := Array.replicate 45 none
  statics := none }

def pool2 : Array CpInfo := pool [(1, .class_ 2), (0, u "java/lang/constant/Constable"), (0, .class_ 4), (0, u "java/lang/Object")] 6

/-- java/lang/constant/Constable -/
def k2 : Class := { plain "java/lang/constant/Constable" (some 0) with
  accessFlags := 1537
  interfaces := #[]
  cf := some (fileOf pool2 1 #[] #[] 1537 3 #[] #[])
  fields := #[]
  methods := #[]
  instanceTypes := #[]
  staticTypes := #[]
  resolved := Array.replicate 11 none
  statics := none }

def pool3 : Array CpInfo := pool [(1, .class_ 2), (0, u "java/lang/Comparable"), (0, .class_ 4), (0, u "java/lang/Object")] 7

/-- java/lang/Comparable -/
def k3 : Class := { plain "java/lang/Comparable" (some 0) with
  accessFlags := 1537
  interfaces := #[]
  cf := some (fileOf pool3 1 #[] #[] 1537 3 #[] #[])
  fields := #[]
  methods := #[]
  instanceTypes := #[]
  staticTypes := #[]
  resolved := Array.replicate 12 none
  statics := none }

def pool4 : Array CpInfo := pool [(1, .class_ 2), (0, u "java/io/Serializable"), (0, .class_ 4), (0, u "java/lang/Object")] 2

/-- java/io/Serializable -/
def k4 : Class := { plain "java/io/Serializable" (some 0) with
  accessFlags := 1537
  interfaces := #[]
  cf := some (fileOf pool4 1 #[] #[] 1537 3 #[] #[])
  fields := #[]
  methods := #[]
  instanceTypes := #[]
  staticTypes := #[]
  resolved := Array.replicate 7 none
  statics := none }

def pool5 : Array CpInfo := pool [(2, .class_ 4), (1, u "java/lang/Enum"), (0, u "name"), (0, u "Ljava/lang/String;"), (2, u "ordinal"), (0, u "I"), (1, .class_ 14), (1, u "java/lang/Object"), (4, u "hash"), (86, .class_ 108), (1, u "java/lang/Enum$EnumDesc"), (2, .class_ 112), (0, u "java/lang/constant/Constable"), (0, .class_ 114), (0, u "java/lang/Comparable"), (0, .class_ 116), (0, u "java/io/Serializable")] 87

/-- java/lang/Enum -/
def k5 : Class := { plain "java/lang/Enum" (some 0) with
  accessFlags := 1057
  interfaces := #[2, 3, 4]
  cf := some (fileOf pool5 2 #[.nestMembers #[106]] #[] 1057 12 #[111, 113, 115] #[{ accessFlags := 18, nameIndex := 5, descriptorIndex := 6, attributes := #[] }, { accessFlags := 18, nameIndex := 9, descriptorIndex := 10, attributes := #[] }, { accessFlags := 2, nameIndex := 19, descriptorIndex := 10, attributes := #[] }])
  fields := #[{ name := "name", type := (.object "java/lang/String"), accessFlags := 18, slot := 0, constantValue := 0 }, { name := "ordinal", type := .int, accessFlags := 18, slot := 1, constantValue := 0 }, { name := "hash", type := .int, accessFlags := 2, slot := 2, constantValue := 0 }]
  methods := #[]
  instanceTypes := #[(.object "java/lang/String"), .int, .int]
  staticTypes := #[]
  resolved := Array.replicate 204 none
  statics := none }

def pool6 : Array CpInfo := pool [(1, .class_ 2), (0, u "com/example/collide/collide/verdict/Verdict"), (2, u "OBSERVED"), (0, u "Lcom/example/collide/collide/verdict/Verdict;"), (2, u "PREVENTED_BLOCKED"), (2, u "PREVENTED_ABORTED"), (2, u "PREVENTED_SNAPSHOT"), (2, u "NOT_OBSERVED"), (0, .fieldref 1 20), (0, .nameAndType 21 6), (0, u "FAILED"), (0, .fieldref 1 23), (0, .nameAndType 24 6), (0, u "UNDECIDED"), (2, u "$VALUES"), (0, u "[Lcom/example/collide/collide/verdict/Verdict;"), (6, .class_ 37), (1, u "java/lang/Enum"), (8, u "word"), (0, u "Ljava/lang/String;"), (64, u "isDecided"), (0, u "()Z")] 31

def k6c0 : Code := { maxStack := 2, maxLocals := 1, code := prog_67_method_5_code, exceptionTable := #[], attributes := #[] }
def k6m0 : Method := { name := "isDecided", desc := "()Z", sig := { parameters := [], returnType := some .boolean }, accessFlags := 1, code := some k6c0 }
/-- com/example/collide/collide/verdict/Verdict -/
def k6 : Class := { plain "com/example/collide/collide/verdict/Verdict" (some 5) with
  accessFlags := 16433
  interfaces := #[]
  cf := some (fileOf pool6 1 #[] #[{ accessFlags := 1, nameIndex := 112, descriptorIndex := 113, attributes := #[] }] 16433 35 #[] #[{ accessFlags := 16409, nameIndex := 5, descriptorIndex := 6, attributes := #[] }, { accessFlags := 16409, nameIndex := 9, descriptorIndex := 6, attributes := #[] }, { accessFlags := 16409, nameIndex := 12, descriptorIndex := 6, attributes := #[] }, { accessFlags := 16409, nameIndex := 15, descriptorIndex := 6, attributes := #[] }, { accessFlags := 16409, nameIndex := 18, descriptorIndex := 6, attributes := #[] }, { accessFlags := 16409, nameIndex := 21, descriptorIndex := 6, attributes := #[] }, { accessFlags := 16409, nameIndex := 24, descriptorIndex := 6, attributes := #[] }, { accessFlags := 18, nameIndex := 46, descriptorIndex := 47, attributes := #[] }, { accessFlags := 4122, nameIndex := 27, descriptorIndex := 28, attributes := #[] }])
  fields := #[{ name := "OBSERVED", type := (.object "com/example/collide/collide/verdict/Verdict"), accessFlags := 16409, slot := 0, constantValue := 0 }, { name := "PREVENTED_BLOCKED", type := (.object "com/example/collide/collide/verdict/Verdict"), accessFlags := 16409, slot := 1, constantValue := 0 }, { name := "PREVENTED_ABORTED", type := (.object "com/example/collide/collide/verdict/Verdict"), accessFlags := 16409, slot := 2, constantValue := 0 }, { name := "PREVENTED_SNAPSHOT", type := (.object "com/example/collide/collide/verdict/Verdict"), accessFlags := 16409, slot := 3, constantValue := 0 }, { name := "NOT_OBSERVED", type := (.object "com/example/collide/collide/verdict/Verdict"), accessFlags := 16409, slot := 4, constantValue := 0 }, { name := "FAILED", type := (.object "com/example/collide/collide/verdict/Verdict"), accessFlags := 16409, slot := 5, constantValue := 0 }, { name := "UNDECIDED", type := (.object "com/example/collide/collide/verdict/Verdict"), accessFlags := 16409, slot := 6, constantValue := 0 }, { name := "word", type := (.object "java/lang/String"), accessFlags := 18, slot := 3, constantValue := 0 }, { name := "$VALUES", type := (.array (.object "com/example/collide/collide/verdict/Verdict")), accessFlags := 4122, slot := 7, constantValue := 0 }]
  methods := #[k6m0]
  instanceTypes := #[(.object "java/lang/String"), .int, .int, (.object "java/lang/String")]
  staticTypes := #[(.object "com/example/collide/collide/verdict/Verdict"), (.object "com/example/collide/collide/verdict/Verdict"), (.object "com/example/collide/collide/verdict/Verdict"), (.object "com/example/collide/collide/verdict/Verdict"), (.object "com/example/collide/collide/verdict/Verdict"), (.object "com/example/collide/collide/verdict/Verdict"), (.object "com/example/collide/collide/verdict/Verdict"), (.array (.object "com/example/collide/collide/verdict/Verdict"))]
  resolved := Array.replicate 145 none
  statics := some 0 }

def pool7 : Array CpInfo := pool [(1, u "java/lang/Cloneable"), (0, .class_ 1), (0, u "java/lang/Object"), (0, .class_ 3)] 3

/-- java/lang/Cloneable -/
def k7 : Class := { plain "java/lang/Cloneable" (some 0) with
  accessFlags := 1537
  interfaces := #[]
  cf := some (fileOf pool7 2 #[] #[] 1537 4 #[] #[])
  fields := #[]
  methods := #[]
  instanceTypes := #[]
  staticTypes := #[]
  resolved := Array.replicate 8 none
  statics := none }

/-- the primitive byte -/
def k8 : Class := { plain "byte" none with kind := .primitive 'B', accessFlags := 0x411 }
/-- [B -/
def k9 : Class := { plain "[B" (some 0) with kind := .array 8 .byte, interfaces := #[7, 4], accessFlags := 1041 }

/-- the primitive int -/
def k10 : Class := { plain "int" none with kind := .primitive 'I', accessFlags := 0x411 }
/-- [I -/
def k11 : Class := { plain "[I" (some 0) with kind := .array 10 .int, interfaces := #[7, 4], accessFlags := 1041 }

def heap : Heap := #[{ cls := 6, slots := #[.ref 1, .ref 2, .ref 3, .ref 4, .ref 5, .ref 6, .ref 7, .null], vm := .statics 6 },
  { cls := 6, slots := #[.null, .int 0, .int 0, .null], vm := .none },
  { cls := 6, slots := #[.null, .int 1, .int 0, .null], vm := .none },
  { cls := 6, slots := #[.null, .int 2, .int 0, .null], vm := .none },
  { cls := 6, slots := #[.null, .int 3, .int 0, .null], vm := .none },
  { cls := 6, slots := #[.null, .int 4, .int 0, .null], vm := .none },
  { cls := 6, slots := #[.null, .int 5, .int 0, .null], vm := .none },
  { cls := 6, slots := #[.null, .int 6, .int 0, .null], vm := .none }]
def classes : Array Class := #[k0, k1, k2, k3, k4, k5, k6, k7, k8, k9, k10, k11]
def interned : List (Array UInt16 × Addr) := []
def slotsUsed : Nat := 36
def theMethod : MethodId := ⟨1, 1⟩
def args0 : Array Value := #[.int 5]
def aboutOver (below : List Frame) : State where
  vm := { classes := classes, interned := interned.toArray }
  heap := heap
  slotsUsed := slotsUsed
  threads := #[{ frames := .invoking theMethod args0 :: below }]
def below0 : List Frame := [.native { method := ⟨0, 0⟩, args := #[] }]
def about1 : State := aboutOver below0
def p0 : Program := .bare "" "" ""
def e0 : Env := launch0.env 0 0 0
theorem w_frames : about1.frames = Frame.invoking theMethod args0 :: below0 := rfl
set_option maxRecDepth 65536 in
theorem w_args : argsFit about1.vm theMethod args0 = true := by decide +kernel
set_option maxRecDepth 65536 in
theorem w_heap : heapFits about1 = true := by decide +kernel
set_option maxRecDepth 65536 in
theorem w_runnable : about1.curStatus? = some .runnable := by decide +kernel
set_option maxRecDepth 65536 in
theorem w_alone : about1.alone = true := by decide +kernel
set_option maxRecDepth 65536 in
theorem w_named : about1.methodNamed? x = some theMethod := by decide +kernel
set_option maxRecDepth 65536 in
theorem w_hears : about1.hears theMethod below0 = true := by decide +kernel
set_option maxRecDepth 65536 in
theorem w_ripe : about1.ripe theMethod args0 below0 = true := by decide +kernel
theorem w_running : about1.status = .running := rfl
set_option maxRecDepth 65536 in
theorem w_room : about1.hasRoom e0.platform room_1 = true :=
  launch0.hasRoom_least _ room_1 (by decide +kernel) (by decide +kernel) (by decide +kernel) (by decide +kernel) (by decide +kernel) (by decide +kernel)
theorem allAtoms_all (ts : List Jvm.Cond) (a : Array Jvm.Value) (st : Jvm.State) : (allAtoms ts).before a st = ts.all (fun c => c.before a st) := by
  induction ts with
  | nil => rfl
  | cons c t ih =>
    show (Jvm.Cond.and c (allAtoms t)).before a st = _
    rw [Jvm.Cond.before_and, ih, List.all_cons]
def words1 : List Jvm.Cond := Jvm.Cond.code x code maxLocals ret :: tables_1
/-- a 'code' word, met by the world's own term for the bytes: nothing is compared byte by byte -/
theorem code_word {y : MethodName} {bytes : ByteArray} {mx : Nat} {rt : Option FieldType} {a : Array Value} {s : State} {m : MethodId} {meth : Method} {c : Code} (h1 : s.methodNamed? y = some m) (h2 : s.vm.method? m = some meth) (h3 : meth.code = some c) (h4 : c.code = bytes)
    (h5 : (c.maxLocals == mx && c.exceptionTable.isEmpty && decide (c.maxStack ≤ mostOperands) && decide (meth.sig.returnType = rt) && !meth.locks && decide (parseMethodDescriptor y.desc = some meth.sig)) = true) : (Jvm.Cond.code y bytes mx rt).before a s = true := by
  simp only [Bool.and_eq_true, beq_iff_eq, Bool.not_eq_true', decide_eq_true_eq] at h5
  obtain ⟨⟨⟨⟨⟨g1, g2⟩, g3⟩, g4⟩, g5⟩, g6⟩ := h5
  simp [Cond.before, Cond.holds, Cond.value, h1, h2, h3, h4, g1, g2, g3, g4, g5, g6]
def isCode : Jvm.Cond → Bool
  | .code _ _ _ _ => true
  | _ => false
theorem all_split {L : List Jvm.Cond} {P : Jvm.Cond → Bool} (h1 : L.all (fun c => isCode c || P c) = true) (h2 : ∀ c ∈ L.filter isCode, P c = true) : L.all P = true := by
  refine List.all_eq_true.mpr fun c hc => ?_
  have h := List.all_eq_true.mp h1 c hc
  rcases Bool.eq_false_or_eq_true (isCode c) with hi | hi
  · exact h2 c (List.mem_filter.mpr ⟨hc, hi⟩)
  · simpa [hi] using h
set_option maxRecDepth 65536 in
theorem w_c0 : (Jvm.Cond.code x code maxLocals ret).before args0 about1 = true := code_word (m := ⟨1, 1⟩) (meth := k1m1) (c := k1c1) (by decide +kernel) rfl rfl rfl (by decide +kernel)
set_option maxRecDepth 65536 in
theorem w_c1 : (Jvm.Cond.code ({ cls := "com/example/collide/collide/verdict/Verdict", name := "isDecided", desc := "()Z" } : Jvm.MethodName) prog_67_method_5_code (1 : Nat) (Option.some Jvm.ClassFile.FieldType.boolean)).before args0 about1 = true := code_word (m := ⟨6, 0⟩) (meth := k6m0) (c := k6c0) (by decide +kernel) rfl rfl rfl (by decide +kernel)
def codes1 : List Jvm.Cond := [Jvm.Cond.code x code maxLocals ret, Jvm.Cond.code ({ cls := "com/example/collide/collide/verdict/Verdict", name := "isDecided", desc := "()Z" } : Jvm.MethodName) prog_67_method_5_code (1 : Nat) (Option.some Jvm.ClassFile.FieldType.boolean)]
set_option maxRecDepth 65536 in
theorem codes_eq : words1.filter isCode = codes1 := rfl
theorem w_codes : ∀ c ∈ words1.filter isCode, c.before args0 about1 = true := by
  rw [codes_eq]
  intro c hc
  simp only [codes1, List.mem_cons, List.not_mem_nil, or_false] at hc
  rcases hc with rfl | rfl
  · exact w_c0
  · exact w_c1
set_option maxRecDepth 65536 in
theorem w_t1 : words1.all (fun c => isCode c || c.before args0 about1) = true := by decide +kernel
theorem w_tables : (allAtoms (Jvm.Cond.code x code maxLocals ret :: tables_1)).before args0 about1 = true := by
  rw [allAtoms_all]
  show words1.all (fun c => c.before args0 about1) = true
  refine all_split ?_ w_codes
  rw [w_t1]
set_option maxRecDepth 65536 in
theorem w_case : (Jvm.Cond.and given_1 narrow_1).before args0 about1 = true := by decide +kernel
theorem w_applies : (headSpec (Jvm.Cond.code x code maxLocals ret :: tables_1) room_1).applies x e0.platform about1 = true :=
  (Spec.applies_iff w_frames).mpr ⟨w_running, w_runnable, w_alone, w_named, w_hears, w_ripe, w_room, w_tables⟩
theorem atStart : AtStart classFile x code maxLocals ret World_1 tables_1 room_1 Calls_1 rest_1 Pre_1 launch0 p0 e0 about1 theMethod args0 below0 :=
  ⟨lists_1, trivial, launch0.admits_env _ _ _, launch0.least_env, fairChoices_fair.cas, fairChoices_fair.clock, w_frames, w_args, w_heap, w_applies, trivial, trivial, w_case⟩
end start1
theorem witness_1 : WitnessClaimed_1 := ⟨start1.p0, start1.e0, start1.about1, start1.theMethod, start1.args0, start1.below0, start1.atStart⟩
end Jvm.Pilot.@@N@@
