import JvmDerived
import JvmDerived.Pilot.@@N@@Statement
import JvmDerived.Pilot.@@N@@Code
set_option linter.unusedVariables false
set_option linter.unusedSimpArgs false

namespace Jvm.Pilot.@@N@@
open Jvm Jvm.ClassFile Sem Op Lib Jvm.Free Jvm.Stand Jvm.LawKit Jvm.RoadKit Bundle Jvm.Pilot.@@N@@.Jvm.D
def OwnFin (p : Program) (e : Env) (below : List Frame) (Q : Outcome → State → Prop) (T : State) : Prop := ∃ s₂ o, Steps p.tables e below T s₂ ∧ s₂.status = .running ∧ Ended s₂ below o ∧ Q o s₂
theorem OwnFin.step {p : Program} {e : Env} {below : List Frame} {Q : Outcome → State → Prop} {A B : State} (h : ∀ t, Steps p.tables e below A t → Steps p.tables e below B t) (k : OwnFin p e below Q A) : OwnFin p e below Q B := by
  obtain ⟨s₂, o, h1, h2⟩ := k
  exact ⟨s₂, o, h _ h1, h2⟩
theorem own_safe_nil {Z : State} {vm : Vm} {h : Heap} {x : Addr} : Safe Z [] vm h x := fun ⟨_, hp, _⟩ => nomatch hp
theorem own_safe_str {Z : State} {EL : List (String × Nat)} {vm : Vm} {h : Heap} {x : Addr} (hal : Z.vm.Alike vm) (E : Exa Z h x "java/lang/String") (F : Fld Z h x "java/lang/String" "value" "[B" .null) : Safe Z EL vm h x := fun B => by
  obtain ⟨p, -, u, a, -, q, -, G, rfl | rfl⟩ := B
  · obtain ⟨cell, cf, k, i, f, h1, h2, h3, h4, h5, h6, h7⟩ := F
    cases (show h[q.sa]? = some q.sC from G.ha).symm.trans h1
    obtain ⟨cS, ⟨⟨-, -, -, ⟨c1, k1, i1, f1, -⟩, -, -, -, v1, -⟩, -⟩, -⟩ := G
    obtain ⟨k3, e3, -⟩ := State.fieldFound?_setVm (s := Z) hal h2
    have e4 := (show (Wst Z vm h).fieldFound? _ _ _ = _ from e3).symm.trans f1
    simp only [Option.some.injEq, Prod.mk.injEq] at e4
    rw [← e4.2.2.2, h7] at v1
    simp at v1
  · obtain ⟨cell, k, e1, e2, e3, -, -⟩ := E
    cases (show h[q.sd]? = some q.SA from G.hd).symm.trans e1
    obtain ⟨cS, -, -, f, -⟩ := G
    have f : vm.findClass "[B" = some q.SA.cls := f
    rw [hal.findClass] at f
    obtain ⟨k1, q1, q2⟩ := Vm.findClass_spec f
    obtain ⟨k2, q3, q4⟩ := Vm.findClass_spec e2
    cases q1.symm.trans q3
    exact absurd (q2.symm.trans q4) (by decide)
theorem own_fits {C : String} {v : Value} (h : v.isRef = true) : fits (.object C) v = true := by cases v <;> simp_all [Value.isRef, fits]
theorem own_cat {v : Value} (h : v.isRef = true) : v.category = 1 := by cases v <;> simp_all [Value.isRef, Value.category]
theorem own_nonsta {Z : State} {h : Heap} {a : Addr} {C : String} (E : Exa Z h a C) : ∃ cell : Cell, h[a]? = some cell ∧ cell.vm.isStatics = false := by
  obtain ⟨cell, k, h1, -, -, h2, -⟩ := E
  exact ⟨cell, h1, h2⟩
theorem own_sta_keep {Z : State} {h h' : Heap} {ws : List Addr} {C n d : String} {v : Value} (F : Sta Z h C n d v) (K : Keep h h' ws) (q : ∀ x ∈ ws, ∃ cell : Cell, h[x]? = some cell ∧ cell.vm.isStatics = false) : Sta Z h' C n d v := by
  obtain ⟨cf, i, k, f, st, cell, h1, h2, h3, h4, h5, h6, h7⟩ := F
  refine ⟨cf, i, k, f, st, cell, h1, h2, h3, h4, K.2.1 _ _ h5 fun z => ?_, h6, h7⟩
  obtain ⟨c2, e1, e2⟩ := q st z
  rw [h5] at e1
  cases e1
  rw [h6] at e2
  cases e2
theorem own_arr_keep {Z : State} {h h' : Heap} {ws : List Addr} {a : Addr} {c : Cell} {ty : FieldType} (A : Arr Z h a c ty) (K : Keep h h' ws) (q : a ∉ ws) : Arr Z h' a c ty := ⟨K.2.1 a c A.1 q, A.2⟩
section OwnLen
variable {p : Program} {l : Launch} {e : Env} {R : Room} {s : State} {m : MethodId} {args : Array Value} {below : List Frame} {meth : Method} {c : Code} {T : State} {locs : List Loc} {cells slots : Nat} {Z : State} {h : Heap}
theorem own_len (X : Stand p l e R s m args below meth c T locs cells slots) (hx : p.tables.exec = Jvm.exec) (hZ : Z.Warmed39 s.vm) (eT : T.heap = h) {a : Addr} {cl : Cell} {ty : FieldType} (A : Arr Z h a cl ty) {z : Int32} (Sz : cl.slots.size = z.toNatClampNeg) (Ng : ¬ z < 0) {g : JFrame} (hg : g.method = m) {rest : List Value} (hs : g.stack = .ref a :: rest) (hd : decode c.code g.pc = .ok (.arraylength, 1)) {t : State}
    (k : Steps p.tables e below (T.setTop { g with pc := g.pc + 1, stack := .int z :: rest }) t) : Steps p.tables e below (T.setTop g) t := by
  refine X.arraylength hx (by rw [eT]; exact A.1) (State.isArrayOf_alike hZ.alike A.2.1) hg hs hd _ ?_
  rw [len_of Sz Ng]
  exact k
end OwnLen

section OwnStart
variable {args : Array Value} {s : State} {t : Term} {x : Addr}
theorem own_eqI {a : Term} {k : Int32} (h : (Jvm.Cond.eq a (Term.int k)).value args s none s [] = some true) : a.eval args s none [] s = some (.int k) := by
  obtain ⟨v, y, e1, e2, k1, k2⟩ := cmp_v (Or.inl h)
  have e3 : (Term.int k).eval args s none [] s = some (.int k) := Term.int_eval k
  rw [e3] at e2
  cases e2
  obtain ⟨z, rfl⟩ := k2
  simp [Cond.value, e1, e3] at h
  subst h
  exact e1
theorem own_fldI {C n d : String} {k : Int32} (ht : t.eval args s none [] s = some (.ref x)) (h : (Jvm.Cond.eq (Term.field t C n d) (Term.int k)).value args s none s [] = some true) : Fld s s.heap x C n d (.int k) := Fld.start (by rw [← fld_at ht (args := args) (first := s) (o := none) (idx := [])]; exact own_eqI h)
theorem own_neI {a : Term} {z k : Int32} (e1 : a.eval args s none [] s = some (.int z)) (h : (Jvm.Cond.not (Jvm.Cond.eq a (Term.int k))).value args s none s [] = some true) : ¬ z = k := by
  have h2 := not_v h
  have e3 : (Term.int k).eval args s none [] s = some (.int k) := Term.int_eval k
  intro e
  subst e
  simp [Cond.value, e1, e3] at h2
theorem own_eqR {a b : Term} {y : Addr} (hb : b.eval args s none [] s = some (.ref y)) (h : (Jvm.Cond.eq a b).value args s none s [] = some true) : a.eval args s none [] s = some (.ref y) := by
  obtain ⟨v, z, e1, e2, k1, k2⟩ := cmp_v (Or.inl h)
  rw [hb] at e2
  cases e2
  have hv : v.isRef = true := k2.2
  rw [eq_R e1 hb hv rfl] at h
  have := of_decide_eq_true (Option.some.inj h)
  subst this
  exact e1
theorem own_arv {t : Term} {a : Addr} {cl : Cell} {ty : FieldType} {z : Int32} {vs : List Value} {dv : Value} (hf : Fit s) (A : Arr s s.heap a cl ty) (ev : t.eval args s none [] s = some (.ref a)) (hl : (Term.length t).eval args s none [] s = some (.int z)) (hz : ¬ z < 0) (hn : z.toNatClampNeg = vs.length) (H : HasL cl 0 vs) : Arv s s.heap a cl.cls ty z vs dv := by
  obtain ⟨b, cell, h1, h2, h3⟩ := Term.length_spec hl
  cases ev.symm.trans h1
  obtain ⟨hcell, -⟩ := State.arrayAt?_spec h2
  cases A.1.symm.trans hcell
  have hsz : cl.slots.size < 2 ^ 31 := by
    simp only [Term.eval, ev, h2, Option.bind_eq_bind, Option.bind_some] at hl
    by_cases hlt : cl.slots.size < 2147483648
    · exact hlt
    · simp [hlt] at hl
  exact Arv.start hf A hsz (Value.int.inj h3).symm hz hn H
theorem own_elem {t : Term} {a : Addr} {cl : Cell} {ty : FieldType} {j : Int32} {v : Value} (A : Arr s s.heap a cl ty) (ev : t.eval args s none [] s = some (.ref a)) (h : (Term.elem t (Term.int j)).eval args s none [] s = some v) : cl.slots[j.toNatClampNeg]? = some v := (elem_in h ev (Term.int_eval j) A.1).2
end OwnStart

theorem pn_0 : plainName "java/lang/Record" = true := by first | (simp [plainName, overriddenIn]; done) | decide +kernel
theorem d_jdk_30_method_1_0 : decode jdk_30_method_1_code 0 = .ok (.aload_n 0, 1) := by decide +kernel
theorem d_jdk_30_method_1_1 : decode jdk_30_method_1_code 1 = .ok (.invokespecial 1, 3) := by decide +kernel
theorem d_jdk_30_method_1_4 : decode jdk_30_method_1_code 4 = .ok (.return_, 1) := by decide +kernel
theorem ef_1 (m : MethodId) (a : Addr) : entryFrame m #[(.ref a)] 1 = mkF m 0 #[.val (.ref a)] [] := by first | (simp [entryFrame, mkF, argsToLocals, Value.category]; done) | rfl
def Q1 (Z : State) (a : Addr) (h0 : Heap) (n0 : Nat) (vV : Option Value) (hH : Heap) (LL : List Loc) : Prop := vV = none ∧ Fr n0 LL ∧ hH = h0
def R1 (Z : State) (a : Addr) (h0 : Heap) (n0 : Nat) (U : State) (o : Outcome) (U' : State) : Prop := ∃ vV LL, o = .returned vV ∧ Q1 Z a h0 n0 vV U'.heap LL ∧ FrameEnd U o U' LL ({ frames := 1, cells := 0, slots := 0, locals := 12 } : Room).cells ({ frames := 1, cells := 0, slots := 0, locals := 12 } : Room).slots
set_option maxRecDepth 65536 in
set_option maxHeartbeats 40000000 in
theorem rm1 (l : Launch) (Z : State) (a0 : Array Value) (hw : ∀ d ∈ tables_1, d.before a0 Z = true) (ws : List Jvm.Cond) (a : Addr) (h0 : Heap) (n0 : Nat) (Z0 : n0 ≤ h0.size) :
    MetFree l (⟨"java/lang/Record", "<init>", "()V"⟩ : MethodName) (head1 (Jvm.Cond.code (⟨"java/lang/Record", "<init>", "()V"⟩ : MethodName) jdk_30_method_1_code 1 none :: ws) ({ frames := 1, cells := 0, slots := 0, locals := 12 } : Room)) (fun aA U => aA = #[(.ref a)] ∧ Z.Warmed39 U.vm ∧ U.heap = h0) (fun _ _ _ _ _ => True) (fun _ U o U' => ∃ vV LL, o = .returned vV ∧ Q1 Z a h0 n0 vV U'.heap LL ∧ FrameEnd U o U' LL ({ frames := 1, cells := 0, slots := 0, locals := 12 } : Room).cells ({ frames := 1, cells := 0, slots := 0, locals := 12 } : Room).slots) := by
  refine MetFree.of_bodySF (plainFor_of_name pn_0) hisR ?_
  intro p e s m args below meth cC s₁ Bd hml0 hP hK
  obtain ⟨rfl, hZ, hh⟩ := hP
  have hx := Bd.exec
  have hby := Bd.bytes
  have hml : cC.maxLocals = 1 := hml0
  have hown : s.vm.findClass "java/lang/Record" = some m.cls := findClass_of_methodNamed Bd.named
  have hnm := (name_of_methodNamed Bd.named Bd.method).1
  have X0 : Stand p l e ({ frames := 1, cells := 0, slots := 0, locals := 12 } : Room) s m #[(.ref a)] below meth cC s₁ [] 0 0 := Stand.of_body Bd
  have e0 : s₁.heap = h0 := by rw [← hh, Bd.state]; rfl
  have N0 := Fr.nil n0
  show OwnFin p e below (R1 Z a h0 n0 s) (s₁.setTop (entryFrame m #[(.ref a)] 1))
  rw [ef_1 m a]
  refine OwnFin.step (fun tT kK => XS.aloadN X0.here hx rfl (hb hby d_jdk_30_method_1_0) rfl rfl kK) ?_
  show OwnFin p e below _ (s₁.setTop (mkF m 1 #[.val (.ref a)] [(.ref a)]))
  obtain ⟨T1, X1, e1, st1⟩ := initO X0 hx hZ hown (hw _ (List.mem_of_getElem? (i := 20) rfl)) (hw _ (List.mem_of_getElem? (i := 21) rfl)) (hw _ (List.mem_of_getElem? (i := 22) rfl)) e0 (g := (mkF m 1 #[.val (.ref a)] [(.ref a)])) rfl (by rw [hml]; rfl) rfl (hb hby d_jdk_30_method_1_1) (by decide) (W := 0) (by show 2 * 0 + _ ≤ _; exact Nat.le_of_eq rfl) (by decide)
  refine OwnFin.step st1 ?_
  show OwnFin p e below _ (T1.setTop (mkF m 4 #[.val (.ref a)] []))
  obtain ⟨fs2, hr2, hrun2, hended2, hW2, hsame2⟩ := X1.leave (v := none) (fun _ => rfl)
  refine ⟨_, _, X1.returnOut hx Bd.returns (hb hby d_jdk_30_method_1_4) hr2, hrun2, hended2, _, _, rfl, ?_, ⟨_, rfl⟩, hW2, hsame2.mono (by decide) (by decide)⟩
  show Q1 Z a h0 n0 _ T1.heap _
  rw [e1]
  exact ⟨rfl, N0, rfl⟩
theorem pn_4 : plainName "com/example/myna/myna/delivery/Deliveries$Lanes" = true := by first | (simp [plainName, overriddenIn]; done) | decide +kernel
theorem d_prog_14_method_1_0 : decode prog_14_method_1_code 0 = .ok (.aload_n 0, 1) := by decide +kernel
theorem d_prog_14_method_1_1 : decode prog_14_method_1_code 1 = .ok (.invokespecial 1, 3) := by decide +kernel
theorem pd_7 : parseMethodDescriptor "()V" = some ⟨[], none⟩ := by decide +kernel
theorem d_prog_14_method_1_4 : decode prog_14_method_1_code 4 = .ok (.aload_n 0, 1) := by decide +kernel
theorem d_prog_14_method_1_5 : decode prog_14_method_1_code 5 = .ok (.aload_n 1, 1) := by decide +kernel
theorem d_prog_14_method_1_6 : decode prog_14_method_1_code 6 = .ok (.putfield 7, 3) := by decide +kernel
theorem d_prog_14_method_1_9 : decode prog_14_method_1_code 9 = .ok (.aload_n 0, 1) := by decide +kernel
theorem d_prog_14_method_1_10 : decode prog_14_method_1_code 10 = .ok (.aload_n 2, 1) := by decide +kernel
theorem d_prog_14_method_1_11 : decode prog_14_method_1_code 11 = .ok (.putfield 13, 3) := by decide +kernel
theorem d_prog_14_method_1_14 : decode prog_14_method_1_code 14 = .ok (.aload_n 0, 1) := by decide +kernel
theorem d_prog_14_method_1_15 : decode prog_14_method_1_code 15 = .ok (.iload_n 3, 1) := by decide +kernel
theorem d_prog_14_method_1_16 : decode prog_14_method_1_code 16 = .ok (.putfield 17, 3) := by decide +kernel
theorem d_prog_14_method_1_19 : decode prog_14_method_1_code 19 = .ok (.aload_n 0, 1) := by decide +kernel
theorem d_prog_14_method_1_20 : decode prog_14_method_1_code 20 = .ok (.aload 4, 2) := by decide +kernel
theorem d_prog_14_method_1_22 : decode prog_14_method_1_code 22 = .ok (.putfield 21, 3) := by decide +kernel
theorem d_prog_14_method_1_25 : decode prog_14_method_1_code 25 = .ok (.aload_n 0, 1) := by decide +kernel
theorem d_prog_14_method_1_26 : decode prog_14_method_1_code 26 = .ok (.aload 5, 2) := by decide +kernel
theorem d_prog_14_method_1_28 : decode prog_14_method_1_code 28 = .ok (.putfield 25, 3) := by decide +kernel
theorem d_prog_14_method_1_31 : decode prog_14_method_1_code 31 = .ok (.return_, 1) := by decide +kernel
theorem ef_2 (m : MethodId) (a : Addr) (u1 : Value) (u2 : Value) (pe : Int32) (u4 : Value) (u5 : Value) (r_u1 : u1.isRef = true) (r_u2 : u2.isRef = true) (r_u4 : u4.isRef = true) (r_u5 : u5.isRef = true) : entryFrame m #[(.ref a), u1, u2, (.int pe), u4, u5] 6 = mkF m 0 #[.val (.ref a), .val u1, .val u2, .val (.int pe), .val u4, .val u5] [] := by
  rcases ref_cases r_u1 with rfl | ⟨_, rfl⟩ <;> rcases ref_cases r_u2 with rfl | ⟨_, rfl⟩ <;> rcases ref_cases r_u4 with rfl | ⟨_, rfl⟩ <;> rcases ref_cases r_u5 with rfl | ⟨_, rfl⟩
  all_goals first | (simp [entryFrame, mkF, argsToLocals, Value.category]; done) | rfl
def Q2 (Z : State) (a : Addr) (u1 : Value) (u2 : Value) (pe : Int32) (u4 : Value) (u5 : Value) (h0 : Heap) (n0 : Nat) (vV : Option Value) (hH : Heap) (LL : List Loc) : Prop := vV = none ∧ Fr n0 LL ∧ Keep h0 hH [a] ∧ (Exa Z hH a "com/example/myna/myna/delivery/Deliveries$Lanes") ∧ (Fld Z hH a "com/example/myna/myna/delivery/Deliveries$Lanes" "endpointIds" "Ljava/util/List;" u1) ∧ (Fld Z hH a "com/example/myna/myna/delivery/Deliveries$Lanes" "openRequests" "Ljava/util/Map;" u2) ∧ (Fld Z hH a "com/example/myna/myna/delivery/Deliveries$Lanes" "perEndpoint" "I" (.int pe)) ∧ (Fld Z hH a "com/example/myna/myna/delivery/Deliveries$Lanes" "shut" "Ljava/util/Set;" u4) ∧ (Fld Z hH a "com/example/myna/myna/delivery/Deliveries$Lanes" "deferred" "Ljava/util/Set;" u5)
def R2 (Z : State) (a : Addr) (u1 : Value) (u2 : Value) (pe : Int32) (u4 : Value) (u5 : Value) (h0 : Heap) (n0 : Nat) (U : State) (o : Outcome) (U' : State) : Prop := ∃ vV LL, o = .returned vV ∧ Q2 Z a u1 u2 pe u4 u5 h0 n0 vV U'.heap LL ∧ FrameEnd U o U' LL ({ frames := 2, cells := 0, slots := 0, locals := 24 } : Room).cells ({ frames := 2, cells := 0, slots := 0, locals := 24 } : Room).slots
set_option maxRecDepth 65536 in
set_option maxHeartbeats 40000000 in
theorem rm2 (l : Launch) (Z : State) (a0 : Array Value) (hw : ∀ d ∈ tables_1, d.before a0 Z = true) (ws : List Jvm.Cond) (a : Addr) (u1 : Value) (u2 : Value) (pe : Int32) (u4 : Value) (u5 : Value) (h0 : Heap) (n0 : Nat) (Z0 : n0 ≤ h0.size) (hp0 : Exa Z h0 a "com/example/myna/myna/delivery/Deliveries$Lanes") (hp1 : Fld Z h0 a "com/example/myna/myna/delivery/Deliveries$Lanes" "endpointIds" "Ljava/util/List;" .null) (hp2 : Fld Z h0 a "com/example/myna/myna/delivery/Deliveries$Lanes" "openRequests" "Ljava/util/Map;" .null) (hp3 : Fld Z h0 a "com/example/myna/myna/delivery/Deliveries$Lanes" "perEndpoint" "I" (.int (0 : Int32))) (hp4 : Fld Z h0 a "com/example/myna/myna/delivery/Deliveries$Lanes" "shut" "Ljava/util/Set;" .null) (hp5 : Fld Z h0 a "com/example/myna/myna/delivery/Deliveries$Lanes" "deferred" "Ljava/util/Set;" .null) (hp6 : u1.isRef = true) (hp7 : u2.isRef = true) (hp8 : u4.isRef = true) (hp9 : u5.isRef = true) (hp10 : n0 ≤ a) :
    MetFree l (⟨"com/example/myna/myna/delivery/Deliveries$Lanes", "<init>", "(Ljava/util/List;Ljava/util/Map;ILjava/util/Set;Ljava/util/Set;)V"⟩ : MethodName) (head1 (Jvm.Cond.code (⟨"com/example/myna/myna/delivery/Deliveries$Lanes", "<init>", "(Ljava/util/List;Ljava/util/Map;ILjava/util/Set;Ljava/util/Set;)V"⟩ : MethodName) prog_14_method_1_code 6 none :: ws) ({ frames := 2, cells := 0, slots := 0, locals := 24 } : Room)) (fun aA U => aA = #[(.ref a), u1, u2, (.int pe), u4, u5] ∧ Z.Warmed39 U.vm ∧ U.heap = h0) (fun _ _ _ _ _ => True) (fun _ U o U' => ∃ vV LL, o = .returned vV ∧ Q2 Z a u1 u2 pe u4 u5 h0 n0 vV U'.heap LL ∧ FrameEnd U o U' LL ({ frames := 2, cells := 0, slots := 0, locals := 24 } : Room).cells ({ frames := 2, cells := 0, slots := 0, locals := 24 } : Room).slots) := by
  refine MetFree.of_bodySF (plainFor_of_name pn_4) hisR ?_
  intro p e s m args below meth cC s₁ Bd hml0 hP hK
  obtain ⟨rfl, hZ, hh⟩ := hP
  have hx := Bd.exec
  have hby := Bd.bytes
  have hml : cC.maxLocals = 6 := hml0
  have hown : s.vm.findClass "com/example/myna/myna/delivery/Deliveries$Lanes" = some m.cls := findClass_of_methodNamed Bd.named
  have hnm := (name_of_methodNamed Bd.named Bd.method).1
  have X0 : Stand p l e ({ frames := 2, cells := 0, slots := 0, locals := 24 } : Room) s m #[(.ref a), u1, u2, (.int pe), u4, u5] below meth cC s₁ [] 0 0 := Stand.of_body Bd
  have e0 : s₁.heap = h0 := by rw [← hh, Bd.state]; rfl
  have N0 := Fr.nil n0
  show OwnFin p e below (R2 Z a u1 u2 pe u4 u5 h0 n0 s) (s₁.setTop (entryFrame m #[(.ref a), u1, u2, (.int pe), u4, u5] 6))
  rw [ef_2 m a u1 u2 pe u4 u5 hp6 hp7 hp8 hp9]
  refine OwnFin.step (fun tT kK => XS.aloadN X0.here hx rfl (hb hby d_prog_14_method_1_0) rfl rfl kK) ?_
  show OwnFin p e below _ (s₁.setTop (mkF m 1 #[.val (.ref a), .val u1, .val u2, .val (.int pe), .val u4, .val u5] [(.ref a)]))
  obtain ⟨_, _, ⟨T1, L1, k1, n1⟩, -, X1, ⟨Lc1, hQ1, l1, y1, z1⟩, st1⟩ := X0.specialBack hx (y := (⟨"java/lang/Record", "<init>", "()V"⟩ : MethodName)) rfl hown (mvT hZ (hw _ (List.mem_of_getElem? (i := 15) rfl))) (mvT hZ (hw _ (List.mem_of_getElem? (i := 16) rfl))) (mvT hZ (hw _ (List.mem_of_getElem? (i := 19) rfl))) (by decide) (backOf (W := 0) (rm1 l Z a0 hw [] a h0 n0 Z0 ) hZ (hw _ (List.mem_of_getElem? (i := 19) rfl)) (hw _ (List.mem_of_getElem? (i := 18) rfl)) (by decide) (by decide)) (g := (mkF m 1 #[.val (.ref a), .val u1, .val u2, .val (.int pe), .val u4, .val u5] [(.ref a)])) rfl (by rw [hml]; rfl) (Steps.refl _) (a := a) (argsL := []) (rest := []) (lenOf pd_7 rfl) rfl (by show 2 * 0 + _ ≤ _; exact Nat.le_of_eq rfl) (hb hby d_prog_14_method_1_1) (fun _ _ => ⟨rfl, e0, (by decide : 0 + 0 ≤ _), (by decide : 0 + 0 ≤ _)⟩)
  dsimp only [Pt.U, Pt.locs, Pt.cells, Pt.slots] at X1 l1 y1 z1 st1 hQ1
  subst l1 y1 z1
  obtain ⟨rfl, N1q, e1⟩ := hQ1
  have N1 := Fr.app N0 N1q
  refine OwnFin.step (fun tT kK => st1.trans kK) ?_
  show OwnFin p e below _ (T1.setTop (mkF m 4 #[.val (.ref a), .val u1, .val u2, .val (.int pe), .val u4, .val u5] []))
  refine OwnFin.step (fun tT kK => XS.aloadN X1.here hx rfl (hb hby d_prog_14_method_1_4) rfl rfl kK) ?_
  show OwnFin p e below _ (T1.setTop (mkF m 5 #[.val (.ref a), .val u1, .val u2, .val (.int pe), .val u4, .val u5] [(.ref a)]))
  refine OwnFin.step (fun tT kK => XS.aloadN X1.here hx rfl (hb hby d_prog_14_method_1_5) rfl hp6 kK) ?_
  show OwnFin p e below _ (T1.setTop (mkF m 6 #[.val (.ref a), .val u1, .val u2, .val (.int pe), .val u4, .val u5] [u1, (.ref a)]))
  obtain ⟨T2, h2, X2, e2, W2, st2⟩ := putF X1 hx hZ hown (host := "") (Or.inl (hw _ (List.mem_of_getElem? (i := 23) rfl))) Via.refl e1 hp1 hp0 (Or.inr ⟨(hw _ (List.mem_of_getElem? (i := 24) rfl)), rfl, hnm⟩) (hw _ (List.mem_of_getElem? (i := 5) rfl)) (ty := (.object "java/util/List")) (by decide) rfl (own_fits hp6) (g := (mkF m 6 #[.val (.ref a), .val u1, .val u2, .val (.int pe), .val u4, .val u5] [u1, (.ref a)])) rfl rfl (hb hby d_prog_14_method_1_6)
  refine OwnFin.step st2 ?_
  have N2 := Fr.snoc X2 N1 hp10
  have Fw2 : Fld Z h2 a "com/example/myna/myna/delivery/Deliveries$Lanes" "endpointIds" "Ljava/util/List;" u1 := hp1.same W2
  show OwnFin p e below _ (T2.setTop (mkF m 9 #[.val (.ref a), .val u1, .val u2, .val (.int pe), .val u4, .val u5] []))
  refine OwnFin.step (fun tT kK => XS.aloadN X2.here hx rfl (hb hby d_prog_14_method_1_9) rfl rfl kK) ?_
  show OwnFin p e below _ (T2.setTop (mkF m 10 #[.val (.ref a), .val u1, .val u2, .val (.int pe), .val u4, .val u5] [(.ref a)]))
  refine OwnFin.step (fun tT kK => XS.aloadN X2.here hx rfl (hb hby d_prog_14_method_1_10) rfl hp7 kK) ?_
  show OwnFin p e below _ (T2.setTop (mkF m 11 #[.val (.ref a), .val u1, .val u2, .val (.int pe), .val u4, .val u5] [u2, (.ref a)]))
  have f3 : Exa Z h2 a "com/example/myna/myna/delivery/Deliveries$Lanes" := (hp0.wr W2)
  have f4 : Fld Z h2 a "com/example/myna/myna/delivery/Deliveries$Lanes" "openRequests" "Ljava/util/Map;" .null := (hp2.other W2 (Or.inr (slot_ne (Or.inr (hw _ (List.mem_of_getElem? (i := 26) rfl))) (Or.inr (hw _ (List.mem_of_getElem? (i := 24) rfl))) (by decide) (t := (.object "java/util/Map")) (t' := (.object "java/util/List")) (by decide) (by decide))))
  obtain ⟨T5, h5, X5, e5, W5, st5⟩ := putF X2 hx hZ hown (host := "") (Or.inl (hw _ (List.mem_of_getElem? (i := 25) rfl))) Via.refl e2 f4 f3 (Or.inr ⟨(hw _ (List.mem_of_getElem? (i := 26) rfl)), rfl, hnm⟩) (hw _ (List.mem_of_getElem? (i := 5) rfl)) (ty := (.object "java/util/Map")) (by decide) rfl (own_fits hp7) (g := (mkF m 11 #[.val (.ref a), .val u1, .val u2, .val (.int pe), .val u4, .val u5] [u2, (.ref a)])) rfl rfl (hb hby d_prog_14_method_1_11)
  refine OwnFin.step st5 ?_
  have N5 := Fr.snoc X5 N2 hp10
  have Fw5 : Fld Z h5 a "com/example/myna/myna/delivery/Deliveries$Lanes" "openRequests" "Ljava/util/Map;" u2 := f4.same W5
  show OwnFin p e below _ (T5.setTop (mkF m 14 #[.val (.ref a), .val u1, .val u2, .val (.int pe), .val u4, .val u5] []))
  refine OwnFin.step (fun tT kK => XS.aloadN X5.here hx rfl (hb hby d_prog_14_method_1_14) rfl rfl kK) ?_
  show OwnFin p e below _ (T5.setTop (mkF m 15 #[.val (.ref a), .val u1, .val u2, .val (.int pe), .val u4, .val u5] [(.ref a)]))
  refine OwnFin.step (fun tT kK => XS.iloadN X5.here hx rfl (hb hby d_prog_14_method_1_15) rfl kK) ?_
  show OwnFin p e below _ (T5.setTop (mkF m 16 #[.val (.ref a), .val u1, .val u2, .val (.int pe), .val u4, .val u5] [(.int pe), (.ref a)]))
  have f6 : Exa Z h5 a "com/example/myna/myna/delivery/Deliveries$Lanes" := (f3.wr W5)
  have f7 : Fld Z h5 a "com/example/myna/myna/delivery/Deliveries$Lanes" "perEndpoint" "I" (.int (0 : Int32)) := ((hp3.other W2 (Or.inr (slot_ne (Or.inr (hw _ (List.mem_of_getElem? (i := 28) rfl))) (Or.inr (hw _ (List.mem_of_getElem? (i := 24) rfl))) (by decide) (t := .int) (t' := (.object "java/util/List")) (by decide) (by decide)))).other W5 (Or.inr (slot_ne (Or.inr (hw _ (List.mem_of_getElem? (i := 28) rfl))) (Or.inr (hw _ (List.mem_of_getElem? (i := 26) rfl))) (by decide) (t := .int) (t' := (.object "java/util/Map")) (by decide) (by decide))))
  obtain ⟨T8, h8, X8, e8, W8, st8⟩ := putF X5 hx hZ hown (host := "") (Or.inl (hw _ (List.mem_of_getElem? (i := 27) rfl))) Via.refl e5 f7 f6 (Or.inr ⟨(hw _ (List.mem_of_getElem? (i := 28) rfl)), rfl, hnm⟩) (hw _ (List.mem_of_getElem? (i := 5) rfl)) (ty := .int) (by decide) rfl rfl (g := (mkF m 16 #[.val (.ref a), .val u1, .val u2, .val (.int pe), .val u4, .val u5] [(.int pe), (.ref a)])) rfl rfl (hb hby d_prog_14_method_1_16)
  refine OwnFin.step st8 ?_
  have N8 := Fr.snoc X8 N5 hp10
  have Fw8 : Fld Z h8 a "com/example/myna/myna/delivery/Deliveries$Lanes" "perEndpoint" "I" (.int pe) := f7.same W8
  show OwnFin p e below _ (T8.setTop (mkF m 19 #[.val (.ref a), .val u1, .val u2, .val (.int pe), .val u4, .val u5] []))
  refine OwnFin.step (fun tT kK => XS.aloadN X8.here hx rfl (hb hby d_prog_14_method_1_19) rfl rfl kK) ?_
  show OwnFin p e below _ (T8.setTop (mkF m 20 #[.val (.ref a), .val u1, .val u2, .val (.int pe), .val u4, .val u5] [(.ref a)]))
  refine OwnFin.step (fun tT kK => XS.aload X8.here hx rfl (hb hby d_prog_14_method_1_20) rfl hp8 kK) ?_
  show OwnFin p e below _ (T8.setTop (mkF m 22 #[.val (.ref a), .val u1, .val u2, .val (.int pe), .val u4, .val u5] [u4, (.ref a)]))
  have f9 : Exa Z h8 a "com/example/myna/myna/delivery/Deliveries$Lanes" := (f6.wr W8)
  have f10 : Fld Z h8 a "com/example/myna/myna/delivery/Deliveries$Lanes" "shut" "Ljava/util/Set;" .null := (((hp4.other W2 (Or.inr (slot_ne (Or.inr (hw _ (List.mem_of_getElem? (i := 30) rfl))) (Or.inr (hw _ (List.mem_of_getElem? (i := 24) rfl))) (by decide) (t := (.object "java/util/Set")) (t' := (.object "java/util/List")) (by decide) (by decide)))).other W5 (Or.inr (slot_ne (Or.inr (hw _ (List.mem_of_getElem? (i := 30) rfl))) (Or.inr (hw _ (List.mem_of_getElem? (i := 26) rfl))) (by decide) (t := (.object "java/util/Set")) (t' := (.object "java/util/Map")) (by decide) (by decide)))).other W8 (Or.inr (slot_ne (Or.inr (hw _ (List.mem_of_getElem? (i := 30) rfl))) (Or.inr (hw _ (List.mem_of_getElem? (i := 28) rfl))) (by decide) (t := (.object "java/util/Set")) (t' := .int) (by decide) (by decide))))
  obtain ⟨T11, h11, X11, e11, W11, st11⟩ := putF X8 hx hZ hown (host := "") (Or.inl (hw _ (List.mem_of_getElem? (i := 29) rfl))) Via.refl e8 f10 f9 (Or.inr ⟨(hw _ (List.mem_of_getElem? (i := 30) rfl)), rfl, hnm⟩) (hw _ (List.mem_of_getElem? (i := 5) rfl)) (ty := (.object "java/util/Set")) (by decide) rfl (own_fits hp8) (g := (mkF m 22 #[.val (.ref a), .val u1, .val u2, .val (.int pe), .val u4, .val u5] [u4, (.ref a)])) rfl rfl (hb hby d_prog_14_method_1_22)
  refine OwnFin.step st11 ?_
  have N11 := Fr.snoc X11 N8 hp10
  have Fw11 : Fld Z h11 a "com/example/myna/myna/delivery/Deliveries$Lanes" "shut" "Ljava/util/Set;" u4 := f10.same W11
  show OwnFin p e below _ (T11.setTop (mkF m 25 #[.val (.ref a), .val u1, .val u2, .val (.int pe), .val u4, .val u5] []))
  refine OwnFin.step (fun tT kK => XS.aloadN X11.here hx rfl (hb hby d_prog_14_method_1_25) rfl rfl kK) ?_
  show OwnFin p e below _ (T11.setTop (mkF m 26 #[.val (.ref a), .val u1, .val u2, .val (.int pe), .val u4, .val u5] [(.ref a)]))
  refine OwnFin.step (fun tT kK => XS.aload X11.here hx rfl (hb hby d_prog_14_method_1_26) rfl hp9 kK) ?_
  show OwnFin p e below _ (T11.setTop (mkF m 28 #[.val (.ref a), .val u1, .val u2, .val (.int pe), .val u4, .val u5] [u5, (.ref a)]))
  have f12 : Exa Z h11 a "com/example/myna/myna/delivery/Deliveries$Lanes" := (f9.wr W11)
  have f13 : Fld Z h11 a "com/example/myna/myna/delivery/Deliveries$Lanes" "deferred" "Ljava/util/Set;" .null := ((((hp5.other W2 (Or.inr (slot_ne (Or.inr (hw _ (List.mem_of_getElem? (i := 32) rfl))) (Or.inr (hw _ (List.mem_of_getElem? (i := 24) rfl))) (by decide) (t := (.object "java/util/Set")) (t' := (.object "java/util/List")) (by decide) (by decide)))).other W5 (Or.inr (slot_ne (Or.inr (hw _ (List.mem_of_getElem? (i := 32) rfl))) (Or.inr (hw _ (List.mem_of_getElem? (i := 26) rfl))) (by decide) (t := (.object "java/util/Set")) (t' := (.object "java/util/Map")) (by decide) (by decide)))).other W8 (Or.inr (slot_ne (Or.inr (hw _ (List.mem_of_getElem? (i := 32) rfl))) (Or.inr (hw _ (List.mem_of_getElem? (i := 28) rfl))) (by decide) (t := (.object "java/util/Set")) (t' := .int) (by decide) (by decide)))).other W11 (Or.inr (slot_ne (Or.inr (hw _ (List.mem_of_getElem? (i := 32) rfl))) (Or.inr (hw _ (List.mem_of_getElem? (i := 30) rfl))) (by decide) (t := (.object "java/util/Set")) (t' := (.object "java/util/Set")) (by decide) (by decide))))
  obtain ⟨T14, h14, X14, e14, W14, st14⟩ := putF X11 hx hZ hown (host := "") (Or.inl (hw _ (List.mem_of_getElem? (i := 31) rfl))) Via.refl e11 f13 f12 (Or.inr ⟨(hw _ (List.mem_of_getElem? (i := 32) rfl)), rfl, hnm⟩) (hw _ (List.mem_of_getElem? (i := 5) rfl)) (ty := (.object "java/util/Set")) (by decide) rfl (own_fits hp9) (g := (mkF m 28 #[.val (.ref a), .val u1, .val u2, .val (.int pe), .val u4, .val u5] [u5, (.ref a)])) rfl rfl (hb hby d_prog_14_method_1_28)
  refine OwnFin.step st14 ?_
  have N14 := Fr.snoc X14 N11 hp10
  have Fw14 : Fld Z h14 a "com/example/myna/myna/delivery/Deliveries$Lanes" "deferred" "Ljava/util/Set;" u5 := f13.same W14
  show OwnFin p e below _ (T14.setTop (mkF m 31 #[.val (.ref a), .val u1, .val u2, .val (.int pe), .val u4, .val u5] []))
  have f16 : Exa Z h14 a "com/example/myna/myna/delivery/Deliveries$Lanes" := (f12.wr W14)
  have f17 : Fld Z h14 a "com/example/myna/myna/delivery/Deliveries$Lanes" "endpointIds" "Ljava/util/List;" u1 := ((((Fw2.other W5 (Or.inr (slot_ne (Or.inr (hw _ (List.mem_of_getElem? (i := 24) rfl))) (Or.inr (hw _ (List.mem_of_getElem? (i := 26) rfl))) (by decide) (t := (.object "java/util/List")) (t' := (.object "java/util/Map")) (by decide) (by decide)))).other W8 (Or.inr (slot_ne (Or.inr (hw _ (List.mem_of_getElem? (i := 24) rfl))) (Or.inr (hw _ (List.mem_of_getElem? (i := 28) rfl))) (by decide) (t := (.object "java/util/List")) (t' := .int) (by decide) (by decide)))).other W11 (Or.inr (slot_ne (Or.inr (hw _ (List.mem_of_getElem? (i := 24) rfl))) (Or.inr (hw _ (List.mem_of_getElem? (i := 30) rfl))) (by decide) (t := (.object "java/util/List")) (t' := (.object "java/util/Set")) (by decide) (by decide)))).other W14 (Or.inr (slot_ne (Or.inr (hw _ (List.mem_of_getElem? (i := 24) rfl))) (Or.inr (hw _ (List.mem_of_getElem? (i := 32) rfl))) (by decide) (t := (.object "java/util/List")) (t' := (.object "java/util/Set")) (by decide) (by decide))))
  have f18 : Fld Z h14 a "com/example/myna/myna/delivery/Deliveries$Lanes" "openRequests" "Ljava/util/Map;" u2 := (((Fw5.other W8 (Or.inr (slot_ne (Or.inr (hw _ (List.mem_of_getElem? (i := 26) rfl))) (Or.inr (hw _ (List.mem_of_getElem? (i := 28) rfl))) (by decide) (t := (.object "java/util/Map")) (t' := .int) (by decide) (by decide)))).other W11 (Or.inr (slot_ne (Or.inr (hw _ (List.mem_of_getElem? (i := 26) rfl))) (Or.inr (hw _ (List.mem_of_getElem? (i := 30) rfl))) (by decide) (t := (.object "java/util/Map")) (t' := (.object "java/util/Set")) (by decide) (by decide)))).other W14 (Or.inr (slot_ne (Or.inr (hw _ (List.mem_of_getElem? (i := 26) rfl))) (Or.inr (hw _ (List.mem_of_getElem? (i := 32) rfl))) (by decide) (t := (.object "java/util/Map")) (t' := (.object "java/util/Set")) (by decide) (by decide))))
  have f19 : Fld Z h14 a "com/example/myna/myna/delivery/Deliveries$Lanes" "perEndpoint" "I" (.int pe) := ((Fw8.other W11 (Or.inr (slot_ne (Or.inr (hw _ (List.mem_of_getElem? (i := 28) rfl))) (Or.inr (hw _ (List.mem_of_getElem? (i := 30) rfl))) (by decide) (t := .int) (t' := (.object "java/util/Set")) (by decide) (by decide)))).other W14 (Or.inr (slot_ne (Or.inr (hw _ (List.mem_of_getElem? (i := 28) rfl))) (Or.inr (hw _ (List.mem_of_getElem? (i := 32) rfl))) (by decide) (t := .int) (t' := (.object "java/util/Set")) (by decide) (by decide))))
  have f20 : Fld Z h14 a "com/example/myna/myna/delivery/Deliveries$Lanes" "shut" "Ljava/util/Set;" u4 := (Fw11.other W14 (Or.inr (slot_ne (Or.inr (hw _ (List.mem_of_getElem? (i := 30) rfl))) (Or.inr (hw _ (List.mem_of_getElem? (i := 32) rfl))) (by decide) (t := (.object "java/util/Set")) (t' := (.object "java/util/Set")) (by decide) (by decide))))
  obtain ⟨fs15, hr15, hrun15, hended15, hW15, hsame15⟩ := X14.leave (v := none) (fun _ => rfl)
  refine ⟨_, _, X14.returnOut hx Bd.returns (hb hby d_prog_14_method_1_31) hr15, hrun15, hended15, _, _, rfl, ?_, ⟨_, rfl⟩, hW15, hsame15.mono (by decide) (by decide)⟩
  show Q2 Z a u1 u2 pe u4 u5 h0 n0 _ T14.heap _
  rw [e14]
  exact ⟨rfl, N14, ((((((Keep.refl h0 [a]).wr W2 (Or.inl (List.mem_of_getElem? (i := 0) rfl))).wr W5 (Or.inl (List.mem_of_getElem? (i := 0) rfl))).wr W8 (Or.inl (List.mem_of_getElem? (i := 0) rfl))).wr W11 (Or.inl (List.mem_of_getElem? (i := 0) rfl))).wr W14 (Or.inl (List.mem_of_getElem? (i := 0) rfl))), f16, f17, f18, f19, f20, Fw14⟩
theorem pn_24 : plainName "java/util/Set" = true := by first | (simp [plainName, overriddenIn]; done) | decide +kernel
theorem d_jdk_96_method_17_0 : decode jdk_96_method_17_code 0 = .ok (.getstatic 9, 3) := by decide +kernel
theorem d_jdk_96_method_17_3 : decode jdk_96_method_17_code 3 = .ok (.areturn, 1) := by decide +kernel
theorem ef_3 (m : MethodId)  : entryFrame m #[] 0 = mkF m 0 #[] [] := by first | (simp [entryFrame, mkF, argsToLocals, Value.category]; done) | rfl
def Q3 (Z : State) (es : Addr) (h0 : Heap) (n0 : Nat) (vV : Option Value) (hH : Heap) (LL : List Loc) : Prop := vV = some (.ref es) ∧ Fr n0 LL ∧ hH = h0
def R3 (Z : State) (es : Addr) (h0 : Heap) (n0 : Nat) (U : State) (o : Outcome) (U' : State) : Prop := ∃ vV LL, o = .returned vV ∧ Q3 Z es h0 n0 vV U'.heap LL ∧ FrameEnd U o U' LL ({ frames := 0, cells := 0, slots := 0, locals := 0 } : Room).cells ({ frames := 0, cells := 0, slots := 0, locals := 0 } : Room).slots
set_option maxRecDepth 65536 in
set_option maxHeartbeats 40000000 in
theorem rm3 (l : Launch) (Z : State) (a0 : Array Value) (hw : ∀ d ∈ tables_1, d.before a0 Z = true) (ws : List Jvm.Cond) (es : Addr) (h0 : Heap) (n0 : Nat) (Z0 : n0 ≤ h0.size) (hp0 : Sta Z h0 "java/util/ImmutableCollections" "EMPTY_SET" "Ljava/util/ImmutableCollections$SetN;" (.ref es)) :
    MetFree l (⟨"java/util/Set", "of", "()Ljava/util/Set;"⟩ : MethodName) (head1 (Jvm.Cond.code (⟨"java/util/Set", "of", "()Ljava/util/Set;"⟩ : MethodName) jdk_96_method_17_code 0 (some (.object "java/util/Set")) :: ws) ({ frames := 0, cells := 0, slots := 0, locals := 0 } : Room)) (fun aA U => aA = #[] ∧ Z.Warmed39 U.vm ∧ U.heap = h0) (fun _ _ _ _ _ => True) (fun _ U o U' => ∃ vV LL, o = .returned vV ∧ Q3 Z es h0 n0 vV U'.heap LL ∧ FrameEnd U o U' LL ({ frames := 0, cells := 0, slots := 0, locals := 0 } : Room).cells ({ frames := 0, cells := 0, slots := 0, locals := 0 } : Room).slots) := by
  refine MetFree.of_bodySF (plainFor_of_name pn_24) hisR ?_
  intro p e s m args below meth cC s₁ Bd hml0 hP hK
  obtain ⟨rfl, hZ, hh⟩ := hP
  have hx := Bd.exec
  have hby := Bd.bytes
  have hml : cC.maxLocals = 0 := hml0
  have hown : s.vm.findClass "java/util/Set" = some m.cls := findClass_of_methodNamed Bd.named
  have hnm := (name_of_methodNamed Bd.named Bd.method).1
  have X0 : Stand p l e ({ frames := 0, cells := 0, slots := 0, locals := 0 } : Room) s m #[] below meth cC s₁ [] 0 0 := Stand.of_body Bd
  have e0 : s₁.heap = h0 := by rw [← hh, Bd.state]; rfl
  have N0 := Fr.nil n0
  show OwnFin p e below (R3 Z es h0 n0 s) (s₁.setTop (entryFrame m #[] 0))
  rw [ef_3 m]
  obtain ⟨T1, X1, e1, st1⟩ := getS2 X0 hx hZ hown (host := "") (Or.inl (hw _ (List.mem_of_getElem? (i := 10) rfl))) Via.refl e0 hp0 (g := (mkF m 0 #[] [])) rfl (hb hby d_jdk_96_method_17_0)
  refine OwnFin.step st1 ?_
  show OwnFin p e below _ (T1.setTop (mkF m 3 #[] [(.ref es)]))
  obtain ⟨fs2, hr2, hrun2, hended2, hW2, hsame2⟩ := X1.leave (v := (some (.ref es))) (fun h => by rw [Bd.returns] at h; cases h)
  refine ⟨_, _, retOut X1 hx Bd.returns rfl (Or.inr (Or.inr (Or.inr (Or.inr ⟨rfl, rfl, rfl⟩)))) (hb hby d_jdk_96_method_17_3) hr2, hrun2, hended2, _, _, rfl, ?_, ⟨_, rfl⟩, hW2, hsame2.mono (by decide) (by decide)⟩
  show Q3 Z es h0 n0 _ T1.heap _
  rw [e1]
  exact ⟨rfl, N0, rfl⟩
theorem d_prog_14_method_2_0 : decode prog_14_method_2_code 0 = .ok (.new 8, 3) := by decide +kernel
theorem d_prog_14_method_2_3 : decode prog_14_method_2_code 3 = .ok (.dup, 1) := by decide +kernel
theorem d_prog_14_method_2_4 : decode prog_14_method_2_code 4 = .ok (.aconst_null, 1) := by decide +kernel
theorem d_prog_14_method_2_5 : decode prog_14_method_2_code 5 = .ok (.aload_n 0, 1) := by decide +kernel
theorem d_prog_14_method_2_6 : decode prog_14_method_2_code 6 = .ok (.iload_n 1, 1) := by decide +kernel
theorem d_prog_14_method_2_7 : decode prog_14_method_2_code 7 = .ok (.aload_n 2, 1) := by decide +kernel
theorem d_prog_14_method_2_8 : decode prog_14_method_2_code 8 = .ok (.invokestatic 28, 3) := by decide +kernel
theorem pd_34 : parseMethodDescriptor "()Ljava/util/Set;" = some ⟨[], some (.object "java/util/Set")⟩ := by decide +kernel
theorem d_prog_14_method_2_11 : decode prog_14_method_2_code 11 = .ok (.invokespecial 34, 3) := by decide +kernel
theorem pd_36 : parseMethodDescriptor "(Ljava/util/List;Ljava/util/Map;ILjava/util/Set;Ljava/util/Set;)V" = some ⟨[(.object "java/util/List"), (.object "java/util/Map"), .int, (.object "java/util/Set"), (.object "java/util/Set")], none⟩ := by decide +kernel
theorem d_prog_14_method_2_14 : decode prog_14_method_2_code 14 = .ok (.areturn, 1) := by decide +kernel
theorem ef_4 (m : MethodId) (pe : Int32) : entryFrame m #[.null, (.int pe), .null] 3 = mkF m 0 #[.val .null, .val (.int pe), .val .null] [] := by first | (simp [entryFrame, mkF, argsToLocals, Value.category]; done) | rfl
def Q4 (Z : State) (pe : Int32) (es : Addr) (h0 : Heap) (n0 : Nat) (vV : Option Value) (hH : Heap) (LL : List Loc) : Prop := ∃ b : Addr, vV = some (.ref b) ∧ Fr n0 LL ∧ Keep h0 hH [] ∧ h0.size ≤ b ∧ (Exa Z hH b "com/example/myna/myna/delivery/Deliveries$Lanes") ∧ (Fld Z hH b "com/example/myna/myna/delivery/Deliveries$Lanes" "endpointIds" "Ljava/util/List;" .null) ∧ (Fld Z hH b "com/example/myna/myna/delivery/Deliveries$Lanes" "openRequests" "Ljava/util/Map;" .null) ∧ (Fld Z hH b "com/example/myna/myna/delivery/Deliveries$Lanes" "perEndpoint" "I" (.int pe)) ∧ (Fld Z hH b "com/example/myna/myna/delivery/Deliveries$Lanes" "shut" "Ljava/util/Set;" .null) ∧ (Fld Z hH b "com/example/myna/myna/delivery/Deliveries$Lanes" "deferred" "Ljava/util/Set;" (.ref es))
def R4 (Z : State) (pe : Int32) (es : Addr) (h0 : Heap) (n0 : Nat) (U : State) (o : Outcome) (U' : State) : Prop := ∃ vV LL, o = .returned vV ∧ Q4 Z pe es h0 n0 vV U'.heap LL ∧ FrameEnd U o U' LL ({ frames := 3, cells := 1, slots := 5, locals := 42 } : Room).cells ({ frames := 3, cells := 1, slots := 5, locals := 42 } : Room).slots
set_option maxRecDepth 65536 in
set_option maxHeartbeats 40000000 in
theorem rm4 (l : Launch) (Z : State) (a0 : Array Value) (hw : ∀ d ∈ tables_1, d.before a0 Z = true) (ws : List Jvm.Cond) (pe : Int32) (es : Addr) (h0 : Heap) (n0 : Nat) (Z0 : n0 ≤ h0.size) (hp0 : Sta Z h0 "java/util/ImmutableCollections" "EMPTY_SET" "Ljava/util/ImmutableCollections$SetN;" (.ref es)) :
    MetFree l (⟨"com/example/myna/myna/delivery/Deliveries$Lanes", "every", "(Ljava/util/Map;ILjava/util/Set;)Lcom/example/myna/myna/delivery/Deliveries$Lanes;"⟩ : MethodName) (head1 (Jvm.Cond.code (⟨"com/example/myna/myna/delivery/Deliveries$Lanes", "every", "(Ljava/util/Map;ILjava/util/Set;)Lcom/example/myna/myna/delivery/Deliveries$Lanes;"⟩ : MethodName) prog_14_method_2_code 3 (some (.object "com/example/myna/myna/delivery/Deliveries$Lanes")) :: ws) ({ frames := 3, cells := 1, slots := 5, locals := 42 } : Room)) (fun aA U => aA = #[.null, (.int pe), .null] ∧ Z.Warmed39 U.vm ∧ U.heap = h0) (fun _ _ _ _ _ => True) (fun _ U o U' => ∃ vV LL, o = .returned vV ∧ Q4 Z pe es h0 n0 vV U'.heap LL ∧ FrameEnd U o U' LL ({ frames := 3, cells := 1, slots := 5, locals := 42 } : Room).cells ({ frames := 3, cells := 1, slots := 5, locals := 42 } : Room).slots) := by
  refine MetFree.of_bodySF (plainFor_of_name pn_4) hisR ?_
  intro p e s m args below meth cC s₁ Bd hml0 hP hK
  obtain ⟨rfl, hZ, hh⟩ := hP
  have hx := Bd.exec
  have hby := Bd.bytes
  have hml : cC.maxLocals = 3 := hml0
  have hown : s.vm.findClass "com/example/myna/myna/delivery/Deliveries$Lanes" = some m.cls := findClass_of_methodNamed Bd.named
  have hnm := (name_of_methodNamed Bd.named Bd.method).1
  have X0 : Stand p l e ({ frames := 3, cells := 1, slots := 5, locals := 42 } : Room) s m #[.null, (.int pe), .null] below meth cC s₁ [] 0 0 := Stand.of_body Bd
  have e0 : s₁.heap = h0 := by rw [← hh, Bd.state]; rfl
  have N0 := Fr.nil n0
  show OwnFin p e below (R4 Z pe es h0 n0 s) (s₁.setTop (entryFrame m #[.null, (.int pe), .null] 3))
  rw [ef_4 m pe]
  obtain ⟨T1, h1, X1, e1, E1, A1, D1, -, st1⟩ := newO X0 hx hZ hown (hw _ (List.mem_of_getElem? (i := 4) rfl)) (hw _ (List.mem_of_getElem? (i := 5) rfl)) (hw _ (List.mem_of_getElem? (i := 2) rfl)) e0 (g := (mkF m 0 #[.val .null, .val (.int pe), .val .null] [])) rfl (hb hby d_prog_14_method_2_0) (by decide) (by decide)
  obtain ⟨b1, g1⟩ : ∃ z, z = h0.size := ⟨_, rfl⟩
  rw [← g1] at A1 D1 st1
  refine OwnFin.step st1 ?_
  have Fz2 : Fld Z h1 b1 "com/example/myna/myna/delivery/Deliveries$Lanes" "endpointIds" "Ljava/util/List;" .null := D1 (Or.inr (hw _ (List.mem_of_getElem? (i := 24) rfl))) (ty := (.object "java/util/List")) (by decide)
  have Fz3 : Fld Z h1 b1 "com/example/myna/myna/delivery/Deliveries$Lanes" "openRequests" "Ljava/util/Map;" .null := D1 (Or.inr (hw _ (List.mem_of_getElem? (i := 26) rfl))) (ty := (.object "java/util/Map")) (by decide)
  have Fz4 : Fld Z h1 b1 "com/example/myna/myna/delivery/Deliveries$Lanes" "perEndpoint" "I" (.int (0 : Int32)) := D1 (Or.inr (hw _ (List.mem_of_getElem? (i := 28) rfl))) (ty := .int) (by decide)
  have Fz5 : Fld Z h1 b1 "com/example/myna/myna/delivery/Deliveries$Lanes" "shut" "Ljava/util/Set;" .null := D1 (Or.inr (hw _ (List.mem_of_getElem? (i := 30) rfl))) (ty := (.object "java/util/Set")) (by decide)
  have Fz6 : Fld Z h1 b1 "com/example/myna/myna/delivery/Deliveries$Lanes" "deferred" "Ljava/util/Set;" .null := D1 (Or.inr (hw _ (List.mem_of_getElem? (i := 32) rfl))) (ty := (.object "java/util/Set")) (by decide)
  show OwnFin p e below _ (T1.setTop (mkF m 3 #[.val .null, .val (.int pe), .val .null] [(.ref b1)]))
  refine OwnFin.step (fun tT kK => XS.dup X1.here hx rfl (hb hby d_prog_14_method_2_3) rfl rfl kK) ?_
  show OwnFin p e below _ (T1.setTop (mkF m 4 #[.val .null, .val (.int pe), .val .null] [(.ref b1), (.ref b1)]))
  refine OwnFin.step (fun tT kK => XS.aconstNull X1.here hx rfl (hb hby d_prog_14_method_2_4) kK) ?_
  show OwnFin p e below _ (T1.setTop (mkF m 5 #[.val .null, .val (.int pe), .val .null] [.null, (.ref b1), (.ref b1)]))
  refine OwnFin.step (fun tT kK => XS.aloadN X1.here hx rfl (hb hby d_prog_14_method_2_5) rfl rfl kK) ?_
  show OwnFin p e below _ (T1.setTop (mkF m 6 #[.val .null, .val (.int pe), .val .null] [.null, .null, (.ref b1), (.ref b1)]))
  refine OwnFin.step (fun tT kK => XS.iloadN X1.here hx rfl (hb hby d_prog_14_method_2_6) rfl kK) ?_
  show OwnFin p e below _ (T1.setTop (mkF m 7 #[.val .null, .val (.int pe), .val .null] [(.int pe), .null, .null, (.ref b1), (.ref b1)]))
  refine OwnFin.step (fun tT kK => XS.aloadN X1.here hx rfl (hb hby d_prog_14_method_2_7) rfl rfl kK) ?_
  show OwnFin p e below _ (T1.setTop (mkF m 8 #[.val .null, .val (.int pe), .val .null] [.null, (.int pe), .null, .null, (.ref b1), (.ref b1)]))
  have f7 : Sta Z h1 "java/util/ImmutableCollections" "EMPTY_SET" "Ljava/util/ImmutableCollections$SetN;" (.ref es) := (hp0.ext E1)
  obtain ⟨_, _, ⟨T8, L8, k8, n8⟩, -, X8, ⟨Lc8, hQ8, l8, y8, z8⟩, st8⟩ := Jvm.LawKit.callS X1 hx (y := (⟨"java/util/Set", "of", "()Ljava/util/Set;"⟩ : MethodName)) hown (mvT hZ (hw _ (List.mem_of_getElem? (i := 6) rfl))) (mvT hZ (hw _ (List.mem_of_getElem? (i := 7) rfl))) (mvT hZ (hw _ (List.mem_of_getElem? (i := 8) rfl))) (mvT hZ (hw _ (List.mem_of_getElem? (i := 9) rfl))) (by decide) (backOf (W := 6) (rm3 l Z a0 hw [] es h1 n0 (Nat.le_trans Z0 E1.1) f7) hZ (hw _ (List.mem_of_getElem? (i := 9) rfl)) (hw _ (List.mem_of_getElem? (i := 8) rfl)) (by decide) (by decide)) (g := (mkF m 8 #[.val .null, .val (.int pe), .val .null] [.null, (.int pe), .null, .null, (.ref b1), (.ref b1)])) rfl (by rw [hml]; rfl) (argsL := []) (rest := [.null, (.int pe), .null, .null, (.ref b1), (.ref b1)]) (lenOf pd_34 rfl) rfl (by show 2 * 0 + _ ≤ _; exact Nat.le_of_eq rfl) (hb hby d_prog_14_method_2_8) (fun _ _ => ⟨rfl, e1, (by decide : 1 + 0 ≤ _), (by decide : 5 + 0 ≤ _)⟩)
  dsimp only [Pt.U, Pt.locs, Pt.cells, Pt.slots] at X8 l8 y8 z8 st8 hQ8
  subst l8 y8 z8
  obtain ⟨rfl, N8q, e8⟩ := hQ8
  have N8 := Fr.app N0 N8q
  refine OwnFin.step st8 ?_
  show OwnFin p e below _ (T8.setTop (mkF m 11 #[.val .null, .val (.int pe), .val .null] [(.ref es), .null, (.int pe), .null, .null, (.ref b1), (.ref b1)]))
  obtain ⟨_, _, ⟨T9, L9, k9, n9⟩, -, X9, ⟨Lc9, hQ9, l9, y9, z9⟩, st9⟩ := X8.specialBack hx (y := (⟨"com/example/myna/myna/delivery/Deliveries$Lanes", "<init>", "(Ljava/util/List;Ljava/util/Map;ILjava/util/Set;Ljava/util/Set;)V"⟩ : MethodName)) rfl hown (mvT hZ (hw _ (List.mem_of_getElem? (i := 12) rfl))) (mvT hZ (hw _ (List.mem_of_getElem? (i := 13) rfl))) (mvT hZ (hw _ (List.mem_of_getElem? (i := 14) rfl))) (by decide) (backOf (W := 1) (rm2 l Z a0 hw [] b1 .null .null pe .null (.ref es) h1 n0 (Nat.le_trans Z0 E1.1) A1 Fz2 Fz3 Fz4 Fz5 Fz6 rfl rfl rfl rfl (Nat.le_trans Z0 (Nat.le_of_eq g1.symm))) hZ (hw _ (List.mem_of_getElem? (i := 14) rfl)) (hw _ (List.mem_of_getElem? (i := 2) rfl)) (by decide) (by decide)) (g := (mkF m 11 #[.val .null, .val (.int pe), .val .null] [(.ref es), .null, (.int pe), .null, .null, (.ref b1), (.ref b1)])) rfl (by rw [hml]; rfl) (Steps.refl _) (a := b1) (argsL := [.null, .null, (.int pe), .null, (.ref es)]) (rest := [(.ref b1)]) (lenOf pd_36 rfl) rfl (by show 2 * 0 + _ ≤ _; exact Nat.le_of_eq rfl) (hb hby d_prog_14_method_2_11) (fun _ _ => ⟨rfl, e8, (by decide : 1 + 0 ≤ _), (by decide : 5 + 0 ≤ _)⟩)
  dsimp only [Pt.U, Pt.locs, Pt.cells, Pt.slots] at X9 l9 y9 z9 st9 hQ9
  subst l9 y9 z9
  obtain ⟨rfl, N9q, K9, P9_0, P9_1, P9_2, P9_3, P9_4, P9_5⟩ := hQ9
  have N9 := Fr.app N8 N9q
  refine OwnFin.step (fun tT kK => st9.trans kK) ?_
  show OwnFin p e below _ (T9.setTop (mkF m 14 #[.val .null, .val (.int pe), .val .null] [(.ref b1)]))
  obtain ⟨fs10, hr10, hrun10, hended10, hW10, hsame10⟩ := X9.leave (v := (some (.ref b1))) (fun h => by rw [Bd.returns] at h; cases h)
  refine ⟨_, _, retOut X9 hx Bd.returns rfl (Or.inr (Or.inr (Or.inr (Or.inr ⟨rfl, rfl, rfl⟩)))) (hb hby d_prog_14_method_2_14) hr10, hrun10, hended10, _, _, rfl, ?_, ⟨_, rfl⟩, hW10, hsame10.mono (by decide) (by decide)⟩
  show Q4 Z pe es h0 n0 _ T9.heap _
  exact ⟨b1, rfl, N9, (((Keep.refl h0 []).ext E1).trans K9 (allS (P := fun x => x ∈ [] ∨ h0.size ≤ x) (Or.inr (Nat.le_trans (Nat.le_refl _) (Nat.le_of_eq g1.symm))) all0)), (Nat.le_trans (Nat.le_refl _) (Nat.le_of_eq g1.symm)), P9_0, P9_1, P9_2, P9_3, P9_4, P9_5⟩
theorem d_prog_14_method_9_0 : decode prog_14_method_9_code 0 = .ok (.aload_n 0, 1) := by decide +kernel
theorem d_prog_14_method_9_1 : decode prog_14_method_9_code 1 = .ok (.getfield 7, 3) := by decide +kernel
theorem d_prog_14_method_9_4 : decode prog_14_method_9_code 4 = .ok (.areturn, 1) := by decide +kernel
theorem ef_50 (m : MethodId) (a : Addr) : entryFrame m #[(.ref a)] 1 = mkF m 0 #[.val (.ref a)] [] := by first | (simp [entryFrame, mkF, argsToLocals, Value.category]; done) | rfl
def Q50 (Z : State) (a : Addr) (u : Value) (h0 : Heap) (n0 : Nat) (vV : Option Value) (hH : Heap) (LL : List Loc) : Prop := vV = some u ∧ Fr n0 LL ∧ hH = h0
def R50 (Z : State) (a : Addr) (u : Value) (h0 : Heap) (n0 : Nat) (U : State) (o : Outcome) (U' : State) : Prop := ∃ vV LL, o = .returned vV ∧ Q50 Z a u h0 n0 vV U'.heap LL ∧ FrameEnd U o U' LL ({ frames := 0, cells := 0, slots := 0, locals := 0 } : Room).cells ({ frames := 0, cells := 0, slots := 0, locals := 0 } : Room).slots
set_option maxRecDepth 65536 in
set_option maxHeartbeats 40000000 in
theorem rm50 (l : Launch) (Z : State) (a0 : Array Value) (hw : ∀ d ∈ tables_1, d.before a0 Z = true) (ws : List Jvm.Cond) (a : Addr) (u : Value) (h0 : Heap) (n0 : Nat) (Z0 : n0 ≤ h0.size) (hp0 : Fld Z h0 a "com/example/myna/myna/delivery/Deliveries$Lanes" "endpointIds" "Ljava/util/List;" u) (hp1 : u.isRef = true) :
    MetFree l (⟨"com/example/myna/myna/delivery/Deliveries$Lanes", "endpointIds", "()Ljava/util/List;"⟩ : MethodName) (head1 (Jvm.Cond.code (⟨"com/example/myna/myna/delivery/Deliveries$Lanes", "endpointIds", "()Ljava/util/List;"⟩ : MethodName) prog_14_method_9_code 1 (some (.object "java/util/List")) :: ws) ({ frames := 0, cells := 0, slots := 0, locals := 0 } : Room)) (fun aA U => aA = #[(.ref a)] ∧ Z.Warmed39 U.vm ∧ U.heap = h0) (fun _ _ _ _ _ => True) (fun _ U o U' => ∃ vV LL, o = .returned vV ∧ Q50 Z a u h0 n0 vV U'.heap LL ∧ FrameEnd U o U' LL ({ frames := 0, cells := 0, slots := 0, locals := 0 } : Room).cells ({ frames := 0, cells := 0, slots := 0, locals := 0 } : Room).slots) := by
  refine MetFree.of_bodySF (plainFor_of_name pn_4) hisR ?_
  intro p e s m args below meth cC s₁ Bd hml0 hP hK
  obtain ⟨rfl, hZ, hh⟩ := hP
  have hx := Bd.exec
  have hby := Bd.bytes
  have hml : cC.maxLocals = 1 := hml0
  have hown : s.vm.findClass "com/example/myna/myna/delivery/Deliveries$Lanes" = some m.cls := findClass_of_methodNamed Bd.named
  have hnm := (name_of_methodNamed Bd.named Bd.method).1
  have X0 : Stand p l e ({ frames := 0, cells := 0, slots := 0, locals := 0 } : Room) s m #[(.ref a)] below meth cC s₁ [] 0 0 := Stand.of_body Bd
  have e0 : s₁.heap = h0 := by rw [← hh, Bd.state]; rfl
  have N0 := Fr.nil n0
  show OwnFin p e below (R50 Z a u h0 n0 s) (s₁.setTop (entryFrame m #[(.ref a)] 1))
  rw [ef_50 m a]
  refine OwnFin.step (fun tT kK => XS.aloadN X0.here hx rfl (hb hby d_prog_14_method_9_0) rfl rfl kK) ?_
  show OwnFin p e below _ (s₁.setTop (mkF m 1 #[.val (.ref a)] [(.ref a)]))
  obtain ⟨T1, X1, e1, st1⟩ := getF X0 hx hZ hown (host := "") (Or.inl (hw _ (List.mem_of_getElem? (i := 23) rfl))) Via.refl e0 hp0 (g := (mkF m 1 #[.val (.ref a)] [(.ref a)])) rfl rfl (hb hby d_prog_14_method_9_1)
  refine OwnFin.step st1 ?_
  show OwnFin p e below _ (T1.setTop (mkF m 4 #[.val (.ref a)] [u]))
  obtain ⟨fs2, hr2, hrun2, hended2, hW2, hsame2⟩ := X1.leave (v := (some u)) (fun h => by rw [Bd.returns] at h; cases h)
  refine ⟨_, _, retOut X1 hx Bd.returns rfl (Or.inr (Or.inr (Or.inr (Or.inr ⟨rfl, rfl, hp1⟩)))) (hb hby d_prog_14_method_9_4) hr2, hrun2, hended2, _, _, rfl, ?_, ⟨_, rfl⟩, hW2, hsame2.mono (by decide) (by decide)⟩
  show Q50 Z a u h0 n0 _ T1.heap _
  rw [e1]
  exact ⟨rfl, N0, rfl⟩
theorem d_prog_14_method_10_0 : decode prog_14_method_10_code 0 = .ok (.aload_n 0, 1) := by decide +kernel
theorem d_prog_14_method_10_1 : decode prog_14_method_10_code 1 = .ok (.getfield 13, 3) := by decide +kernel
theorem d_prog_14_method_10_4 : decode prog_14_method_10_code 4 = .ok (.areturn, 1) := by decide +kernel
theorem ef_51 (m : MethodId) (a : Addr) : entryFrame m #[(.ref a)] 1 = mkF m 0 #[.val (.ref a)] [] := by first | (simp [entryFrame, mkF, argsToLocals, Value.category]; done) | rfl
def Q51 (Z : State) (a : Addr) (u : Value) (h0 : Heap) (n0 : Nat) (vV : Option Value) (hH : Heap) (LL : List Loc) : Prop := vV = some u ∧ Fr n0 LL ∧ hH = h0
def R51 (Z : State) (a : Addr) (u : Value) (h0 : Heap) (n0 : Nat) (U : State) (o : Outcome) (U' : State) : Prop := ∃ vV LL, o = .returned vV ∧ Q51 Z a u h0 n0 vV U'.heap LL ∧ FrameEnd U o U' LL ({ frames := 0, cells := 0, slots := 0, locals := 0 } : Room).cells ({ frames := 0, cells := 0, slots := 0, locals := 0 } : Room).slots
set_option maxRecDepth 65536 in
set_option maxHeartbeats 40000000 in
theorem rm51 (l : Launch) (Z : State) (a0 : Array Value) (hw : ∀ d ∈ tables_1, d.before a0 Z = true) (ws : List Jvm.Cond) (a : Addr) (u : Value) (h0 : Heap) (n0 : Nat) (Z0 : n0 ≤ h0.size) (hp0 : Fld Z h0 a "com/example/myna/myna/delivery/Deliveries$Lanes" "openRequests" "Ljava/util/Map;" u) (hp1 : u.isRef = true) :
    MetFree l (⟨"com/example/myna/myna/delivery/Deliveries$Lanes", "openRequests", "()Ljava/util/Map;"⟩ : MethodName) (head1 (Jvm.Cond.code (⟨"com/example/myna/myna/delivery/Deliveries$Lanes", "openRequests", "()Ljava/util/Map;"⟩ : MethodName) prog_14_method_10_code 1 (some (.object "java/util/Map")) :: ws) ({ frames := 0, cells := 0, slots := 0, locals := 0 } : Room)) (fun aA U => aA = #[(.ref a)] ∧ Z.Warmed39 U.vm ∧ U.heap = h0) (fun _ _ _ _ _ => True) (fun _ U o U' => ∃ vV LL, o = .returned vV ∧ Q51 Z a u h0 n0 vV U'.heap LL ∧ FrameEnd U o U' LL ({ frames := 0, cells := 0, slots := 0, locals := 0 } : Room).cells ({ frames := 0, cells := 0, slots := 0, locals := 0 } : Room).slots) := by
  refine MetFree.of_bodySF (plainFor_of_name pn_4) hisR ?_
  intro p e s m args below meth cC s₁ Bd hml0 hP hK
  obtain ⟨rfl, hZ, hh⟩ := hP
  have hx := Bd.exec
  have hby := Bd.bytes
  have hml : cC.maxLocals = 1 := hml0
  have hown : s.vm.findClass "com/example/myna/myna/delivery/Deliveries$Lanes" = some m.cls := findClass_of_methodNamed Bd.named
  have hnm := (name_of_methodNamed Bd.named Bd.method).1
  have X0 : Stand p l e ({ frames := 0, cells := 0, slots := 0, locals := 0 } : Room) s m #[(.ref a)] below meth cC s₁ [] 0 0 := Stand.of_body Bd
  have e0 : s₁.heap = h0 := by rw [← hh, Bd.state]; rfl
  have N0 := Fr.nil n0
  show OwnFin p e below (R51 Z a u h0 n0 s) (s₁.setTop (entryFrame m #[(.ref a)] 1))
  rw [ef_51 m a]
  refine OwnFin.step (fun tT kK => XS.aloadN X0.here hx rfl (hb hby d_prog_14_method_10_0) rfl rfl kK) ?_
  show OwnFin p e below _ (s₁.setTop (mkF m 1 #[.val (.ref a)] [(.ref a)]))
  obtain ⟨T1, X1, e1, st1⟩ := getF X0 hx hZ hown (host := "") (Or.inl (hw _ (List.mem_of_getElem? (i := 25) rfl))) Via.refl e0 hp0 (g := (mkF m 1 #[.val (.ref a)] [(.ref a)])) rfl rfl (hb hby d_prog_14_method_10_1)
  refine OwnFin.step st1 ?_
  show OwnFin p e below _ (T1.setTop (mkF m 4 #[.val (.ref a)] [u]))
  obtain ⟨fs2, hr2, hrun2, hended2, hW2, hsame2⟩ := X1.leave (v := (some u)) (fun h => by rw [Bd.returns] at h; cases h)
  refine ⟨_, _, retOut X1 hx Bd.returns rfl (Or.inr (Or.inr (Or.inr (Or.inr ⟨rfl, rfl, hp1⟩)))) (hb hby d_prog_14_method_10_4) hr2, hrun2, hended2, _, _, rfl, ?_, ⟨_, rfl⟩, hW2, hsame2.mono (by decide) (by decide)⟩
  show Q51 Z a u h0 n0 _ T1.heap _
  rw [e1]
  exact ⟨rfl, N0, rfl⟩
theorem d_prog_14_method_11_0 : decode prog_14_method_11_code 0 = .ok (.aload_n 0, 1) := by decide +kernel
theorem d_prog_14_method_11_1 : decode prog_14_method_11_code 1 = .ok (.getfield 17, 3) := by decide +kernel
theorem d_prog_14_method_11_4 : decode prog_14_method_11_code 4 = .ok (.ireturn, 1) := by decide +kernel
theorem ef_52 (m : MethodId) (a : Addr) : entryFrame m #[(.ref a)] 1 = mkF m 0 #[.val (.ref a)] [] := by first | (simp [entryFrame, mkF, argsToLocals, Value.category]; done) | rfl
def Q52 (Z : State) (a : Addr) (u : Int32) (h0 : Heap) (n0 : Nat) (vV : Option Value) (hH : Heap) (LL : List Loc) : Prop := vV = some (.int u) ∧ Fr n0 LL ∧ hH = h0
def R52 (Z : State) (a : Addr) (u : Int32) (h0 : Heap) (n0 : Nat) (U : State) (o : Outcome) (U' : State) : Prop := ∃ vV LL, o = .returned vV ∧ Q52 Z a u h0 n0 vV U'.heap LL ∧ FrameEnd U o U' LL ({ frames := 0, cells := 0, slots := 0, locals := 0 } : Room).cells ({ frames := 0, cells := 0, slots := 0, locals := 0 } : Room).slots
set_option maxRecDepth 65536 in
set_option maxHeartbeats 40000000 in
theorem rm52 (l : Launch) (Z : State) (a0 : Array Value) (hw : ∀ d ∈ tables_1, d.before a0 Z = true) (ws : List Jvm.Cond) (a : Addr) (u : Int32) (h0 : Heap) (n0 : Nat) (Z0 : n0 ≤ h0.size) (hp0 : Fld Z h0 a "com/example/myna/myna/delivery/Deliveries$Lanes" "perEndpoint" "I" (.int u)) :
    MetFree l (⟨"com/example/myna/myna/delivery/Deliveries$Lanes", "perEndpoint", "()I"⟩ : MethodName) (head1 (Jvm.Cond.code (⟨"com/example/myna/myna/delivery/Deliveries$Lanes", "perEndpoint", "()I"⟩ : MethodName) prog_14_method_11_code 1 (some .int) :: ws) ({ frames := 0, cells := 0, slots := 0, locals := 0 } : Room)) (fun aA U => aA = #[(.ref a)] ∧ Z.Warmed39 U.vm ∧ U.heap = h0) (fun _ _ _ _ _ => True) (fun _ U o U' => ∃ vV LL, o = .returned vV ∧ Q52 Z a u h0 n0 vV U'.heap LL ∧ FrameEnd U o U' LL ({ frames := 0, cells := 0, slots := 0, locals := 0 } : Room).cells ({ frames := 0, cells := 0, slots := 0, locals := 0 } : Room).slots) := by
  refine MetFree.of_bodySF (plainFor_of_name pn_4) hisR ?_
  intro p e s m args below meth cC s₁ Bd hml0 hP hK
  obtain ⟨rfl, hZ, hh⟩ := hP
  have hx := Bd.exec
  have hby := Bd.bytes
  have hml : cC.maxLocals = 1 := hml0
  have hown : s.vm.findClass "com/example/myna/myna/delivery/Deliveries$Lanes" = some m.cls := findClass_of_methodNamed Bd.named
  have hnm := (name_of_methodNamed Bd.named Bd.method).1
  have X0 : Stand p l e ({ frames := 0, cells := 0, slots := 0, locals := 0 } : Room) s m #[(.ref a)] below meth cC s₁ [] 0 0 := Stand.of_body Bd
  have e0 : s₁.heap = h0 := by rw [← hh, Bd.state]; rfl
  have N0 := Fr.nil n0
  show OwnFin p e below (R52 Z a u h0 n0 s) (s₁.setTop (entryFrame m #[(.ref a)] 1))
  rw [ef_52 m a]
  refine OwnFin.step (fun tT kK => XS.aloadN X0.here hx rfl (hb hby d_prog_14_method_11_0) rfl rfl kK) ?_
  show OwnFin p e below _ (s₁.setTop (mkF m 1 #[.val (.ref a)] [(.ref a)]))
  obtain ⟨T1, X1, e1, st1⟩ := getF X0 hx hZ hown (host := "") (Or.inl (hw _ (List.mem_of_getElem? (i := 27) rfl))) Via.refl e0 hp0 (g := (mkF m 1 #[.val (.ref a)] [(.ref a)])) rfl rfl (hb hby d_prog_14_method_11_1)
  refine OwnFin.step st1 ?_
  show OwnFin p e below _ (T1.setTop (mkF m 4 #[.val (.ref a)] [(.int u)]))
  obtain ⟨fs2, hr2, hrun2, hended2, hW2, hsame2⟩ := X1.leave (v := (some (.int u))) (fun h => by rw [Bd.returns] at h; cases h)
  refine ⟨_, _, retOut X1 hx Bd.returns rfl (Or.inl ⟨rfl, Or.inl rfl, _, rfl⟩) (hb hby d_prog_14_method_11_4) hr2, hrun2, hended2, _, _, rfl, ?_, ⟨_, rfl⟩, hW2, hsame2.mono (by decide) (by decide)⟩
  show Q52 Z a u h0 n0 _ T1.heap _
  rw [e1]
  exact ⟨rfl, N0, rfl⟩
theorem d_prog_14_method_12_0 : decode prog_14_method_12_code 0 = .ok (.aload_n 0, 1) := by decide +kernel
theorem d_prog_14_method_12_1 : decode prog_14_method_12_code 1 = .ok (.getfield 21, 3) := by decide +kernel
theorem d_prog_14_method_12_4 : decode prog_14_method_12_code 4 = .ok (.areturn, 1) := by decide +kernel
theorem ef_53 (m : MethodId) (a : Addr) : entryFrame m #[(.ref a)] 1 = mkF m 0 #[.val (.ref a)] [] := by first | (simp [entryFrame, mkF, argsToLocals, Value.category]; done) | rfl
def Q53 (Z : State) (a : Addr) (u : Value) (h0 : Heap) (n0 : Nat) (vV : Option Value) (hH : Heap) (LL : List Loc) : Prop := vV = some u ∧ Fr n0 LL ∧ hH = h0
def R53 (Z : State) (a : Addr) (u : Value) (h0 : Heap) (n0 : Nat) (U : State) (o : Outcome) (U' : State) : Prop := ∃ vV LL, o = .returned vV ∧ Q53 Z a u h0 n0 vV U'.heap LL ∧ FrameEnd U o U' LL ({ frames := 0, cells := 0, slots := 0, locals := 0 } : Room).cells ({ frames := 0, cells := 0, slots := 0, locals := 0 } : Room).slots
set_option maxRecDepth 65536 in
set_option maxHeartbeats 40000000 in
theorem rm53 (l : Launch) (Z : State) (a0 : Array Value) (hw : ∀ d ∈ tables_1, d.before a0 Z = true) (ws : List Jvm.Cond) (a : Addr) (u : Value) (h0 : Heap) (n0 : Nat) (Z0 : n0 ≤ h0.size) (hp0 : Fld Z h0 a "com/example/myna/myna/delivery/Deliveries$Lanes" "shut" "Ljava/util/Set;" u) (hp1 : u.isRef = true) :
    MetFree l (⟨"com/example/myna/myna/delivery/Deliveries$Lanes", "shut", "()Ljava/util/Set;"⟩ : MethodName) (head1 (Jvm.Cond.code (⟨"com/example/myna/myna/delivery/Deliveries$Lanes", "shut", "()Ljava/util/Set;"⟩ : MethodName) prog_14_method_12_code 1 (some (.object "java/util/Set")) :: ws) ({ frames := 0, cells := 0, slots := 0, locals := 0 } : Room)) (fun aA U => aA = #[(.ref a)] ∧ Z.Warmed39 U.vm ∧ U.heap = h0) (fun _ _ _ _ _ => True) (fun _ U o U' => ∃ vV LL, o = .returned vV ∧ Q53 Z a u h0 n0 vV U'.heap LL ∧ FrameEnd U o U' LL ({ frames := 0, cells := 0, slots := 0, locals := 0 } : Room).cells ({ frames := 0, cells := 0, slots := 0, locals := 0 } : Room).slots) := by
  refine MetFree.of_bodySF (plainFor_of_name pn_4) hisR ?_
  intro p e s m args below meth cC s₁ Bd hml0 hP hK
  obtain ⟨rfl, hZ, hh⟩ := hP
  have hx := Bd.exec
  have hby := Bd.bytes
  have hml : cC.maxLocals = 1 := hml0
  have hown : s.vm.findClass "com/example/myna/myna/delivery/Deliveries$Lanes" = some m.cls := findClass_of_methodNamed Bd.named
  have hnm := (name_of_methodNamed Bd.named Bd.method).1
  have X0 : Stand p l e ({ frames := 0, cells := 0, slots := 0, locals := 0 } : Room) s m #[(.ref a)] below meth cC s₁ [] 0 0 := Stand.of_body Bd
  have e0 : s₁.heap = h0 := by rw [← hh, Bd.state]; rfl
  have N0 := Fr.nil n0
  show OwnFin p e below (R53 Z a u h0 n0 s) (s₁.setTop (entryFrame m #[(.ref a)] 1))
  rw [ef_53 m a]
  refine OwnFin.step (fun tT kK => XS.aloadN X0.here hx rfl (hb hby d_prog_14_method_12_0) rfl rfl kK) ?_
  show OwnFin p e below _ (s₁.setTop (mkF m 1 #[.val (.ref a)] [(.ref a)]))
  obtain ⟨T1, X1, e1, st1⟩ := getF X0 hx hZ hown (host := "") (Or.inl (hw _ (List.mem_of_getElem? (i := 29) rfl))) Via.refl e0 hp0 (g := (mkF m 1 #[.val (.ref a)] [(.ref a)])) rfl rfl (hb hby d_prog_14_method_12_1)
  refine OwnFin.step st1 ?_
  show OwnFin p e below _ (T1.setTop (mkF m 4 #[.val (.ref a)] [u]))
  obtain ⟨fs2, hr2, hrun2, hended2, hW2, hsame2⟩ := X1.leave (v := (some u)) (fun h => by rw [Bd.returns] at h; cases h)
  refine ⟨_, _, retOut X1 hx Bd.returns rfl (Or.inr (Or.inr (Or.inr (Or.inr ⟨rfl, rfl, hp1⟩)))) (hb hby d_prog_14_method_12_4) hr2, hrun2, hended2, _, _, rfl, ?_, ⟨_, rfl⟩, hW2, hsame2.mono (by decide) (by decide)⟩
  show Q53 Z a u h0 n0 _ T1.heap _
  rw [e1]
  exact ⟨rfl, N0, rfl⟩
theorem d_prog_14_method_13_0 : decode prog_14_method_13_code 0 = .ok (.aload_n 0, 1) := by decide +kernel
theorem d_prog_14_method_13_1 : decode prog_14_method_13_code 1 = .ok (.getfield 25, 3) := by decide +kernel
theorem d_prog_14_method_13_4 : decode prog_14_method_13_code 4 = .ok (.areturn, 1) := by decide +kernel
theorem ef_54 (m : MethodId) (a : Addr) : entryFrame m #[(.ref a)] 1 = mkF m 0 #[.val (.ref a)] [] := by first | (simp [entryFrame, mkF, argsToLocals, Value.category]; done) | rfl
def Q54 (Z : State) (a : Addr) (u : Value) (h0 : Heap) (n0 : Nat) (vV : Option Value) (hH : Heap) (LL : List Loc) : Prop := vV = some u ∧ Fr n0 LL ∧ hH = h0
def R54 (Z : State) (a : Addr) (u : Value) (h0 : Heap) (n0 : Nat) (U : State) (o : Outcome) (U' : State) : Prop := ∃ vV LL, o = .returned vV ∧ Q54 Z a u h0 n0 vV U'.heap LL ∧ FrameEnd U o U' LL ({ frames := 0, cells := 0, slots := 0, locals := 0 } : Room).cells ({ frames := 0, cells := 0, slots := 0, locals := 0 } : Room).slots
set_option maxRecDepth 65536 in
set_option maxHeartbeats 40000000 in
theorem rm54 (l : Launch) (Z : State) (a0 : Array Value) (hw : ∀ d ∈ tables_1, d.before a0 Z = true) (ws : List Jvm.Cond) (a : Addr) (u : Value) (h0 : Heap) (n0 : Nat) (Z0 : n0 ≤ h0.size) (hp0 : Fld Z h0 a "com/example/myna/myna/delivery/Deliveries$Lanes" "deferred" "Ljava/util/Set;" u) (hp1 : u.isRef = true) :
    MetFree l (⟨"com/example/myna/myna/delivery/Deliveries$Lanes", "deferred", "()Ljava/util/Set;"⟩ : MethodName) (head1 (Jvm.Cond.code (⟨"com/example/myna/myna/delivery/Deliveries$Lanes", "deferred", "()Ljava/util/Set;"⟩ : MethodName) prog_14_method_13_code 1 (some (.object "java/util/Set")) :: ws) ({ frames := 0, cells := 0, slots := 0, locals := 0 } : Room)) (fun aA U => aA = #[(.ref a)] ∧ Z.Warmed39 U.vm ∧ U.heap = h0) (fun _ _ _ _ _ => True) (fun _ U o U' => ∃ vV LL, o = .returned vV ∧ Q54 Z a u h0 n0 vV U'.heap LL ∧ FrameEnd U o U' LL ({ frames := 0, cells := 0, slots := 0, locals := 0 } : Room).cells ({ frames := 0, cells := 0, slots := 0, locals := 0 } : Room).slots) := by
  refine MetFree.of_bodySF (plainFor_of_name pn_4) hisR ?_
  intro p e s m args below meth cC s₁ Bd hml0 hP hK
  obtain ⟨rfl, hZ, hh⟩ := hP
  have hx := Bd.exec
  have hby := Bd.bytes
  have hml : cC.maxLocals = 1 := hml0
  have hown : s.vm.findClass "com/example/myna/myna/delivery/Deliveries$Lanes" = some m.cls := findClass_of_methodNamed Bd.named
  have hnm := (name_of_methodNamed Bd.named Bd.method).1
  have X0 : Stand p l e ({ frames := 0, cells := 0, slots := 0, locals := 0 } : Room) s m #[(.ref a)] below meth cC s₁ [] 0 0 := Stand.of_body Bd
  have e0 : s₁.heap = h0 := by rw [← hh, Bd.state]; rfl
  have N0 := Fr.nil n0
  show OwnFin p e below (R54 Z a u h0 n0 s) (s₁.setTop (entryFrame m #[(.ref a)] 1))
  rw [ef_54 m a]
  refine OwnFin.step (fun tT kK => XS.aloadN X0.here hx rfl (hb hby d_prog_14_method_13_0) rfl rfl kK) ?_
  show OwnFin p e below _ (s₁.setTop (mkF m 1 #[.val (.ref a)] [(.ref a)]))
  obtain ⟨T1, X1, e1, st1⟩ := getF X0 hx hZ hown (host := "") (Or.inl (hw _ (List.mem_of_getElem? (i := 31) rfl))) Via.refl e0 hp0 (g := (mkF m 1 #[.val (.ref a)] [(.ref a)])) rfl rfl (hb hby d_prog_14_method_13_1)
  refine OwnFin.step st1 ?_
  show OwnFin p e below _ (T1.setTop (mkF m 4 #[.val (.ref a)] [u]))
  obtain ⟨fs2, hr2, hrun2, hended2, hW2, hsame2⟩ := X1.leave (v := (some u)) (fun h => by rw [Bd.returns] at h; cases h)
  refine ⟨_, _, retOut X1 hx Bd.returns rfl (Or.inr (Or.inr (Or.inr (Or.inr ⟨rfl, rfl, hp1⟩)))) (hb hby d_prog_14_method_13_4) hr2, hrun2, hended2, _, _, rfl, ?_, ⟨_, rfl⟩, hW2, hsame2.mono (by decide) (by decide)⟩
  show Q54 Z a u h0 n0 _ T1.heap _
  rw [e1]
  exact ⟨rfl, N0, rfl⟩
theorem d_prog_14_method_4_0 : decode prog_14_method_4_code 0 = .ok (.new 8, 3) := by decide +kernel
theorem d_prog_14_method_4_3 : decode prog_14_method_4_code 3 = .ok (.dup, 1) := by decide +kernel
theorem d_prog_14_method_4_4 : decode prog_14_method_4_code 4 = .ok (.aload_n 0, 1) := by decide +kernel
theorem d_prog_14_method_4_5 : decode prog_14_method_4_code 5 = .ok (.getfield 7, 3) := by decide +kernel
theorem d_prog_14_method_4_8 : decode prog_14_method_4_code 8 = .ok (.aload_n 0, 1) := by decide +kernel
theorem d_prog_14_method_4_9 : decode prog_14_method_4_code 9 = .ok (.getfield 13, 3) := by decide +kernel
theorem d_prog_14_method_4_12 : decode prog_14_method_4_code 12 = .ok (.aload_n 0, 1) := by decide +kernel
theorem d_prog_14_method_4_13 : decode prog_14_method_4_code 13 = .ok (.getfield 17, 3) := by decide +kernel
theorem d_prog_14_method_4_16 : decode prog_14_method_4_code 16 = .ok (.aload_n 0, 1) := by decide +kernel
theorem d_prog_14_method_4_17 : decode prog_14_method_4_code 17 = .ok (.getfield 21, 3) := by decide +kernel
theorem d_prog_14_method_4_20 : decode prog_14_method_4_code 20 = .ok (.aload_n 1, 1) := by decide +kernel
theorem d_prog_14_method_4_21 : decode prog_14_method_4_code 21 = .ok (.invokespecial 34, 3) := by decide +kernel
theorem d_prog_14_method_4_24 : decode prog_14_method_4_code 24 = .ok (.areturn, 1) := by decide +kernel
theorem ef_6 (m : MethodId) (a : Addr) (nd : Value) (r_nd : nd.isRef = true) : entryFrame m #[(.ref a), nd] 2 = mkF m 0 #[.val (.ref a), .val nd] [] := by
  rcases ref_cases r_nd with rfl | ⟨_, rfl⟩
  all_goals first | (simp [entryFrame, mkF, argsToLocals, Value.category]; done) | rfl
def Q6 (Z : State) (a : Addr) (nd : Value) (u1 : Value) (u2 : Value) (pe : Int32) (u4 : Value) (h0 : Heap) (n0 : Nat) (vV : Option Value) (hH : Heap) (LL : List Loc) : Prop := ∃ b : Addr, vV = some (.ref b) ∧ Fr n0 LL ∧ Keep h0 hH [] ∧ h0.size ≤ b ∧ (Exa Z hH b "com/example/myna/myna/delivery/Deliveries$Lanes") ∧ (Fld Z hH b "com/example/myna/myna/delivery/Deliveries$Lanes" "endpointIds" "Ljava/util/List;" u1) ∧ (Fld Z hH b "com/example/myna/myna/delivery/Deliveries$Lanes" "openRequests" "Ljava/util/Map;" u2) ∧ (Fld Z hH b "com/example/myna/myna/delivery/Deliveries$Lanes" "perEndpoint" "I" (.int pe)) ∧ (Fld Z hH b "com/example/myna/myna/delivery/Deliveries$Lanes" "shut" "Ljava/util/Set;" u4) ∧ (Fld Z hH b "com/example/myna/myna/delivery/Deliveries$Lanes" "deferred" "Ljava/util/Set;" nd)
def R6 (Z : State) (a : Addr) (nd : Value) (u1 : Value) (u2 : Value) (pe : Int32) (u4 : Value) (h0 : Heap) (n0 : Nat) (U : State) (o : Outcome) (U' : State) : Prop := ∃ vV LL, o = .returned vV ∧ Q6 Z a nd u1 u2 pe u4 h0 n0 vV U'.heap LL ∧ FrameEnd U o U' LL ({ frames := 3, cells := 1, slots := 5, locals := 42 } : Room).cells ({ frames := 3, cells := 1, slots := 5, locals := 42 } : Room).slots
set_option maxRecDepth 65536 in
set_option maxHeartbeats 40000000 in
theorem rm6 (l : Launch) (Z : State) (a0 : Array Value) (hw : ∀ d ∈ tables_1, d.before a0 Z = true) (ws : List Jvm.Cond) (a : Addr) (nd : Value) (u1 : Value) (u2 : Value) (pe : Int32) (u4 : Value) (h0 : Heap) (n0 : Nat) (Z0 : n0 ≤ h0.size) (hp0 : Fld Z h0 a "com/example/myna/myna/delivery/Deliveries$Lanes" "endpointIds" "Ljava/util/List;" u1) (hp1 : Fld Z h0 a "com/example/myna/myna/delivery/Deliveries$Lanes" "openRequests" "Ljava/util/Map;" u2) (hp2 : Fld Z h0 a "com/example/myna/myna/delivery/Deliveries$Lanes" "perEndpoint" "I" (.int pe)) (hp3 : Fld Z h0 a "com/example/myna/myna/delivery/Deliveries$Lanes" "shut" "Ljava/util/Set;" u4) (hp4 : nd.isRef = true) (hp5 : u1.isRef = true) (hp6 : u2.isRef = true) (hp7 : u4.isRef = true) :
    MetFree l (⟨"com/example/myna/myna/delivery/Deliveries$Lanes", "deferring", "(Ljava/util/Set;)Lcom/example/myna/myna/delivery/Deliveries$Lanes;"⟩ : MethodName) (head1 (Jvm.Cond.code (⟨"com/example/myna/myna/delivery/Deliveries$Lanes", "deferring", "(Ljava/util/Set;)Lcom/example/myna/myna/delivery/Deliveries$Lanes;"⟩ : MethodName) prog_14_method_4_code 2 (some (.object "com/example/myna/myna/delivery/Deliveries$Lanes")) :: ws) ({ frames := 3, cells := 1, slots := 5, locals := 42 } : Room)) (fun aA U => aA = #[(.ref a), nd] ∧ Z.Warmed39 U.vm ∧ U.heap = h0) (fun _ _ _ _ _ => True) (fun _ U o U' => ∃ vV LL, o = .returned vV ∧ Q6 Z a nd u1 u2 pe u4 h0 n0 vV U'.heap LL ∧ FrameEnd U o U' LL ({ frames := 3, cells := 1, slots := 5, locals := 42 } : Room).cells ({ frames := 3, cells := 1, slots := 5, locals := 42 } : Room).slots) := by
  refine MetFree.of_bodySF (plainFor_of_name pn_4) hisR ?_
  intro p e s m args below meth cC s₁ Bd hml0 hP hK
  obtain ⟨rfl, hZ, hh⟩ := hP
  have hx := Bd.exec
  have hby := Bd.bytes
  have hml : cC.maxLocals = 2 := hml0
  have hown : s.vm.findClass "com/example/myna/myna/delivery/Deliveries$Lanes" = some m.cls := findClass_of_methodNamed Bd.named
  have hnm := (name_of_methodNamed Bd.named Bd.method).1
  have X0 : Stand p l e ({ frames := 3, cells := 1, slots := 5, locals := 42 } : Room) s m #[(.ref a), nd] below meth cC s₁ [] 0 0 := Stand.of_body Bd
  have e0 : s₁.heap = h0 := by rw [← hh, Bd.state]; rfl
  have N0 := Fr.nil n0
  show OwnFin p e below (R6 Z a nd u1 u2 pe u4 h0 n0 s) (s₁.setTop (entryFrame m #[(.ref a), nd] 2))
  rw [ef_6 m a nd hp4]
  obtain ⟨T1, h1, X1, e1, E1, A1, D1, -, st1⟩ := newO X0 hx hZ hown (hw _ (List.mem_of_getElem? (i := 4) rfl)) (hw _ (List.mem_of_getElem? (i := 5) rfl)) (hw _ (List.mem_of_getElem? (i := 2) rfl)) e0 (g := (mkF m 0 #[.val (.ref a), .val nd] [])) rfl (hb hby d_prog_14_method_4_0) (by decide) (by decide)
  obtain ⟨b1, g1⟩ : ∃ z, z = h0.size := ⟨_, rfl⟩
  rw [← g1] at A1 D1 st1
  refine OwnFin.step st1 ?_
  have Fz2 : Fld Z h1 b1 "com/example/myna/myna/delivery/Deliveries$Lanes" "endpointIds" "Ljava/util/List;" .null := D1 (Or.inr (hw _ (List.mem_of_getElem? (i := 24) rfl))) (ty := (.object "java/util/List")) (by decide)
  have Fz3 : Fld Z h1 b1 "com/example/myna/myna/delivery/Deliveries$Lanes" "openRequests" "Ljava/util/Map;" .null := D1 (Or.inr (hw _ (List.mem_of_getElem? (i := 26) rfl))) (ty := (.object "java/util/Map")) (by decide)
  have Fz4 : Fld Z h1 b1 "com/example/myna/myna/delivery/Deliveries$Lanes" "perEndpoint" "I" (.int (0 : Int32)) := D1 (Or.inr (hw _ (List.mem_of_getElem? (i := 28) rfl))) (ty := .int) (by decide)
  have Fz5 : Fld Z h1 b1 "com/example/myna/myna/delivery/Deliveries$Lanes" "shut" "Ljava/util/Set;" .null := D1 (Or.inr (hw _ (List.mem_of_getElem? (i := 30) rfl))) (ty := (.object "java/util/Set")) (by decide)
  have Fz6 : Fld Z h1 b1 "com/example/myna/myna/delivery/Deliveries$Lanes" "deferred" "Ljava/util/Set;" .null := D1 (Or.inr (hw _ (List.mem_of_getElem? (i := 32) rfl))) (ty := (.object "java/util/Set")) (by decide)
  show OwnFin p e below _ (T1.setTop (mkF m 3 #[.val (.ref a), .val nd] [(.ref b1)]))
  refine OwnFin.step (fun tT kK => XS.dup X1.here hx rfl (hb hby d_prog_14_method_4_3) rfl rfl kK) ?_
  show OwnFin p e below _ (T1.setTop (mkF m 4 #[.val (.ref a), .val nd] [(.ref b1), (.ref b1)]))
  refine OwnFin.step (fun tT kK => XS.aloadN X1.here hx rfl (hb hby d_prog_14_method_4_4) rfl rfl kK) ?_
  show OwnFin p e below _ (T1.setTop (mkF m 5 #[.val (.ref a), .val nd] [(.ref a), (.ref b1), (.ref b1)]))
  have f7 : Fld Z h1 a "com/example/myna/myna/delivery/Deliveries$Lanes" "endpointIds" "Ljava/util/List;" u1 := (hp0.ext E1)
  obtain ⟨T8, X8, e8, st8⟩ := getF X1 hx hZ hown (host := "") (Or.inl (hw _ (List.mem_of_getElem? (i := 23) rfl))) Via.refl e1 f7 (g := (mkF m 5 #[.val (.ref a), .val nd] [(.ref a), (.ref b1), (.ref b1)])) rfl rfl (hb hby d_prog_14_method_4_5)
  refine OwnFin.step st8 ?_
  show OwnFin p e below _ (T8.setTop (mkF m 8 #[.val (.ref a), .val nd] [u1, (.ref b1), (.ref b1)]))
  refine OwnFin.step (fun tT kK => XS.aloadN X8.here hx rfl (hb hby d_prog_14_method_4_8) rfl rfl kK) ?_
  show OwnFin p e below _ (T8.setTop (mkF m 9 #[.val (.ref a), .val nd] [(.ref a), u1, (.ref b1), (.ref b1)]))
  have f9 : Fld Z h1 a "com/example/myna/myna/delivery/Deliveries$Lanes" "openRequests" "Ljava/util/Map;" u2 := (hp1.ext E1)
  obtain ⟨T10, X10, e10, st10⟩ := getF X8 hx hZ hown (host := "") (Or.inl (hw _ (List.mem_of_getElem? (i := 25) rfl))) Via.refl e8 f9 (g := (mkF m 9 #[.val (.ref a), .val nd] [(.ref a), u1, (.ref b1), (.ref b1)])) rfl rfl (hb hby d_prog_14_method_4_9)
  refine OwnFin.step st10 ?_
  show OwnFin p e below _ (T10.setTop (mkF m 12 #[.val (.ref a), .val nd] [u2, u1, (.ref b1), (.ref b1)]))
  refine OwnFin.step (fun tT kK => XS.aloadN X10.here hx rfl (hb hby d_prog_14_method_4_12) rfl rfl kK) ?_
  show OwnFin p e below _ (T10.setTop (mkF m 13 #[.val (.ref a), .val nd] [(.ref a), u2, u1, (.ref b1), (.ref b1)]))
  have f11 : Fld Z h1 a "com/example/myna/myna/delivery/Deliveries$Lanes" "perEndpoint" "I" (.int pe) := (hp2.ext E1)
  obtain ⟨T12, X12, e12, st12⟩ := getF X10 hx hZ hown (host := "") (Or.inl (hw _ (List.mem_of_getElem? (i := 27) rfl))) Via.refl e10 f11 (g := (mkF m 13 #[.val (.ref a), .val nd] [(.ref a), u2, u1, (.ref b1), (.ref b1)])) rfl rfl (hb hby d_prog_14_method_4_13)
  refine OwnFin.step st12 ?_
  show OwnFin p e below _ (T12.setTop (mkF m 16 #[.val (.ref a), .val nd] [(.int pe), u2, u1, (.ref b1), (.ref b1)]))
  refine OwnFin.step (fun tT kK => XS.aloadN X12.here hx rfl (hb hby d_prog_14_method_4_16) rfl rfl kK) ?_
  show OwnFin p e below _ (T12.setTop (mkF m 17 #[.val (.ref a), .val nd] [(.ref a), (.int pe), u2, u1, (.ref b1), (.ref b1)]))
  have f13 : Fld Z h1 a "com/example/myna/myna/delivery/Deliveries$Lanes" "shut" "Ljava/util/Set;" u4 := (hp3.ext E1)
  obtain ⟨T14, X14, e14, st14⟩ := getF X12 hx hZ hown (host := "") (Or.inl (hw _ (List.mem_of_getElem? (i := 29) rfl))) Via.refl e12 f13 (g := (mkF m 17 #[.val (.ref a), .val nd] [(.ref a), (.int pe), u2, u1, (.ref b1), (.ref b1)])) rfl rfl (hb hby d_prog_14_method_4_17)
  refine OwnFin.step st14 ?_
  show OwnFin p e below _ (T14.setTop (mkF m 20 #[.val (.ref a), .val nd] [u4, (.int pe), u2, u1, (.ref b1), (.ref b1)]))
  refine OwnFin.step (fun tT kK => XS.aloadN X14.here hx rfl (hb hby d_prog_14_method_4_20) rfl hp4 kK) ?_
  show OwnFin p e below _ (T14.setTop (mkF m 21 #[.val (.ref a), .val nd] [nd, u4, (.int pe), u2, u1, (.ref b1), (.ref b1)]))
  obtain ⟨_, _, ⟨T15, L15, k15, n15⟩, -, X15, ⟨Lc15, hQ15, l15, y15, z15⟩, st15⟩ := X14.specialBack hx (y := (⟨"com/example/myna/myna/delivery/Deliveries$Lanes", "<init>", "(Ljava/util/List;Ljava/util/Map;ILjava/util/Set;Ljava/util/Set;)V"⟩ : MethodName)) rfl hown (mvT hZ (hw _ (List.mem_of_getElem? (i := 12) rfl))) (mvT hZ (hw _ (List.mem_of_getElem? (i := 13) rfl))) (mvT hZ (hw _ (List.mem_of_getElem? (i := 14) rfl))) (by decide) (backOf (W := 1) (rm2 l Z a0 hw [] b1 u1 u2 pe u4 nd h1 n0 (Nat.le_trans Z0 E1.1) A1 Fz2 Fz3 Fz4 Fz5 Fz6 hp5 hp6 hp7 hp4 (Nat.le_trans Z0 (Nat.le_of_eq g1.symm))) hZ (hw _ (List.mem_of_getElem? (i := 14) rfl)) (hw _ (List.mem_of_getElem? (i := 2) rfl)) (by decide) (by decide)) (g := (mkF m 21 #[.val (.ref a), .val nd] [nd, u4, (.int pe), u2, u1, (.ref b1), (.ref b1)])) rfl (by rw [hml]; rfl) (Steps.refl _) (a := b1) (argsL := [u1, u2, (.int pe), u4, nd]) (rest := [(.ref b1)]) (lenOf pd_36 rfl) rfl (by show 2 * 0 + _ ≤ _; exact Nat.le_of_eq rfl) (hb hby d_prog_14_method_4_21) (fun _ _ => ⟨rfl, e14, (by decide : 1 + 0 ≤ _), (by decide : 5 + 0 ≤ _)⟩)
  dsimp only [Pt.U, Pt.locs, Pt.cells, Pt.slots] at X15 l15 y15 z15 st15 hQ15
  subst l15 y15 z15
  obtain ⟨rfl, N15q, K15, P15_0, P15_1, P15_2, P15_3, P15_4, P15_5⟩ := hQ15
  have N15 := Fr.app N0 N15q
  refine OwnFin.step (fun tT kK => st15.trans kK) ?_
  show OwnFin p e below _ (T15.setTop (mkF m 24 #[.val (.ref a), .val nd] [(.ref b1)]))
  obtain ⟨fs16, hr16, hrun16, hended16, hW16, hsame16⟩ := X15.leave (v := (some (.ref b1))) (fun h => by rw [Bd.returns] at h; cases h)
  refine ⟨_, _, retOut X15 hx Bd.returns rfl (Or.inr (Or.inr (Or.inr (Or.inr ⟨rfl, rfl, rfl⟩)))) (hb hby d_prog_14_method_4_24) hr16, hrun16, hended16, _, _, rfl, ?_, ⟨_, rfl⟩, hW16, hsame16.mono (by decide) (by decide)⟩
  show Q6 Z a nd u1 u2 pe u4 h0 n0 _ T15.heap _
  exact ⟨b1, rfl, N15, (((Keep.refl h0 []).ext E1).trans K15 (allS (P := fun x => x ∈ [] ∨ h0.size ≤ x) (Or.inr (Nat.le_trans (Nat.le_refl _) (Nat.le_of_eq g1.symm))) all0)), (Nat.le_trans (Nat.le_refl _) (Nat.le_of_eq g1.symm)), P15_0, P15_1, P15_2, P15_3, P15_4, P15_5⟩
theorem pn_66 : plainName "java/util/AbstractCollection" = true := by first | (simp [plainName, overriddenIn]; done) | decide +kernel
theorem d_jdk_22_method_1_0 : decode jdk_22_method_1_code 0 = .ok (.aload_n 0, 1) := by decide +kernel
theorem d_jdk_22_method_1_1 : decode jdk_22_method_1_code 1 = .ok (.invokespecial 1, 3) := by decide +kernel
theorem d_jdk_22_method_1_4 : decode jdk_22_method_1_code 4 = .ok (.return_, 1) := by decide +kernel
theorem ef_7a (m : MethodId) (a : Addr) : entryFrame m #[(.ref a)] 1 = mkF m 0 #[.val (.ref a)] [] := by first | (simp [entryFrame, mkF, argsToLocals, Value.category]; done) | rfl
def Q7a (Z : State) (a : Addr) (h0 : Heap) (n0 : Nat) (vV : Option Value) (hH : Heap) (LL : List Loc) : Prop := vV = none ∧ Fr n0 LL ∧ hH = h0
def R7a (Z : State) (a : Addr) (h0 : Heap) (n0 : Nat) (U : State) (o : Outcome) (U' : State) : Prop := ∃ vV LL, o = .returned vV ∧ Q7a Z a h0 n0 vV U'.heap LL ∧ FrameEnd U o U' LL ({ frames := 1, cells := 0, slots := 0, locals := 12 } : Room).cells ({ frames := 1, cells := 0, slots := 0, locals := 12 } : Room).slots
set_option maxRecDepth 65536 in
set_option maxHeartbeats 40000000 in
theorem rm7a (l : Launch) (Z : State) (a0 : Array Value) (hw : ∀ d ∈ tables_1, d.before a0 Z = true) (ws : List Jvm.Cond) (a : Addr) (h0 : Heap) (n0 : Nat) (Z0 : n0 ≤ h0.size) :
    MetFree l (⟨"java/util/AbstractCollection", "<init>", "()V"⟩ : MethodName) (head1 (Jvm.Cond.code (⟨"java/util/AbstractCollection", "<init>", "()V"⟩ : MethodName) jdk_22_method_1_code 1 none :: ws) ({ frames := 1, cells := 0, slots := 0, locals := 12 } : Room)) (fun aA U => aA = #[(.ref a)] ∧ Z.Warmed39 U.vm ∧ U.heap = h0) (fun _ _ _ _ _ => True) (fun _ U o U' => ∃ vV LL, o = .returned vV ∧ Q7a Z a h0 n0 vV U'.heap LL ∧ FrameEnd U o U' LL ({ frames := 1, cells := 0, slots := 0, locals := 12 } : Room).cells ({ frames := 1, cells := 0, slots := 0, locals := 12 } : Room).slots) := by
  refine MetFree.of_bodySF (plainFor_of_name pn_66) hisR ?_
  intro p e s m args below meth cC s₁ Bd hml0 hP hK
  obtain ⟨rfl, hZ, hh⟩ := hP
  have hx := Bd.exec
  have hby := Bd.bytes
  have hml : cC.maxLocals = 1 := hml0
  have hown : s.vm.findClass "java/util/AbstractCollection" = some m.cls := findClass_of_methodNamed Bd.named
  have hnm := (name_of_methodNamed Bd.named Bd.method).1
  have X0 : Stand p l e ({ frames := 1, cells := 0, slots := 0, locals := 12 } : Room) s m #[(.ref a)] below meth cC s₁ [] 0 0 := Stand.of_body Bd
  have e0 : s₁.heap = h0 := by rw [← hh, Bd.state]; rfl
  have N0 := Fr.nil n0
  show OwnFin p e below (R7a Z a h0 n0 s) (s₁.setTop (entryFrame m #[(.ref a)] 1))
  rw [ef_7a m a]
  refine OwnFin.step (fun tT kK => XS.aloadN X0.here hx rfl (hb hby d_jdk_22_method_1_0) rfl rfl kK) ?_
  show OwnFin p e below _ (s₁.setTop (mkF m 1 #[.val (.ref a)] [(.ref a)]))
  obtain ⟨T1, X1, e1, st1⟩ := initO X0 hx hZ hown (hw _ (List.mem_of_getElem? (i := 83) rfl)) (hw _ (List.mem_of_getElem? (i := 21) rfl)) (hw _ (List.mem_of_getElem? (i := 22) rfl)) e0 (g := (mkF m 1 #[.val (.ref a)] [(.ref a)])) rfl (by rw [hml]; rfl) rfl (hb hby d_jdk_22_method_1_1) (by decide) (W := 0) (by show 2 * 0 + _ ≤ _; exact Nat.le_of_eq rfl) (by decide)
  refine OwnFin.step st1 ?_
  show OwnFin p e below _ (T1.setTop (mkF m 4 #[.val (.ref a)] []))
  obtain ⟨fs2, hr2, hrun2, hended2, hW2, hsame2⟩ := X1.leave (v := none) (fun _ => rfl)
  refine ⟨_, _, X1.returnOut hx Bd.returns (hb hby d_jdk_22_method_1_4) hr2, hrun2, hended2, _, _, rfl, ?_, ⟨_, rfl⟩, hW2, hsame2.mono (by decide) (by decide)⟩
  show Q7a Z a h0 n0 _ T1.heap _
  rw [e1]
  exact ⟨rfl, N0, rfl⟩
theorem pn_70 : plainName "java/util/AbstractList" = true := by first | (simp [plainName, overriddenIn]; done) | decide +kernel
theorem d_jdk_39_method_1_0 : decode jdk_39_method_1_code 0 = .ok (.aload_n 0, 1) := by decide +kernel
theorem d_jdk_39_method_1_1 : decode jdk_39_method_1_code 1 = .ok (.invokespecial 1, 3) := by decide +kernel
theorem d_jdk_39_method_1_4 : decode jdk_39_method_1_code 4 = .ok (.aload_n 0, 1) := by decide +kernel
theorem d_jdk_39_method_1_5 : decode jdk_39_method_1_code 5 = .ok (.iconst 0, 1) := by decide +kernel
theorem d_jdk_39_method_1_6 : decode jdk_39_method_1_code 6 = .ok (.putfield 7, 3) := by decide +kernel
theorem d_jdk_39_method_1_9 : decode jdk_39_method_1_code 9 = .ok (.return_, 1) := by decide +kernel
theorem ef_7b (m : MethodId) (a : Addr) : entryFrame m #[(.ref a)] 1 = mkF m 0 #[.val (.ref a)] [] := by first | (simp [entryFrame, mkF, argsToLocals, Value.category]; done) | rfl
def Q7b (Z : State) (a : Addr) (h0 : Heap) (n0 : Nat) (vV : Option Value) (hH : Heap) (LL : List Loc) : Prop := vV = none ∧ Fr n0 LL ∧ Keep h0 hH [a] ∧ (Exa Z hH a "java/util/ArrayList") ∧ (Fld Z hH a "java/util/AbstractList" "modCount" "I" (.int (0 : Int32))) ∧ (Fld Z hH a "java/util/ArrayList" "elementData" "[Ljava/lang/Object;" .null) ∧ (Fld Z hH a "java/util/ArrayList" "size" "I" (.int (0 : Int32)))
def R7b (Z : State) (a : Addr) (h0 : Heap) (n0 : Nat) (U : State) (o : Outcome) (U' : State) : Prop := ∃ vV LL, o = .returned vV ∧ Q7b Z a h0 n0 vV U'.heap LL ∧ FrameEnd U o U' LL ({ frames := 2, cells := 0, slots := 0, locals := 24 } : Room).cells ({ frames := 2, cells := 0, slots := 0, locals := 24 } : Room).slots
set_option maxRecDepth 65536 in
set_option maxHeartbeats 40000000 in
theorem rm7b (l : Launch) (Z : State) (a0 : Array Value) (hw : ∀ d ∈ tables_1, d.before a0 Z = true) (ws : List Jvm.Cond) (a : Addr) (h0 : Heap) (n0 : Nat) (Z0 : n0 ≤ h0.size) (hp0 : Exa Z h0 a "java/util/ArrayList") (hp1 : Fld Z h0 a "java/util/AbstractList" "modCount" "I" (.int (0 : Int32))) (hp2 : n0 ≤ a) (hp3 : Fld Z h0 a "java/util/ArrayList" "elementData" "[Ljava/lang/Object;" .null) (hp4 : Fld Z h0 a "java/util/ArrayList" "size" "I" (.int (0 : Int32))) :
    MetFree l (⟨"java/util/AbstractList", "<init>", "()V"⟩ : MethodName) (head1 (Jvm.Cond.code (⟨"java/util/AbstractList", "<init>", "()V"⟩ : MethodName) jdk_39_method_1_code 1 none :: ws) ({ frames := 2, cells := 0, slots := 0, locals := 24 } : Room)) (fun aA U => aA = #[(.ref a)] ∧ Z.Warmed39 U.vm ∧ U.heap = h0) (fun _ _ _ _ _ => True) (fun _ U o U' => ∃ vV LL, o = .returned vV ∧ Q7b Z a h0 n0 vV U'.heap LL ∧ FrameEnd U o U' LL ({ frames := 2, cells := 0, slots := 0, locals := 24 } : Room).cells ({ frames := 2, cells := 0, slots := 0, locals := 24 } : Room).slots) := by
  refine MetFree.of_bodySF (plainFor_of_name pn_70) hisR ?_
  intro p e s m args below meth cC s₁ Bd hml0 hP hK
  obtain ⟨rfl, hZ, hh⟩ := hP
  have hx := Bd.exec
  have hby := Bd.bytes
  have hml : cC.maxLocals = 1 := hml0
  have hown : s.vm.findClass "java/util/AbstractList" = some m.cls := findClass_of_methodNamed Bd.named
  have hnm := (name_of_methodNamed Bd.named Bd.method).1
  have X0 : Stand p l e ({ frames := 2, cells := 0, slots := 0, locals := 24 } : Room) s m #[(.ref a)] below meth cC s₁ [] 0 0 := Stand.of_body Bd
  have e0 : s₁.heap = h0 := by rw [← hh, Bd.state]; rfl
  have N0 := Fr.nil n0
  show OwnFin p e below (R7b Z a h0 n0 s) (s₁.setTop (entryFrame m #[(.ref a)] 1))
  rw [ef_7b m a]
  refine OwnFin.step (fun tT kK => XS.aloadN X0.here hx rfl (hb hby d_jdk_39_method_1_0) rfl rfl kK) ?_
  show OwnFin p e below _ (s₁.setTop (mkF m 1 #[.val (.ref a)] [(.ref a)]))
  obtain ⟨_, _, ⟨T1, L1, k1, n1⟩, -, X1, ⟨Lc1, hQ1, l1, y1, z1⟩, st1⟩ := X0.specialBack hx (y := (⟨"java/util/AbstractCollection", "<init>", "()V"⟩ : MethodName)) rfl hown (mvT hZ (hw _ (List.mem_of_getElem? (i := 77) rfl))) (mvT hZ (hw _ (List.mem_of_getElem? (i := 78) rfl))) (mvT hZ (hw _ (List.mem_of_getElem? (i := 82) rfl))) (by decide) (backOf (W := 0) (rm7a l Z a0 hw [] a h0 n0 Z0 ) hZ (hw _ (List.mem_of_getElem? (i := 82) rfl)) (hw _ (List.mem_of_getElem? (i := 81) rfl)) (by decide) (by decide)) (g := (mkF m 1 #[.val (.ref a)] [(.ref a)])) rfl (by rw [hml]; rfl) (Steps.refl _) (a := a) (argsL := []) (rest := []) (lenOf pd_7 rfl) rfl (by show 2 * 0 + _ ≤ _; exact Nat.le_of_eq rfl) (hb hby d_jdk_39_method_1_1) (fun _ _ => ⟨rfl, e0, (by decide : 0 + 0 ≤ _), (by decide : 0 + 0 ≤ _)⟩)
  dsimp only [Pt.U, Pt.locs, Pt.cells, Pt.slots] at X1 l1 y1 z1 st1 hQ1
  subst l1 y1 z1
  obtain ⟨rfl, N1q, e1⟩ := hQ1
  have N1 := Fr.app N0 N1q
  refine OwnFin.step (fun tT kK => st1.trans kK) ?_
  show OwnFin p e below _ (T1.setTop (mkF m 4 #[.val (.ref a)] []))
  refine OwnFin.step (fun tT kK => XS.aloadN X1.here hx rfl (hb hby d_jdk_39_method_1_4) rfl rfl kK) ?_
  show OwnFin p e below _ (T1.setTop (mkF m 5 #[.val (.ref a)] [(.ref a)]))
  refine OwnFin.step (fun tT kK => XS.iconst X1.here hx rfl (hb hby d_jdk_39_method_1_5) kK) ?_
  show OwnFin p e below _ (T1.setTop (mkF m 6 #[.val (.ref a)] [(.int (0 : Int32)), (.ref a)]))
  obtain ⟨T2, h2, X2, e2, W2, st2⟩ := putF X1 hx hZ hown (host := "") (Or.inl (hw _ (List.mem_of_getElem? (i := 84) rfl))) Via.refl e1 hp1 hp0 (Or.inl (hw _ (List.mem_of_getElem? (i := 85) rfl))) (hw _ (List.mem_of_getElem? (i := 66) rfl)) (ty := .int) (by decide) rfl rfl (g := (mkF m 6 #[.val (.ref a)] [(.int (0 : Int32)), (.ref a)])) rfl rfl (hb hby d_jdk_39_method_1_6)
  refine OwnFin.step st2 ?_
  have N2 := Fr.snoc X2 N1 hp2
  have Fw2 : Fld Z h2 a "java/util/AbstractList" "modCount" "I" (.int (0 : Int32)) := hp1.same W2
  show OwnFin p e below _ (T2.setTop (mkF m 9 #[.val (.ref a)] []))
  have f4 : Exa Z h2 a "java/util/ArrayList" := (hp0.wr W2)
  have f5 : Fld Z h2 a "java/util/ArrayList" "elementData" "[Ljava/lang/Object;" .null := (hp3.other W2 (Or.inr (slot_ne (Or.inl (hw _ (List.mem_of_getElem? (i := 88) rfl))) (Or.inl (hw _ (List.mem_of_getElem? (i := 85) rfl))) (by decide) (t := (.array (.object "java/lang/Object"))) (t' := .int) (by decide) (by decide))))
  have f6 : Fld Z h2 a "java/util/ArrayList" "size" "I" (.int (0 : Int32)) := (hp4.other W2 (Or.inr (slot_ne (Or.inl (hw _ (List.mem_of_getElem? (i := 121) rfl))) (Or.inl (hw _ (List.mem_of_getElem? (i := 85) rfl))) (by decide) (t := .int) (t' := .int) (by decide) (by decide))))
  obtain ⟨fs3, hr3, hrun3, hended3, hW3, hsame3⟩ := X2.leave (v := none) (fun _ => rfl)
  refine ⟨_, _, X2.returnOut hx Bd.returns (hb hby d_jdk_39_method_1_9) hr3, hrun3, hended3, _, _, rfl, ?_, ⟨_, rfl⟩, hW3, hsame3.mono (by decide) (by decide)⟩
  show Q7b Z a h0 n0 _ T2.heap _
  rw [e2]
  exact ⟨rfl, N2, ((Keep.refl h0 [a]).wr W2 (Or.inl (List.mem_of_getElem? (i := 0) rfl))), f4, Fw2, f5, f6⟩
theorem pn_77 : plainName "java/util/ArrayList" = true := by first | (simp [plainName, overriddenIn]; done) | decide +kernel
theorem d_jdk_38_method_2_0 : decode jdk_38_method_2_code 0 = .ok (.aload_n 0, 1) := by decide +kernel
theorem d_jdk_38_method_2_1 : decode jdk_38_method_2_code 1 = .ok (.invokespecial 1, 3) := by decide +kernel
theorem d_jdk_38_method_2_4 : decode jdk_38_method_2_code 4 = .ok (.aload_n 0, 1) := by decide +kernel
theorem d_jdk_38_method_2_5 : decode jdk_38_method_2_code 5 = .ok (.getstatic 39, 3) := by decide +kernel
theorem d_jdk_38_method_2_8 : decode jdk_38_method_2_code 8 = .ok (.putfield 9, 3) := by decide +kernel
theorem d_jdk_38_method_2_11 : decode jdk_38_method_2_code 11 = .ok (.return_, 1) := by decide +kernel
theorem ef_7 (m : MethodId) (a : Addr) : entryFrame m #[(.ref a)] 1 = mkF m 0 #[.val (.ref a)] [] := by first | (simp [entryFrame, mkF, argsToLocals, Value.category]; done) | rfl
def Q7 (Z : State) (a : Addr) (dc : Addr) (h0 : Heap) (n0 : Nat) (vV : Option Value) (hH : Heap) (LL : List Loc) : Prop := vV = none ∧ Fr n0 LL ∧ Keep h0 hH [a] ∧ (Exa Z hH a "java/util/ArrayList") ∧ (Fld Z hH a "java/util/AbstractList" "modCount" "I" (.int (0 : Int32))) ∧ (Fld Z hH a "java/util/ArrayList" "elementData" "[Ljava/lang/Object;" (.ref dc)) ∧ (Fld Z hH a "java/util/ArrayList" "size" "I" (.int (0 : Int32)))
def R7 (Z : State) (a : Addr) (dc : Addr) (h0 : Heap) (n0 : Nat) (U : State) (o : Outcome) (U' : State) : Prop := ∃ vV LL, o = .returned vV ∧ Q7 Z a dc h0 n0 vV U'.heap LL ∧ FrameEnd U o U' LL ({ frames := 3, cells := 0, slots := 0, locals := 36 } : Room).cells ({ frames := 3, cells := 0, slots := 0, locals := 36 } : Room).slots
set_option maxRecDepth 65536 in
set_option maxHeartbeats 40000000 in
theorem rm7 (l : Launch) (Z : State) (a0 : Array Value) (hw : ∀ d ∈ tables_1, d.before a0 Z = true) (ws : List Jvm.Cond) (a : Addr) (dc : Addr) (h0 : Heap) (n0 : Nat) (Z0 : n0 ≤ h0.size) (hp0 : Sta Z h0 "java/util/ArrayList" "DEFAULTCAPACITY_EMPTY_ELEMENTDATA" "[Ljava/lang/Object;" (.ref dc)) (hp1 : Exa Z h0 a "java/util/ArrayList") (hp2 : Fld Z h0 a "java/util/AbstractList" "modCount" "I" (.int (0 : Int32))) (hp3 : n0 ≤ a) (hp4 : Fld Z h0 a "java/util/ArrayList" "elementData" "[Ljava/lang/Object;" .null) (hp5 : Fld Z h0 a "java/util/ArrayList" "size" "I" (.int (0 : Int32))) :
    MetFree l (⟨"java/util/ArrayList", "<init>", "()V"⟩ : MethodName) (head1 (Jvm.Cond.code (⟨"java/util/ArrayList", "<init>", "()V"⟩ : MethodName) jdk_38_method_2_code 1 none :: ws) ({ frames := 3, cells := 0, slots := 0, locals := 36 } : Room)) (fun aA U => aA = #[(.ref a)] ∧ Z.Warmed39 U.vm ∧ U.heap = h0) (fun _ _ _ _ _ => True) (fun _ U o U' => ∃ vV LL, o = .returned vV ∧ Q7 Z a dc h0 n0 vV U'.heap LL ∧ FrameEnd U o U' LL ({ frames := 3, cells := 0, slots := 0, locals := 36 } : Room).cells ({ frames := 3, cells := 0, slots := 0, locals := 36 } : Room).slots) := by
  refine MetFree.of_bodySF (plainFor_of_name pn_77) hisR ?_
  intro p e s m args below meth cC s₁ Bd hml0 hP hK
  obtain ⟨rfl, hZ, hh⟩ := hP
  have hx := Bd.exec
  have hby := Bd.bytes
  have hml : cC.maxLocals = 1 := hml0
  have hown : s.vm.findClass "java/util/ArrayList" = some m.cls := findClass_of_methodNamed Bd.named
  have hnm := (name_of_methodNamed Bd.named Bd.method).1
  have X0 : Stand p l e ({ frames := 3, cells := 0, slots := 0, locals := 36 } : Room) s m #[(.ref a)] below meth cC s₁ [] 0 0 := Stand.of_body Bd
  have e0 : s₁.heap = h0 := by rw [← hh, Bd.state]; rfl
  have N0 := Fr.nil n0
  show OwnFin p e below (R7 Z a dc h0 n0 s) (s₁.setTop (entryFrame m #[(.ref a)] 1))
  rw [ef_7 m a]
  refine OwnFin.step (fun tT kK => XS.aloadN X0.here hx rfl (hb hby d_jdk_38_method_2_0) rfl rfl kK) ?_
  show OwnFin p e below _ (s₁.setTop (mkF m 1 #[.val (.ref a)] [(.ref a)]))
  obtain ⟨_, _, ⟨T1, L1, k1, n1⟩, -, X1, ⟨Lc1, hQ1, l1, y1, z1⟩, st1⟩ := X0.specialBack hx (y := (⟨"java/util/AbstractList", "<init>", "()V"⟩ : MethodName)) rfl hown (mvT hZ (hw _ (List.mem_of_getElem? (i := 71) rfl))) (mvT hZ (hw _ (List.mem_of_getElem? (i := 72) rfl))) (mvT hZ (hw _ (List.mem_of_getElem? (i := 76) rfl))) (by decide) (backOf (W := 0) (rm7b l Z a0 hw [] a h0 n0 Z0 hp1 hp2 hp3 hp4 hp5) hZ (hw _ (List.mem_of_getElem? (i := 76) rfl)) (hw _ (List.mem_of_getElem? (i := 75) rfl)) (by decide) (by decide)) (g := (mkF m 1 #[.val (.ref a)] [(.ref a)])) rfl (by rw [hml]; rfl) (Steps.refl _) (a := a) (argsL := []) (rest := []) (lenOf pd_7 rfl) rfl (by show 2 * 0 + _ ≤ _; exact Nat.le_of_eq rfl) (hb hby d_jdk_38_method_2_1) (fun _ _ => ⟨rfl, e0, (by decide : 0 + 0 ≤ _), (by decide : 0 + 0 ≤ _)⟩)
  dsimp only [Pt.U, Pt.locs, Pt.cells, Pt.slots] at X1 l1 y1 z1 st1 hQ1
  subst l1 y1 z1
  obtain ⟨rfl, N1q, K1, P1_0, P1_1, P1_2, P1_3⟩ := hQ1
  have N1 := Fr.app N0 N1q
  refine OwnFin.step (fun tT kK => st1.trans kK) ?_
  show OwnFin p e below _ (T1.setTop (mkF m 4 #[.val (.ref a)] []))
  refine OwnFin.step (fun tT kK => XS.aloadN X1.here hx rfl (hb hby d_jdk_38_method_2_4) rfl rfl kK) ?_
  show OwnFin p e below _ (T1.setTop (mkF m 5 #[.val (.ref a)] [(.ref a)]))
  have f2 : Sta Z T1.heap "java/util/ArrayList" "DEFAULTCAPACITY_EMPTY_ELEMENTDATA" "[Ljava/lang/Object;" (.ref dc) := (own_sta_keep hp0 K1 (allS (own_nonsta hp1) all0))
  obtain ⟨T3, X3, e3, st3⟩ := getS2 X1 hx hZ hown (host := "") (Or.inl (hw _ (List.mem_of_getElem? (i := 86) rfl))) Via.refl rfl f2 (g := (mkF m 5 #[.val (.ref a)] [(.ref a)])) rfl (hb hby d_jdk_38_method_2_5)
  refine OwnFin.step st3 ?_
  show OwnFin p e below _ (T3.setTop (mkF m 8 #[.val (.ref a)] [(.ref dc), (.ref a)]))
  obtain ⟨T4, h4, X4, e4, W4, st4⟩ := putF X3 hx hZ hown (host := "") (Or.inl (hw _ (List.mem_of_getElem? (i := 87) rfl))) Via.refl e3 P1_2 P1_0 (Or.inl (hw _ (List.mem_of_getElem? (i := 88) rfl))) (hw _ (List.mem_of_getElem? (i := 66) rfl)) (ty := (.array (.object "java/lang/Object"))) (by decide) rfl rfl (g := (mkF m 8 #[.val (.ref a)] [(.ref dc), (.ref a)])) rfl rfl (hb hby d_jdk_38_method_2_8)
  refine OwnFin.step st4 ?_
  have N4 := Fr.snoc X4 N1 hp3
  have Fw4 : Fld Z h4 a "java/util/ArrayList" "elementData" "[Ljava/lang/Object;" (.ref dc) := P1_2.same W4
  show OwnFin p e below _ (T4.setTop (mkF m 11 #[.val (.ref a)] []))
  have f6 : Exa Z h4 a "java/util/ArrayList" := (P1_0.wr W4)
  have f7 : Fld Z h4 a "java/util/AbstractList" "modCount" "I" (.int (0 : Int32)) := (P1_1.other W4 (Or.inr (slot_ne (Or.inl (hw _ (List.mem_of_getElem? (i := 85) rfl))) (Or.inl (hw _ (List.mem_of_getElem? (i := 88) rfl))) (by decide) (t := .int) (t' := (.array (.object "java/lang/Object"))) (by decide) (by decide))))
  have f8 : Fld Z h4 a "java/util/ArrayList" "size" "I" (.int (0 : Int32)) := (P1_3.other W4 (Or.inr (slot_ne (Or.inl (hw _ (List.mem_of_getElem? (i := 121) rfl))) (Or.inl (hw _ (List.mem_of_getElem? (i := 88) rfl))) (by decide) (t := .int) (t' := (.array (.object "java/lang/Object"))) (by decide) (by decide))))
  obtain ⟨fs5, hr5, hrun5, hended5, hW5, hsame5⟩ := X4.leave (v := none) (fun _ => rfl)
  refine ⟨_, _, X4.returnOut hx Bd.returns (hb hby d_jdk_38_method_2_11) hr5, hrun5, hended5, _, _, rfl, ?_, ⟨_, rfl⟩, hW5, hsame5.mono (by decide) (by decide)⟩
  show Q7 Z a dc h0 n0 _ T4.heap _
  rw [e4]
  exact ⟨rfl, N4, (((Keep.refl h0 [a]).trans K1 (allS (P := fun x => x ∈ [a] ∨ h0.size ≤ x) (Or.inl (List.mem_of_getElem? (i := 0) rfl)) all0)).wr W4 (Or.inl (List.mem_of_getElem? (i := 0) rfl))), f6, f7, Fw4, f8⟩
theorem pn_84 : plainName "java/lang/StringLatin1" = true := by first | (simp [plainName, overriddenIn]; done) | decide +kernel
theorem d_jdk_43_method_3_0 : decode jdk_43_method_3_code 0 = .ok (.iload_n 0, 1) := by decide +kernel
theorem d_jdk_43_method_3_1 : decode jdk_43_method_3_code 1 = .ok (.sipush 255, 3) := by decide +kernel
theorem d_jdk_43_method_3_4 : decode jdk_43_method_3_code 4 = .ok (.if_icmp .gt 7, 3) := by decide +kernel
theorem d_jdk_43_method_3_7 : decode jdk_43_method_3_code 7 = .ok (.iconst 1, 1) := by decide +kernel
theorem d_jdk_43_method_3_8 : decode jdk_43_method_3_code 8 = .ok (.goto 4, 3) := by decide +kernel
theorem d_jdk_43_method_3_12 : decode jdk_43_method_3_code 12 = .ok (.ireturn, 1) := by decide +kernel
theorem ef_8a (m : MethodId) (c : Int32) : entryFrame m #[(.int c)] 1 = mkF m 0 #[.val (.int c)] [] := by first | (simp [entryFrame, mkF, argsToLocals, Value.category]; done) | rfl
def Q8a (Z : State) (c : Int32) (h0 : Heap) (n0 : Nat) (vV : Option Value) (hH : Heap) (LL : List Loc) : Prop := vV = some (.int (1 : Int32)) ∧ Fr n0 LL ∧ hH = h0
def R8a (Z : State) (c : Int32) (h0 : Heap) (n0 : Nat) (U : State) (o : Outcome) (U' : State) : Prop := ∃ vV LL, o = .returned vV ∧ Q8a Z c h0 n0 vV U'.heap LL ∧ FrameEnd U o U' LL ({ frames := 0, cells := 0, slots := 0, locals := 0 } : Room).cells ({ frames := 0, cells := 0, slots := 0, locals := 0 } : Room).slots
set_option maxRecDepth 65536 in
set_option maxHeartbeats 40000000 in
theorem rm8a (l : Launch) (Z : State) (a0 : Array Value) (hw : ∀ d ∈ tables_1, d.before a0 Z = true) (ws : List Jvm.Cond) (c : Int32) (h0 : Heap) (n0 : Nat) (Z0 : n0 ≤ h0.size) (hp0 : ¬ (255 : Int32) < c) :
    MetFree l (⟨"java/lang/StringLatin1", "canEncode", "(C)Z"⟩ : MethodName) (head1 (Jvm.Cond.code (⟨"java/lang/StringLatin1", "canEncode", "(C)Z"⟩ : MethodName) jdk_43_method_3_code 1 (some .boolean) :: ws) ({ frames := 0, cells := 0, slots := 0, locals := 0 } : Room)) (fun aA U => aA = #[(.int c)] ∧ Z.Warmed39 U.vm ∧ U.heap = h0) (fun _ _ _ _ _ => True) (fun _ U o U' => ∃ vV LL, o = .returned vV ∧ Q8a Z c h0 n0 vV U'.heap LL ∧ FrameEnd U o U' LL ({ frames := 0, cells := 0, slots := 0, locals := 0 } : Room).cells ({ frames := 0, cells := 0, slots := 0, locals := 0 } : Room).slots) := by
  refine MetFree.of_bodySF (plainFor_of_name pn_84) hisR ?_
  intro p e s m args below meth cC s₁ Bd hml0 hP hK
  obtain ⟨rfl, hZ, hh⟩ := hP
  have hx := Bd.exec
  have hby := Bd.bytes
  have hml : cC.maxLocals = 1 := hml0
  have hown : s.vm.findClass "java/lang/StringLatin1" = some m.cls := findClass_of_methodNamed Bd.named
  have hnm := (name_of_methodNamed Bd.named Bd.method).1
  have X0 : Stand p l e ({ frames := 0, cells := 0, slots := 0, locals := 0 } : Room) s m #[(.int c)] below meth cC s₁ [] 0 0 := Stand.of_body Bd
  have e0 : s₁.heap = h0 := by rw [← hh, Bd.state]; rfl
  have N0 := Fr.nil n0
  show OwnFin p e below (R8a Z c h0 n0 s) (s₁.setTop (entryFrame m #[(.int c)] 1))
  rw [ef_8a m c]
  refine OwnFin.step (fun tT kK => XS.iloadN X0.here hx rfl (hb hby d_jdk_43_method_3_0) rfl kK) ?_
  show OwnFin p e below _ (s₁.setTop (mkF m 1 #[.val (.int c)] [(.int c)]))
  refine OwnFin.step (fun tT kK => XS.sipush X0.here hx rfl (hb hby d_jdk_43_method_3_1) kK) ?_
  show OwnFin p e below _ (s₁.setTop (mkF m 4 #[.val (.int c)] [(.int (255 : Int32)), (.int c)]))
  refine OwnFin.step (fun tT kK => XS.icmpNo X0.here hx rfl (hb hby d_jdk_43_method_3_4) rfl (flt (hp0 : ¬ ((255 : Int32) < c))).2.2.1 kK) ?_
  show OwnFin p e below _ (s₁.setTop (mkF m 7 #[.val (.int c)] []))
  refine OwnFin.step (fun tT kK => XS.iconst X0.here hx rfl (hb hby d_jdk_43_method_3_7) kK) ?_
  show OwnFin p e below _ (s₁.setTop (mkF m 8 #[.val (.int c)] [(.int (1 : Int32))]))
  refine OwnFin.step (fun tT kK => XS.goto X0.here hx rfl (pc0 := 8) (pc' := 12) rfl (hb hby d_jdk_43_method_3_8) (by decide) (by decide) kK) ?_
  show OwnFin p e below _ (s₁.setTop (mkF m 12 #[.val (.int c)] [(.int (1 : Int32))]))
  obtain ⟨fs1, hr1, hrun1, hended1, hW1, hsame1⟩ := X0.leave (v := (some (.int (1 : Int32)))) (fun h => by rw [Bd.returns] at h; cases h)
  refine ⟨_, _, retN X0 hx (t := .boolean) Bd.returns (by simp) (hb hby d_jdk_43_method_3_12) hr1, hrun1, hended1, _, _, rfl, ?_, ⟨_, rfl⟩, hW1, hsame1.mono (by decide) (by decide)⟩
  show Q8a Z c h0 n0 _ s₁.heap _
  rw [e0]
  exact ⟨rfl, N0, rfl⟩
theorem d_jdk_43_method_46_0 : decode jdk_43_method_46_code 0 = .ok (.iconst 1, 1) := by decide +kernel
theorem d_jdk_43_method_46_1 : decode jdk_43_method_46_code 1 = .ok (.newarray .byte, 2) := by decide +kernel
theorem d_jdk_43_method_46_3 : decode jdk_43_method_46_code 3 = .ok (.dup, 1) := by decide +kernel
theorem d_jdk_43_method_46_4 : decode jdk_43_method_46_code 4 = .ok (.iconst 0, 1) := by decide +kernel
theorem d_jdk_43_method_46_5 : decode jdk_43_method_46_code 5 = .ok (.iload_n 0, 1) := by decide +kernel
theorem d_jdk_43_method_46_6 : decode jdk_43_method_46_code 6 = .ok (.i2b, 1) := by decide +kernel
theorem d_jdk_43_method_46_7 : decode jdk_43_method_46_code 7 = .ok (.bastore, 1) := by decide +kernel
theorem d_jdk_43_method_46_8 : decode jdk_43_method_46_code 8 = .ok (.areturn, 1) := by decide +kernel
theorem ef_8b (m : MethodId) (c : Int32) : entryFrame m #[(.int c)] 1 = mkF m 0 #[.val (.int c)] [] := by first | (simp [entryFrame, mkF, argsToLocals, Value.category]; done) | rfl
def Q8b (Z : State) (c : Int32) (h0 : Heap) (n0 : Nat) (vV : Option Value) (hH : Heap) (LL : List Loc) : Prop := ∃ b : Addr, vV = some (.ref b) ∧ Fr n0 LL ∧ Keep h0 hH [] ∧ h0.size ≤ b
def R8b (Z : State) (c : Int32) (h0 : Heap) (n0 : Nat) (U : State) (o : Outcome) (U' : State) : Prop := ∃ vV LL, o = .returned vV ∧ Q8b Z c h0 n0 vV U'.heap LL ∧ FrameEnd U o U' LL ({ frames := 0, cells := 1, slots := 1, locals := 0 } : Room).cells ({ frames := 0, cells := 1, slots := 1, locals := 0 } : Room).slots
set_option maxRecDepth 65536 in
set_option maxHeartbeats 40000000 in
theorem rm8b (l : Launch) (Z : State) (a0 : Array Value) (hw : ∀ d ∈ tables_1, d.before a0 Z = true) (ws : List Jvm.Cond) (c : Int32) (h0 : Heap) (n0 : Nat) (Z0 : n0 ≤ h0.size) :
    MetFree l (⟨"java/lang/StringLatin1", "toBytes", "(C)[B"⟩ : MethodName) (head1 (Jvm.Cond.code (⟨"java/lang/StringLatin1", "toBytes", "(C)[B"⟩ : MethodName) jdk_43_method_46_code 1 (some (.array .byte)) :: ws) ({ frames := 0, cells := 1, slots := 1, locals := 0 } : Room)) (fun aA U => aA = #[(.int c)] ∧ Z.Warmed39 U.vm ∧ U.heap = h0) (fun _ _ _ _ _ => True) (fun _ U o U' => ∃ vV LL, o = .returned vV ∧ Q8b Z c h0 n0 vV U'.heap LL ∧ FrameEnd U o U' LL ({ frames := 0, cells := 1, slots := 1, locals := 0 } : Room).cells ({ frames := 0, cells := 1, slots := 1, locals := 0 } : Room).slots) := by
  refine MetFree.of_bodySF (plainFor_of_name pn_84) hisR ?_
  intro p e s m args below meth cC s₁ Bd hml0 hP hK
  obtain ⟨rfl, hZ, hh⟩ := hP
  have hx := Bd.exec
  have hby := Bd.bytes
  have hml : cC.maxLocals = 1 := hml0
  have hown : s.vm.findClass "java/lang/StringLatin1" = some m.cls := findClass_of_methodNamed Bd.named
  have hnm := (name_of_methodNamed Bd.named Bd.method).1
  have X0 : Stand p l e ({ frames := 0, cells := 1, slots := 1, locals := 0 } : Room) s m #[(.int c)] below meth cC s₁ [] 0 0 := Stand.of_body Bd
  have e0 : s₁.heap = h0 := by rw [← hh, Bd.state]; rfl
  have N0 := Fr.nil n0
  show OwnFin p e below (R8b Z c h0 n0 s) (s₁.setTop (entryFrame m #[(.int c)] 1))
  rw [ef_8b m c]
  refine OwnFin.step (fun tT kK => XS.iconst X0.here hx rfl (hb hby d_jdk_43_method_46_0) kK) ?_
  show OwnFin p e below _ (s₁.setTop (mkF m 1 #[.val (.int c)] [(.int (1 : Int32))]))
  obtain ⟨T1, h1, k1, X1, e1, E1, A1, st1⟩ := newP X0 hx hZ (hw _ (List.mem_of_getElem? (i := 103) rfl)) e0 (g := (mkF m 1 #[.val (.int c)] [(.int (1 : Int32))])) rfl (hb hby d_jdk_43_method_46_1) rfl (by decide) (cap := 1) (by decide) (by decide) (by decide) (by decide)
  obtain ⟨b1, g1⟩ : ∃ z, z = h0.size := ⟨_, rfl⟩
  rw [← g1] at A1 st1
  refine OwnFin.step st1 ?_
  have V1 : Arv Z h1 b1 k1 .byte (1 : Int32) [(.int (0 : Int32))] (.int (0 : Int32)) := (Arv.new A1 (by decide)).pad (pad_rep [] (.int (0 : Int32)) 1)
  show OwnFin p e below _ (T1.setTop (mkF m 3 #[.val (.int c)] [(.ref b1)]))
  refine OwnFin.step (fun tT kK => XS.dup X1.here hx rfl (hb hby d_jdk_43_method_46_3) rfl rfl kK) ?_
  show OwnFin p e below _ (T1.setTop (mkF m 4 #[.val (.int c)] [(.ref b1), (.ref b1)]))
  refine OwnFin.step (fun tT kK => XS.iconst X1.here hx rfl (hb hby d_jdk_43_method_46_4) kK) ?_
  show OwnFin p e below _ (T1.setTop (mkF m 5 #[.val (.int c)] [(.int (0 : Int32)), (.ref b1), (.ref b1)]))
  refine OwnFin.step (fun tT kK => XS.iloadN X1.here hx rfl (hb hby d_jdk_43_method_46_5) rfl kK) ?_
  show OwnFin p e below _ (T1.setTop (mkF m 6 #[.val (.int c)] [(.int c), (.int (0 : Int32)), (.ref b1), (.ref b1)]))
  refine OwnFin.step (fun tT kK => XS.i2b X1.here hx rfl (hb hby d_jdk_43_method_46_6) rfl kK) ?_
  show OwnFin p e below _ (T1.setTop (mkF m 7 #[.val (.int c)] [(.int (c.toInt8.toInt32)), (.int (0 : Int32)), (.ref b1), (.ref b1)]))
  obtain ⟨cl2, Ar2, q2, Sz2, Ng2, H2, G2⟩ := id V1
  have hin2 : ¬ ((0 : Int32) < 0 ∨ cl2.slots.size ≤ ((0 : Int32)).toNatClampNeg) := inb_of Sz2 ⟨by decide, by decide⟩
  obtain ⟨T3, h3, X3, e3, W3, st3⟩ := stB X1 hx hZ e1 Ar2 (j := (0 : Int32)) hin2 (g := (mkF m 7 #[.val (.int c)] [(.int (c.toInt8.toInt32)), (.int (0 : Int32)), (.ref b1), (.ref b1)])) rfl rfl (hb hby d_jdk_43_method_46_7)
  refine OwnFin.step st3 ?_
  have N3 := Fr.snoc X3 N0 (Nat.le_trans Z0 (Nat.le_of_eq g1.symm))
  have V3 : Arv Z h3 b1 k1 .byte (1 : Int32) [(.int (nar .byte (c.toInt8.toInt32)))] (.int (0 : Int32)) := Arv.set Ar2 q2 Sz2 Ng2 H2 G2 (fits_nar_byte _) W3 0 rfl (Nat.le_of_ble_eq_true rfl)
  show OwnFin p e below _ (T3.setTop (mkF m 8 #[.val (.int c)] [(.ref b1)]))
  obtain ⟨fs4, hr4, hrun4, hended4, hW4, hsame4⟩ := X3.leave (v := (some (.ref b1))) (fun h => by rw [Bd.returns] at h; cases h)
  refine ⟨_, _, retOut X3 hx Bd.returns rfl (Or.inr (Or.inr (Or.inr (Or.inr ⟨rfl, rfl, rfl⟩)))) (hb hby d_jdk_43_method_46_8) hr4, hrun4, hended4, _, _, rfl, ?_, ⟨_, rfl⟩, hW4, hsame4.mono (by decide) (by decide)⟩
  show Q8b Z c h0 n0 _ T3.heap _
  rw [e3]
  exact ⟨b1, rfl, N3, (((Keep.refl h0 []).ext E1).wr W3 (Or.inr (Nat.le_trans (Nat.le_refl _) (Nat.le_of_eq g1.symm)))), (Nat.le_trans (Nat.le_refl _) (Nat.le_of_eq g1.symm))⟩
theorem pn_99 : plainName "java/lang/String" = true := by first | (simp [plainName, overriddenIn]; done) | decide +kernel
theorem d_jdk_42_method_151_0 : decode jdk_42_method_151_code 0 = .ok (.aload_n 0, 1) := by decide +kernel
theorem d_jdk_42_method_151_1 : decode jdk_42_method_151_code 1 = .ok (.invokespecial 1, 3) := by decide +kernel
theorem d_jdk_42_method_151_4 : decode jdk_42_method_151_code 4 = .ok (.aload_n 0, 1) := by decide +kernel
theorem d_jdk_42_method_151_5 : decode jdk_42_method_151_code 5 = .ok (.aload_n 1, 1) := by decide +kernel
theorem d_jdk_42_method_151_6 : decode jdk_42_method_151_code 6 = .ok (.putfield 9, 3) := by decide +kernel
theorem d_jdk_42_method_151_9 : decode jdk_42_method_151_code 9 = .ok (.aload_n 0, 1) := by decide +kernel
theorem d_jdk_42_method_151_10 : decode jdk_42_method_151_code 10 = .ok (.iload_n 2, 1) := by decide +kernel
theorem d_jdk_42_method_151_11 : decode jdk_42_method_151_code 11 = .ok (.putfield 15, 3) := by decide +kernel
theorem d_jdk_42_method_151_14 : decode jdk_42_method_151_code 14 = .ok (.return_, 1) := by decide +kernel
theorem ef_8c (m : MethodId) (a : Addr) (v : Addr) : entryFrame m #[(.ref a), (.ref v), (.int (0 : Int32))] 3 = mkF m 0 #[.val (.ref a), .val (.ref v), .val (.int (0 : Int32))] [] := by first | (simp [entryFrame, mkF, argsToLocals, Value.category]; done) | rfl
def Q8c (Z : State) (a : Addr) (v : Addr) (h0 : Heap) (n0 : Nat) (vV : Option Value) (hH : Heap) (LL : List Loc) : Prop := vV = none ∧ Fr n0 LL ∧ Keep h0 hH [a] ∧ (Exa Z hH a "java/lang/String")
def R8c (Z : State) (a : Addr) (v : Addr) (h0 : Heap) (n0 : Nat) (U : State) (o : Outcome) (U' : State) : Prop := ∃ vV LL, o = .returned vV ∧ Q8c Z a v h0 n0 vV U'.heap LL ∧ FrameEnd U o U' LL ({ frames := 1, cells := 0, slots := 0, locals := 12 } : Room).cells ({ frames := 1, cells := 0, slots := 0, locals := 12 } : Room).slots
set_option maxRecDepth 65536 in
set_option maxHeartbeats 40000000 in
theorem rm8c (l : Launch) (Z : State) (a0 : Array Value) (hw : ∀ d ∈ tables_1, d.before a0 Z = true) (ws : List Jvm.Cond) (a : Addr) (v : Addr) (h0 : Heap) (n0 : Nat) (Z0 : n0 ≤ h0.size) (hp0 : Exa Z h0 a "java/lang/String") (hp1 : Fld Z h0 a "java/lang/String" "value" "[B" .null) (hp2 : Fld Z h0 a "java/lang/String" "coder" "B" (.int (0 : Int32))) (hp3 : n0 ≤ a) :
    MetFree l (⟨"java/lang/String", "<init>", "([BB)V"⟩ : MethodName) (head1 (Jvm.Cond.code (⟨"java/lang/String", "<init>", "([BB)V"⟩ : MethodName) jdk_42_method_151_code 3 none :: ws) ({ frames := 1, cells := 0, slots := 0, locals := 12 } : Room)) (fun aA U => aA = #[(.ref a), (.ref v), (.int (0 : Int32))] ∧ Z.Warmed39 U.vm ∧ U.heap = h0) (fun _ _ _ _ _ => True) (fun _ U o U' => ∃ vV LL, o = .returned vV ∧ Q8c Z a v h0 n0 vV U'.heap LL ∧ FrameEnd U o U' LL ({ frames := 1, cells := 0, slots := 0, locals := 12 } : Room).cells ({ frames := 1, cells := 0, slots := 0, locals := 12 } : Room).slots) := by
  refine MetFree.of_bodySF (plainFor_of_name pn_99) hisR ?_
  intro p e s m args below meth cC s₁ Bd hml0 hP hK
  obtain ⟨rfl, hZ, hh⟩ := hP
  have hx := Bd.exec
  have hby := Bd.bytes
  have hml : cC.maxLocals = 3 := hml0
  have hown : s.vm.findClass "java/lang/String" = some m.cls := findClass_of_methodNamed Bd.named
  have hnm := (name_of_methodNamed Bd.named Bd.method).1
  have X0 : Stand p l e ({ frames := 1, cells := 0, slots := 0, locals := 12 } : Room) s m #[(.ref a), (.ref v), (.int (0 : Int32))] below meth cC s₁ [] 0 0 := Stand.of_body Bd
  have e0 : s₁.heap = h0 := by rw [← hh, Bd.state]; rfl
  have N0 := Fr.nil n0
  show OwnFin p e below (R8c Z a v h0 n0 s) (s₁.setTop (entryFrame m #[(.ref a), (.ref v), (.int (0 : Int32))] 3))
  rw [ef_8c m a v]
  refine OwnFin.step (fun tT kK => XS.aloadN X0.here hx rfl (hb hby d_jdk_42_method_151_0) rfl rfl kK) ?_
  show OwnFin p e below _ (s₁.setTop (mkF m 1 #[.val (.ref a), .val (.ref v), .val (.int (0 : Int32))] [(.ref a)]))
  obtain ⟨T1, X1, e1, st1⟩ := initO X0 hx hZ hown (hw _ (List.mem_of_getElem? (i := 108) rfl)) (hw _ (List.mem_of_getElem? (i := 21) rfl)) (hw _ (List.mem_of_getElem? (i := 22) rfl)) e0 (g := (mkF m 1 #[.val (.ref a), .val (.ref v), .val (.int (0 : Int32))] [(.ref a)])) rfl (by rw [hml]; rfl) rfl (hb hby d_jdk_42_method_151_1) (by decide) (W := 0) (by show 2 * 0 + _ ≤ _; exact Nat.le_of_eq rfl) (by decide)
  refine OwnFin.step st1 ?_
  show OwnFin p e below _ (T1.setTop (mkF m 4 #[.val (.ref a), .val (.ref v), .val (.int (0 : Int32))] []))
  refine OwnFin.step (fun tT kK => XS.aloadN X1.here hx rfl (hb hby d_jdk_42_method_151_4) rfl rfl kK) ?_
  show OwnFin p e below _ (T1.setTop (mkF m 5 #[.val (.ref a), .val (.ref v), .val (.int (0 : Int32))] [(.ref a)]))
  refine OwnFin.step (fun tT kK => XS.aloadN X1.here hx rfl (hb hby d_jdk_42_method_151_5) rfl rfl kK) ?_
  show OwnFin p e below _ (T1.setTop (mkF m 6 #[.val (.ref a), .val (.ref v), .val (.int (0 : Int32))] [(.ref v), (.ref a)]))
  obtain ⟨T2, h2, X2, e2, W2, st2⟩ := putF X1 hx hZ hown (host := "") (Or.inl (hw _ (List.mem_of_getElem? (i := 109) rfl))) Via.refl e1 hp1 hp0 (Or.inr ⟨(hw _ (List.mem_of_getElem? (i := 110) rfl)), rfl, hnm⟩) (hw _ (List.mem_of_getElem? (i := 99) rfl)) (ty := (.array .byte)) (by decide) rfl rfl (g := (mkF m 6 #[.val (.ref a), .val (.ref v), .val (.int (0 : Int32))] [(.ref v), (.ref a)])) rfl rfl (hb hby d_jdk_42_method_151_6)
  refine OwnFin.step st2 ?_
  have N2 := Fr.snoc X2 N0 hp3
  have Fw2 : Fld Z h2 a "java/lang/String" "value" "[B" (.ref v) := hp1.same W2
  show OwnFin p e below _ (T2.setTop (mkF m 9 #[.val (.ref a), .val (.ref v), .val (.int (0 : Int32))] []))
  refine OwnFin.step (fun tT kK => XS.aloadN X2.here hx rfl (hb hby d_jdk_42_method_151_9) rfl rfl kK) ?_
  show OwnFin p e below _ (T2.setTop (mkF m 10 #[.val (.ref a), .val (.ref v), .val (.int (0 : Int32))] [(.ref a)]))
  refine OwnFin.step (fun tT kK => XS.iloadN X2.here hx rfl (hb hby d_jdk_42_method_151_10) rfl kK) ?_
  show OwnFin p e below _ (T2.setTop (mkF m 11 #[.val (.ref a), .val (.ref v), .val (.int (0 : Int32))] [(.int (0 : Int32)), (.ref a)]))
  have f3 : Exa Z h2 a "java/lang/String" := (hp0.wr W2)
  have f4 : Fld Z h2 a "java/lang/String" "coder" "B" (.int (0 : Int32)) := (hp2.other W2 (Or.inr (slot_ne (Or.inr (hw _ (List.mem_of_getElem? (i := 112) rfl))) (Or.inr (hw _ (List.mem_of_getElem? (i := 110) rfl))) (by decide) (t := .byte) (t' := (.array .byte)) (by decide) (by decide))))
  obtain ⟨T5, h5, X5, e5, W5, st5⟩ := putF X2 hx hZ hown (host := "") (Or.inl (hw _ (List.mem_of_getElem? (i := 111) rfl))) Via.refl e2 f4 f3 (Or.inr ⟨(hw _ (List.mem_of_getElem? (i := 112) rfl)), rfl, hnm⟩) (hw _ (List.mem_of_getElem? (i := 99) rfl)) (ty := .byte) (by decide) rfl rfl (g := (mkF m 11 #[.val (.ref a), .val (.ref v), .val (.int (0 : Int32))] [(.int (0 : Int32)), (.ref a)])) rfl rfl (hb hby d_jdk_42_method_151_11)
  refine OwnFin.step st5 ?_
  have N5 := Fr.snoc X5 N2 hp3
  have Fw5 : Fld Z h5 a "java/lang/String" "coder" "B" (.int (0 : Int32)) := f4.same W5
  show OwnFin p e below _ (T5.setTop (mkF m 14 #[.val (.ref a), .val (.ref v), .val (.int (0 : Int32))] []))
  have f7 : Exa Z h5 a "java/lang/String" := (f3.wr W5)
  obtain ⟨fs6, hr6, hrun6, hended6, hW6, hsame6⟩ := X5.leave (v := none) (fun _ => rfl)
  refine ⟨_, _, X5.returnOut hx Bd.returns (hb hby d_jdk_42_method_151_14) hr6, hrun6, hended6, _, _, rfl, ?_, ⟨_, rfl⟩, hW6, hsame6.mono (by decide) (by decide)⟩
  show Q8c Z a v h0 n0 _ T5.heap _
  rw [e5]
  exact ⟨rfl, N5, (((Keep.refl h0 [a]).wr W2 (Or.inl (List.mem_of_getElem? (i := 0) rfl))).wr W5 (Or.inl (List.mem_of_getElem? (i := 0) rfl))), f7⟩
theorem d_jdk_42_method_139_0 : decode jdk_42_method_139_code 0 = .ok (.getstatic 38, 3) := by decide +kernel
theorem d_jdk_42_method_139_3 : decode jdk_42_method_139_code 3 = .ok (.ifCond .eq 23, 3) := by decide +kernel
theorem d_jdk_42_method_139_6 : decode jdk_42_method_139_code 6 = .ok (.iload_n 0, 1) := by decide +kernel
theorem d_jdk_42_method_139_7 : decode jdk_42_method_139_code 7 = .ok (.invokestatic 1015, 3) := by decide +kernel
theorem pd_113 : parseMethodDescriptor "(C)Z" = some ⟨[.char], some .boolean⟩ := by decide +kernel
theorem d_jdk_42_method_139_10 : decode jdk_42_method_139_code 10 = .ok (.ifCond .eq 16, 3) := by decide +kernel
theorem d_jdk_42_method_139_13 : decode jdk_42_method_139_code 13 = .ok (.new 10, 3) := by decide +kernel
theorem d_jdk_42_method_139_16 : decode jdk_42_method_139_code 16 = .ok (.dup, 1) := by decide +kernel
theorem d_jdk_42_method_139_17 : decode jdk_42_method_139_code 17 = .ok (.iload_n 0, 1) := by decide +kernel
theorem d_jdk_42_method_139_18 : decode jdk_42_method_139_code 18 = .ok (.invokestatic 1018, 3) := by decide +kernel
theorem pd_119 : parseMethodDescriptor "(C)[B" = some ⟨[.char], some (.array .byte)⟩ := by decide +kernel
theorem d_jdk_42_method_139_21 : decode jdk_42_method_139_code 21 = .ok (.iconst 0, 1) := by decide +kernel
theorem d_jdk_42_method_139_22 : decode jdk_42_method_139_code 22 = .ok (.invokespecial 209, 3) := by decide +kernel
theorem pd_122 : parseMethodDescriptor "([BB)V" = some ⟨[(.array .byte), .byte], none⟩ := by decide +kernel
theorem d_jdk_42_method_139_25 : decode jdk_42_method_139_code 25 = .ok (.areturn, 1) := by decide +kernel
theorem ef_8 (m : MethodId) (c : Int32) : entryFrame m #[(.int c)] 1 = mkF m 0 #[.val (.int c)] [] := by first | (simp [entryFrame, mkF, argsToLocals, Value.category]; done) | rfl
def Q8 (Z : State) (c : Int32) (cs : Int32) (h0 : Heap) (n0 : Nat) (vV : Option Value) (hH : Heap) (LL : List Loc) : Prop := ∃ b : Addr, vV = some (.ref b) ∧ Fr n0 LL ∧ Keep h0 hH [] ∧ h0.size ≤ b ∧ (Exa Z hH b "java/lang/String")
def R8 (Z : State) (c : Int32) (cs : Int32) (h0 : Heap) (n0 : Nat) (U : State) (o : Outcome) (U' : State) : Prop := ∃ vV LL, o = .returned vV ∧ Q8 Z c cs h0 n0 vV U'.heap LL ∧ FrameEnd U o U' LL ({ frames := 2, cells := 2, slots := 5, locals := 27 } : Room).cells ({ frames := 2, cells := 2, slots := 5, locals := 27 } : Room).slots
set_option maxRecDepth 65536 in
set_option maxHeartbeats 40000000 in
theorem rm8 (l : Launch) (Z : State) (a0 : Array Value) (hw : ∀ d ∈ tables_1, d.before a0 Z = true) (ws : List Jvm.Cond) (c : Int32) (cs : Int32) (h0 : Heap) (n0 : Nat) (Z0 : n0 ≤ h0.size) (hp0 : Sta Z h0 "java/lang/String" "COMPACT_STRINGS" "Z" (.int cs)) (hp1 : ¬ cs = (0 : Int32)) (hp2 : ¬ (255 : Int32) < c) :
    MetFree l (⟨"java/lang/String", "valueOf", "(C)Ljava/lang/String;"⟩ : MethodName) (head1 (Jvm.Cond.code (⟨"java/lang/String", "valueOf", "(C)Ljava/lang/String;"⟩ : MethodName) jdk_42_method_139_code 1 (some (.object "java/lang/String")) :: ws) ({ frames := 2, cells := 2, slots := 5, locals := 27 } : Room)) (fun aA U => aA = #[(.int c)] ∧ Z.Warmed39 U.vm ∧ U.heap = h0) (fun _ _ _ _ _ => True) (fun _ U o U' => ∃ vV LL, o = .returned vV ∧ Q8 Z c cs h0 n0 vV U'.heap LL ∧ FrameEnd U o U' LL ({ frames := 2, cells := 2, slots := 5, locals := 27 } : Room).cells ({ frames := 2, cells := 2, slots := 5, locals := 27 } : Room).slots) := by
  refine MetFree.of_bodySF (plainFor_of_name pn_99) hisR ?_
  intro p e s m args below meth cC s₁ Bd hml0 hP hK
  obtain ⟨rfl, hZ, hh⟩ := hP
  have hx := Bd.exec
  have hby := Bd.bytes
  have hml : cC.maxLocals = 1 := hml0
  have hown : s.vm.findClass "java/lang/String" = some m.cls := findClass_of_methodNamed Bd.named
  have hnm := (name_of_methodNamed Bd.named Bd.method).1
  have X0 : Stand p l e ({ frames := 2, cells := 2, slots := 5, locals := 27 } : Room) s m #[(.int c)] below meth cC s₁ [] 0 0 := Stand.of_body Bd
  have e0 : s₁.heap = h0 := by rw [← hh, Bd.state]; rfl
  have N0 := Fr.nil n0
  show OwnFin p e below (R8 Z c cs h0 n0 s) (s₁.setTop (entryFrame m #[(.int c)] 1))
  rw [ef_8 m c]
  obtain ⟨T1, X1, e1, st1⟩ := getS2 X0 hx hZ hown (host := "") (Or.inl (hw _ (List.mem_of_getElem? (i := 93) rfl))) Via.refl e0 hp0 (g := (mkF m 0 #[.val (.int c)] [])) rfl (hb hby d_jdk_42_method_139_0)
  refine OwnFin.step st1 ?_
  show OwnFin p e below _ (T1.setTop (mkF m 3 #[.val (.int c)] [(.int cs)]))
  refine OwnFin.step (fun tT kK => XS.ifNo X1.here hx rfl (hb hby d_jdk_42_method_139_3) rfl ((if0 _ _).trans (feq (hp1 : ¬ (cs = (0 : Int32)))).1) kK) ?_
  show OwnFin p e below _ (T1.setTop (mkF m 6 #[.val (.int c)] []))
  refine OwnFin.step (fun tT kK => XS.iloadN X1.here hx rfl (hb hby d_jdk_42_method_139_6) rfl kK) ?_
  show OwnFin p e below _ (T1.setTop (mkF m 7 #[.val (.int c)] [(.int c)]))
  obtain ⟨_, _, ⟨T2, L2, k2, n2⟩, -, X2, ⟨Lc2, hQ2, l2, y2, z2⟩, st2⟩ := Jvm.LawKit.callS X1 hx (y := (⟨"java/lang/StringLatin1", "canEncode", "(C)Z"⟩ : MethodName)) hown (mvT hZ (hw _ (List.mem_of_getElem? (i := 94) rfl))) (mvT hZ (hw _ (List.mem_of_getElem? (i := 95) rfl))) (mvT hZ (hw _ (List.mem_of_getElem? (i := 96) rfl))) (mvT hZ (hw _ (List.mem_of_getElem? (i := 97) rfl))) (by decide) (backOf (W := 0) (rm8a l Z a0 hw [] c h0 n0 Z0 (hp2)) hZ (hw _ (List.mem_of_getElem? (i := 97) rfl)) (hw _ (List.mem_of_getElem? (i := 96) rfl)) (by decide) (by decide)) (g := (mkF m 7 #[.val (.int c)] [(.int c)])) rfl (by rw [hml]; rfl) (argsL := [(.int c)]) (rest := []) (lenOf pd_113 rfl) rfl (by show 2 * 0 + _ ≤ _; exact Nat.le_of_eq rfl) (hb hby d_jdk_42_method_139_7) (fun _ _ => ⟨rfl, e1, (by decide : 0 + 0 ≤ _), (by decide : 0 + 0 ≤ _)⟩)
  dsimp only [Pt.U, Pt.locs, Pt.cells, Pt.slots] at X2 l2 y2 z2 st2 hQ2
  subst l2 y2 z2
  obtain ⟨rfl, N2q, e2⟩ := hQ2
  have N2 := Fr.app N0 N2q
  refine OwnFin.step st2 ?_
  show OwnFin p e below _ (T2.setTop (mkF m 10 #[.val (.int c)] [(.int (1 : Int32))]))
  refine OwnFin.step (fun tT kK => XS.ifNo X2.here hx rfl (hb hby d_jdk_42_method_139_10) rfl ((if0 _ _).trans (feq (by decide : ¬ ((1 : Int32) = (0 : Int32)))).1) kK) ?_
  show OwnFin p e below _ (T2.setTop (mkF m 13 #[.val (.int c)] []))
  obtain ⟨T3, h3, X3, e3, E3, A3, D3, -, st3⟩ := newO X2 hx hZ hown (hw _ (List.mem_of_getElem? (i := 98) rfl)) (hw _ (List.mem_of_getElem? (i := 99) rfl)) (hw _ (List.mem_of_getElem? (i := 91) rfl)) e2 (g := (mkF m 13 #[.val (.int c)] [])) rfl (hb hby d_jdk_42_method_139_13) (by decide) (by decide)
  obtain ⟨b3, g3⟩ : ∃ z, z = h0.size := ⟨_, rfl⟩
  rw [← g3] at A3 D3 st3
  refine OwnFin.step st3 ?_
  have Fz4 : Fld Z h3 b3 "java/lang/String" "value" "[B" .null := D3 (Or.inr (hw _ (List.mem_of_getElem? (i := 110) rfl))) (ty := (.array .byte)) (by decide)
  have Fz5 : Fld Z h3 b3 "java/lang/String" "coder" "B" (.int (0 : Int32)) := D3 (Or.inr (hw _ (List.mem_of_getElem? (i := 112) rfl))) (ty := .byte) (by decide)
  show OwnFin p e below _ (T3.setTop (mkF m 16 #[.val (.int c)] [(.ref b3)]))
  refine OwnFin.step (fun tT kK => XS.dup X3.here hx rfl (hb hby d_jdk_42_method_139_16) rfl rfl kK) ?_
  show OwnFin p e below _ (T3.setTop (mkF m 17 #[.val (.int c)] [(.ref b3), (.ref b3)]))
  refine OwnFin.step (fun tT kK => XS.iloadN X3.here hx rfl (hb hby d_jdk_42_method_139_17) rfl kK) ?_
  show OwnFin p e below _ (T3.setTop (mkF m 18 #[.val (.int c)] [(.int c), (.ref b3), (.ref b3)]))
  obtain ⟨_, _, ⟨T6, L6, k6, n6⟩, -, X6, ⟨Lc6, hQ6, l6, y6, z6⟩, st6⟩ := Jvm.LawKit.callS X3 hx (y := (⟨"java/lang/StringLatin1", "toBytes", "(C)[B"⟩ : MethodName)) hown (mvT hZ (hw _ (List.mem_of_getElem? (i := 100) rfl))) (mvT hZ (hw _ (List.mem_of_getElem? (i := 101) rfl))) (mvT hZ (hw _ (List.mem_of_getElem? (i := 96) rfl))) (mvT hZ (hw _ (List.mem_of_getElem? (i := 102) rfl))) (by decide) (backOf (W := 2) (rm8b l Z a0 hw [] c h3 n0 (Nat.le_trans Z0 E3.1) ) hZ (hw _ (List.mem_of_getElem? (i := 102) rfl)) (hw _ (List.mem_of_getElem? (i := 96) rfl)) (by decide) (by decide)) (g := (mkF m 18 #[.val (.int c)] [(.int c), (.ref b3), (.ref b3)])) rfl (by rw [hml]; rfl) (argsL := [(.int c)]) (rest := [(.ref b3), (.ref b3)]) (lenOf pd_119 rfl) rfl (by show 2 * 0 + _ ≤ _; exact Nat.le_of_eq rfl) (hb hby d_jdk_42_method_139_18) (fun _ _ => ⟨rfl, e3, (by decide : 1 + 1 ≤ _), (by decide : 4 + 1 ≤ _)⟩)
  dsimp only [Pt.U, Pt.locs, Pt.cells, Pt.slots] at X6 l6 y6 z6 st6 hQ6
  subst l6 y6 z6
  obtain ⟨b7, ⟨rfl, N6q, K6, B6_0⟩⟩ := hQ6
  have N6 := Fr.app N2 N6q
  refine OwnFin.step st6 ?_
  have E6 : Ext h3 T6.heap := ⟨K6.1, fun x c q => K6.2.1 x c q nin0⟩
  show OwnFin p e below _ (T6.setTop (mkF m 21 #[.val (.int c)] [(.ref b7), (.ref b3), (.ref b3)]))
  refine OwnFin.step (fun tT kK => XS.iconst X6.here hx rfl (hb hby d_jdk_42_method_139_21) kK) ?_
  show OwnFin p e below _ (T6.setTop (mkF m 22 #[.val (.int c)] [(.int (0 : Int32)), (.ref b7), (.ref b3), (.ref b3)]))
  have f8 : Exa Z T6.heap b3 "java/lang/String" := (A3.ext E6)
  have f9 : Fld Z T6.heap b3 "java/lang/String" "value" "[B" .null := (Fz4.ext E6)
  have f10 : Fld Z T6.heap b3 "java/lang/String" "coder" "B" (.int (0 : Int32)) := (Fz5.ext E6)
  obtain ⟨_, _, ⟨T11, L11, k11, n11⟩, -, X11, ⟨Lc11, hQ11, l11, y11, z11⟩, st11⟩ := X6.specialBack hx (y := (⟨"java/lang/String", "<init>", "([BB)V"⟩ : MethodName)) rfl hown (mvT hZ (hw _ (List.mem_of_getElem? (i := 104) rfl))) (mvT hZ (hw _ (List.mem_of_getElem? (i := 105) rfl))) (mvT hZ (hw _ (List.mem_of_getElem? (i := 107) rfl))) (by decide) (backOf (W := 1) (rm8c l Z a0 hw [] b3 b7 T6.heap n0 (Nat.le_trans (Nat.le_trans Z0 E3.1) E6.1) f8 f9 f10 (Nat.le_trans Z0 (Nat.le_of_eq g3.symm))) hZ (hw _ (List.mem_of_getElem? (i := 107) rfl)) (hw _ (List.mem_of_getElem? (i := 91) rfl)) (by decide) (by decide)) (g := (mkF m 22 #[.val (.int c)] [(.int (0 : Int32)), (.ref b7), (.ref b3), (.ref b3)])) rfl (by rw [hml]; rfl) (Steps.refl _) (a := b3) (argsL := [(.ref b7), (.int (0 : Int32))]) (rest := [(.ref b3)]) (lenOf pd_122 rfl) rfl (by show 2 * 0 + _ ≤ _; exact Nat.le_of_eq rfl) (hb hby d_jdk_42_method_139_22) (fun _ _ => ⟨rfl, rfl, (by decide : 2 + 0 ≤ _), (by decide : 5 + 0 ≤ _)⟩)
  dsimp only [Pt.U, Pt.locs, Pt.cells, Pt.slots] at X11 l11 y11 z11 st11 hQ11
  subst l11 y11 z11
  obtain ⟨rfl, N11q, K11, P11_0⟩ := hQ11
  have N11 := Fr.app N6 N11q
  refine OwnFin.step (fun tT kK => st11.trans kK) ?_
  show OwnFin p e below _ (T11.setTop (mkF m 25 #[.val (.int c)] [(.ref b3)]))
  obtain ⟨fs12, hr12, hrun12, hended12, hW12, hsame12⟩ := X11.leave (v := (some (.ref b3))) (fun h => by rw [Bd.returns] at h; cases h)
  refine ⟨_, _, retOut X11 hx Bd.returns rfl (Or.inr (Or.inr (Or.inr (Or.inr ⟨rfl, rfl, rfl⟩)))) (hb hby d_jdk_42_method_139_25) hr12, hrun12, hended12, _, _, rfl, ?_, ⟨_, rfl⟩, hW12, hsame12.mono (by decide) (by decide)⟩
  show Q8 Z c cs h0 n0 _ T11.heap _
  exact ⟨b3, rfl, N11, ((((Keep.refl h0 []).ext E3).ext E6).trans K11 (allS (P := fun x => x ∈ [] ∨ h0.size ≤ x) (Or.inr (Nat.le_trans (Nat.le_refl _) (Nat.le_of_eq g3.symm))) all0)), (Nat.le_trans (Nat.le_refl _) (Nat.le_of_eq g3.symm)), P11_0⟩
theorem d_jdk_29_method_65_0 : decode jdk_29_method_65_code 0 = .ok (.iload_n 0, 1) := by decide +kernel
theorem d_jdk_29_method_65_1 : decode jdk_29_method_65_code 1 = .ok (.iload_n 1, 1) := by decide +kernel
theorem d_jdk_29_method_65_2 : decode jdk_29_method_65_code 2 = .ok (.if_icmp .lt 7, 3) := by decide +kernel
theorem d_jdk_29_method_65_5 : decode jdk_29_method_65_code 5 = .ok (.iload_n 0, 1) := by decide +kernel
theorem d_jdk_29_method_65_6 : decode jdk_29_method_65_code 6 = .ok (.goto 4, 3) := by decide +kernel
theorem d_jdk_29_method_65_10 : decode jdk_29_method_65_code 10 = .ok (.ireturn, 1) := by decide +kernel
theorem ef_9a (m : MethodId)  : entryFrame m #[(.int (10 : Int32)), (.int (1 : Int32))] 2 = mkF m 0 #[.val (.int (10 : Int32)), .val (.int (1 : Int32))] [] := by first | (simp [entryFrame, mkF, argsToLocals, Value.category]; done) | rfl
def Q9a (Z : State)  (h0 : Heap) (n0 : Nat) (vV : Option Value) (hH : Heap) (LL : List Loc) : Prop := vV = some (.int (10 : Int32)) ∧ Fr n0 LL ∧ hH = h0
def R9a (Z : State)  (h0 : Heap) (n0 : Nat) (U : State) (o : Outcome) (U' : State) : Prop := ∃ vV LL, o = .returned vV ∧ Q9a Z  h0 n0 vV U'.heap LL ∧ FrameEnd U o U' LL ({ frames := 0, cells := 0, slots := 0, locals := 0 } : Room).cells ({ frames := 0, cells := 0, slots := 0, locals := 0 } : Room).slots
set_option maxRecDepth 65536 in
set_option maxHeartbeats 40000000 in
theorem rm9a (l : Launch) (Z : State) (a0 : Array Value) (hw : ∀ d ∈ tables_1, d.before a0 Z = true) (ws : List Jvm.Cond)  (h0 : Heap) (n0 : Nat) (Z0 : n0 ≤ h0.size) :
    MetFree l (⟨"java/lang/Math", "max", "(II)I"⟩ : MethodName) (head1 (Jvm.Cond.code (⟨"java/lang/Math", "max", "(II)I"⟩ : MethodName) jdk_29_method_65_code 2 (some .int) :: ws) ({ frames := 0, cells := 0, slots := 0, locals := 0 } : Room)) (fun aA U => aA = #[(.int (10 : Int32)), (.int (1 : Int32))] ∧ Z.Warmed39 U.vm ∧ U.heap = h0) (fun _ _ _ _ _ => True) (fun _ U o U' => ∃ vV LL, o = .returned vV ∧ Q9a Z  h0 n0 vV U'.heap LL ∧ FrameEnd U o U' LL ({ frames := 0, cells := 0, slots := 0, locals := 0 } : Room).cells ({ frames := 0, cells := 0, slots := 0, locals := 0 } : Room).slots) := by
  refine MetFree.of_bodySF (Jvm.Free.JP.mathPlain rfl (by decide +kernel)) hisR ?_
  intro p e s m args below meth cC s₁ Bd hml0 hP hK
  obtain ⟨rfl, hZ, hh⟩ := hP
  have hx := Bd.exec
  have hby := Bd.bytes
  have hml : cC.maxLocals = 2 := hml0
  have hown : s.vm.findClass "java/lang/Math" = some m.cls := findClass_of_methodNamed Bd.named
  have hnm := (name_of_methodNamed Bd.named Bd.method).1
  have X0 : Stand p l e ({ frames := 0, cells := 0, slots := 0, locals := 0 } : Room) s m #[(.int (10 : Int32)), (.int (1 : Int32))] below meth cC s₁ [] 0 0 := Stand.of_body Bd
  have e0 : s₁.heap = h0 := by rw [← hh, Bd.state]; rfl
  have N0 := Fr.nil n0
  show OwnFin p e below (R9a Z  h0 n0 s) (s₁.setTop (entryFrame m #[(.int (10 : Int32)), (.int (1 : Int32))] 2))
  rw [ef_9a m]
  refine OwnFin.step (fun tT kK => XS.iloadN X0.here hx rfl (hb hby d_jdk_29_method_65_0) rfl kK) ?_
  show OwnFin p e below _ (s₁.setTop (mkF m 1 #[.val (.int (10 : Int32)), .val (.int (1 : Int32))] [(.int (10 : Int32))]))
  refine OwnFin.step (fun tT kK => XS.iloadN X0.here hx rfl (hb hby d_jdk_29_method_65_1) rfl kK) ?_
  show OwnFin p e below _ (s₁.setTop (mkF m 2 #[.val (.int (10 : Int32)), .val (.int (1 : Int32))] [(.int (1 : Int32)), (.int (10 : Int32))]))
  refine OwnFin.step (fun tT kK => XS.icmpNo X0.here hx rfl (hb hby d_jdk_29_method_65_2) rfl (flt (by decide : ¬ ((10 : Int32) < (1 : Int32)))).1 kK) ?_
  show OwnFin p e below _ (s₁.setTop (mkF m 5 #[.val (.int (10 : Int32)), .val (.int (1 : Int32))] []))
  refine OwnFin.step (fun tT kK => XS.iloadN X0.here hx rfl (hb hby d_jdk_29_method_65_5) rfl kK) ?_
  show OwnFin p e below _ (s₁.setTop (mkF m 6 #[.val (.int (10 : Int32)), .val (.int (1 : Int32))] [(.int (10 : Int32))]))
  refine OwnFin.step (fun tT kK => XS.goto X0.here hx rfl (pc0 := 6) (pc' := 10) rfl (hb hby d_jdk_29_method_65_6) (by decide) (by decide) kK) ?_
  show OwnFin p e below _ (s₁.setTop (mkF m 10 #[.val (.int (10 : Int32)), .val (.int (1 : Int32))] [(.int (10 : Int32))]))
  obtain ⟨fs1, hr1, hrun1, hended1, hW1, hsame1⟩ := X0.leave (v := (some (.int (10 : Int32)))) (fun h => by rw [Bd.returns] at h; cases h)
  refine ⟨_, _, retOut X0 hx Bd.returns rfl (Or.inl ⟨rfl, Or.inl rfl, _, rfl⟩) (hb hby d_jdk_29_method_65_10) hr1, hrun1, hended1, _, _, rfl, ?_, ⟨_, rfl⟩, hW1, hsame1.mono (by decide) (by decide)⟩
  show Q9a Z  h0 n0 _ s₁.heap _
  rw [e0]
  exact ⟨rfl, N0, rfl⟩
theorem d_jdk_38_method_6_0 : decode jdk_38_method_6_code 0 = .ok (.aload_n 0, 1) := by decide +kernel
theorem d_jdk_38_method_6_1 : decode jdk_38_method_6_code 1 = .ok (.getfield 9, 3) := by decide +kernel
theorem d_jdk_38_method_6_4 : decode jdk_38_method_6_code 4 = .ok (.arraylength, 1) := by decide +kernel
theorem d_jdk_38_method_6_5 : decode jdk_38_method_6_code 5 = .ok (.istore_n 2, 1) := by decide +kernel
theorem d_jdk_38_method_6_6 : decode jdk_38_method_6_code 6 = .ok (.iload_n 2, 1) := by decide +kernel
theorem d_jdk_38_method_6_7 : decode jdk_38_method_6_code 7 = .ok (.ifCond .gt 13, 3) := by decide +kernel
theorem d_jdk_38_method_6_10 : decode jdk_38_method_6_code 10 = .ok (.aload_n 0, 1) := by decide +kernel
theorem d_jdk_38_method_6_11 : decode jdk_38_method_6_code 11 = .ok (.getfield 9, 3) := by decide +kernel
theorem d_jdk_38_method_6_14 : decode jdk_38_method_6_code 14 = .ok (.getstatic 39, 3) := by decide +kernel
theorem d_jdk_38_method_6_17 : decode jdk_38_method_6_code 17 = .ok (.if_acmp .eq 28, 3) := by decide +kernel
theorem d_jdk_38_method_6_45 : decode jdk_38_method_6_code 45 = .ok (.aload_n 0, 1) := by decide +kernel
theorem d_jdk_38_method_6_46 : decode jdk_38_method_6_code 46 = .ok (.bipush 10, 2) := by decide +kernel
theorem d_jdk_38_method_6_48 : decode jdk_38_method_6_code 48 = .ok (.iload_n 1, 1) := by decide +kernel
theorem d_jdk_38_method_6_49 : decode jdk_38_method_6_code 49 = .ok (.invokestatic 79, 3) := by decide +kernel
theorem pd_144 : parseMethodDescriptor "(II)I" = some ⟨[.int, .int], some .int⟩ := by decide +kernel
theorem d_jdk_38_method_6_52 : decode jdk_38_method_6_code 52 = .ok (.anewarray 7, 3) := by decide +kernel
theorem d_jdk_38_method_6_55 : decode jdk_38_method_6_code 55 = .ok (.dup_x1, 1) := by decide +kernel
theorem d_jdk_38_method_6_56 : decode jdk_38_method_6_code 56 = .ok (.putfield 9, 3) := by decide +kernel
theorem d_jdk_38_method_6_59 : decode jdk_38_method_6_code 59 = .ok (.areturn, 1) := by decide +kernel
theorem ef_9b (m : MethodId) (a : Addr) : entryFrame m #[(.ref a), (.int (1 : Int32))] 4 = mkF m 0 #[.val (.ref a), .val (.int (1 : Int32)), .unset, .unset] [] := by first | (simp [entryFrame, mkF, argsToLocals, Value.category]; done) | rfl
def Q9b (Z : State) (a : Addr) (dc : Addr) (kd : ClassId) (h0 : Heap) (n0 : Nat) (vV : Option Value) (hH : Heap) (LL : List Loc) : Prop := ∃ b : Addr, ∃ kb : ClassId, vV = some (.ref b) ∧ Fr n0 LL ∧ Keep h0 hH [a] ∧ h0.size ≤ b ∧ (Exa Z hH a "java/util/ArrayList") ∧ (Fld Z hH a "java/util/ArrayList" "size" "I" (.int (0 : Int32))) ∧ (Arv Z hH b kb (.object "java/lang/Object") (10 : Int32) [.null, .null, .null, .null, .null, .null, .null, .null, .null, .null] .null) ∧ (Ovr Z kb "java/lang/Object")
def R9b (Z : State) (a : Addr) (dc : Addr) (kd : ClassId) (h0 : Heap) (n0 : Nat) (U : State) (o : Outcome) (U' : State) : Prop := ∃ vV LL, o = .returned vV ∧ Q9b Z a dc kd h0 n0 vV U'.heap LL ∧ FrameEnd U o U' LL ({ frames := 1, cells := 1, slots := 10, locals := 14 } : Room).cells ({ frames := 1, cells := 1, slots := 10, locals := 14 } : Room).slots
set_option maxRecDepth 65536 in
set_option maxHeartbeats 40000000 in
theorem rm9b (l : Launch) (Z : State) (a0 : Array Value) (hw : ∀ d ∈ tables_1, d.before a0 Z = true) (ws : List Jvm.Cond) (a : Addr) (dc : Addr) (kd : ClassId) (h0 : Heap) (n0 : Nat) (Z0 : n0 ≤ h0.size) (hp0 : Sta Z h0 "java/util/ArrayList" "DEFAULTCAPACITY_EMPTY_ELEMENTDATA" "[Ljava/lang/Object;" (.ref dc)) (hp1 : Arv Z h0 dc kd (.object "java/lang/Object") (0 : Int32) [] .null) (hp2 : Exa Z h0 a "java/util/ArrayList") (hp3 : Fld Z h0 a "java/util/ArrayList" "elementData" "[Ljava/lang/Object;" (.ref dc)) (hp4 : Fld Z h0 a "java/util/ArrayList" "size" "I" (.int (0 : Int32))) (hp5 : n0 ≤ a) (hp6 : a ≠ dc) :
    MetFree l (⟨"java/util/ArrayList", "grow", "(I)[Ljava/lang/Object;"⟩ : MethodName) (head1 (Jvm.Cond.code (⟨"java/util/ArrayList", "grow", "(I)[Ljava/lang/Object;"⟩ : MethodName) jdk_38_method_6_code 4 (some (.array (.object "java/lang/Object"))) :: ws) ({ frames := 1, cells := 1, slots := 10, locals := 14 } : Room)) (fun aA U => aA = #[(.ref a), (.int (1 : Int32))] ∧ Z.Warmed39 U.vm ∧ U.heap = h0) (fun _ _ _ _ _ => True) (fun _ U o U' => ∃ vV LL, o = .returned vV ∧ Q9b Z a dc kd h0 n0 vV U'.heap LL ∧ FrameEnd U o U' LL ({ frames := 1, cells := 1, slots := 10, locals := 14 } : Room).cells ({ frames := 1, cells := 1, slots := 10, locals := 14 } : Room).slots) := by
  refine MetFree.of_bodySF (plainFor_of_name pn_77) hisR ?_
  intro p e s m args below meth cC s₁ Bd hml0 hP hK
  obtain ⟨rfl, hZ, hh⟩ := hP
  have hx := Bd.exec
  have hby := Bd.bytes
  have hml : cC.maxLocals = 4 := hml0
  have hown : s.vm.findClass "java/util/ArrayList" = some m.cls := findClass_of_methodNamed Bd.named
  have hnm := (name_of_methodNamed Bd.named Bd.method).1
  have X0 : Stand p l e ({ frames := 1, cells := 1, slots := 10, locals := 14 } : Room) s m #[(.ref a), (.int (1 : Int32))] below meth cC s₁ [] 0 0 := Stand.of_body Bd
  have e0 : s₁.heap = h0 := by rw [← hh, Bd.state]; rfl
  have N0 := Fr.nil n0
  show OwnFin p e below (R9b Z a dc kd h0 n0 s) (s₁.setTop (entryFrame m #[(.ref a), (.int (1 : Int32))] 4))
  rw [ef_9b m a]
  refine OwnFin.step (fun tT kK => XS.aloadN X0.here hx rfl (hb hby d_jdk_38_method_6_0) rfl rfl kK) ?_
  show OwnFin p e below _ (s₁.setTop (mkF m 1 #[.val (.ref a), .val (.int (1 : Int32)), .unset, .unset] [(.ref a)]))
  obtain ⟨T1, X1, e1, st1⟩ := getF X0 hx hZ hown (host := "") (Or.inl (hw _ (List.mem_of_getElem? (i := 87) rfl))) Via.refl e0 hp3 (g := (mkF m 1 #[.val (.ref a), .val (.int (1 : Int32)), .unset, .unset] [(.ref a)])) rfl rfl (hb hby d_jdk_38_method_6_1)
  refine OwnFin.step st1 ?_
  show OwnFin p e below _ (T1.setTop (mkF m 4 #[.val (.ref a), .val (.int (1 : Int32)), .unset, .unset] [(.ref dc)]))
  obtain ⟨cl2, Ar2, -, Sz2, Ng2, -, -⟩ := id hp1
  refine OwnFin.step (fun tT kK => own_len X1 hx hZ e1 Ar2 Sz2 Ng2 (g := (mkF m 4 #[.val (.ref a), .val (.int (1 : Int32)), .unset, .unset] [(.ref dc)])) rfl rfl (hb hby d_jdk_38_method_6_4) kK) ?_
  show OwnFin p e below _ (T1.setTop (mkF m 5 #[.val (.ref a), .val (.int (1 : Int32)), .unset, .unset] [(.int (0 : Int32))]))
  refine OwnFin.step (fun tT kK => XS.istoreN X1.here hx rfl (hb hby d_jdk_38_method_6_5) rfl (l' := #[.val (.ref a), .val (.int (1 : Int32)), .val (.int (0 : Int32)), .unset]) rfl kK) ?_
  show OwnFin p e below _ (T1.setTop (mkF m 6 #[.val (.ref a), .val (.int (1 : Int32)), .val (.int (0 : Int32)), .unset] []))
  refine OwnFin.step (fun tT kK => XS.iloadN X1.here hx rfl (hb hby d_jdk_38_method_6_6) rfl kK) ?_
  show OwnFin p e below _ (T1.setTop (mkF m 7 #[.val (.ref a), .val (.int (1 : Int32)), .val (.int (0 : Int32)), .unset] [(.int (0 : Int32))]))
  refine OwnFin.step (fun tT kK => XS.ifNo X1.here hx rfl (hb hby d_jdk_38_method_6_7) rfl ((if0 _ _).trans (flt (by decide : ¬ ((0 : Int32) < (0 : Int32)))).2.2.1) kK) ?_
  show OwnFin p e below _ (T1.setTop (mkF m 10 #[.val (.ref a), .val (.int (1 : Int32)), .val (.int (0 : Int32)), .unset] []))
  refine OwnFin.step (fun tT kK => XS.aloadN X1.here hx rfl (hb hby d_jdk_38_method_6_10) rfl rfl kK) ?_
  show OwnFin p e below _ (T1.setTop (mkF m 11 #[.val (.ref a), .val (.int (1 : Int32)), .val (.int (0 : Int32)), .unset] [(.ref a)]))
  obtain ⟨T3, X3, e3, st3⟩ := getF X1 hx hZ hown (host := "") (Or.inl (hw _ (List.mem_of_getElem? (i := 87) rfl))) Via.refl e1 hp3 (g := (mkF m 11 #[.val (.ref a), .val (.int (1 : Int32)), .val (.int (0 : Int32)), .unset] [(.ref a)])) rfl rfl (hb hby d_jdk_38_method_6_11)
  refine OwnFin.step st3 ?_
  show OwnFin p e below _ (T3.setTop (mkF m 14 #[.val (.ref a), .val (.int (1 : Int32)), .val (.int (0 : Int32)), .unset] [(.ref dc)]))
  obtain ⟨T4, X4, e4, st4⟩ := getS2 X3 hx hZ hown (host := "") (Or.inl (hw _ (List.mem_of_getElem? (i := 86) rfl))) Via.refl e3 hp0 (g := (mkF m 14 #[.val (.ref a), .val (.int (1 : Int32)), .val (.int (0 : Int32)), .unset] [(.ref dc)])) rfl (hb hby d_jdk_38_method_6_14)
  refine OwnFin.step st4 ?_
  show OwnFin p e below _ (T4.setTop (mkF m 17 #[.val (.ref a), .val (.int (1 : Int32)), .val (.int (0 : Int32)), .unset] [(.ref dc), (.ref dc)]))
  refine OwnFin.step (fun tT kK => Jvm.RoadKit.acmp (g := (mkF m 17 #[.val (.ref a), .val (.int (1 : Int32)), .val (.int (0 : Int32)), .unset] [(.ref dc), (.ref dc)])) X4 hx rfl rfl rfl (pc0 := 17) (pc' := 45) (same := true) rfl (hb hby d_jdk_38_method_6_17) rfl (decide_eq_true rfl) (by decide) (by decide) kK) ?_
  show OwnFin p e below _ (T4.setTop (mkF m 45 #[.val (.ref a), .val (.int (1 : Int32)), .val (.int (0 : Int32)), .unset] []))
  refine OwnFin.step (fun tT kK => XS.aloadN X4.here hx rfl (hb hby d_jdk_38_method_6_45) rfl rfl kK) ?_
  show OwnFin p e below _ (T4.setTop (mkF m 46 #[.val (.ref a), .val (.int (1 : Int32)), .val (.int (0 : Int32)), .unset] [(.ref a)]))
  refine OwnFin.step (fun tT kK => XS.bipush X4.here hx rfl (hb hby d_jdk_38_method_6_46) kK) ?_
  show OwnFin p e below _ (T4.setTop (mkF m 48 #[.val (.ref a), .val (.int (1 : Int32)), .val (.int (0 : Int32)), .unset] [(.int (10 : Int32)), (.ref a)]))
  refine OwnFin.step (fun tT kK => XS.iloadN X4.here hx rfl (hb hby d_jdk_38_method_6_48) rfl kK) ?_
  show OwnFin p e below _ (T4.setTop (mkF m 49 #[.val (.ref a), .val (.int (1 : Int32)), .val (.int (0 : Int32)), .unset] [(.int (1 : Int32)), (.int (10 : Int32)), (.ref a)]))
  obtain ⟨_, _, ⟨T5, L5, k5, n5⟩, -, X5, ⟨Lc5, hQ5, l5, y5, z5⟩, st5⟩ := Jvm.LawKit.callS X4 hx (y := (⟨"java/lang/Math", "max", "(II)I"⟩ : MethodName)) hown (mvT hZ (hw _ (List.mem_of_getElem? (i := 137) rfl))) (mvT hZ (hw _ (List.mem_of_getElem? (i := 138) rfl))) (mvT hZ (hw _ (List.mem_of_getElem? (i := 139) rfl))) (mvT hZ (hw _ (List.mem_of_getElem? (i := 140) rfl))) (by decide) (backOf (W := 1) (rm9a l Z a0 hw []  h0 n0 Z0 ) hZ (hw _ (List.mem_of_getElem? (i := 140) rfl)) (hw _ (List.mem_of_getElem? (i := 139) rfl)) (by decide) (by decide)) (g := (mkF m 49 #[.val (.ref a), .val (.int (1 : Int32)), .val (.int (0 : Int32)), .unset] [(.int (1 : Int32)), (.int (10 : Int32)), (.ref a)])) rfl (by rw [hml]; rfl) (argsL := [(.int (10 : Int32)), (.int (1 : Int32))]) (rest := [(.ref a)]) (lenOf pd_144 rfl) rfl (by show 2 * 0 + _ ≤ _; exact Nat.le_of_eq rfl) (hb hby d_jdk_38_method_6_49) (fun _ _ => ⟨rfl, e4, (by decide : 0 + 0 ≤ _), (by decide : 0 + 0 ≤ _)⟩)
  dsimp only [Pt.U, Pt.locs, Pt.cells, Pt.slots] at X5 l5 y5 z5 st5 hQ5
  subst l5 y5 z5
  obtain ⟨rfl, N5q, e5⟩ := hQ5
  have N5 := Fr.app N0 N5q
  refine OwnFin.step st5 ?_
  show OwnFin p e below _ (T5.setTop (mkF m 52 #[.val (.ref a), .val (.int (1 : Int32)), .val (.int (0 : Int32)), .unset] [(.int (10 : Int32)), (.ref a)]))
  obtain ⟨T6, h6, k6, X6, e6, E6, A6, O6, st6⟩ := newR X5 hx hZ hown (hw _ (List.mem_of_getElem? (i := 141) rfl)) (hw _ (List.mem_of_getElem? (i := 142) rfl)) e5 (g := (mkF m 52 #[.val (.ref a), .val (.int (1 : Int32)), .val (.int (0 : Int32)), .unset] [(.int (10 : Int32)), (.ref a)])) rfl (hb hby d_jdk_38_method_6_52) rfl (by decide) (cap := 10) (by decide) (by decide) (by decide) (by decide)
  obtain ⟨b6, g6⟩ : ∃ z, z = h0.size := ⟨_, rfl⟩
  rw [← g6] at A6 st6
  refine OwnFin.step st6 ?_
  have V6 : Arv Z h6 b6 k6 (.object "java/lang/Object") (10 : Int32) [.null, .null, .null, .null, .null, .null, .null, .null, .null, .null] .null := (Arv.new A6 (by decide)).pad (pad_rep [] .null 10)
  show OwnFin p e below _ (T6.setTop (mkF m 55 #[.val (.ref a), .val (.int (1 : Int32)), .val (.int (0 : Int32)), .unset] [(.ref b6), (.ref a)]))
  refine OwnFin.step (fun tT kK => XS.dupX1 X6.here hx rfl (hb hby d_jdk_38_method_6_55) rfl rfl rfl kK) ?_
  show OwnFin p e below _ (T6.setTop (mkF m 56 #[.val (.ref a), .val (.int (1 : Int32)), .val (.int (0 : Int32)), .unset] [(.ref b6), (.ref a), (.ref b6)]))
  have f7 : Exa Z h6 a "java/util/ArrayList" := (hp2.ext E6)
  have f8 : Fld Z h6 a "java/util/ArrayList" "elementData" "[Ljava/lang/Object;" (.ref dc) := (hp3.ext E6)
  obtain ⟨T9, h9, X9, e9, W9, st9⟩ := putF X6 hx hZ hown (host := "") (Or.inl (hw _ (List.mem_of_getElem? (i := 87) rfl))) Via.refl e6 f8 f7 (Or.inl (hw _ (List.mem_of_getElem? (i := 88) rfl))) (hw _ (List.mem_of_getElem? (i := 66) rfl)) (ty := (.array (.object "java/lang/Object"))) (by decide) rfl rfl (g := (mkF m 56 #[.val (.ref a), .val (.int (1 : Int32)), .val (.int (0 : Int32)), .unset] [(.ref b6), (.ref a), (.ref b6)])) rfl rfl (hb hby d_jdk_38_method_6_56)
  refine OwnFin.step st9 ?_
  have N9 := Fr.snoc X9 N5 hp5
  have Fw9 : Fld Z h9 a "java/util/ArrayList" "elementData" "[Ljava/lang/Object;" (.ref b6) := f8.same W9
  show OwnFin p e below _ (T9.setTop (mkF m 59 #[.val (.ref a), .val (.int (1 : Int32)), .val (.int (0 : Int32)), .unset] [(.ref b6)]))
  have f11 : Exa Z h9 a "java/util/ArrayList" := (f7.wr W9)
  have f12 : Fld Z h9 a "java/util/ArrayList" "size" "I" (.int (0 : Int32)) := ((hp4.ext E6).other W9 (Or.inr (slot_ne (Or.inl (hw _ (List.mem_of_getElem? (i := 121) rfl))) (Or.inl (hw _ (List.mem_of_getElem? (i := 88) rfl))) (by decide) (t := .int) (t' := (.array (.object "java/lang/Object"))) (by decide) (by decide))))
  have f13 : Arv Z h9 b6 k6 (.object "java/lang/Object") (10 : Int32) [.null, .null, .null, .null, .null, .null, .null, .null, .null, .null] .null := (V6.other W9 (Ne.symm (Nat.ne_of_lt (Nat.lt_of_lt_of_le (Nat.lt_of_lt_of_le hp2.lt (Nat.le_refl _)) (Nat.le_of_eq g6.symm)))))
  obtain ⟨fs10, hr10, hrun10, hended10, hW10, hsame10⟩ := X9.leave (v := (some (.ref b6))) (fun h => by rw [Bd.returns] at h; cases h)
  refine ⟨_, _, retOut X9 hx Bd.returns rfl (Or.inr (Or.inr (Or.inr (Or.inr ⟨rfl, rfl, rfl⟩)))) (hb hby d_jdk_38_method_6_59) hr10, hrun10, hended10, _, _, rfl, ?_, ⟨_, rfl⟩, hW10, hsame10.mono (by decide) (by decide)⟩
  show Q9b Z a dc kd h0 n0 _ T9.heap _
  rw [e9]
  exact ⟨b6, k6, rfl, N9, (((Keep.refl h0 [a]).ext E6).wr W9 (Or.inl (List.mem_of_getElem? (i := 0) rfl))), (Nat.le_trans (Nat.le_refl _) (Nat.le_of_eq g6.symm)), f11, f12, f13, O6⟩
theorem d_jdk_38_method_7_0 : decode jdk_38_method_7_code 0 = .ok (.aload_n 0, 1) := by decide +kernel
theorem d_jdk_38_method_7_1 : decode jdk_38_method_7_code 1 = .ok (.aload_n 0, 1) := by decide +kernel
theorem d_jdk_38_method_7_2 : decode jdk_38_method_7_code 2 = .ok (.getfield 48, 3) := by decide +kernel
theorem d_jdk_38_method_7_5 : decode jdk_38_method_7_code 5 = .ok (.iconst 1, 1) := by decide +kernel
theorem d_jdk_38_method_7_6 : decode jdk_38_method_7_code 6 = .ok (.iadd, 1) := by decide +kernel
theorem d_jdk_38_method_7_7 : decode jdk_38_method_7_code 7 = .ok (.invokevirtual 69, 3) := by decide +kernel
theorem pd_155 : parseMethodDescriptor "(I)[Ljava/lang/Object;" = some ⟨[.int], some (.array (.object "java/lang/Object"))⟩ := by decide +kernel
theorem d_jdk_38_method_7_10 : decode jdk_38_method_7_code 10 = .ok (.areturn, 1) := by decide +kernel
theorem ef_9c (m : MethodId) (a : Addr) : entryFrame m #[(.ref a)] 1 = mkF m 0 #[.val (.ref a)] [] := by first | (simp [entryFrame, mkF, argsToLocals, Value.category]; done) | rfl
def Q9c (Z : State) (a : Addr) (dc : Addr) (kd : ClassId) (h0 : Heap) (n0 : Nat) (vV : Option Value) (hH : Heap) (LL : List Loc) : Prop := ∃ b : Addr, ∃ kb : ClassId, vV = some (.ref b) ∧ Fr n0 LL ∧ Keep h0 hH [a] ∧ h0.size ≤ b ∧ (Exa Z hH a "java/util/ArrayList") ∧ (Fld Z hH a "java/util/ArrayList" "size" "I" (.int (0 : Int32))) ∧ (Arv Z hH b kb (.object "java/lang/Object") (10 : Int32) [.null, .null, .null, .null, .null, .null, .null, .null, .null, .null] .null) ∧ (Ovr Z kb "java/lang/Object")
def R9c (Z : State) (a : Addr) (dc : Addr) (kd : ClassId) (h0 : Heap) (n0 : Nat) (U : State) (o : Outcome) (U' : State) : Prop := ∃ vV LL, o = .returned vV ∧ Q9c Z a dc kd h0 n0 vV U'.heap LL ∧ FrameEnd U o U' LL ({ frames := 2, cells := 1, slots := 10, locals := 29 } : Room).cells ({ frames := 2, cells := 1, slots := 10, locals := 29 } : Room).slots
set_option maxRecDepth 65536 in
set_option maxHeartbeats 40000000 in
theorem rm9c (l : Launch) (Z : State) (a0 : Array Value) (hw : ∀ d ∈ tables_1, d.before a0 Z = true) (ws : List Jvm.Cond) (a : Addr) (dc : Addr) (kd : ClassId) (h0 : Heap) (n0 : Nat) (Z0 : n0 ≤ h0.size) (hp0 : Sta Z h0 "java/util/ArrayList" "DEFAULTCAPACITY_EMPTY_ELEMENTDATA" "[Ljava/lang/Object;" (.ref dc)) (hp1 : Arv Z h0 dc kd (.object "java/lang/Object") (0 : Int32) [] .null) (hp2 : Exa Z h0 a "java/util/ArrayList") (hp3 : Fld Z h0 a "java/util/ArrayList" "elementData" "[Ljava/lang/Object;" (.ref dc)) (hp4 : Fld Z h0 a "java/util/ArrayList" "size" "I" (.int (0 : Int32))) (hp5 : n0 ≤ a) (hp6 : a ≠ dc) :
    MetFree l (⟨"java/util/ArrayList", "grow", "()[Ljava/lang/Object;"⟩ : MethodName) (head1 (Jvm.Cond.code (⟨"java/util/ArrayList", "grow", "()[Ljava/lang/Object;"⟩ : MethodName) jdk_38_method_7_code 1 (some (.array (.object "java/lang/Object"))) :: ws) ({ frames := 2, cells := 1, slots := 10, locals := 29 } : Room)) (fun aA U => aA = #[(.ref a)] ∧ Z.Warmed39 U.vm ∧ U.heap = h0) (fun _ _ _ _ _ => True) (fun _ U o U' => ∃ vV LL, o = .returned vV ∧ Q9c Z a dc kd h0 n0 vV U'.heap LL ∧ FrameEnd U o U' LL ({ frames := 2, cells := 1, slots := 10, locals := 29 } : Room).cells ({ frames := 2, cells := 1, slots := 10, locals := 29 } : Room).slots) := by
  refine MetFree.of_bodySF (plainFor_of_name pn_77) hisR ?_
  intro p e s m args below meth cC s₁ Bd hml0 hP hK
  obtain ⟨rfl, hZ, hh⟩ := hP
  have hx := Bd.exec
  have hby := Bd.bytes
  have hml : cC.maxLocals = 1 := hml0
  have hown : s.vm.findClass "java/util/ArrayList" = some m.cls := findClass_of_methodNamed Bd.named
  have hnm := (name_of_methodNamed Bd.named Bd.method).1
  have X0 : Stand p l e ({ frames := 2, cells := 1, slots := 10, locals := 29 } : Room) s m #[(.ref a)] below meth cC s₁ [] 0 0 := Stand.of_body Bd
  have e0 : s₁.heap = h0 := by rw [← hh, Bd.state]; rfl
  have N0 := Fr.nil n0
  show OwnFin p e below (R9c Z a dc kd h0 n0 s) (s₁.setTop (entryFrame m #[(.ref a)] 1))
  rw [ef_9c m a]
  refine OwnFin.step (fun tT kK => XS.aloadN X0.here hx rfl (hb hby d_jdk_38_method_7_0) rfl rfl kK) ?_
  show OwnFin p e below _ (s₁.setTop (mkF m 1 #[.val (.ref a)] [(.ref a)]))
  refine OwnFin.step (fun tT kK => XS.aloadN X0.here hx rfl (hb hby d_jdk_38_method_7_1) rfl rfl kK) ?_
  show OwnFin p e below _ (s₁.setTop (mkF m 2 #[.val (.ref a)] [(.ref a), (.ref a)]))
  obtain ⟨T1, X1, e1, st1⟩ := getF X0 hx hZ hown (host := "") (Or.inl (hw _ (List.mem_of_getElem? (i := 120) rfl))) Via.refl e0 hp4 (g := (mkF m 2 #[.val (.ref a)] [(.ref a), (.ref a)])) rfl rfl (hb hby d_jdk_38_method_7_2)
  refine OwnFin.step st1 ?_
  show OwnFin p e below _ (T1.setTop (mkF m 5 #[.val (.ref a)] [(.int (0 : Int32)), (.ref a)]))
  refine OwnFin.step (fun tT kK => XS.iconst X1.here hx rfl (hb hby d_jdk_38_method_7_5) kK) ?_
  show OwnFin p e below _ (T1.setTop (mkF m 6 #[.val (.ref a)] [(.int (1 : Int32)), (.int (0 : Int32)), (.ref a)]))
  refine OwnFin.step (fun tT kK => XS.iadd X1.here hx rfl (hb hby d_jdk_38_method_7_6) rfl kK) ?_
  show OwnFin p e below _ (T1.setTop (mkF m 7 #[.val (.ref a)] [(.int (1 : Int32)), (.ref a)]))
  obtain ⟨cq2, q2, q2'⟩ := hp2.cell
  obtain ⟨_, _, ⟨T2, L2, k2, n2⟩, -, X2, ⟨Lc2, hQ2, l2, y2, z2⟩, st2⟩ := X1.privateBack hx (y := (⟨"java/util/ArrayList", "grow", "(I)[Ljava/lang/Object;"⟩ : MethodName)) hown (mvT hZ (hw _ (List.mem_of_getElem? (i := 132) rfl))) (mvT hZ (hw _ (List.mem_of_getElem? (i := 133) rfl))) (mvT hZ (hw _ (List.mem_of_getElem? (i := 135) rfl))) (Cond.privateMethod_at (mvP hZ (hw _ (List.mem_of_getElem? (i := 134) rfl)) (args := #[]))) (mvT hZ (hw _ (List.mem_of_getElem? (i := 136) rfl))) (by decide) (backOf (W := 0) (rm9b l Z a0 hw [] a dc kd h0 n0 Z0 hp0 hp1 hp2 hp3 hp4 hp5 hp6) hZ (hw _ (List.mem_of_getElem? (i := 136) rfl)) (hw _ (List.mem_of_getElem? (i := 67) rfl)) (by decide) (by decide)) (g := (mkF m 7 #[.val (.ref a)] [(.int (1 : Int32)), (.ref a)])) rfl (by rw [hml]; rfl) (Steps.refl _) (a := a) (by rw [e1]; exact q2) q2' (argsL := [(.int (1 : Int32))]) (rest := []) (lenOf pd_155 rfl) rfl (by show 2 * 0 + _ ≤ _; exact Nat.le_of_eq rfl) (hb hby d_jdk_38_method_7_7) (fun _ _ => ⟨rfl, e1, (by decide : 0 + 1 ≤ _), (by decide : 0 + 10 ≤ _)⟩)
  dsimp only [Pt.U, Pt.locs, Pt.cells, Pt.slots] at X2 l2 y2 z2 st2 hQ2
  subst l2 y2 z2
  obtain ⟨b3, ⟨kb4, ⟨rfl, N2q, K2, B2_0, P2_0, P2_1, P2_2, P2_3⟩⟩⟩ := hQ2
  have N2 := Fr.app N0 N2q
  refine OwnFin.step (fun tT kK => st2.trans kK) ?_
  show OwnFin p e below _ (T2.setTop (mkF m 10 #[.val (.ref a)] [(.ref b3)]))
  obtain ⟨fs5, hr5, hrun5, hended5, hW5, hsame5⟩ := X2.leave (v := (some (.ref b3))) (fun h => by rw [Bd.returns] at h; cases h)
  refine ⟨_, _, retOut X2 hx Bd.returns rfl (Or.inr (Or.inr (Or.inr (Or.inr ⟨rfl, rfl, rfl⟩)))) (hb hby d_jdk_38_method_7_10) hr5, hrun5, hended5, _, _, rfl, ?_, ⟨_, rfl⟩, hW5, hsame5.mono (by decide) (by decide)⟩
  show Q9c Z a dc kd h0 n0 _ T2.heap _
  exact ⟨b3, kb4, rfl, N2, ((Keep.refl h0 [a]).trans K2 (allS (P := fun x => x ∈ [a] ∨ h0.size ≤ x) (Or.inl (List.mem_of_getElem? (i := 0) rfl)) all0)), (Nat.le_trans (Nat.le_refl _) B2_0), P2_0, P2_1, P2_2, P2_3⟩
theorem d_jdk_38_method_24_0 : decode jdk_38_method_24_code 0 = .ok (.iload_n 3, 1) := by decide +kernel
theorem d_jdk_38_method_24_1 : decode jdk_38_method_24_code 1 = .ok (.aload_n 2, 1) := by decide +kernel
theorem d_jdk_38_method_24_2 : decode jdk_38_method_24_code 2 = .ok (.arraylength, 1) := by decide +kernel
theorem d_jdk_38_method_24_3 : decode jdk_38_method_24_code 3 = .ok (.if_icmp .ne 8, 3) := by decide +kernel
theorem d_jdk_38_method_24_6 : decode jdk_38_method_24_code 6 = .ok (.aload_n 0, 1) := by decide +kernel
theorem d_jdk_38_method_24_7 : decode jdk_38_method_24_code 7 = .ok (.invokevirtual 129, 3) := by decide +kernel
theorem pd_163 : parseMethodDescriptor "()[Ljava/lang/Object;" = some ⟨[], some (.array (.object "java/lang/Object"))⟩ := by decide +kernel
theorem d_jdk_38_method_24_10 : decode jdk_38_method_24_code 10 = .ok (.astore_n 2, 1) := by decide +kernel
theorem d_jdk_38_method_24_11 : decode jdk_38_method_24_code 11 = .ok (.aload_n 2, 1) := by decide +kernel
theorem d_jdk_38_method_24_12 : decode jdk_38_method_24_code 12 = .ok (.iload_n 3, 1) := by decide +kernel
theorem d_jdk_38_method_24_13 : decode jdk_38_method_24_code 13 = .ok (.aload_n 1, 1) := by decide +kernel
theorem d_jdk_38_method_24_14 : decode jdk_38_method_24_code 14 = .ok (.aastore, 1) := by decide +kernel
theorem d_jdk_38_method_24_15 : decode jdk_38_method_24_code 15 = .ok (.aload_n 0, 1) := by decide +kernel
theorem d_jdk_38_method_24_16 : decode jdk_38_method_24_code 16 = .ok (.iload_n 3, 1) := by decide +kernel
theorem d_jdk_38_method_24_17 : decode jdk_38_method_24_code 17 = .ok (.iconst 1, 1) := by decide +kernel
theorem d_jdk_38_method_24_18 : decode jdk_38_method_24_code 18 = .ok (.iadd, 1) := by decide +kernel
theorem d_jdk_38_method_24_19 : decode jdk_38_method_24_code 19 = .ok (.putfield 48, 3) := by decide +kernel
theorem d_jdk_38_method_24_22 : decode jdk_38_method_24_code 22 = .ok (.return_, 1) := by decide +kernel
theorem ef_9d (m : MethodId) (a : Addr) (s_ : Addr) (dc : Addr) : entryFrame m #[(.ref a), (.ref s_), (.ref dc), (.int (0 : Int32))] 4 = mkF m 0 #[.val (.ref a), .val (.ref s_), .val (.ref dc), .val (.int (0 : Int32))] [] := by first | (simp [entryFrame, mkF, argsToLocals, Value.category]; done) | rfl
def Q9d (Z : State) (a : Addr) (s_ : Addr) (dc : Addr) (kd : ClassId) (h0 : Heap) (n0 : Nat) (vV : Option Value) (hH : Heap) (LL : List Loc) : Prop := vV = none ∧ Fr n0 LL ∧ Keep h0 hH [a]
def R9d (Z : State) (a : Addr) (s_ : Addr) (dc : Addr) (kd : ClassId) (h0 : Heap) (n0 : Nat) (U : State) (o : Outcome) (U' : State) : Prop := ∃ vV LL, o = .returned vV ∧ Q9d Z a s_ dc kd h0 n0 vV U'.heap LL ∧ FrameEnd U o U' LL ({ frames := 3, cells := 1, slots := 10, locals := 41 } : Room).cells ({ frames := 3, cells := 1, slots := 10, locals := 41 } : Room).slots
set_option maxRecDepth 65536 in
set_option maxHeartbeats 40000000 in
theorem rm9d (l : Launch) (Z : State) (a0 : Array Value) (hw : ∀ d ∈ tables_1, d.before a0 Z = true) (ws : List Jvm.Cond) (a : Addr) (s_ : Addr) (dc : Addr) (kd : ClassId) (h0 : Heap) (n0 : Nat) (Z0 : n0 ≤ h0.size) (hp0 : Sta Z h0 "java/util/ArrayList" "DEFAULTCAPACITY_EMPTY_ELEMENTDATA" "[Ljava/lang/Object;" (.ref dc)) (hp1 : Arv Z h0 dc kd (.object "java/lang/Object") (0 : Int32) [] .null) (hp2 : Exa Z h0 a "java/util/ArrayList") (hp3 : Fld Z h0 a "java/util/ArrayList" "elementData" "[Ljava/lang/Object;" (.ref dc)) (hp4 : Fld Z h0 a "java/util/ArrayList" "size" "I" (.int (0 : Int32))) (hp5 : n0 ≤ a) (hp6 : a ≠ dc) (hp7 : Exa Z h0 s_ "java/lang/String") :
    MetFree l (⟨"java/util/ArrayList", "add", "(Ljava/lang/Object;[Ljava/lang/Object;I)V"⟩ : MethodName) (head1 (Jvm.Cond.code (⟨"java/util/ArrayList", "add", "(Ljava/lang/Object;[Ljava/lang/Object;I)V"⟩ : MethodName) jdk_38_method_24_code 4 none :: ws) ({ frames := 3, cells := 1, slots := 10, locals := 41 } : Room)) (fun aA U => aA = #[(.ref a), (.ref s_), (.ref dc), (.int (0 : Int32))] ∧ Z.Warmed39 U.vm ∧ U.heap = h0) (fun _ _ _ _ _ => True) (fun _ U o U' => ∃ vV LL, o = .returned vV ∧ Q9d Z a s_ dc kd h0 n0 vV U'.heap LL ∧ FrameEnd U o U' LL ({ frames := 3, cells := 1, slots := 10, locals := 41 } : Room).cells ({ frames := 3, cells := 1, slots := 10, locals := 41 } : Room).slots) := by
  refine MetFree.of_bodySF (plainFor_of_name pn_77) hisR ?_
  intro p e s m args below meth cC s₁ Bd hml0 hP hK
  obtain ⟨rfl, hZ, hh⟩ := hP
  have hx := Bd.exec
  have hby := Bd.bytes
  have hml : cC.maxLocals = 4 := hml0
  have hown : s.vm.findClass "java/util/ArrayList" = some m.cls := findClass_of_methodNamed Bd.named
  have hnm := (name_of_methodNamed Bd.named Bd.method).1
  have X0 : Stand p l e ({ frames := 3, cells := 1, slots := 10, locals := 41 } : Room) s m #[(.ref a), (.ref s_), (.ref dc), (.int (0 : Int32))] below meth cC s₁ [] 0 0 := Stand.of_body Bd
  have e0 : s₁.heap = h0 := by rw [← hh, Bd.state]; rfl
  have N0 := Fr.nil n0
  show OwnFin p e below (R9d Z a s_ dc kd h0 n0 s) (s₁.setTop (entryFrame m #[(.ref a), (.ref s_), (.ref dc), (.int (0 : Int32))] 4))
  rw [ef_9d m a s_ dc]
  refine OwnFin.step (fun tT kK => XS.iloadN X0.here hx rfl (hb hby d_jdk_38_method_24_0) rfl kK) ?_
  show OwnFin p e below _ (s₁.setTop (mkF m 1 #[.val (.ref a), .val (.ref s_), .val (.ref dc), .val (.int (0 : Int32))] [(.int (0 : Int32))]))
  refine OwnFin.step (fun tT kK => XS.aloadN X0.here hx rfl (hb hby d_jdk_38_method_24_1) rfl rfl kK) ?_
  show OwnFin p e below _ (s₁.setTop (mkF m 2 #[.val (.ref a), .val (.ref s_), .val (.ref dc), .val (.int (0 : Int32))] [(.ref dc), (.int (0 : Int32))]))
  obtain ⟨cl1, Ar1, -, Sz1, Ng1, -, -⟩ := id hp1
  refine OwnFin.step (fun tT kK => own_len X0 hx hZ e0 Ar1 Sz1 Ng1 (g := (mkF m 2 #[.val (.ref a), .val (.ref s_), .val (.ref dc), .val (.int (0 : Int32))] [(.ref dc), (.int (0 : Int32))])) rfl rfl (hb hby d_jdk_38_method_24_2) kK) ?_
  show OwnFin p e below _ (s₁.setTop (mkF m 3 #[.val (.ref a), .val (.ref s_), .val (.ref dc), .val (.int (0 : Int32))] [(.int (0 : Int32)), (.int (0 : Int32))]))
  refine OwnFin.step (fun tT kK => XS.icmpNo X0.here hx rfl (hb hby d_jdk_38_method_24_3) rfl (teq (rfl : (0 : Int32) = (0 : Int32))).2 kK) ?_
  show OwnFin p e below _ (s₁.setTop (mkF m 6 #[.val (.ref a), .val (.ref s_), .val (.ref dc), .val (.int (0 : Int32))] []))
  refine OwnFin.step (fun tT kK => XS.aloadN X0.here hx rfl (hb hby d_jdk_38_method_24_6) rfl rfl kK) ?_
  show OwnFin p e below _ (s₁.setTop (mkF m 7 #[.val (.ref a), .val (.ref s_), .val (.ref dc), .val (.int (0 : Int32))] [(.ref a)]))
  obtain ⟨cq2, q2, q2'⟩ := hp2.cell
  obtain ⟨_, _, ⟨T2, L2, k2, n2⟩, -, X2, ⟨Lc2, hQ2, l2, y2, z2⟩, st2⟩ := X0.privateBack hx (y := (⟨"java/util/ArrayList", "grow", "()[Ljava/lang/Object;"⟩ : MethodName)) hown (mvT hZ (hw _ (List.mem_of_getElem? (i := 127) rfl))) (mvT hZ (hw _ (List.mem_of_getElem? (i := 128) rfl))) (mvT hZ (hw _ (List.mem_of_getElem? (i := 130) rfl))) (Cond.privateMethod_at (mvP hZ (hw _ (List.mem_of_getElem? (i := 129) rfl)) (args := #[]))) (mvT hZ (hw _ (List.mem_of_getElem? (i := 131) rfl))) (by decide) (backOf (W := 0) (rm9c l Z a0 hw [] a dc kd h0 n0 Z0 hp0 hp1 hp2 hp3 hp4 hp5 hp6) hZ (hw _ (List.mem_of_getElem? (i := 131) rfl)) (hw _ (List.mem_of_getElem? (i := 67) rfl)) (by decide) (by decide)) (g := (mkF m 7 #[.val (.ref a), .val (.ref s_), .val (.ref dc), .val (.int (0 : Int32))] [(.ref a)])) rfl (by rw [hml]; rfl) (Steps.refl _) (a := a) (by rw [e0]; exact q2) q2' (argsL := []) (rest := []) (lenOf pd_163 rfl) rfl (by show 2 * 0 + _ ≤ _; exact Nat.le_of_eq rfl) (hb hby d_jdk_38_method_24_7) (fun _ _ => ⟨rfl, e0, (by decide : 0 + 1 ≤ _), (by decide : 0 + 10 ≤ _)⟩)
  dsimp only [Pt.U, Pt.locs, Pt.cells, Pt.slots] at X2 l2 y2 z2 st2 hQ2
  subst l2 y2 z2
  obtain ⟨b3, ⟨kb4, ⟨rfl, N2q, K2, B2_0, P2_0, P2_1, P2_2, P2_3⟩⟩⟩ := hQ2
  have N2 := Fr.app N0 N2q
  refine OwnFin.step (fun tT kK => st2.trans kK) ?_
  show OwnFin p e below _ (T2.setTop (mkF m 10 #[.val (.ref a), .val (.ref s_), .val (.ref dc), .val (.int (0 : Int32))] [(.ref b3)]))
  refine OwnFin.step (fun tT kK => XS.astoreN X2.here hx rfl (hb hby d_jdk_38_method_24_10) rfl rfl (l' := #[.val (.ref a), .val (.ref s_), .val (.ref b3), .val (.int (0 : Int32))]) rfl kK) ?_
  show OwnFin p e below _ (T2.setTop (mkF m 11 #[.val (.ref a), .val (.ref s_), .val (.ref b3), .val (.int (0 : Int32))] []))
  refine OwnFin.step (fun tT kK => XS.aloadN X2.here hx rfl (hb hby d_jdk_38_method_24_11) rfl rfl kK) ?_
  show OwnFin p e below _ (T2.setTop (mkF m 12 #[.val (.ref a), .val (.ref s_), .val (.ref b3), .val (.int (0 : Int32))] [(.ref b3)]))
  refine OwnFin.step (fun tT kK => XS.iloadN X2.here hx rfl (hb hby d_jdk_38_method_24_12) rfl kK) ?_
  show OwnFin p e below _ (T2.setTop (mkF m 13 #[.val (.ref a), .val (.ref s_), .val (.ref b3), .val (.int (0 : Int32))] [(.int (0 : Int32)), (.ref b3)]))
  refine OwnFin.step (fun tT kK => XS.aloadN X2.here hx rfl (hb hby d_jdk_38_method_24_13) rfl rfl kK) ?_
  show OwnFin p e below _ (T2.setTop (mkF m 14 #[.val (.ref a), .val (.ref s_), .val (.ref b3), .val (.int (0 : Int32))] [(.ref s_), (.int (0 : Int32)), (.ref b3)]))
  have f5 : Exa Z T2.heap s_ "java/lang/String" := (hp7.keep K2)
  obtain ⟨cl6, Ar6, q6, Sz6, Ng6, H6, G6⟩ := id P2_2
  have hin6 : ¬ ((0 : Int32) < 0 ∨ cl6.slots.size ≤ ((0 : Int32)).toNatClampNeg) := inb_of Sz6 ⟨by decide, by decide⟩
  obtain ⟨T7, h7, X7, e7, W7, st7⟩ := stR X2 hx hZ rfl Ar6 (j := (0 : Int32)) hin6 rfl (Sto.ofV Ar6 q6 P2_3 (Ins.of_exa f5 (hw _ (List.mem_of_getElem? (i := 143) rfl)))) (g := (mkF m 14 #[.val (.ref a), .val (.ref s_), .val (.ref b3), .val (.int (0 : Int32))] [(.ref s_), (.int (0 : Int32)), (.ref b3)])) rfl rfl (hb hby d_jdk_38_method_24_14)
  refine OwnFin.step st7 ?_
  have N7 := Fr.snoc X7 N2 (Nat.le_trans Z0 B2_0)
  have V7 : Arv Z h7 b3 kb4 (.object "java/lang/Object") (10 : Int32) [(.ref s_), .null, .null, .null, .null, .null, .null, .null, .null, .null] .null := Arv.set Ar6 q6 Sz6 Ng6 H6 G6 rfl W7 0 rfl (Nat.le_of_ble_eq_true rfl)
  show OwnFin p e below _ (T7.setTop (mkF m 15 #[.val (.ref a), .val (.ref s_), .val (.ref b3), .val (.int (0 : Int32))] []))
  refine OwnFin.step (fun tT kK => XS.aloadN X7.here hx rfl (hb hby d_jdk_38_method_24_15) rfl rfl kK) ?_
  show OwnFin p e below _ (T7.setTop (mkF m 16 #[.val (.ref a), .val (.ref s_), .val (.ref b3), .val (.int (0 : Int32))] [(.ref a)]))
  refine OwnFin.step (fun tT kK => XS.iloadN X7.here hx rfl (hb hby d_jdk_38_method_24_16) rfl kK) ?_
  show OwnFin p e below _ (T7.setTop (mkF m 17 #[.val (.ref a), .val (.ref s_), .val (.ref b3), .val (.int (0 : Int32))] [(.int (0 : Int32)), (.ref a)]))
  refine OwnFin.step (fun tT kK => XS.iconst X7.here hx rfl (hb hby d_jdk_38_method_24_17) kK) ?_
  show OwnFin p e below _ (T7.setTop (mkF m 18 #[.val (.ref a), .val (.ref s_), .val (.ref b3), .val (.int (0 : Int32))] [(.int (1 : Int32)), (.int (0 : Int32)), (.ref a)]))
  refine OwnFin.step (fun tT kK => XS.iadd X7.here hx rfl (hb hby d_jdk_38_method_24_18) rfl kK) ?_
  show OwnFin p e below _ (T7.setTop (mkF m 19 #[.val (.ref a), .val (.ref s_), .val (.ref b3), .val (.int (0 : Int32))] [(.int (1 : Int32)), (.ref a)]))
  have f8 : Exa Z h7 a "java/util/ArrayList" := (P2_0.wr W7)
  have f9 : Fld Z h7 a "java/util/ArrayList" "size" "I" (.int (0 : Int32)) := (P2_1.other W7 (Or.inl (Nat.ne_of_lt (Nat.lt_of_lt_of_le (Nat.lt_of_lt_of_le hp2.lt (Nat.le_refl _)) B2_0))))
  obtain ⟨T10, h10, X10, e10, W10, st10⟩ := putF X7 hx hZ hown (host := "") (Or.inl (hw _ (List.mem_of_getElem? (i := 120) rfl))) Via.refl e7 f9 f8 (Or.inl (hw _ (List.mem_of_getElem? (i := 121) rfl))) (hw _ (List.mem_of_getElem? (i := 66) rfl)) (ty := .int) (by decide) rfl rfl (g := (mkF m 19 #[.val (.ref a), .val (.ref s_), .val (.ref b3), .val (.int (0 : Int32))] [(.int (1 : Int32)), (.ref a)])) rfl rfl (hb hby d_jdk_38_method_24_19)
  refine OwnFin.step st10 ?_
  have N10 := Fr.snoc X10 N7 hp5
  have Fw10 : Fld Z h10 a "java/util/ArrayList" "size" "I" (.int (1 : Int32)) := f9.same W10
  show OwnFin p e below _ (T10.setTop (mkF m 22 #[.val (.ref a), .val (.ref s_), .val (.ref b3), .val (.int (0 : Int32))] []))
  obtain ⟨fs11, hr11, hrun11, hended11, hW11, hsame11⟩ := X10.leave (v := none) (fun _ => rfl)
  refine ⟨_, _, X10.returnOut hx Bd.returns (hb hby d_jdk_38_method_24_22) hr11, hrun11, hended11, _, _, rfl, ?_, ⟨_, rfl⟩, hW11, hsame11.mono (by decide) (by decide)⟩
  show Q9d Z a s_ dc kd h0 n0 _ T10.heap _
  rw [e10]
  exact ⟨rfl, N10, ((((Keep.refl h0 [a]).trans K2 (allS (P := fun x => x ∈ [a] ∨ h0.size ≤ x) (Or.inl (List.mem_of_getElem? (i := 0) rfl)) all0)).wr W7 (Or.inr (Nat.le_trans (Nat.le_refl _) B2_0))).wr W10 (Or.inl (List.mem_of_getElem? (i := 0) rfl)))⟩
theorem d_jdk_38_method_25_0 : decode jdk_38_method_25_code 0 = .ok (.aload_n 0, 1) := by decide +kernel
theorem d_jdk_38_method_25_1 : decode jdk_38_method_25_code 1 = .ok (.dup, 1) := by decide +kernel
theorem d_jdk_38_method_25_2 : decode jdk_38_method_25_code 2 = .ok (.getfield 63, 3) := by decide +kernel
theorem d_jdk_38_method_25_5 : decode jdk_38_method_25_code 5 = .ok (.iconst 1, 1) := by decide +kernel
theorem d_jdk_38_method_25_6 : decode jdk_38_method_25_code 6 = .ok (.iadd, 1) := by decide +kernel
theorem d_jdk_38_method_25_7 : decode jdk_38_method_25_code 7 = .ok (.putfield 63, 3) := by decide +kernel
theorem d_jdk_38_method_25_10 : decode jdk_38_method_25_code 10 = .ok (.aload_n 0, 1) := by decide +kernel
theorem d_jdk_38_method_25_11 : decode jdk_38_method_25_code 11 = .ok (.aload_n 1, 1) := by decide +kernel
theorem d_jdk_38_method_25_12 : decode jdk_38_method_25_code 12 = .ok (.aload_n 0, 1) := by decide +kernel
theorem d_jdk_38_method_25_13 : decode jdk_38_method_25_code 13 = .ok (.getfield 9, 3) := by decide +kernel
theorem d_jdk_38_method_25_16 : decode jdk_38_method_25_code 16 = .ok (.aload_n 0, 1) := by decide +kernel
theorem d_jdk_38_method_25_17 : decode jdk_38_method_25_code 17 = .ok (.getfield 48, 3) := by decide +kernel
theorem d_jdk_38_method_25_20 : decode jdk_38_method_25_code 20 = .ok (.invokevirtual 131, 3) := by decide +kernel
theorem pd_188 : parseMethodDescriptor "(Ljava/lang/Object;[Ljava/lang/Object;I)V" = some ⟨[(.object "java/lang/Object"), (.array (.object "java/lang/Object")), .int], none⟩ := by decide +kernel
theorem d_jdk_38_method_25_23 : decode jdk_38_method_25_code 23 = .ok (.iconst 1, 1) := by decide +kernel
theorem d_jdk_38_method_25_24 : decode jdk_38_method_25_code 24 = .ok (.ireturn, 1) := by decide +kernel
theorem ef_9 (m : MethodId) (a : Addr) (s_ : Addr) : entryFrame m #[(.ref a), (.ref s_)] 2 = mkF m 0 #[.val (.ref a), .val (.ref s_)] [] := by first | (simp [entryFrame, mkF, argsToLocals, Value.category]; done) | rfl
def Q9 (Z : State) (a : Addr) (s_ : Addr) (dc : Addr) (kd : ClassId) (h0 : Heap) (n0 : Nat) (vV : Option Value) (hH : Heap) (LL : List Loc) : Prop := vV = some (.int (1 : Int32)) ∧ Fr n0 LL ∧ Keep h0 hH [a]
def R9 (Z : State) (a : Addr) (s_ : Addr) (dc : Addr) (kd : ClassId) (h0 : Heap) (n0 : Nat) (U : State) (o : Outcome) (U' : State) : Prop := ∃ vV LL, o = .returned vV ∧ Q9 Z a s_ dc kd h0 n0 vV U'.heap LL ∧ FrameEnd U o U' LL ({ frames := 4, cells := 1, slots := 10, locals := 56 } : Room).cells ({ frames := 4, cells := 1, slots := 10, locals := 56 } : Room).slots
set_option maxRecDepth 65536 in
set_option maxHeartbeats 40000000 in
theorem rm9 (l : Launch) (Z : State) (a0 : Array Value) (hw : ∀ d ∈ tables_1, d.before a0 Z = true) (ws : List Jvm.Cond) (a : Addr) (s_ : Addr) (dc : Addr) (kd : ClassId) (h0 : Heap) (n0 : Nat) (Z0 : n0 ≤ h0.size) (hp0 : Sta Z h0 "java/util/ArrayList" "DEFAULTCAPACITY_EMPTY_ELEMENTDATA" "[Ljava/lang/Object;" (.ref dc)) (hp1 : Arv Z h0 dc kd (.object "java/lang/Object") (0 : Int32) [] .null) (hp2 : Exa Z h0 a "java/util/ArrayList") (hp3 : Fld Z h0 a "java/util/ArrayList" "elementData" "[Ljava/lang/Object;" (.ref dc)) (hp4 : Fld Z h0 a "java/util/ArrayList" "size" "I" (.int (0 : Int32))) (hp5 : n0 ≤ a) (hp6 : a ≠ dc) (hp7 : Exa Z h0 s_ "java/lang/String") (hp8 : Fld Z h0 a "java/util/AbstractList" "modCount" "I" (.int (0 : Int32))) :
    MetFree l (⟨"java/util/ArrayList", "add", "(Ljava/lang/Object;)Z"⟩ : MethodName) (head1 (Jvm.Cond.code (⟨"java/util/ArrayList", "add", "(Ljava/lang/Object;)Z"⟩ : MethodName) jdk_38_method_25_code 2 (some .boolean) :: ws) ({ frames := 4, cells := 1, slots := 10, locals := 56 } : Room)) (fun aA U => aA = #[(.ref a), (.ref s_)] ∧ Z.Warmed39 U.vm ∧ U.heap = h0) (fun _ _ _ _ _ => True) (fun _ U o U' => ∃ vV LL, o = .returned vV ∧ Q9 Z a s_ dc kd h0 n0 vV U'.heap LL ∧ FrameEnd U o U' LL ({ frames := 4, cells := 1, slots := 10, locals := 56 } : Room).cells ({ frames := 4, cells := 1, slots := 10, locals := 56 } : Room).slots) := by
  refine MetFree.of_bodySF (plainFor_of_name pn_77) hisR ?_
  intro p e s m args below meth cC s₁ Bd hml0 hP hK
  obtain ⟨rfl, hZ, hh⟩ := hP
  have hx := Bd.exec
  have hby := Bd.bytes
  have hml : cC.maxLocals = 2 := hml0
  have hown : s.vm.findClass "java/util/ArrayList" = some m.cls := findClass_of_methodNamed Bd.named
  have hnm := (name_of_methodNamed Bd.named Bd.method).1
  have X0 : Stand p l e ({ frames := 4, cells := 1, slots := 10, locals := 56 } : Room) s m #[(.ref a), (.ref s_)] below meth cC s₁ [] 0 0 := Stand.of_body Bd
  have e0 : s₁.heap = h0 := by rw [← hh, Bd.state]; rfl
  have N0 := Fr.nil n0
  show OwnFin p e below (R9 Z a s_ dc kd h0 n0 s) (s₁.setTop (entryFrame m #[(.ref a), (.ref s_)] 2))
  rw [ef_9 m a s_]
  refine OwnFin.step (fun tT kK => XS.aloadN X0.here hx rfl (hb hby d_jdk_38_method_25_0) rfl rfl kK) ?_
  show OwnFin p e below _ (s₁.setTop (mkF m 1 #[.val (.ref a), .val (.ref s_)] [(.ref a)]))
  refine OwnFin.step (fun tT kK => XS.dup X0.here hx rfl (hb hby d_jdk_38_method_25_1) rfl rfl kK) ?_
  show OwnFin p e below _ (s₁.setTop (mkF m 2 #[.val (.ref a), .val (.ref s_)] [(.ref a), (.ref a)]))
  obtain ⟨T1, X1, e1, st1⟩ := getF X0 hx hZ hown (host := "") (Or.inl (hw _ (List.mem_of_getElem? (i := 118) rfl))) (Via.of (hw _ (List.mem_of_getElem? (i := 119) rfl))) e0 hp8 (g := (mkF m 2 #[.val (.ref a), .val (.ref s_)] [(.ref a), (.ref a)])) rfl rfl (hb hby d_jdk_38_method_25_2)
  refine OwnFin.step st1 ?_
  show OwnFin p e below _ (T1.setTop (mkF m 5 #[.val (.ref a), .val (.ref s_)] [(.int (0 : Int32)), (.ref a)]))
  refine OwnFin.step (fun tT kK => XS.iconst X1.here hx rfl (hb hby d_jdk_38_method_25_5) kK) ?_
  show OwnFin p e below _ (T1.setTop (mkF m 6 #[.val (.ref a), .val (.ref s_)] [(.int (1 : Int32)), (.int (0 : Int32)), (.ref a)]))
  refine OwnFin.step (fun tT kK => XS.iadd X1.here hx rfl (hb hby d_jdk_38_method_25_6) rfl kK) ?_
  show OwnFin p e below _ (T1.setTop (mkF m 7 #[.val (.ref a), .val (.ref s_)] [(.int (1 : Int32)), (.ref a)]))
  obtain ⟨T2, h2, X2, e2, W2, st2⟩ := putF X1 hx hZ hown (host := "") (Or.inl (hw _ (List.mem_of_getElem? (i := 118) rfl))) (Via.of (hw _ (List.mem_of_getElem? (i := 119) rfl))) e1 hp8 hp2 (Or.inl (hw _ (List.mem_of_getElem? (i := 85) rfl))) (hw _ (List.mem_of_getElem? (i := 66) rfl)) (ty := .int) (by decide) rfl rfl (g := (mkF m 7 #[.val (.ref a), .val (.ref s_)] [(.int (1 : Int32)), (.ref a)])) rfl rfl (hb hby d_jdk_38_method_25_7)
  refine OwnFin.step st2 ?_
  have N2 := Fr.snoc X2 N0 hp5
  have Fw2 : Fld Z h2 a "java/util/AbstractList" "modCount" "I" (.int (1 : Int32)) := hp8.same W2
  show OwnFin p e below _ (T2.setTop (mkF m 10 #[.val (.ref a), .val (.ref s_)] []))
  refine OwnFin.step (fun tT kK => XS.aloadN X2.here hx rfl (hb hby d_jdk_38_method_25_10) rfl rfl kK) ?_
  show OwnFin p e below _ (T2.setTop (mkF m 11 #[.val (.ref a), .val (.ref s_)] [(.ref a)]))
  refine OwnFin.step (fun tT kK => XS.aloadN X2.here hx rfl (hb hby d_jdk_38_method_25_11) rfl rfl kK) ?_
  show OwnFin p e below _ (T2.setTop (mkF m 12 #[.val (.ref a), .val (.ref s_)] [(.ref s_), (.ref a)]))
  refine OwnFin.step (fun tT kK => XS.aloadN X2.here hx rfl (hb hby d_jdk_38_method_25_12) rfl rfl kK) ?_
  show OwnFin p e below _ (T2.setTop (mkF m 13 #[.val (.ref a), .val (.ref s_)] [(.ref a), (.ref s_), (.ref a)]))
  have f3 : Fld Z h2 a "java/util/ArrayList" "elementData" "[Ljava/lang/Object;" (.ref dc) := (hp3.other W2 (Or.inr (slot_ne (Or.inl (hw _ (List.mem_of_getElem? (i := 88) rfl))) (Or.inl (hw _ (List.mem_of_getElem? (i := 85) rfl))) (by decide) (t := (.array (.object "java/lang/Object"))) (t' := .int) (by decide) (by decide))))
  obtain ⟨T4, X4, e4, st4⟩ := getF X2 hx hZ hown (host := "") (Or.inl (hw _ (List.mem_of_getElem? (i := 87) rfl))) Via.refl e2 f3 (g := (mkF m 13 #[.val (.ref a), .val (.ref s_)] [(.ref a), (.ref s_), (.ref a)])) rfl rfl (hb hby d_jdk_38_method_25_13)
  refine OwnFin.step st4 ?_
  show OwnFin p e below _ (T4.setTop (mkF m 16 #[.val (.ref a), .val (.ref s_)] [(.ref dc), (.ref s_), (.ref a)]))
  refine OwnFin.step (fun tT kK => XS.aloadN X4.here hx rfl (hb hby d_jdk_38_method_25_16) rfl rfl kK) ?_
  show OwnFin p e below _ (T4.setTop (mkF m 17 #[.val (.ref a), .val (.ref s_)] [(.ref a), (.ref dc), (.ref s_), (.ref a)]))
  have f5 : Fld Z h2 a "java/util/ArrayList" "size" "I" (.int (0 : Int32)) := (hp4.other W2 (Or.inr (slot_ne (Or.inl (hw _ (List.mem_of_getElem? (i := 121) rfl))) (Or.inl (hw _ (List.mem_of_getElem? (i := 85) rfl))) (by decide) (t := .int) (t' := .int) (by decide) (by decide))))
  obtain ⟨T6, X6, e6, st6⟩ := getF X4 hx hZ hown (host := "") (Or.inl (hw _ (List.mem_of_getElem? (i := 120) rfl))) Via.refl e4 f5 (g := (mkF m 17 #[.val (.ref a), .val (.ref s_)] [(.ref a), (.ref dc), (.ref s_), (.ref a)])) rfl rfl (hb hby d_jdk_38_method_25_17)
  refine OwnFin.step st6 ?_
  show OwnFin p e below _ (T6.setTop (mkF m 20 #[.val (.ref a), .val (.ref s_)] [(.int (0 : Int32)), (.ref dc), (.ref s_), (.ref a)]))
  have f7 : Sta Z h2 "java/util/ArrayList" "DEFAULTCAPACITY_EMPTY_ELEMENTDATA" "[Ljava/lang/Object;" (.ref dc) := (hp0.wr W2)
  have f8 : Arv Z h2 dc kd (.object "java/lang/Object") (0 : Int32) [] .null := (hp1.other W2 (Ne.symm hp6))
  have f9 : Exa Z h2 a "java/util/ArrayList" := (hp2.wr W2)
  have f10 : Exa Z h2 s_ "java/lang/String" := (hp7.wr W2)
  obtain ⟨cq11, q11, q11'⟩ := f9.cell
  obtain ⟨_, _, ⟨T11, L11, k11, n11⟩, -, X11, ⟨Lc11, hQ11, l11, y11, z11⟩, st11⟩ := X6.privateBack hx (y := (⟨"java/util/ArrayList", "add", "(Ljava/lang/Object;[Ljava/lang/Object;I)V"⟩ : MethodName)) hown (mvT hZ (hw _ (List.mem_of_getElem? (i := 122) rfl))) (mvT hZ (hw _ (List.mem_of_getElem? (i := 123) rfl))) (mvT hZ (hw _ (List.mem_of_getElem? (i := 125) rfl))) (Cond.privateMethod_at (mvP hZ (hw _ (List.mem_of_getElem? (i := 124) rfl)) (args := #[]))) (mvT hZ (hw _ (List.mem_of_getElem? (i := 126) rfl))) (by decide) (backOf (W := 0) (rm9d l Z a0 hw [] a s_ dc kd h2 n0 (Nat.le_trans Z0 (Keep.of_wr W2).1) f7 f8 f9 f3 f5 hp5 hp6 f10) hZ (hw _ (List.mem_of_getElem? (i := 126) rfl)) (hw _ (List.mem_of_getElem? (i := 67) rfl)) (by decide) (by decide)) (g := (mkF m 20 #[.val (.ref a), .val (.ref s_)] [(.int (0 : Int32)), (.ref dc), (.ref s_), (.ref a)])) rfl (by rw [hml]; rfl) (Steps.refl _) (a := a) (by rw [e6]; exact q11) q11' (argsL := [(.ref s_), (.ref dc), (.int (0 : Int32))]) (rest := []) (lenOf pd_188 rfl) rfl (by show 2 * 0 + _ ≤ _; exact Nat.le_of_eq rfl) (hb hby d_jdk_38_method_25_20) (fun _ _ => ⟨rfl, e6, (by decide : 0 + 1 ≤ _), (by decide : 0 + 10 ≤ _)⟩)
  dsimp only [Pt.U, Pt.locs, Pt.cells, Pt.slots] at X11 l11 y11 z11 st11 hQ11
  subst l11 y11 z11
  obtain ⟨rfl, N11q, K11⟩ := hQ11
  have N11 := Fr.app N2 N11q
  refine OwnFin.step (fun tT kK => st11.trans kK) ?_
  show OwnFin p e below _ (T11.setTop (mkF m 23 #[.val (.ref a), .val (.ref s_)] []))
  refine OwnFin.step (fun tT kK => XS.iconst X11.here hx rfl (hb hby d_jdk_38_method_25_23) kK) ?_
  show OwnFin p e below _ (T11.setTop (mkF m 24 #[.val (.ref a), .val (.ref s_)] [(.int (1 : Int32))]))
  obtain ⟨fs12, hr12, hrun12, hended12, hW12, hsame12⟩ := X11.leave (v := (some (.int (1 : Int32)))) (fun h => by rw [Bd.returns] at h; cases h)
  refine ⟨_, _, retN X11 hx (t := .boolean) Bd.returns (by simp) (hb hby d_jdk_38_method_25_24) hr12, hrun12, hended12, _, _, rfl, ?_, ⟨_, rfl⟩, hW12, hsame12.mono (by decide) (by decide)⟩
  show Q9 Z a s_ dc kd h0 n0 _ T11.heap _
  exact ⟨rfl, N11, (((Keep.refl h0 [a]).wr W2 (Or.inl (List.mem_of_getElem? (i := 0) rfl))).trans K11 (allS (P := fun x => x ∈ [a] ∨ h0.size ≤ x) (Or.inl (List.mem_of_getElem? (i := 0) rfl)) all0))⟩
theorem own_c255 (c : Int32) : ¬ (255 : Int32) < ((c &&& (255 : Int32)).toUInt32.toUInt16.toUInt32.toInt32) := by
  have h1 := c_mask c (255 : Int32) 8 (by decide) (by decide)
  have h2 := c_i2c (c &&& (255 : Int32))
  rw [Int32.lt_iff_toInt_lt]
  have h3 : ((255 : Int32)).toInt = 255 := rfl
  omega
theorem pn_191 : plainName "com/example/myna/myna/delivery/LanesDeferringPinLaw" = true := by first | (simp [plainName, overriddenIn]; done) | decide +kernel
theorem pd_192 : parseMethodDescriptor "(Ljava/util/Map;ILjava/util/Set;)Lcom/example/myna/myna/delivery/Deliveries$Lanes;" = some ⟨[(.object "java/util/Map"), .int, (.object "java/util/Set")], some (.object "com/example/myna/myna/delivery/Deliveries$Lanes")⟩ := by decide +kernel
theorem pd_193 : parseMethodDescriptor "(Ljava/util/Set;)Lcom/example/myna/myna/delivery/Deliveries$Lanes;" = some ⟨[(.object "java/util/Set")], some (.object "com/example/myna/myna/delivery/Deliveries$Lanes")⟩ := by decide +kernel
theorem pd_194 : parseMethodDescriptor "()Ljava/util/List;" = some ⟨[], some (.object "java/util/List")⟩ := by decide +kernel
theorem pd_195 : parseMethodDescriptor "()Ljava/util/Map;" = some ⟨[], some (.object "java/util/Map")⟩ := by decide +kernel
theorem pd_196 : parseMethodDescriptor "()I" = some ⟨[], some .int⟩ := by decide +kernel
theorem pd_197 : parseMethodDescriptor "(C)Ljava/lang/String;" = some ⟨[.char], some (.object "java/lang/String")⟩ := by decide +kernel
theorem pd_198 : parseMethodDescriptor "(Ljava/lang/Object;)Z" = some ⟨[(.object "java/lang/Object")], some .boolean⟩ := by decide +kernel
theorem ef_0 (m : MethodId) (fl : Int32) (pe : Int32) (c : Int32) : entryFrame m #[(.int fl), (.int pe), (.int c)] maxLocals = mkF m 0 #[.val (.int fl), .val (.int pe), .val (.int c), .unset, .unset, .unset, .unset, .unset, .unset, .unset] [] := by first | (simp [entryFrame, mkF, argsToLocals, Value.category, maxLocals]; done) | rfl
def Q0 (Z : State) (fl : Int32) (pe : Int32) (c : Int32) (es : Addr) (dc : Addr) (kd : ClassId) (cs : Int32) (h0 : Heap) (n0 : Nat) (vV : Option Value) (hH : Heap) (LL : List Loc) : Prop := vV = some (.int (1 : Int32)) ∧ Fr n0 LL ∧ Keep h0 hH []
def R0 (Z : State) (fl : Int32) (pe : Int32) (c : Int32) (es : Addr) (dc : Addr) (kd : ClassId) (cs : Int32) (h0 : Heap) (n0 : Nat) (U : State) (o : Outcome) (U' : State) : Prop := ∃ vV LL, o = .returned vV ∧ Q0 Z fl pe c es dc kd cs h0 n0 vV U'.heap LL ∧ FrameEnd U o U' LL room_1.cells room_1.slots
set_option maxRecDepth 65536 in
set_option maxHeartbeats 40000000 in
theorem rm0 (l : Launch) (Z : State) (a0 : Array Value) (hw : ∀ d ∈ tables_1, d.before a0 Z = true) (ws : List Jvm.Cond) (fl : Int32) (pe : Int32) (c : Int32) (es : Addr) (dc : Addr) (kd : ClassId) (cs : Int32) (h0 : Heap) (n0 : Nat) (Z0 : n0 ≤ h0.size) (hp0 : Sta Z h0 "java/util/ImmutableCollections" "EMPTY_SET" "Ljava/util/ImmutableCollections$SetN;" (.ref es)) (hp1 : Sta Z h0 "java/util/ArrayList" "DEFAULTCAPACITY_EMPTY_ELEMENTDATA" "[Ljava/lang/Object;" (.ref dc)) (hp2 : Arv Z h0 dc kd (.object "java/lang/Object") (0 : Int32) [] .null) (hp3 : Sta Z h0 "java/lang/String" "COMPACT_STRINGS" "Z" (.int cs)) (hp4 : ¬ cs = (0 : Int32)) :
    MetFree l x (head1 (Jvm.Cond.code x code maxLocals ret :: ws) room_1) (fun aA U => aA = #[(.int fl), (.int pe), (.int c)] ∧ Z.Warmed39 U.vm ∧ U.heap = h0) (fun _ _ _ _ _ => True) (fun _ U o U' => ∃ vV LL, o = .returned vV ∧ Q0 Z fl pe c es dc kd cs h0 n0 vV U'.heap LL ∧ FrameEnd U o U' LL room_1.cells room_1.slots) := by
  refine MetFree.of_bodySF (plainFor_of_name pn_191) hisR ?_
  intro p e s m args below meth cC s₁ Bd hml0 hP hK
  obtain ⟨rfl, hZ, hh⟩ := hP
  have hx := Bd.exec
  have hby := Bd.bytes
  have hml : cC.maxLocals = 10 := hml0
  have hown : s.vm.findClass "com/example/myna/myna/delivery/LanesDeferringPinLaw" = some m.cls := findClass_of_methodNamed Bd.named
  have hnm := (name_of_methodNamed Bd.named Bd.method).1
  have X0 : Stand p l e room_1 s m #[(.int fl), (.int pe), (.int c)] below meth cC s₁ [] 0 0 := Stand.of_body Bd
  have e0 : s₁.heap = h0 := by rw [← hh, Bd.state]; rfl
  have N0 := Fr.nil n0
  show OwnFin p e below (R0 Z fl pe c es dc kd cs h0 n0 s) (s₁.setTop (entryFrame m #[(.int fl), (.int pe), (.int c)] maxLocals))
  rw [ef_0 m fl pe c]
  refine OwnFin.step (fun tT kK => XS.aconstNull X0.here hx rfl (hb hby at_0) kK) ?_
  show OwnFin p e below _ (s₁.setTop (mkF m 1 #[.val (.int fl), .val (.int pe), .val (.int c), .unset, .unset, .unset, .unset, .unset, .unset, .unset] [.null]))
  refine OwnFin.step (fun tT kK => XS.iconst X0.here hx rfl (hb hby at_1) kK) ?_
  show OwnFin p e below _ (s₁.setTop (mkF m 2 #[.val (.int fl), .val (.int pe), .val (.int c), .unset, .unset, .unset, .unset, .unset, .unset, .unset] [(.int (0 : Int32)), .null]))
  refine OwnFin.step (fun tT kK => XS.aconstNull X0.here hx rfl (hb hby at_2) kK) ?_
  show OwnFin p e below _ (s₁.setTop (mkF m 3 #[.val (.int fl), .val (.int pe), .val (.int c), .unset, .unset, .unset, .unset, .unset, .unset, .unset] [.null, (.int (0 : Int32)), .null]))
  obtain ⟨_, _, ⟨T1, L1, k1, n1⟩, -, X1, ⟨Lc1, hQ1, l1, y1, z1⟩, st1⟩ := Jvm.LawKit.callS X0 hx (y := (⟨"com/example/myna/myna/delivery/Deliveries$Lanes", "every", "(Ljava/util/Map;ILjava/util/Set;)Lcom/example/myna/myna/delivery/Deliveries$Lanes;"⟩ : MethodName)) hown (mvT hZ (hw _ (List.mem_of_getElem? (i := 0) rfl))) (mvT hZ (hw _ (List.mem_of_getElem? (i := 1) rfl))) (mvT hZ (hw _ (List.mem_of_getElem? (i := 2) rfl))) (mvT hZ (hw _ (List.mem_of_getElem? (i := 3) rfl))) (by decide) (backOf (W := 0) (rm4 l Z a0 hw [] (0 : Int32) es h0 n0 Z0 hp0) hZ (hw _ (List.mem_of_getElem? (i := 3) rfl)) (hw _ (List.mem_of_getElem? (i := 2) rfl)) (by decide) (by decide)) (g := (mkF m 3 #[.val (.int fl), .val (.int pe), .val (.int c), .unset, .unset, .unset, .unset, .unset, .unset, .unset] [.null, (.int (0 : Int32)), .null])) rfl (by rw [hml]; rfl) (argsL := [.null, (.int (0 : Int32)), .null]) (rest := []) (lenOf pd_192 rfl) rfl (by show 2 * 0 + _ ≤ _; exact Nat.le_of_eq rfl) (hb hby at_3) (fun _ _ => ⟨rfl, e0, (by decide : 0 + 1 ≤ _), (by decide : 0 + 5 ≤ _)⟩)
  dsimp only [Pt.U, Pt.locs, Pt.cells, Pt.slots] at X1 l1 y1 z1 st1 hQ1
  subst l1 y1 z1
  obtain ⟨b2, ⟨rfl, N1q, K1, B1_0, P1_0, P1_1, P1_2, P1_3, P1_4, P1_5⟩⟩ := hQ1
  have N1 := Fr.app N0 N1q
  refine OwnFin.step st1 ?_
  have E1 : Ext h0 T1.heap := ⟨K1.1, fun x c q => K1.2.1 x c q nin0⟩
  show OwnFin p e below _ (T1.setTop (mkF m 6 #[.val (.int fl), .val (.int pe), .val (.int c), .unset, .unset, .unset, .unset, .unset, .unset, .unset] [(.ref b2)]))
  obtain ⟨cq3, kq3, q3a, q3b, q3c⟩ := isOf hZ rfl P1_0
  obtain ⟨_, _, ⟨T3, L3, k3, n3⟩, -, X3, ⟨Lc3, hQ3, l3, y3, z3⟩, st3⟩ := X1.virtualBack hx (y := (⟨"com/example/myna/myna/delivery/Deliveries$Lanes", "deferred", "()Ljava/util/Set;"⟩ : MethodName)) (z := (⟨"com/example/myna/myna/delivery/Deliveries$Lanes", "deferred", "()Ljava/util/Set;"⟩ : MethodName)) hown (mvT hZ (hw _ (List.mem_of_getElem? (i := 33) rfl))) (mvT hZ (hw _ (List.mem_of_getElem? (i := 34) rfl))) (notFace_of_selects (args := #[]) (mvT hZ (hw _ (List.mem_of_getElem? (i := 36) rfl)))) (mvT hZ (hw _ (List.mem_of_getElem? (i := 36) rfl))) (mvT hZ (hw _ (List.mem_of_getElem? (i := 35) rfl))) (by decide) (backOf (W := 0) (rm54 l Z a0 hw [] b2 (.ref es) T1.heap n0 (Nat.le_trans Z0 E1.1) P1_5 rfl) hZ (hw _ (List.mem_of_getElem? (i := 37) rfl)) (hw _ (List.mem_of_getElem? (i := 2) rfl)) (by decide) (by decide)) q3a q3c (g := (mkF m 6 #[.val (.int fl), .val (.int pe), .val (.int c), .unset, .unset, .unset, .unset, .unset, .unset, .unset] [(.ref b2)])) rfl (by rw [hml]; rfl) (Steps.refl _) (argsL := []) (rest := []) (lenOf pd_34 rfl) rfl (by show 2 * 0 + _ ≤ _; exact Nat.le_of_eq rfl) (hb hby at_6) (fun _ _ => ⟨rfl, rfl, (by decide : 1 + 0 ≤ _), (by decide : 5 + 0 ≤ _)⟩)
  dsimp only [Pt.U, Pt.locs, Pt.cells, Pt.slots] at X3 l3 y3 z3 st3 hQ3
  subst l3 y3 z3
  obtain ⟨rfl, N3q, e3⟩ := hQ3
  have N3 := Fr.app N1 N3q
  refine OwnFin.step (fun tT kK => st3.trans kK) ?_
  show OwnFin p e below _ (T3.setTop (mkF m 9 #[.val (.int fl), .val (.int pe), .val (.int c), .unset, .unset, .unset, .unset, .unset, .unset, .unset] [(.ref es)]))
  refine OwnFin.step (fun tT kK => XS.astoreN X3.here hx rfl (hb hby at_9) rfl rfl (l' := #[.val (.int fl), .val (.int pe), .val (.int c), .val (.ref es), .unset, .unset, .unset, .unset, .unset, .unset]) rfl kK) ?_
  show OwnFin p e below _ (T3.setTop (mkF m 10 #[.val (.int fl), .val (.int pe), .val (.int c), .val (.ref es), .unset, .unset, .unset, .unset, .unset, .unset] []))
  refine OwnFin.step (fun tT kK => XS.aconstNull X3.here hx rfl (hb hby at_10) kK) ?_
  show OwnFin p e below _ (T3.setTop (mkF m 11 #[.val (.int fl), .val (.int pe), .val (.int c), .val (.ref es), .unset, .unset, .unset, .unset, .unset, .unset] [.null]))
  refine OwnFin.step (fun tT kK => XS.astore X3.here hx rfl (hb hby at_11) rfl rfl (l' := #[.val (.int fl), .val (.int pe), .val (.int c), .val (.ref es), .val .null, .unset, .unset, .unset, .unset, .unset]) rfl kK) ?_
  show OwnFin p e below _ (T3.setTop (mkF m 13 #[.val (.int fl), .val (.int pe), .val (.int c), .val (.ref es), .val .null, .unset, .unset, .unset, .unset, .unset] []))
  refine OwnFin.step (fun tT kK => XS.iloadN X3.here hx rfl (hb hby at_13) rfl kK) ?_
  show OwnFin p e below _ (T3.setTop (mkF m 14 #[.val (.int fl), .val (.int pe), .val (.int c), .val (.ref es), .val .null, .unset, .unset, .unset, .unset, .unset] [(.int fl)]))
  refine OwnFin.step (fun tT kK => XS.iconst X3.here hx rfl (hb hby at_14) kK) ?_
  show OwnFin p e below _ (T3.setTop (mkF m 15 #[.val (.int fl), .val (.int pe), .val (.int c), .val (.ref es), .val .null, .unset, .unset, .unset, .unset, .unset] [(.int (1 : Int32)), (.int fl)]))
  refine OwnFin.step (fun tT kK => XS.iand X3.here hx rfl (hb hby at_15) rfl kK) ?_
  show OwnFin p e below _ (T3.setTop (mkF m 16 #[.val (.int fl), .val (.int pe), .val (.int c), .val (.ref es), .val .null, .unset, .unset, .unset, .unset, .unset] [(.int (fl &&& (1 : Int32)))]))
  by_cases hc4 : (fl &&& (1 : Int32)) = (0 : Int32)
  · skip
    refine OwnFin.step (fun tT kK => XS.ifYes X3.here hx rfl (pc0 := 16) (pc' := 47) rfl (hb hby at_16) rfl ((if0 _ _).trans (teq (hc4 : (fl &&& (1 : Int32)) = (0 : Int32))).1) (by decide) (by decide) kK) ?_
    show OwnFin p e below _ (T3.setTop (mkF m 47 #[.val (.int fl), .val (.int pe), .val (.int c), .val (.ref es), .val .null, .unset, .unset, .unset, .unset, .unset] []))
    refine OwnFin.step (fun tT kK => XS.iloadN X3.here hx rfl (hb hby at_47) rfl kK) ?_
    show OwnFin p e below _ (T3.setTop (mkF m 48 #[.val (.int fl), .val (.int pe), .val (.int c), .val (.ref es), .val .null, .unset, .unset, .unset, .unset, .unset] [(.int fl)]))
    refine OwnFin.step (fun tT kK => XS.iconst X3.here hx rfl (hb hby at_48) kK) ?_
    show OwnFin p e below _ (T3.setTop (mkF m 49 #[.val (.int fl), .val (.int pe), .val (.int c), .val (.ref es), .val .null, .unset, .unset, .unset, .unset, .unset] [(.int (2 : Int32)), (.int fl)]))
    refine OwnFin.step (fun tT kK => XS.iand X3.here hx rfl (hb hby at_49) rfl kK) ?_
    show OwnFin p e below _ (T3.setTop (mkF m 50 #[.val (.int fl), .val (.int pe), .val (.int c), .val (.ref es), .val .null, .unset, .unset, .unset, .unset, .unset] [(.int (fl &&& (2 : Int32)))]))
    have key5 : ∀ (u5 : Value), u5.isRef = true → OwnFin p e below (R0 Z fl pe c es dc kd cs h0 n0 s) (T3.setTop (mkF m 58 #[.val (.int fl), .val (.int pe), .val (.int c), .val (.ref es), .val .null, .unset, .unset, .unset, .unset, .unset] [u5])) := by
      intro u5 r_u5
      refine OwnFin.step (fun tT kK => XS.astoreS X3.here hx rfl (hb hby at_58) rfl r_u5 (own_cat r_u5) rfl (Or.inl rfl) kK) ?_
      show OwnFin p e below _ (T3.setTop (mkF m 60 #[.val (.int fl), .val (.int pe), .val (.int c), .val (.ref es), .val .null, .val u5, .unset, .unset, .unset, .unset] []))
      refine OwnFin.step (fun tT kK => XS.iloadN X3.here hx rfl (hb hby at_60) rfl kK) ?_
      show OwnFin p e below _ (T3.setTop (mkF m 61 #[.val (.int fl), .val (.int pe), .val (.int c), .val (.ref es), .val .null, .val u5, .unset, .unset, .unset, .unset] [(.int fl)]))
      refine OwnFin.step (fun tT kK => XS.iconst X3.here hx rfl (hb hby at_61) kK) ?_
      show OwnFin p e below _ (T3.setTop (mkF m 62 #[.val (.int fl), .val (.int pe), .val (.int c), .val (.ref es), .val .null, .val u5, .unset, .unset, .unset, .unset] [(.int (4 : Int32)), (.int fl)]))
      refine OwnFin.step (fun tT kK => XS.iand X3.here hx rfl (hb hby at_62) rfl kK) ?_
      show OwnFin p e below _ (T3.setTop (mkF m 63 #[.val (.int fl), .val (.int pe), .val (.int c), .val (.ref es), .val .null, .val u5, .unset, .unset, .unset, .unset] [(.int (fl &&& (4 : Int32)))]))
      have key6 : ∀ (u6 : Value), u6.isRef = true → OwnFin p e below (R0 Z fl pe c es dc kd cs h0 n0 s) (T3.setTop (mkF m 71 #[.val (.int fl), .val (.int pe), .val (.int c), .val (.ref es), .val .null, .val u5, .unset, .unset, .unset, .unset] [u6])) := by
        intro u6 r_u6
        refine OwnFin.step (fun tT kK => XS.astoreS X3.here hx rfl (hb hby at_71) rfl r_u6 (own_cat r_u6) rfl (Or.inl rfl) kK) ?_
        show OwnFin p e below _ (T3.setTop (mkF m 73 #[.val (.int fl), .val (.int pe), .val (.int c), .val (.ref es), .val .null, .val u5, .val u6, .unset, .unset, .unset] []))
        refine OwnFin.step (fun tT kK => XS.iloadN X3.here hx rfl (hb hby at_73) rfl kK) ?_
        show OwnFin p e below _ (T3.setTop (mkF m 74 #[.val (.int fl), .val (.int pe), .val (.int c), .val (.ref es), .val .null, .val u5, .val u6, .unset, .unset, .unset] [(.int fl)]))
        refine OwnFin.step (fun tT kK => XS.bipush X3.here hx rfl (hb hby at_74) kK) ?_
        show OwnFin p e below _ (T3.setTop (mkF m 76 #[.val (.int fl), .val (.int pe), .val (.int c), .val (.ref es), .val .null, .val u5, .val u6, .unset, .unset, .unset] [(.int (8 : Int32)), (.int fl)]))
        refine OwnFin.step (fun tT kK => XS.iand X3.here hx rfl (hb hby at_76) rfl kK) ?_
        show OwnFin p e below _ (T3.setTop (mkF m 77 #[.val (.int fl), .val (.int pe), .val (.int c), .val (.ref es), .val .null, .val u5, .val u6, .unset, .unset, .unset] [(.int (fl &&& (8 : Int32)))]))
        have key7 : ∀ (u7 : Value), u7.isRef = true → OwnFin p e below (R0 Z fl pe c es dc kd cs h0 n0 s) (T3.setTop (mkF m 85 #[.val (.int fl), .val (.int pe), .val (.int c), .val (.ref es), .val .null, .val u5, .val u6, .unset, .unset, .unset] [u7])) := by
          intro u7 r_u7
          refine OwnFin.step (fun tT kK => XS.astoreS X3.here hx rfl (hb hby at_85) rfl r_u7 (own_cat r_u7) rfl (Or.inl rfl) kK) ?_
          show OwnFin p e below _ (T3.setTop (mkF m 87 #[.val (.int fl), .val (.int pe), .val (.int c), .val (.ref es), .val .null, .val u5, .val u6, .val u7, .unset, .unset] []))
          obtain ⟨T8, h8, X8, e8, E8, A8, D8, -, st8⟩ := newO X3 hx hZ hown (hw _ (List.mem_of_getElem? (i := 38) rfl)) (hw _ (List.mem_of_getElem? (i := 5) rfl)) (hw _ (List.mem_of_getElem? (i := 2) rfl)) e3 (g := (mkF m 87 #[.val (.int fl), .val (.int pe), .val (.int c), .val (.ref es), .val .null, .val u5, .val u6, .val u7, .unset, .unset] [])) rfl (hb hby at_87) (by decide) (by decide)
          obtain ⟨b8, g8⟩ : ∃ z, z = T1.heap.size := ⟨_, rfl⟩
          rw [← g8] at A8 D8 st8
          refine OwnFin.step st8 ?_
          have Fz9 : Fld Z h8 b8 "com/example/myna/myna/delivery/Deliveries$Lanes" "endpointIds" "Ljava/util/List;" .null := D8 (Or.inr (hw _ (List.mem_of_getElem? (i := 24) rfl))) (ty := (.object "java/util/List")) (by decide)
          have Fz10 : Fld Z h8 b8 "com/example/myna/myna/delivery/Deliveries$Lanes" "openRequests" "Ljava/util/Map;" .null := D8 (Or.inr (hw _ (List.mem_of_getElem? (i := 26) rfl))) (ty := (.object "java/util/Map")) (by decide)
          have Fz11 : Fld Z h8 b8 "com/example/myna/myna/delivery/Deliveries$Lanes" "perEndpoint" "I" (.int (0 : Int32)) := D8 (Or.inr (hw _ (List.mem_of_getElem? (i := 28) rfl))) (ty := .int) (by decide)
          have Fz12 : Fld Z h8 b8 "com/example/myna/myna/delivery/Deliveries$Lanes" "shut" "Ljava/util/Set;" .null := D8 (Or.inr (hw _ (List.mem_of_getElem? (i := 30) rfl))) (ty := (.object "java/util/Set")) (by decide)
          have Fz13 : Fld Z h8 b8 "com/example/myna/myna/delivery/Deliveries$Lanes" "deferred" "Ljava/util/Set;" .null := D8 (Or.inr (hw _ (List.mem_of_getElem? (i := 32) rfl))) (ty := (.object "java/util/Set")) (by decide)
          show OwnFin p e below _ (T8.setTop (mkF m 90 #[.val (.int fl), .val (.int pe), .val (.int c), .val (.ref es), .val .null, .val u5, .val u6, .val u7, .unset, .unset] [(.ref b8)]))
          refine OwnFin.step (fun tT kK => XS.dup X8.here hx rfl (hb hby at_90) rfl rfl kK) ?_
          show OwnFin p e below _ (T8.setTop (mkF m 91 #[.val (.int fl), .val (.int pe), .val (.int c), .val (.ref es), .val .null, .val u5, .val u6, .val u7, .unset, .unset] [(.ref b8), (.ref b8)]))
          refine OwnFin.step (fun tT kK => XS.aload X8.here hx rfl (hb hby at_91) rfl rfl kK) ?_
          show OwnFin p e below _ (T8.setTop (mkF m 93 #[.val (.int fl), .val (.int pe), .val (.int c), .val (.ref es), .val .null, .val u5, .val u6, .val u7, .unset, .unset] [.null, (.ref b8), (.ref b8)]))
          refine OwnFin.step (fun tT kK => XS.aconstNull X8.here hx rfl (hb hby at_93) kK) ?_
          show OwnFin p e below _ (T8.setTop (mkF m 94 #[.val (.int fl), .val (.int pe), .val (.int c), .val (.ref es), .val .null, .val u5, .val u6, .val u7, .unset, .unset] [.null, .null, (.ref b8), (.ref b8)]))
          refine OwnFin.step (fun tT kK => XS.iloadN X8.here hx rfl (hb hby at_94) rfl kK) ?_
          show OwnFin p e below _ (T8.setTop (mkF m 95 #[.val (.int fl), .val (.int pe), .val (.int c), .val (.ref es), .val .null, .val u5, .val u6, .val u7, .unset, .unset] [(.int pe), .null, .null, (.ref b8), (.ref b8)]))
          refine OwnFin.step (fun tT kK => XS.aload X8.here hx rfl (hb hby at_95) rfl r_u5 kK) ?_
          show OwnFin p e below _ (T8.setTop (mkF m 97 #[.val (.int fl), .val (.int pe), .val (.int c), .val (.ref es), .val .null, .val u5, .val u6, .val u7, .unset, .unset] [u5, (.int pe), .null, .null, (.ref b8), (.ref b8)]))
          refine OwnFin.step (fun tT kK => XS.aload X8.here hx rfl (hb hby at_97) rfl r_u6 kK) ?_
          show OwnFin p e below _ (T8.setTop (mkF m 99 #[.val (.int fl), .val (.int pe), .val (.int c), .val (.ref es), .val .null, .val u5, .val u6, .val u7, .unset, .unset] [u6, u5, (.int pe), .null, .null, (.ref b8), (.ref b8)]))
          obtain ⟨_, _, ⟨T14, L14, k14, n14⟩, -, X14, ⟨Lc14, hQ14, l14, y14, z14⟩, st14⟩ := X8.specialBack hx (y := (⟨"com/example/myna/myna/delivery/Deliveries$Lanes", "<init>", "(Ljava/util/List;Ljava/util/Map;ILjava/util/Set;Ljava/util/Set;)V"⟩ : MethodName)) rfl hown (mvT hZ (hw _ (List.mem_of_getElem? (i := 39) rfl))) (mvT hZ (hw _ (List.mem_of_getElem? (i := 13) rfl))) (mvT hZ (hw _ (List.mem_of_getElem? (i := 14) rfl))) (by decide) (backOf (W := 1) (rm2 l Z a0 hw [] b8 .null .null pe u5 u6 h8 n0 (Nat.le_trans (Nat.le_trans Z0 E1.1) E8.1) A8 Fz9 Fz10 Fz11 Fz12 Fz13 rfl rfl r_u5 r_u6 (Nat.le_trans (Nat.le_trans Z0 E1.1) (Nat.le_of_eq g8.symm))) hZ (hw _ (List.mem_of_getElem? (i := 14) rfl)) (hw _ (List.mem_of_getElem? (i := 2) rfl)) (by decide) (by decide)) (g := (mkF m 99 #[.val (.int fl), .val (.int pe), .val (.int c), .val (.ref es), .val .null, .val u5, .val u6, .val u7, .unset, .unset] [u6, u5, (.int pe), .null, .null, (.ref b8), (.ref b8)])) rfl (by rw [hml]; rfl) (Steps.refl _) (a := b8) (argsL := [.null, .null, (.int pe), u5, u6]) (rest := [(.ref b8)]) (lenOf pd_36 rfl) rfl (by show 2 * 0 + _ ≤ _; exact Nat.le_of_eq rfl) (hb hby at_99) (fun _ _ => ⟨rfl, e8, (by decide : 2 + 0 ≤ _), (by decide : 10 + 0 ≤ _)⟩)
          dsimp only [Pt.U, Pt.locs, Pt.cells, Pt.slots] at X14 l14 y14 z14 st14 hQ14
          subst l14 y14 z14
          obtain ⟨rfl, N14q, K14, P14_0, P14_1, P14_2, P14_3, P14_4, P14_5⟩ := hQ14
          have N14 := Fr.app N3 N14q
          refine OwnFin.step (fun tT kK => st14.trans kK) ?_
          show OwnFin p e below _ (T14.setTop (mkF m 102 #[.val (.int fl), .val (.int pe), .val (.int c), .val (.ref es), .val .null, .val u5, .val u6, .val u7, .unset, .unset] [(.ref b8)]))
          refine OwnFin.step (fun tT kK => XS.astore X14.here hx rfl (hb hby at_102) rfl rfl (l' := #[.val (.int fl), .val (.int pe), .val (.int c), .val (.ref es), .val .null, .val u5, .val u6, .val u7, .val (.ref b8), .unset]) rfl kK) ?_
          show OwnFin p e below _ (T14.setTop (mkF m 104 #[.val (.int fl), .val (.int pe), .val (.int c), .val (.ref es), .val .null, .val u5, .val u6, .val u7, .val (.ref b8), .unset] []))
          refine OwnFin.step (fun tT kK => XS.aload X14.here hx rfl (hb hby at_104) rfl rfl kK) ?_
          show OwnFin p e below _ (T14.setTop (mkF m 106 #[.val (.int fl), .val (.int pe), .val (.int c), .val (.ref es), .val .null, .val u5, .val u6, .val u7, .val (.ref b8), .unset] [(.ref b8)]))
          refine OwnFin.step (fun tT kK => XS.aload X14.here hx rfl (hb hby at_106) rfl r_u7 kK) ?_
          show OwnFin p e below _ (T14.setTop (mkF m 108 #[.val (.int fl), .val (.int pe), .val (.int c), .val (.ref es), .val .null, .val u5, .val u6, .val u7, .val (.ref b8), .unset] [u7, (.ref b8)]))
          obtain ⟨cq15, kq15, q15a, q15b, q15c⟩ := isOf hZ rfl P14_0
          obtain ⟨_, _, ⟨T15, L15, k15, n15⟩, -, X15, ⟨Lc15, hQ15, l15, y15, z15⟩, st15⟩ := X14.virtualBack hx (y := (⟨"com/example/myna/myna/delivery/Deliveries$Lanes", "deferring", "(Ljava/util/Set;)Lcom/example/myna/myna/delivery/Deliveries$Lanes;"⟩ : MethodName)) (z := (⟨"com/example/myna/myna/delivery/Deliveries$Lanes", "deferring", "(Ljava/util/Set;)Lcom/example/myna/myna/delivery/Deliveries$Lanes;"⟩ : MethodName)) hown (mvT hZ (hw _ (List.mem_of_getElem? (i := 40) rfl))) (mvT hZ (hw _ (List.mem_of_getElem? (i := 41) rfl))) (notFace_of_selects (args := #[]) (mvT hZ (hw _ (List.mem_of_getElem? (i := 43) rfl)))) (mvT hZ (hw _ (List.mem_of_getElem? (i := 43) rfl))) (mvT hZ (hw _ (List.mem_of_getElem? (i := 42) rfl))) (by decide) (backOf (W := 0) (rm6 l Z a0 hw [] b8 u7 .null .null pe u5 T14.heap n0 (Nat.le_trans (Nat.le_trans (Nat.le_trans Z0 E1.1) E8.1) K14.1) P14_1 P14_2 P14_3 P14_4 r_u7 rfl rfl r_u5) hZ (hw _ (List.mem_of_getElem? (i := 44) rfl)) (hw _ (List.mem_of_getElem? (i := 2) rfl)) (by decide) (by decide)) q15a q15c (g := (mkF m 108 #[.val (.int fl), .val (.int pe), .val (.int c), .val (.ref es), .val .null, .val u5, .val u6, .val u7, .val (.ref b8), .unset] [u7, (.ref b8)])) rfl (by rw [hml]; rfl) (Steps.refl _) (argsL := [u7]) (rest := []) (lenOf pd_193 rfl) rfl (by show 2 * 0 + _ ≤ _; exact Nat.le_of_eq rfl) (hb hby at_108) (fun _ _ => ⟨rfl, rfl, (by decide : 2 + 1 ≤ _), (by decide : 10 + 5 ≤ _)⟩)
          dsimp only [Pt.U, Pt.locs, Pt.cells, Pt.slots] at X15 l15 y15 z15 st15 hQ15
          subst l15 y15 z15
          obtain ⟨b16, ⟨rfl, N15q, K15, B15_0, P15_0, P15_1, P15_2, P15_3, P15_4, P15_5⟩⟩ := hQ15
          have N15 := Fr.app N14 N15q
          refine OwnFin.step (fun tT kK => st15.trans kK) ?_
          have E15 : Ext T14.heap T15.heap := ⟨K15.1, fun x c q => K15.2.1 x c q nin0⟩
          show OwnFin p e below _ (T15.setTop (mkF m 111 #[.val (.int fl), .val (.int pe), .val (.int c), .val (.ref es), .val .null, .val u5, .val u6, .val u7, .val (.ref b8), .unset] [(.ref b16)]))
          refine OwnFin.step (fun tT kK => XS.astore X15.here hx rfl (hb hby at_111) rfl rfl (l' := #[.val (.int fl), .val (.int pe), .val (.int c), .val (.ref es), .val .null, .val u5, .val u6, .val u7, .val (.ref b8), .val (.ref b16)]) rfl kK) ?_
          show OwnFin p e below _ (T15.setTop (mkF m 113 #[.val (.int fl), .val (.int pe), .val (.int c), .val (.ref es), .val .null, .val u5, .val u6, .val u7, .val (.ref b8), .val (.ref b16)] []))
          refine OwnFin.step (fun tT kK => XS.aloadN X15.here hx rfl (hb hby at_113) rfl rfl kK) ?_
          show OwnFin p e below _ (T15.setTop (mkF m 114 #[.val (.int fl), .val (.int pe), .val (.int c), .val (.ref es), .val .null, .val u5, .val u6, .val u7, .val (.ref b8), .val (.ref b16)] [(.ref es)]))
          refine OwnFin.step (fun tT kK => XS.ifnullNo X15.here hx rfl (hb hby at_114) rfl kK) ?_
          show OwnFin p e below _ (T15.setTop (mkF m 117 #[.val (.int fl), .val (.int pe), .val (.int c), .val (.ref es), .val .null, .val u5, .val u6, .val u7, .val (.ref b8), .val (.ref b16)] []))
          refine OwnFin.step (fun tT kK => XS.aload X15.here hx rfl (hb hby at_117) rfl rfl kK) ?_
          show OwnFin p e below _ (T15.setTop (mkF m 119 #[.val (.int fl), .val (.int pe), .val (.int c), .val (.ref es), .val .null, .val u5, .val u6, .val u7, .val (.ref b8), .val (.ref b16)] [(.ref b16)]))
          refine OwnFin.step (fun tT kK => XS.ifnullNo X15.here hx rfl (hb hby at_119) rfl kK) ?_
          show OwnFin p e below _ (T15.setTop (mkF m 122 #[.val (.int fl), .val (.int pe), .val (.int c), .val (.ref es), .val .null, .val u5, .val u6, .val u7, .val (.ref b8), .val (.ref b16)] []))
          refine OwnFin.step (fun tT kK => XS.aload X15.here hx rfl (hb hby at_122) rfl rfl kK) ?_
          show OwnFin p e below _ (T15.setTop (mkF m 124 #[.val (.int fl), .val (.int pe), .val (.int c), .val (.ref es), .val .null, .val u5, .val u6, .val u7, .val (.ref b8), .val (.ref b16)] [(.ref b16)]))
          obtain ⟨cq17, kq17, q17a, q17b, q17c⟩ := isOf hZ rfl P15_0
          obtain ⟨_, _, ⟨T17, L17, k17, n17⟩, -, X17, ⟨Lc17, hQ17, l17, y17, z17⟩, st17⟩ := X15.virtualBack hx (y := (⟨"com/example/myna/myna/delivery/Deliveries$Lanes", "deferred", "()Ljava/util/Set;"⟩ : MethodName)) (z := (⟨"com/example/myna/myna/delivery/Deliveries$Lanes", "deferred", "()Ljava/util/Set;"⟩ : MethodName)) hown (mvT hZ (hw _ (List.mem_of_getElem? (i := 33) rfl))) (mvT hZ (hw _ (List.mem_of_getElem? (i := 34) rfl))) (notFace_of_selects (args := #[]) (mvT hZ (hw _ (List.mem_of_getElem? (i := 36) rfl)))) (mvT hZ (hw _ (List.mem_of_getElem? (i := 36) rfl))) (mvT hZ (hw _ (List.mem_of_getElem? (i := 35) rfl))) (by decide) (backOf (W := 0) (rm54 l Z a0 hw [] b16 u7 T15.heap n0 (Nat.le_trans (Nat.le_trans (Nat.le_trans (Nat.le_trans Z0 E1.1) E8.1) K14.1) E15.1) P15_5 r_u7) hZ (hw _ (List.mem_of_getElem? (i := 37) rfl)) (hw _ (List.mem_of_getElem? (i := 2) rfl)) (by decide) (by decide)) q17a q17c (g := (mkF m 124 #[.val (.int fl), .val (.int pe), .val (.int c), .val (.ref es), .val .null, .val u5, .val u6, .val u7, .val (.ref b8), .val (.ref b16)] [(.ref b16)])) rfl (by rw [hml]; rfl) (Steps.refl _) (argsL := []) (rest := []) (lenOf pd_34 rfl) rfl (by show 2 * 0 + _ ≤ _; exact Nat.le_of_eq rfl) (hb hby at_124) (fun _ _ => ⟨rfl, rfl, (by decide : 3 + 0 ≤ _), (by decide : 15 + 0 ≤ _)⟩)
          dsimp only [Pt.U, Pt.locs, Pt.cells, Pt.slots] at X17 l17 y17 z17 st17 hQ17
          subst l17 y17 z17
          obtain ⟨rfl, N17q, e17⟩ := hQ17
          have N17 := Fr.app N15 N17q
          refine OwnFin.step (fun tT kK => st17.trans kK) ?_
          show OwnFin p e below _ (T17.setTop (mkF m 127 #[.val (.int fl), .val (.int pe), .val (.int c), .val (.ref es), .val .null, .val u5, .val u6, .val u7, .val (.ref b8), .val (.ref b16)] [u7]))
          refine OwnFin.step (fun tT kK => XS.aload X17.here hx rfl (hb hby at_127) rfl r_u7 kK) ?_
          show OwnFin p e below _ (T17.setTop (mkF m 129 #[.val (.int fl), .val (.int pe), .val (.int c), .val (.ref es), .val .null, .val u5, .val u6, .val u7, .val (.ref b8), .val (.ref b16)] [u7, u7]))
          refine OwnFin.step (fun tT kK => Jvm.RoadKit.acmp (g := (mkF m 129 #[.val (.int fl), .val (.int pe), .val (.int c), .val (.ref es), .val .null, .val u5, .val u6, .val u7, .val (.ref b8), .val (.ref b16)] [u7, u7])) X17 hx rfl r_u7 r_u7 (pc0 := 129) (pc' := 132) (same := true) rfl (hb hby at_129) rfl (decide_eq_true rfl) (by decide) (by decide) kK) ?_
          show OwnFin p e below _ (T17.setTop (mkF m 132 #[.val (.int fl), .val (.int pe), .val (.int c), .val (.ref es), .val .null, .val u5, .val u6, .val u7, .val (.ref b8), .val (.ref b16)] []))
          refine OwnFin.step (fun tT kK => XS.aload X17.here hx rfl (hb hby at_132) rfl rfl kK) ?_
          show OwnFin p e below _ (T17.setTop (mkF m 134 #[.val (.int fl), .val (.int pe), .val (.int c), .val (.ref es), .val .null, .val u5, .val u6, .val u7, .val (.ref b8), .val (.ref b16)] [(.ref b16)]))
          obtain ⟨cq18, kq18, q18a, q18b, q18c⟩ := isOf hZ e17 P15_0
          obtain ⟨_, _, ⟨T18, L18, k18, n18⟩, -, X18, ⟨Lc18, hQ18, l18, y18, z18⟩, st18⟩ := X17.virtualBack hx (y := (⟨"com/example/myna/myna/delivery/Deliveries$Lanes", "endpointIds", "()Ljava/util/List;"⟩ : MethodName)) (z := (⟨"com/example/myna/myna/delivery/Deliveries$Lanes", "endpointIds", "()Ljava/util/List;"⟩ : MethodName)) hown (mvT hZ (hw _ (List.mem_of_getElem? (i := 45) rfl))) (mvT hZ (hw _ (List.mem_of_getElem? (i := 46) rfl))) (notFace_of_selects (args := #[]) (mvT hZ (hw _ (List.mem_of_getElem? (i := 48) rfl)))) (mvT hZ (hw _ (List.mem_of_getElem? (i := 48) rfl))) (mvT hZ (hw _ (List.mem_of_getElem? (i := 47) rfl))) (by decide) (backOf (W := 0) (rm50 l Z a0 hw [] b16 .null T15.heap n0 (Nat.le_trans (Nat.le_trans (Nat.le_trans (Nat.le_trans Z0 E1.1) E8.1) K14.1) E15.1) P15_1 rfl) hZ (hw _ (List.mem_of_getElem? (i := 49) rfl)) (hw _ (List.mem_of_getElem? (i := 2) rfl)) (by decide) (by decide)) q18a q18c (g := (mkF m 134 #[.val (.int fl), .val (.int pe), .val (.int c), .val (.ref es), .val .null, .val u5, .val u6, .val u7, .val (.ref b8), .val (.ref b16)] [(.ref b16)])) rfl (by rw [hml]; rfl) (Steps.refl _) (argsL := []) (rest := []) (lenOf pd_194 rfl) rfl (by show 2 * 0 + _ ≤ _; exact Nat.le_of_eq rfl) (hb hby at_134) (fun _ _ => ⟨rfl, e17, (by decide : 3 + 0 ≤ _), (by decide : 15 + 0 ≤ _)⟩)
          dsimp only [Pt.U, Pt.locs, Pt.cells, Pt.slots] at X18 l18 y18 z18 st18 hQ18
          subst l18 y18 z18
          obtain ⟨rfl, N18q, e18⟩ := hQ18
          have N18 := Fr.app N17 N18q
          refine OwnFin.step (fun tT kK => st18.trans kK) ?_
          show OwnFin p e below _ (T18.setTop (mkF m 137 #[.val (.int fl), .val (.int pe), .val (.int c), .val (.ref es), .val .null, .val u5, .val u6, .val u7, .val (.ref b8), .val (.ref b16)] [.null]))
          refine OwnFin.step (fun tT kK => XS.aload X18.here hx rfl (hb hby at_137) rfl rfl kK) ?_
          show OwnFin p e below _ (T18.setTop (mkF m 139 #[.val (.int fl), .val (.int pe), .val (.int c), .val (.ref es), .val .null, .val u5, .val u6, .val u7, .val (.ref b8), .val (.ref b16)] [.null, .null]))
          refine OwnFin.step (fun tT kK => Jvm.RoadKit.acmp (g := (mkF m 139 #[.val (.int fl), .val (.int pe), .val (.int c), .val (.ref es), .val .null, .val u5, .val u6, .val u7, .val (.ref b8), .val (.ref b16)] [.null, .null])) X18 hx rfl rfl rfl (pc0 := 139) (pc' := 142) (same := true) rfl (hb hby at_139) rfl (decide_eq_true rfl) (by decide) (by decide) kK) ?_
          show OwnFin p e below _ (T18.setTop (mkF m 142 #[.val (.int fl), .val (.int pe), .val (.int c), .val (.ref es), .val .null, .val u5, .val u6, .val u7, .val (.ref b8), .val (.ref b16)] []))
          refine OwnFin.step (fun tT kK => XS.aload X18.here hx rfl (hb hby at_142) rfl rfl kK) ?_
          show OwnFin p e below _ (T18.setTop (mkF m 144 #[.val (.int fl), .val (.int pe), .val (.int c), .val (.ref es), .val .null, .val u5, .val u6, .val u7, .val (.ref b8), .val (.ref b16)] [(.ref b16)]))
          obtain ⟨cq19, kq19, q19a, q19b, q19c⟩ := isOf hZ e18 P15_0
          obtain ⟨_, _, ⟨T19, L19, k19, n19⟩, -, X19, ⟨Lc19, hQ19, l19, y19, z19⟩, st19⟩ := X18.virtualBack hx (y := (⟨"com/example/myna/myna/delivery/Deliveries$Lanes", "openRequests", "()Ljava/util/Map;"⟩ : MethodName)) (z := (⟨"com/example/myna/myna/delivery/Deliveries$Lanes", "openRequests", "()Ljava/util/Map;"⟩ : MethodName)) hown (mvT hZ (hw _ (List.mem_of_getElem? (i := 50) rfl))) (mvT hZ (hw _ (List.mem_of_getElem? (i := 51) rfl))) (notFace_of_selects (args := #[]) (mvT hZ (hw _ (List.mem_of_getElem? (i := 53) rfl)))) (mvT hZ (hw _ (List.mem_of_getElem? (i := 53) rfl))) (mvT hZ (hw _ (List.mem_of_getElem? (i := 52) rfl))) (by decide) (backOf (W := 0) (rm51 l Z a0 hw [] b16 .null T15.heap n0 (Nat.le_trans (Nat.le_trans (Nat.le_trans (Nat.le_trans Z0 E1.1) E8.1) K14.1) E15.1) P15_2 rfl) hZ (hw _ (List.mem_of_getElem? (i := 54) rfl)) (hw _ (List.mem_of_getElem? (i := 2) rfl)) (by decide) (by decide)) q19a q19c (g := (mkF m 144 #[.val (.int fl), .val (.int pe), .val (.int c), .val (.ref es), .val .null, .val u5, .val u6, .val u7, .val (.ref b8), .val (.ref b16)] [(.ref b16)])) rfl (by rw [hml]; rfl) (Steps.refl _) (argsL := []) (rest := []) (lenOf pd_195 rfl) rfl (by show 2 * 0 + _ ≤ _; exact Nat.le_of_eq rfl) (hb hby at_144) (fun _ _ => ⟨rfl, e18, (by decide : 3 + 0 ≤ _), (by decide : 15 + 0 ≤ _)⟩)
          dsimp only [Pt.U, Pt.locs, Pt.cells, Pt.slots] at X19 l19 y19 z19 st19 hQ19
          subst l19 y19 z19
          obtain ⟨rfl, N19q, e19⟩ := hQ19
          have N19 := Fr.app N18 N19q
          refine OwnFin.step (fun tT kK => st19.trans kK) ?_
          show OwnFin p e below _ (T19.setTop (mkF m 147 #[.val (.int fl), .val (.int pe), .val (.int c), .val (.ref es), .val .null, .val u5, .val u6, .val u7, .val (.ref b8), .val (.ref b16)] [.null]))
          refine OwnFin.step (fun tT kK => XS.ifnonnullNo X19.here hx rfl (hb hby at_147) rfl kK) ?_
          show OwnFin p e below _ (T19.setTop (mkF m 150 #[.val (.int fl), .val (.int pe), .val (.int c), .val (.ref es), .val .null, .val u5, .val u6, .val u7, .val (.ref b8), .val (.ref b16)] []))
          refine OwnFin.step (fun tT kK => XS.aload X19.here hx rfl (hb hby at_150) rfl rfl kK) ?_
          show OwnFin p e below _ (T19.setTop (mkF m 152 #[.val (.int fl), .val (.int pe), .val (.int c), .val (.ref es), .val .null, .val u5, .val u6, .val u7, .val (.ref b8), .val (.ref b16)] [(.ref b16)]))
          obtain ⟨cq20, kq20, q20a, q20b, q20c⟩ := isOf hZ e19 P15_0
          obtain ⟨_, _, ⟨T20, L20, k20, n20⟩, -, X20, ⟨Lc20, hQ20, l20, y20, z20⟩, st20⟩ := X19.virtualBack hx (y := (⟨"com/example/myna/myna/delivery/Deliveries$Lanes", "perEndpoint", "()I"⟩ : MethodName)) (z := (⟨"com/example/myna/myna/delivery/Deliveries$Lanes", "perEndpoint", "()I"⟩ : MethodName)) hown (mvT hZ (hw _ (List.mem_of_getElem? (i := 55) rfl))) (mvT hZ (hw _ (List.mem_of_getElem? (i := 56) rfl))) (notFace_of_selects (args := #[]) (mvT hZ (hw _ (List.mem_of_getElem? (i := 58) rfl)))) (mvT hZ (hw _ (List.mem_of_getElem? (i := 58) rfl))) (mvT hZ (hw _ (List.mem_of_getElem? (i := 57) rfl))) (by decide) (backOf (W := 0) (rm52 l Z a0 hw [] b16 pe T15.heap n0 (Nat.le_trans (Nat.le_trans (Nat.le_trans (Nat.le_trans Z0 E1.1) E8.1) K14.1) E15.1) P15_3) hZ (hw _ (List.mem_of_getElem? (i := 59) rfl)) (hw _ (List.mem_of_getElem? (i := 2) rfl)) (by decide) (by decide)) q20a q20c (g := (mkF m 152 #[.val (.int fl), .val (.int pe), .val (.int c), .val (.ref es), .val .null, .val u5, .val u6, .val u7, .val (.ref b8), .val (.ref b16)] [(.ref b16)])) rfl (by rw [hml]; rfl) (Steps.refl _) (argsL := []) (rest := []) (lenOf pd_196 rfl) rfl (by show 2 * 0 + _ ≤ _; exact Nat.le_of_eq rfl) (hb hby at_152) (fun _ _ => ⟨rfl, e19, (by decide : 3 + 0 ≤ _), (by decide : 15 + 0 ≤ _)⟩)
          dsimp only [Pt.U, Pt.locs, Pt.cells, Pt.slots] at X20 l20 y20 z20 st20 hQ20
          subst l20 y20 z20
          obtain ⟨rfl, N20q, e20⟩ := hQ20
          have N20 := Fr.app N19 N20q
          refine OwnFin.step (fun tT kK => st20.trans kK) ?_
          show OwnFin p e below _ (T20.setTop (mkF m 155 #[.val (.int fl), .val (.int pe), .val (.int c), .val (.ref es), .val .null, .val u5, .val u6, .val u7, .val (.ref b8), .val (.ref b16)] [(.int pe)]))
          refine OwnFin.step (fun tT kK => XS.iloadN X20.here hx rfl (hb hby at_155) rfl kK) ?_
          show OwnFin p e below _ (T20.setTop (mkF m 156 #[.val (.int fl), .val (.int pe), .val (.int c), .val (.ref es), .val .null, .val u5, .val u6, .val u7, .val (.ref b8), .val (.ref b16)] [(.int pe), (.int pe)]))
          refine OwnFin.step (fun tT kK => XS.icmpNo X20.here hx rfl (hb hby at_156) rfl (teq (rfl : pe = pe)).2 kK) ?_
          show OwnFin p e below _ (T20.setTop (mkF m 159 #[.val (.int fl), .val (.int pe), .val (.int c), .val (.ref es), .val .null, .val u5, .val u6, .val u7, .val (.ref b8), .val (.ref b16)] []))
          refine OwnFin.step (fun tT kK => XS.aload X20.here hx rfl (hb hby at_159) rfl rfl kK) ?_
          show OwnFin p e below _ (T20.setTop (mkF m 161 #[.val (.int fl), .val (.int pe), .val (.int c), .val (.ref es), .val .null, .val u5, .val u6, .val u7, .val (.ref b8), .val (.ref b16)] [(.ref b16)]))
          obtain ⟨cq21, kq21, q21a, q21b, q21c⟩ := isOf hZ e20 P15_0
          obtain ⟨_, _, ⟨T21, L21, k21, n21⟩, -, X21, ⟨Lc21, hQ21, l21, y21, z21⟩, st21⟩ := X20.virtualBack hx (y := (⟨"com/example/myna/myna/delivery/Deliveries$Lanes", "shut", "()Ljava/util/Set;"⟩ : MethodName)) (z := (⟨"com/example/myna/myna/delivery/Deliveries$Lanes", "shut", "()Ljava/util/Set;"⟩ : MethodName)) hown (mvT hZ (hw _ (List.mem_of_getElem? (i := 60) rfl))) (mvT hZ (hw _ (List.mem_of_getElem? (i := 61) rfl))) (notFace_of_selects (args := #[]) (mvT hZ (hw _ (List.mem_of_getElem? (i := 63) rfl)))) (mvT hZ (hw _ (List.mem_of_getElem? (i := 63) rfl))) (mvT hZ (hw _ (List.mem_of_getElem? (i := 62) rfl))) (by decide) (backOf (W := 0) (rm53 l Z a0 hw [] b16 u5 T15.heap n0 (Nat.le_trans (Nat.le_trans (Nat.le_trans (Nat.le_trans Z0 E1.1) E8.1) K14.1) E15.1) P15_4 r_u5) hZ (hw _ (List.mem_of_getElem? (i := 64) rfl)) (hw _ (List.mem_of_getElem? (i := 2) rfl)) (by decide) (by decide)) q21a q21c (g := (mkF m 161 #[.val (.int fl), .val (.int pe), .val (.int c), .val (.ref es), .val .null, .val u5, .val u6, .val u7, .val (.ref b8), .val (.ref b16)] [(.ref b16)])) rfl (by rw [hml]; rfl) (Steps.refl _) (argsL := []) (rest := []) (lenOf pd_34 rfl) rfl (by show 2 * 0 + _ ≤ _; exact Nat.le_of_eq rfl) (hb hby at_161) (fun _ _ => ⟨rfl, e20, (by decide : 3 + 0 ≤ _), (by decide : 15 + 0 ≤ _)⟩)
          dsimp only [Pt.U, Pt.locs, Pt.cells, Pt.slots] at X21 l21 y21 z21 st21 hQ21
          subst l21 y21 z21
          obtain ⟨rfl, N21q, e21⟩ := hQ21
          have N21 := Fr.app N20 N21q
          refine OwnFin.step (fun tT kK => st21.trans kK) ?_
          show OwnFin p e below _ (T21.setTop (mkF m 164 #[.val (.int fl), .val (.int pe), .val (.int c), .val (.ref es), .val .null, .val u5, .val u6, .val u7, .val (.ref b8), .val (.ref b16)] [u5]))
          refine OwnFin.step (fun tT kK => XS.aload X21.here hx rfl (hb hby at_164) rfl r_u5 kK) ?_
          show OwnFin p e below _ (T21.setTop (mkF m 166 #[.val (.int fl), .val (.int pe), .val (.int c), .val (.ref es), .val .null, .val u5, .val u6, .val u7, .val (.ref b8), .val (.ref b16)] [u5, u5]))
          refine OwnFin.step (fun tT kK => Jvm.RoadKit.acmp (g := (mkF m 166 #[.val (.int fl), .val (.int pe), .val (.int c), .val (.ref es), .val .null, .val u5, .val u6, .val u7, .val (.ref b8), .val (.ref b16)] [u5, u5])) X21 hx rfl r_u5 r_u5 (pc0 := 166) (pc' := 169) (same := true) rfl (hb hby at_166) rfl (decide_eq_true rfl) (by decide) (by decide) kK) ?_
          show OwnFin p e below _ (T21.setTop (mkF m 169 #[.val (.int fl), .val (.int pe), .val (.int c), .val (.ref es), .val .null, .val u5, .val u6, .val u7, .val (.ref b8), .val (.ref b16)] []))
          refine OwnFin.step (fun tT kK => XS.aload X21.here hx rfl (hb hby at_169) rfl rfl kK) ?_
          show OwnFin p e below _ (T21.setTop (mkF m 171 #[.val (.int fl), .val (.int pe), .val (.int c), .val (.ref es), .val .null, .val u5, .val u6, .val u7, .val (.ref b8), .val (.ref b16)] [(.ref b8)]))
          have f22 : Fld Z T15.heap b8 "com/example/myna/myna/delivery/Deliveries$Lanes" "deferred" "Ljava/util/Set;" u6 := (P14_5.ext E15)
          have f24 : Exa Z T15.heap b8 "com/example/myna/myna/delivery/Deliveries$Lanes" := (P14_0.ext E15)
          obtain ⟨cq23, kq23, q23a, q23b, q23c⟩ := isOf hZ e21 f24
          obtain ⟨_, _, ⟨T23, L23, k23, n23⟩, -, X23, ⟨Lc23, hQ23, l23, y23, z23⟩, st23⟩ := X21.virtualBack hx (y := (⟨"com/example/myna/myna/delivery/Deliveries$Lanes", "deferred", "()Ljava/util/Set;"⟩ : MethodName)) (z := (⟨"com/example/myna/myna/delivery/Deliveries$Lanes", "deferred", "()Ljava/util/Set;"⟩ : MethodName)) hown (mvT hZ (hw _ (List.mem_of_getElem? (i := 33) rfl))) (mvT hZ (hw _ (List.mem_of_getElem? (i := 34) rfl))) (notFace_of_selects (args := #[]) (mvT hZ (hw _ (List.mem_of_getElem? (i := 36) rfl)))) (mvT hZ (hw _ (List.mem_of_getElem? (i := 36) rfl))) (mvT hZ (hw _ (List.mem_of_getElem? (i := 35) rfl))) (by decide) (backOf (W := 0) (rm54 l Z a0 hw [] b8 u6 T15.heap n0 (Nat.le_trans (Nat.le_trans (Nat.le_trans (Nat.le_trans Z0 E1.1) E8.1) K14.1) E15.1) f22 r_u6) hZ (hw _ (List.mem_of_getElem? (i := 37) rfl)) (hw _ (List.mem_of_getElem? (i := 2) rfl)) (by decide) (by decide)) q23a q23c (g := (mkF m 171 #[.val (.int fl), .val (.int pe), .val (.int c), .val (.ref es), .val .null, .val u5, .val u6, .val u7, .val (.ref b8), .val (.ref b16)] [(.ref b8)])) rfl (by rw [hml]; rfl) (Steps.refl _) (argsL := []) (rest := []) (lenOf pd_34 rfl) rfl (by show 2 * 0 + _ ≤ _; exact Nat.le_of_eq rfl) (hb hby at_171) (fun _ _ => ⟨rfl, e21, (by decide : 3 + 0 ≤ _), (by decide : 15 + 0 ≤ _)⟩)
          dsimp only [Pt.U, Pt.locs, Pt.cells, Pt.slots] at X23 l23 y23 z23 st23 hQ23
          subst l23 y23 z23
          obtain ⟨rfl, N23q, e23⟩ := hQ23
          have N23 := Fr.app N21 N23q
          refine OwnFin.step (fun tT kK => st23.trans kK) ?_
          show OwnFin p e below _ (T23.setTop (mkF m 174 #[.val (.int fl), .val (.int pe), .val (.int c), .val (.ref es), .val .null, .val u5, .val u6, .val u7, .val (.ref b8), .val (.ref b16)] [u6]))
          refine OwnFin.step (fun tT kK => XS.aload X23.here hx rfl (hb hby at_174) rfl r_u6 kK) ?_
          show OwnFin p e below _ (T23.setTop (mkF m 176 #[.val (.int fl), .val (.int pe), .val (.int c), .val (.ref es), .val .null, .val u5, .val u6, .val u7, .val (.ref b8), .val (.ref b16)] [u6, u6]))
          refine OwnFin.step (fun tT kK => Jvm.RoadKit.acmp (g := (mkF m 176 #[.val (.int fl), .val (.int pe), .val (.int c), .val (.ref es), .val .null, .val u5, .val u6, .val u7, .val (.ref b8), .val (.ref b16)] [u6, u6])) X23 hx rfl r_u6 r_u6 (pc0 := 176) (pc' := 179) (same := true) rfl (hb hby at_176) rfl (decide_eq_true rfl) (by decide) (by decide) kK) ?_
          show OwnFin p e below _ (T23.setTop (mkF m 179 #[.val (.int fl), .val (.int pe), .val (.int c), .val (.ref es), .val .null, .val u5, .val u6, .val u7, .val (.ref b8), .val (.ref b16)] []))
          refine OwnFin.step (fun tT kK => XS.iconst X23.here hx rfl (hb hby at_179) kK) ?_
          show OwnFin p e below _ (T23.setTop (mkF m 180 #[.val (.int fl), .val (.int pe), .val (.int c), .val (.ref es), .val .null, .val u5, .val u6, .val u7, .val (.ref b8), .val (.ref b16)] [(.int (1 : Int32))]))
          refine OwnFin.step (fun tT kK => XS.goto X23.here hx rfl (pc0 := 180) (pc' := 184) rfl (hb hby at_180) (by decide) (by decide) kK) ?_
          show OwnFin p e below _ (T23.setTop (mkF m 184 #[.val (.int fl), .val (.int pe), .val (.int c), .val (.ref es), .val .null, .val u5, .val u6, .val u7, .val (.ref b8), .val (.ref b16)] [(.int (1 : Int32))]))
          obtain ⟨fs25, hr25, hrun25, hended25, hW25, hsame25⟩ := X23.leave (v := (some (.int (1 : Int32)))) (fun h => by rw [Bd.returns] at h; cases h)
          refine ⟨_, _, retN X23 hx (t := .boolean) Bd.returns (by simp) (hb hby at_184) hr25, hrun25, hended25, _, _, rfl, ?_, ⟨_, rfl⟩, hW25, hsame25.mono (by decide) (by decide)⟩
          show Q0 Z fl pe c es dc kd cs h0 n0 _ T23.heap _
          rw [e23]
          exact ⟨rfl, N23, (((((Keep.refl h0 []).ext E1).ext E8).trans K14 (allS (P := fun x => x ∈ [] ∨ h0.size ≤ x) (Or.inr (Nat.le_trans (Nat.le_trans (Nat.le_refl _) E1.1) (Nat.le_of_eq g8.symm))) all0)).ext E15)⟩
        by_cases hc26 : (fl &&& (8 : Int32)) = (0 : Int32)
        · skip
          refine OwnFin.step (fun tT kK => XS.ifYes X3.here hx rfl (pc0 := 77) (pc' := 84) rfl (hb hby at_77) rfl ((if0 _ _).trans (teq (hc26 : (fl &&& (8 : Int32)) = (0 : Int32))).1) (by decide) (by decide) kK) ?_
          show OwnFin p e below _ (T3.setTop (mkF m 84 #[.val (.int fl), .val (.int pe), .val (.int c), .val (.ref es), .val .null, .val u5, .val u6, .unset, .unset, .unset] []))
          refine OwnFin.step (fun tT kK => XS.aconstNull X3.here hx rfl (hb hby at_84) kK) ?_
          show OwnFin p e below _ (T3.setTop (mkF m 85 #[.val (.int fl), .val (.int pe), .val (.int c), .val (.ref es), .val .null, .val u5, .val u6, .unset, .unset, .unset] [.null]))
          exact key7 _ rfl
        · skip
          refine OwnFin.step (fun tT kK => XS.ifNo X3.here hx rfl (hb hby at_77) rfl ((if0 _ _).trans (feq (hc26 : ¬ ((fl &&& (8 : Int32)) = (0 : Int32)))).1) kK) ?_
          show OwnFin p e below _ (T3.setTop (mkF m 80 #[.val (.int fl), .val (.int pe), .val (.int c), .val (.ref es), .val .null, .val u5, .val u6, .unset, .unset, .unset] []))
          refine OwnFin.step (fun tT kK => XS.aloadN X3.here hx rfl (hb hby at_80) rfl rfl kK) ?_
          show OwnFin p e below _ (T3.setTop (mkF m 81 #[.val (.int fl), .val (.int pe), .val (.int c), .val (.ref es), .val .null, .val u5, .val u6, .unset, .unset, .unset] [(.ref es)]))
          refine OwnFin.step (fun tT kK => XS.goto X3.here hx rfl (pc0 := 81) (pc' := 85) rfl (hb hby at_81) (by decide) (by decide) kK) ?_
          show OwnFin p e below _ (T3.setTop (mkF m 85 #[.val (.int fl), .val (.int pe), .val (.int c), .val (.ref es), .val .null, .val u5, .val u6, .unset, .unset, .unset] [(.ref es)]))
          exact key7 _ rfl
      by_cases hc27 : (fl &&& (4 : Int32)) = (0 : Int32)
      · skip
        refine OwnFin.step (fun tT kK => XS.ifYes X3.here hx rfl (pc0 := 63) (pc' := 70) rfl (hb hby at_63) rfl ((if0 _ _).trans (teq (hc27 : (fl &&& (4 : Int32)) = (0 : Int32))).1) (by decide) (by decide) kK) ?_
        show OwnFin p e below _ (T3.setTop (mkF m 70 #[.val (.int fl), .val (.int pe), .val (.int c), .val (.ref es), .val .null, .val u5, .unset, .unset, .unset, .unset] []))
        refine OwnFin.step (fun tT kK => XS.aconstNull X3.here hx rfl (hb hby at_70) kK) ?_
        show OwnFin p e below _ (T3.setTop (mkF m 71 #[.val (.int fl), .val (.int pe), .val (.int c), .val (.ref es), .val .null, .val u5, .unset, .unset, .unset, .unset] [.null]))
        exact key6 _ rfl
      · skip
        refine OwnFin.step (fun tT kK => XS.ifNo X3.here hx rfl (hb hby at_63) rfl ((if0 _ _).trans (feq (hc27 : ¬ ((fl &&& (4 : Int32)) = (0 : Int32)))).1) kK) ?_
        show OwnFin p e below _ (T3.setTop (mkF m 66 #[.val (.int fl), .val (.int pe), .val (.int c), .val (.ref es), .val .null, .val u5, .unset, .unset, .unset, .unset] []))
        refine OwnFin.step (fun tT kK => XS.aloadN X3.here hx rfl (hb hby at_66) rfl rfl kK) ?_
        show OwnFin p e below _ (T3.setTop (mkF m 67 #[.val (.int fl), .val (.int pe), .val (.int c), .val (.ref es), .val .null, .val u5, .unset, .unset, .unset, .unset] [(.ref es)]))
        refine OwnFin.step (fun tT kK => XS.goto X3.here hx rfl (pc0 := 67) (pc' := 71) rfl (hb hby at_67) (by decide) (by decide) kK) ?_
        show OwnFin p e below _ (T3.setTop (mkF m 71 #[.val (.int fl), .val (.int pe), .val (.int c), .val (.ref es), .val .null, .val u5, .unset, .unset, .unset, .unset] [(.ref es)]))
        exact key6 _ rfl
    by_cases hc28 : (fl &&& (2 : Int32)) = (0 : Int32)
    · skip
      refine OwnFin.step (fun tT kK => XS.ifYes X3.here hx rfl (pc0 := 50) (pc' := 57) rfl (hb hby at_50) rfl ((if0 _ _).trans (teq (hc28 : (fl &&& (2 : Int32)) = (0 : Int32))).1) (by decide) (by decide) kK) ?_
      show OwnFin p e below _ (T3.setTop (mkF m 57 #[.val (.int fl), .val (.int pe), .val (.int c), .val (.ref es), .val .null, .unset, .unset, .unset, .unset, .unset] []))
      refine OwnFin.step (fun tT kK => XS.aconstNull X3.here hx rfl (hb hby at_57) kK) ?_
      show OwnFin p e below _ (T3.setTop (mkF m 58 #[.val (.int fl), .val (.int pe), .val (.int c), .val (.ref es), .val .null, .unset, .unset, .unset, .unset, .unset] [.null]))
      exact key5 _ rfl
    · skip
      refine OwnFin.step (fun tT kK => XS.ifNo X3.here hx rfl (hb hby at_50) rfl ((if0 _ _).trans (feq (hc28 : ¬ ((fl &&& (2 : Int32)) = (0 : Int32)))).1) kK) ?_
      show OwnFin p e below _ (T3.setTop (mkF m 53 #[.val (.int fl), .val (.int pe), .val (.int c), .val (.ref es), .val .null, .unset, .unset, .unset, .unset, .unset] []))
      refine OwnFin.step (fun tT kK => XS.aloadN X3.here hx rfl (hb hby at_53) rfl rfl kK) ?_
      show OwnFin p e below _ (T3.setTop (mkF m 54 #[.val (.int fl), .val (.int pe), .val (.int c), .val (.ref es), .val .null, .unset, .unset, .unset, .unset, .unset] [(.ref es)]))
      refine OwnFin.step (fun tT kK => XS.goto X3.here hx rfl (pc0 := 54) (pc' := 58) rfl (hb hby at_54) (by decide) (by decide) kK) ?_
      show OwnFin p e below _ (T3.setTop (mkF m 58 #[.val (.int fl), .val (.int pe), .val (.int c), .val (.ref es), .val .null, .unset, .unset, .unset, .unset, .unset] [(.ref es)]))
      exact key5 _ rfl
  · skip
    refine OwnFin.step (fun tT kK => XS.ifNo X3.here hx rfl (hb hby at_16) rfl ((if0 _ _).trans (feq (hc4 : ¬ ((fl &&& (1 : Int32)) = (0 : Int32)))).1) kK) ?_
    show OwnFin p e below _ (T3.setTop (mkF m 19 #[.val (.int fl), .val (.int pe), .val (.int c), .val (.ref es), .val .null, .unset, .unset, .unset, .unset, .unset] []))
    obtain ⟨T29, h29, X29, e29, E29, A29, D29, -, st29⟩ := newO X3 hx hZ hown (hw _ (List.mem_of_getElem? (i := 65) rfl)) (hw _ (List.mem_of_getElem? (i := 66) rfl)) (hw _ (List.mem_of_getElem? (i := 67) rfl)) e3 (g := (mkF m 19 #[.val (.int fl), .val (.int pe), .val (.int c), .val (.ref es), .val .null, .unset, .unset, .unset, .unset, .unset] [])) rfl (hb hby at_19) (by decide) (by decide)
    obtain ⟨b29, g29⟩ : ∃ z, z = T1.heap.size := ⟨_, rfl⟩
    rw [← g29] at A29 D29 st29
    refine OwnFin.step st29 ?_
    have Fz30 : Fld Z h29 b29 "java/util/AbstractList" "modCount" "I" (.int (0 : Int32)) := D29 (Or.inl (hw _ (List.mem_of_getElem? (i := 85) rfl))) (ty := .int) (by decide)
    have Fz31 : Fld Z h29 b29 "java/util/ArrayList" "elementData" "[Ljava/lang/Object;" .null := D29 (Or.inl (hw _ (List.mem_of_getElem? (i := 88) rfl))) (ty := (.array (.object "java/lang/Object"))) (by decide)
    have Fz32 : Fld Z h29 b29 "java/util/ArrayList" "size" "I" (.int (0 : Int32)) := D29 (Or.inl (hw _ (List.mem_of_getElem? (i := 121) rfl))) (ty := .int) (by decide)
    show OwnFin p e below _ (T29.setTop (mkF m 22 #[.val (.int fl), .val (.int pe), .val (.int c), .val (.ref es), .val .null, .unset, .unset, .unset, .unset, .unset] [(.ref b29)]))
    refine OwnFin.step (fun tT kK => XS.dup X29.here hx rfl (hb hby at_22) rfl rfl kK) ?_
    show OwnFin p e below _ (T29.setTop (mkF m 23 #[.val (.int fl), .val (.int pe), .val (.int c), .val (.ref es), .val .null, .unset, .unset, .unset, .unset, .unset] [(.ref b29), (.ref b29)]))
    have f33 : Sta Z h29 "java/util/ArrayList" "DEFAULTCAPACITY_EMPTY_ELEMENTDATA" "[Ljava/lang/Object;" (.ref dc) := ((hp1.ext E1).ext E29)
    obtain ⟨_, _, ⟨T34, L34, k34, n34⟩, -, X34, ⟨Lc34, hQ34, l34, y34, z34⟩, st34⟩ := X29.specialBack hx (y := (⟨"java/util/ArrayList", "<init>", "()V"⟩ : MethodName)) rfl hown (mvT hZ (hw _ (List.mem_of_getElem? (i := 68) rfl))) (mvT hZ (hw _ (List.mem_of_getElem? (i := 69) rfl))) (mvT hZ (hw _ (List.mem_of_getElem? (i := 70) rfl))) (by decide) (backOf (W := 1) (rm7 l Z a0 hw [] b29 dc h29 n0 (Nat.le_trans (Nat.le_trans Z0 E1.1) E29.1) f33 A29 Fz30 (Nat.le_trans (Nat.le_trans Z0 E1.1) (Nat.le_of_eq g29.symm)) Fz31 Fz32) hZ (hw _ (List.mem_of_getElem? (i := 70) rfl)) (hw _ (List.mem_of_getElem? (i := 67) rfl)) (by decide) (by decide)) (g := (mkF m 23 #[.val (.int fl), .val (.int pe), .val (.int c), .val (.ref es), .val .null, .unset, .unset, .unset, .unset, .unset] [(.ref b29), (.ref b29)])) rfl (by rw [hml]; rfl) (Steps.refl _) (a := b29) (argsL := []) (rest := [(.ref b29)]) (lenOf pd_7 rfl) rfl (by show 2 * 0 + _ ≤ _; exact Nat.le_of_eq rfl) (hb hby at_23) (fun _ _ => ⟨rfl, e29, (by decide : 2 + 0 ≤ _), (by decide : 8 + 0 ≤ _)⟩)
    dsimp only [Pt.U, Pt.locs, Pt.cells, Pt.slots] at X34 l34 y34 z34 st34 hQ34
    subst l34 y34 z34
    obtain ⟨rfl, N34q, K34, P34_0, P34_1, P34_2, P34_3⟩ := hQ34
    have N34 := Fr.app N3 N34q
    refine OwnFin.step (fun tT kK => st34.trans kK) ?_
    show OwnFin p e below _ (T34.setTop (mkF m 26 #[.val (.int fl), .val (.int pe), .val (.int c), .val (.ref es), .val .null, .unset, .unset, .unset, .unset, .unset] [(.ref b29)]))
    refine OwnFin.step (fun tT kK => XS.astore X34.here hx rfl (hb hby at_26) rfl rfl (l' := #[.val (.int fl), .val (.int pe), .val (.int c), .val (.ref es), .val .null, .val (.ref b29), .unset, .unset, .unset, .unset]) rfl kK) ?_
    show OwnFin p e below _ (T34.setTop (mkF m 28 #[.val (.int fl), .val (.int pe), .val (.int c), .val (.ref es), .val .null, .val (.ref b29), .unset, .unset, .unset, .unset] []))
    refine OwnFin.step (fun tT kK => XS.aload X34.here hx rfl (hb hby at_28) rfl rfl kK) ?_
    show OwnFin p e below _ (T34.setTop (mkF m 30 #[.val (.int fl), .val (.int pe), .val (.int c), .val (.ref es), .val .null, .val (.ref b29), .unset, .unset, .unset, .unset] [(.ref b29)]))
    refine OwnFin.step (fun tT kK => XS.iloadN X34.here hx rfl (hb hby at_30) rfl kK) ?_
    show OwnFin p e below _ (T34.setTop (mkF m 31 #[.val (.int fl), .val (.int pe), .val (.int c), .val (.ref es), .val .null, .val (.ref b29), .unset, .unset, .unset, .unset] [(.int c), (.ref b29)]))
    refine OwnFin.step (fun tT kK => XS.sipush X34.here hx rfl (hb hby at_31) kK) ?_
    show OwnFin p e below _ (T34.setTop (mkF m 34 #[.val (.int fl), .val (.int pe), .val (.int c), .val (.ref es), .val .null, .val (.ref b29), .unset, .unset, .unset, .unset] [(.int (255 : Int32)), (.int c), (.ref b29)]))
    refine OwnFin.step (fun tT kK => XS.iand X34.here hx rfl (hb hby at_34) rfl kK) ?_
    show OwnFin p e below _ (T34.setTop (mkF m 35 #[.val (.int fl), .val (.int pe), .val (.int c), .val (.ref es), .val .null, .val (.ref b29), .unset, .unset, .unset, .unset] [(.int (c &&& (255 : Int32))), (.ref b29)]))
    refine OwnFin.step (fun tT kK => XS.i2c X34.here hx rfl (hb hby at_35) rfl kK) ?_
    show OwnFin p e below _ (T34.setTop (mkF m 36 #[.val (.int fl), .val (.int pe), .val (.int c), .val (.ref es), .val .null, .val (.ref b29), .unset, .unset, .unset, .unset] [(.int ((c &&& (255 : Int32)).toUInt32.toUInt16.toUInt32.toInt32)), (.ref b29)]))
    have f35 : Sta Z T34.heap "java/lang/String" "COMPACT_STRINGS" "Z" (.int cs) := (own_sta_keep ((hp3.ext E1).ext E29) K34 (allS (own_nonsta A29) all0))
    obtain ⟨_, _, ⟨T36, L36, k36, n36⟩, -, X36, ⟨Lc36, hQ36, l36, y36, z36⟩, st36⟩ := Jvm.LawKit.callS X34 hx (y := (⟨"java/lang/String", "valueOf", "(C)Ljava/lang/String;"⟩ : MethodName)) hown (mvT hZ (hw _ (List.mem_of_getElem? (i := 89) rfl))) (mvT hZ (hw _ (List.mem_of_getElem? (i := 90) rfl))) (mvT hZ (hw _ (List.mem_of_getElem? (i := 91) rfl))) (mvT hZ (hw _ (List.mem_of_getElem? (i := 92) rfl))) (by decide) (backOf (W := 1) (rm8 l Z a0 hw [] ((c &&& (255 : Int32)).toUInt32.toUInt16.toUInt32.toInt32) cs T34.heap n0 (Nat.le_trans (Nat.le_trans (Nat.le_trans Z0 E1.1) E29.1) K34.1) f35 (hp4) (own_c255 c)) hZ (hw _ (List.mem_of_getElem? (i := 92) rfl)) (hw _ (List.mem_of_getElem? (i := 91) rfl)) (by decide) (by decide)) (g := (mkF m 36 #[.val (.int fl), .val (.int pe), .val (.int c), .val (.ref es), .val .null, .val (.ref b29), .unset, .unset, .unset, .unset] [(.int ((c &&& (255 : Int32)).toUInt32.toUInt16.toUInt32.toInt32)), (.ref b29)])) rfl (by rw [hml]; rfl) (argsL := [(.int ((c &&& (255 : Int32)).toUInt32.toUInt16.toUInt32.toInt32))]) (rest := [(.ref b29)]) (lenOf pd_197 rfl) rfl (by show 2 * 0 + _ ≤ _; exact Nat.le_of_eq rfl) (hb hby at_36) (fun _ _ => ⟨rfl, rfl, (by decide : 2 + 2 ≤ _), (by decide : 8 + 5 ≤ _)⟩)
    dsimp only [Pt.U, Pt.locs, Pt.cells, Pt.slots] at X36 l36 y36 z36 st36 hQ36
    subst l36 y36 z36
    obtain ⟨b37, ⟨rfl, N36q, K36, B36_0, P36_0⟩⟩ := hQ36
    have N36 := Fr.app N34 N36q
    refine OwnFin.step st36 ?_
    have E36 : Ext T34.heap T36.heap := ⟨K36.1, fun x c q => K36.2.1 x c q nin0⟩
    show OwnFin p e below _ (T36.setTop (mkF m 39 #[.val (.int fl), .val (.int pe), .val (.int c), .val (.ref es), .val .null, .val (.ref b29), .unset, .unset, .unset, .unset] [(.ref b37), (.ref b29)]))
    have f38 : Sta Z T36.heap "java/util/ArrayList" "DEFAULTCAPACITY_EMPTY_ELEMENTDATA" "[Ljava/lang/Object;" (.ref dc) := ((own_sta_keep f33 K34 (allS (own_nonsta A29) all0)).ext E36)
    have f39 : Arv Z T36.heap dc kd (.object "java/lang/Object") (0 : Int32) [] .null := ((((hp2.ext E1).ext E29).keep K34 (ninS (Nat.ne_of_lt (Nat.lt_of_lt_of_le (Nat.lt_of_lt_of_le hp2.lt (Nat.le_trans (Nat.le_refl _) E1.1)) (Nat.le_of_eq g29.symm))) nin0)).ext E36)
    have f40 : Exa Z T36.heap b29 "java/util/ArrayList" := (P34_0.ext E36)
    have f41 : Fld Z T36.heap b29 "java/util/ArrayList" "elementData" "[Ljava/lang/Object;" (.ref dc) := (P34_2.ext E36)
    have f42 : Fld Z T36.heap b29 "java/util/ArrayList" "size" "I" (.int (0 : Int32)) := (P34_3.ext E36)
    have f43 : Fld Z T36.heap b29 "java/util/AbstractList" "modCount" "I" (.int (0 : Int32)) := (P34_1.ext E36)
    obtain ⟨cq44, kq44, q44a, q44b, q44c⟩ := isOf hZ rfl f40
    obtain ⟨_, _, ⟨T44, L44, k44, n44⟩, -, X44, ⟨Lc44, hQ44, l44, y44, z44⟩, st44⟩ := X36.virtualBack hx (y := (⟨"java/util/ArrayList", "add", "(Ljava/lang/Object;)Z"⟩ : MethodName)) (z := (⟨"java/util/ArrayList", "add", "(Ljava/lang/Object;)Z"⟩ : MethodName)) hown (mvT hZ (hw _ (List.mem_of_getElem? (i := 113) rfl))) (mvT hZ (hw _ (List.mem_of_getElem? (i := 114) rfl))) (notFace_of_selects (args := #[]) (mvT hZ (hw _ (List.mem_of_getElem? (i := 116) rfl)))) (mvT hZ (hw _ (List.mem_of_getElem? (i := 116) rfl))) (mvT hZ (hw _ (List.mem_of_getElem? (i := 115) rfl))) (by decide) (backOf (W := 0) (rm9 l Z a0 hw [] b29 b37 dc kd T36.heap n0 (Nat.le_trans (Nat.le_trans (Nat.le_trans (Nat.le_trans Z0 E1.1) E29.1) K34.1) E36.1) f38 f39 f40 f41 f42 (Nat.le_trans (Nat.le_trans Z0 E1.1) (Nat.le_of_eq g29.symm)) (Ne.symm (Nat.ne_of_lt (Nat.lt_of_lt_of_le (Nat.lt_of_lt_of_le hp2.lt (Nat.le_trans (Nat.le_refl _) E1.1)) (Nat.le_of_eq g29.symm)))) P36_0 f43) hZ (hw _ (List.mem_of_getElem? (i := 117) rfl)) (hw _ (List.mem_of_getElem? (i := 67) rfl)) (by decide) (by decide)) q44a q44c (g := (mkF m 39 #[.val (.int fl), .val (.int pe), .val (.int c), .val (.ref es), .val .null, .val (.ref b29), .unset, .unset, .unset, .unset] [(.ref b37), (.ref b29)])) rfl (by rw [hml]; rfl) (Steps.refl _) (argsL := [(.ref b37)]) (rest := []) (lenOf pd_198 rfl) rfl (by show 2 * 0 + _ ≤ _; exact Nat.le_of_eq rfl) (hb hby at_39) (fun _ _ => ⟨rfl, rfl, (by decide : 4 + 1 ≤ _), (by decide : 13 + 10 ≤ _)⟩)
    dsimp only [Pt.U, Pt.locs, Pt.cells, Pt.slots] at X44 l44 y44 z44 st44 hQ44
    subst l44 y44 z44
    obtain ⟨rfl, N44q, K44⟩ := hQ44
    have N44 := Fr.app N36 N44q
    refine OwnFin.step (fun tT kK => st44.trans kK) ?_
    show OwnFin p e below _ (T44.setTop (mkF m 42 #[.val (.int fl), .val (.int pe), .val (.int c), .val (.ref es), .val .null, .val (.ref b29), .unset, .unset, .unset, .unset] [(.int (1 : Int32))]))
    refine OwnFin.step (fun tT kK => XS.pop X44.here hx rfl (hb hby at_42) rfl rfl kK) ?_
    show OwnFin p e below _ (T44.setTop (mkF m 43 #[.val (.int fl), .val (.int pe), .val (.int c), .val (.ref es), .val .null, .val (.ref b29), .unset, .unset, .unset, .unset] []))
    refine OwnFin.step (fun tT kK => XS.aload X44.here hx rfl (hb hby at_43) rfl rfl kK) ?_
    show OwnFin p e below _ (T44.setTop (mkF m 45 #[.val (.int fl), .val (.int pe), .val (.int c), .val (.ref es), .val .null, .val (.ref b29), .unset, .unset, .unset, .unset] [(.ref b29)]))
    refine OwnFin.step (fun tT kK => XS.astore X44.here hx rfl (hb hby at_45) rfl rfl (l' := #[.val (.int fl), .val (.int pe), .val (.int c), .val (.ref es), .val (.ref b29), .val (.ref b29), .unset, .unset, .unset, .unset]) rfl kK) ?_
    show OwnFin p e below _ (T44.setTop (mkF m 47 #[.val (.int fl), .val (.int pe), .val (.int c), .val (.ref es), .val (.ref b29), .val (.ref b29), .unset, .unset, .unset, .unset] []))
    refine OwnFin.step (fun tT kK => XS.iloadN X44.here hx rfl (hb hby at_47) rfl kK) ?_
    show OwnFin p e below _ (T44.setTop (mkF m 48 #[.val (.int fl), .val (.int pe), .val (.int c), .val (.ref es), .val (.ref b29), .val (.ref b29), .unset, .unset, .unset, .unset] [(.int fl)]))
    refine OwnFin.step (fun tT kK => XS.iconst X44.here hx rfl (hb hby at_48) kK) ?_
    show OwnFin p e below _ (T44.setTop (mkF m 49 #[.val (.int fl), .val (.int pe), .val (.int c), .val (.ref es), .val (.ref b29), .val (.ref b29), .unset, .unset, .unset, .unset] [(.int (2 : Int32)), (.int fl)]))
    refine OwnFin.step (fun tT kK => XS.iand X44.here hx rfl (hb hby at_49) rfl kK) ?_
    show OwnFin p e below _ (T44.setTop (mkF m 50 #[.val (.int fl), .val (.int pe), .val (.int c), .val (.ref es), .val (.ref b29), .val (.ref b29), .unset, .unset, .unset, .unset] [(.int (fl &&& (2 : Int32)))]))
    have key45 : ∀ (u5 : Value), u5.isRef = true → OwnFin p e below (R0 Z fl pe c es dc kd cs h0 n0 s) (T44.setTop (mkF m 58 #[.val (.int fl), .val (.int pe), .val (.int c), .val (.ref es), .val (.ref b29), .val (.ref b29), .unset, .unset, .unset, .unset] [u5])) := by
      intro u5 r_u5
      refine OwnFin.step (fun tT kK => XS.astoreS X44.here hx rfl (hb hby at_58) rfl r_u5 (own_cat r_u5) rfl (Or.inr ⟨_, rfl, rfl⟩) kK) ?_
      show OwnFin p e below _ (T44.setTop (mkF m 60 #[.val (.int fl), .val (.int pe), .val (.int c), .val (.ref es), .val (.ref b29), .val u5, .unset, .unset, .unset, .unset] []))
      refine OwnFin.step (fun tT kK => XS.iloadN X44.here hx rfl (hb hby at_60) rfl kK) ?_
      show OwnFin p e below _ (T44.setTop (mkF m 61 #[.val (.int fl), .val (.int pe), .val (.int c), .val (.ref es), .val (.ref b29), .val u5, .unset, .unset, .unset, .unset] [(.int fl)]))
      refine OwnFin.step (fun tT kK => XS.iconst X44.here hx rfl (hb hby at_61) kK) ?_
      show OwnFin p e below _ (T44.setTop (mkF m 62 #[.val (.int fl), .val (.int pe), .val (.int c), .val (.ref es), .val (.ref b29), .val u5, .unset, .unset, .unset, .unset] [(.int (4 : Int32)), (.int fl)]))
      refine OwnFin.step (fun tT kK => XS.iand X44.here hx rfl (hb hby at_62) rfl kK) ?_
      show OwnFin p e below _ (T44.setTop (mkF m 63 #[.val (.int fl), .val (.int pe), .val (.int c), .val (.ref es), .val (.ref b29), .val u5, .unset, .unset, .unset, .unset] [(.int (fl &&& (4 : Int32)))]))
      have key46 : ∀ (u6 : Value), u6.isRef = true → OwnFin p e below (R0 Z fl pe c es dc kd cs h0 n0 s) (T44.setTop (mkF m 71 #[.val (.int fl), .val (.int pe), .val (.int c), .val (.ref es), .val (.ref b29), .val u5, .unset, .unset, .unset, .unset] [u6])) := by
        intro u6 r_u6
        refine OwnFin.step (fun tT kK => XS.astoreS X44.here hx rfl (hb hby at_71) rfl r_u6 (own_cat r_u6) rfl (Or.inl rfl) kK) ?_
        show OwnFin p e below _ (T44.setTop (mkF m 73 #[.val (.int fl), .val (.int pe), .val (.int c), .val (.ref es), .val (.ref b29), .val u5, .val u6, .unset, .unset, .unset] []))
        refine OwnFin.step (fun tT kK => XS.iloadN X44.here hx rfl (hb hby at_73) rfl kK) ?_
        show OwnFin p e below _ (T44.setTop (mkF m 74 #[.val (.int fl), .val (.int pe), .val (.int c), .val (.ref es), .val (.ref b29), .val u5, .val u6, .unset, .unset, .unset] [(.int fl)]))
        refine OwnFin.step (fun tT kK => XS.bipush X44.here hx rfl (hb hby at_74) kK) ?_
        show OwnFin p e below _ (T44.setTop (mkF m 76 #[.val (.int fl), .val (.int pe), .val (.int c), .val (.ref es), .val (.ref b29), .val u5, .val u6, .unset, .unset, .unset] [(.int (8 : Int32)), (.int fl)]))
        refine OwnFin.step (fun tT kK => XS.iand X44.here hx rfl (hb hby at_76) rfl kK) ?_
        show OwnFin p e below _ (T44.setTop (mkF m 77 #[.val (.int fl), .val (.int pe), .val (.int c), .val (.ref es), .val (.ref b29), .val u5, .val u6, .unset, .unset, .unset] [(.int (fl &&& (8 : Int32)))]))
        have key47 : ∀ (u7 : Value), u7.isRef = true → OwnFin p e below (R0 Z fl pe c es dc kd cs h0 n0 s) (T44.setTop (mkF m 85 #[.val (.int fl), .val (.int pe), .val (.int c), .val (.ref es), .val (.ref b29), .val u5, .val u6, .unset, .unset, .unset] [u7])) := by
          intro u7 r_u7
          refine OwnFin.step (fun tT kK => XS.astoreS X44.here hx rfl (hb hby at_85) rfl r_u7 (own_cat r_u7) rfl (Or.inl rfl) kK) ?_
          show OwnFin p e below _ (T44.setTop (mkF m 87 #[.val (.int fl), .val (.int pe), .val (.int c), .val (.ref es), .val (.ref b29), .val u5, .val u6, .val u7, .unset, .unset] []))
          obtain ⟨T48, h48, X48, e48, E48, A48, D48, -, st48⟩ := newO X44 hx hZ hown (hw _ (List.mem_of_getElem? (i := 38) rfl)) (hw _ (List.mem_of_getElem? (i := 5) rfl)) (hw _ (List.mem_of_getElem? (i := 2) rfl)) rfl (g := (mkF m 87 #[.val (.int fl), .val (.int pe), .val (.int c), .val (.ref es), .val (.ref b29), .val u5, .val u6, .val u7, .unset, .unset] [])) rfl (hb hby at_87) (by decide) (by decide)
          obtain ⟨b48, g48⟩ : ∃ z, z = T44.heap.size := ⟨_, rfl⟩
          rw [← g48] at A48 D48 st48
          refine OwnFin.step st48 ?_
          have Fz49 : Fld Z h48 b48 "com/example/myna/myna/delivery/Deliveries$Lanes" "endpointIds" "Ljava/util/List;" .null := D48 (Or.inr (hw _ (List.mem_of_getElem? (i := 24) rfl))) (ty := (.object "java/util/List")) (by decide)
          have Fz50 : Fld Z h48 b48 "com/example/myna/myna/delivery/Deliveries$Lanes" "openRequests" "Ljava/util/Map;" .null := D48 (Or.inr (hw _ (List.mem_of_getElem? (i := 26) rfl))) (ty := (.object "java/util/Map")) (by decide)
          have Fz51 : Fld Z h48 b48 "com/example/myna/myna/delivery/Deliveries$Lanes" "perEndpoint" "I" (.int (0 : Int32)) := D48 (Or.inr (hw _ (List.mem_of_getElem? (i := 28) rfl))) (ty := .int) (by decide)
          have Fz52 : Fld Z h48 b48 "com/example/myna/myna/delivery/Deliveries$Lanes" "shut" "Ljava/util/Set;" .null := D48 (Or.inr (hw _ (List.mem_of_getElem? (i := 30) rfl))) (ty := (.object "java/util/Set")) (by decide)
          have Fz53 : Fld Z h48 b48 "com/example/myna/myna/delivery/Deliveries$Lanes" "deferred" "Ljava/util/Set;" .null := D48 (Or.inr (hw _ (List.mem_of_getElem? (i := 32) rfl))) (ty := (.object "java/util/Set")) (by decide)
          show OwnFin p e below _ (T48.setTop (mkF m 90 #[.val (.int fl), .val (.int pe), .val (.int c), .val (.ref es), .val (.ref b29), .val u5, .val u6, .val u7, .unset, .unset] [(.ref b48)]))
          refine OwnFin.step (fun tT kK => XS.dup X48.here hx rfl (hb hby at_90) rfl rfl kK) ?_
          show OwnFin p e below _ (T48.setTop (mkF m 91 #[.val (.int fl), .val (.int pe), .val (.int c), .val (.ref es), .val (.ref b29), .val u5, .val u6, .val u7, .unset, .unset] [(.ref b48), (.ref b48)]))
          refine OwnFin.step (fun tT kK => XS.aload X48.here hx rfl (hb hby at_91) rfl rfl kK) ?_
          show OwnFin p e below _ (T48.setTop (mkF m 93 #[.val (.int fl), .val (.int pe), .val (.int c), .val (.ref es), .val (.ref b29), .val u5, .val u6, .val u7, .unset, .unset] [(.ref b29), (.ref b48), (.ref b48)]))
          refine OwnFin.step (fun tT kK => XS.aconstNull X48.here hx rfl (hb hby at_93) kK) ?_
          show OwnFin p e below _ (T48.setTop (mkF m 94 #[.val (.int fl), .val (.int pe), .val (.int c), .val (.ref es), .val (.ref b29), .val u5, .val u6, .val u7, .unset, .unset] [.null, (.ref b29), (.ref b48), (.ref b48)]))
          refine OwnFin.step (fun tT kK => XS.iloadN X48.here hx rfl (hb hby at_94) rfl kK) ?_
          show OwnFin p e below _ (T48.setTop (mkF m 95 #[.val (.int fl), .val (.int pe), .val (.int c), .val (.ref es), .val (.ref b29), .val u5, .val u6, .val u7, .unset, .unset] [(.int pe), .null, (.ref b29), (.ref b48), (.ref b48)]))
          refine OwnFin.step (fun tT kK => XS.aload X48.here hx rfl (hb hby at_95) rfl r_u5 kK) ?_
          show OwnFin p e below _ (T48.setTop (mkF m 97 #[.val (.int fl), .val (.int pe), .val (.int c), .val (.ref es), .val (.ref b29), .val u5, .val u6, .val u7, .unset, .unset] [u5, (.int pe), .null, (.ref b29), (.ref b48), (.ref b48)]))
          refine OwnFin.step (fun tT kK => XS.aload X48.here hx rfl (hb hby at_97) rfl r_u6 kK) ?_
          show OwnFin p e below _ (T48.setTop (mkF m 99 #[.val (.int fl), .val (.int pe), .val (.int c), .val (.ref es), .val (.ref b29), .val u5, .val u6, .val u7, .unset, .unset] [u6, u5, (.int pe), .null, (.ref b29), (.ref b48), (.ref b48)]))
          obtain ⟨_, _, ⟨T54, L54, k54, n54⟩, -, X54, ⟨Lc54, hQ54, l54, y54, z54⟩, st54⟩ := X48.specialBack hx (y := (⟨"com/example/myna/myna/delivery/Deliveries$Lanes", "<init>", "(Ljava/util/List;Ljava/util/Map;ILjava/util/Set;Ljava/util/Set;)V"⟩ : MethodName)) rfl hown (mvT hZ (hw _ (List.mem_of_getElem? (i := 39) rfl))) (mvT hZ (hw _ (List.mem_of_getElem? (i := 13) rfl))) (mvT hZ (hw _ (List.mem_of_getElem? (i := 14) rfl))) (by decide) (backOf (W := 1) (rm2 l Z a0 hw [] b48 (.ref b29) .null pe u5 u6 h48 n0 (Nat.le_trans (Nat.le_trans (Nat.le_trans (Nat.le_trans (Nat.le_trans (Nat.le_trans Z0 E1.1) E29.1) K34.1) E36.1) K44.1) E48.1) A48 Fz49 Fz50 Fz51 Fz52 Fz53 rfl rfl r_u5 r_u6 (Nat.le_trans (Nat.le_trans (Nat.le_trans (Nat.le_trans (Nat.le_trans (Nat.le_trans Z0 E1.1) E29.1) K34.1) E36.1) K44.1) (Nat.le_of_eq g48.symm))) hZ (hw _ (List.mem_of_getElem? (i := 14) rfl)) (hw _ (List.mem_of_getElem? (i := 2) rfl)) (by decide) (by decide)) (g := (mkF m 99 #[.val (.int fl), .val (.int pe), .val (.int c), .val (.ref es), .val (.ref b29), .val u5, .val u6, .val u7, .unset, .unset] [u6, u5, (.int pe), .null, (.ref b29), (.ref b48), (.ref b48)])) rfl (by rw [hml]; rfl) (Steps.refl _) (a := b48) (argsL := [(.ref b29), .null, (.int pe), u5, u6]) (rest := [(.ref b48)]) (lenOf pd_36 rfl) rfl (by show 2 * 0 + _ ≤ _; exact Nat.le_of_eq rfl) (hb hby at_99) (fun _ _ => ⟨rfl, e48, (by decide : 6 + 0 ≤ _), (by decide : 28 + 0 ≤ _)⟩)
          dsimp only [Pt.U, Pt.locs, Pt.cells, Pt.slots] at X54 l54 y54 z54 st54 hQ54
          subst l54 y54 z54
          obtain ⟨rfl, N54q, K54, P54_0, P54_1, P54_2, P54_3, P54_4, P54_5⟩ := hQ54
          have N54 := Fr.app N44 N54q
          refine OwnFin.step (fun tT kK => st54.trans kK) ?_
          show OwnFin p e below _ (T54.setTop (mkF m 102 #[.val (.int fl), .val (.int pe), .val (.int c), .val (.ref es), .val (.ref b29), .val u5, .val u6, .val u7, .unset, .unset] [(.ref b48)]))
          refine OwnFin.step (fun tT kK => XS.astore X54.here hx rfl (hb hby at_102) rfl rfl (l' := #[.val (.int fl), .val (.int pe), .val (.int c), .val (.ref es), .val (.ref b29), .val u5, .val u6, .val u7, .val (.ref b48), .unset]) rfl kK) ?_
          show OwnFin p e below _ (T54.setTop (mkF m 104 #[.val (.int fl), .val (.int pe), .val (.int c), .val (.ref es), .val (.ref b29), .val u5, .val u6, .val u7, .val (.ref b48), .unset] []))
          refine OwnFin.step (fun tT kK => XS.aload X54.here hx rfl (hb hby at_104) rfl rfl kK) ?_
          show OwnFin p e below _ (T54.setTop (mkF m 106 #[.val (.int fl), .val (.int pe), .val (.int c), .val (.ref es), .val (.ref b29), .val u5, .val u6, .val u7, .val (.ref b48), .unset] [(.ref b48)]))
          refine OwnFin.step (fun tT kK => XS.aload X54.here hx rfl (hb hby at_106) rfl r_u7 kK) ?_
          show OwnFin p e below _ (T54.setTop (mkF m 108 #[.val (.int fl), .val (.int pe), .val (.int c), .val (.ref es), .val (.ref b29), .val u5, .val u6, .val u7, .val (.ref b48), .unset] [u7, (.ref b48)]))
          obtain ⟨cq55, kq55, q55a, q55b, q55c⟩ := isOf hZ rfl P54_0
          obtain ⟨_, _, ⟨T55, L55, k55, n55⟩, -, X55, ⟨Lc55, hQ55, l55, y55, z55⟩, st55⟩ := X54.virtualBack hx (y := (⟨"com/example/myna/myna/delivery/Deliveries$Lanes", "deferring", "(Ljava/util/Set;)Lcom/example/myna/myna/delivery/Deliveries$Lanes;"⟩ : MethodName)) (z := (⟨"com/example/myna/myna/delivery/Deliveries$Lanes", "deferring", "(Ljava/util/Set;)Lcom/example/myna/myna/delivery/Deliveries$Lanes;"⟩ : MethodName)) hown (mvT hZ (hw _ (List.mem_of_getElem? (i := 40) rfl))) (mvT hZ (hw _ (List.mem_of_getElem? (i := 41) rfl))) (notFace_of_selects (args := #[]) (mvT hZ (hw _ (List.mem_of_getElem? (i := 43) rfl)))) (mvT hZ (hw _ (List.mem_of_getElem? (i := 43) rfl))) (mvT hZ (hw _ (List.mem_of_getElem? (i := 42) rfl))) (by decide) (backOf (W := 0) (rm6 l Z a0 hw [] b48 u7 (.ref b29) .null pe u5 T54.heap n0 (Nat.le_trans (Nat.le_trans (Nat.le_trans (Nat.le_trans (Nat.le_trans (Nat.le_trans (Nat.le_trans Z0 E1.1) E29.1) K34.1) E36.1) K44.1) E48.1) K54.1) P54_1 P54_2 P54_3 P54_4 r_u7 rfl rfl r_u5) hZ (hw _ (List.mem_of_getElem? (i := 44) rfl)) (hw _ (List.mem_of_getElem? (i := 2) rfl)) (by decide) (by decide)) q55a q55c (g := (mkF m 108 #[.val (.int fl), .val (.int pe), .val (.int c), .val (.ref es), .val (.ref b29), .val u5, .val u6, .val u7, .val (.ref b48), .unset] [u7, (.ref b48)])) rfl (by rw [hml]; rfl) (Steps.refl _) (argsL := [u7]) (rest := []) (lenOf pd_193 rfl) rfl (by show 2 * 0 + _ ≤ _; exact Nat.le_of_eq rfl) (hb hby at_108) (fun _ _ => ⟨rfl, rfl, (by decide : 6 + 1 ≤ _), (by decide : 28 + 5 ≤ _)⟩)
          dsimp only [Pt.U, Pt.locs, Pt.cells, Pt.slots] at X55 l55 y55 z55 st55 hQ55
          subst l55 y55 z55
          obtain ⟨b56, ⟨rfl, N55q, K55, B55_0, P55_0, P55_1, P55_2, P55_3, P55_4, P55_5⟩⟩ := hQ55
          have N55 := Fr.app N54 N55q
          refine OwnFin.step (fun tT kK => st55.trans kK) ?_
          have E55 : Ext T54.heap T55.heap := ⟨K55.1, fun x c q => K55.2.1 x c q nin0⟩
          show OwnFin p e below _ (T55.setTop (mkF m 111 #[.val (.int fl), .val (.int pe), .val (.int c), .val (.ref es), .val (.ref b29), .val u5, .val u6, .val u7, .val (.ref b48), .unset] [(.ref b56)]))
          refine OwnFin.step (fun tT kK => XS.astore X55.here hx rfl (hb hby at_111) rfl rfl (l' := #[.val (.int fl), .val (.int pe), .val (.int c), .val (.ref es), .val (.ref b29), .val u5, .val u6, .val u7, .val (.ref b48), .val (.ref b56)]) rfl kK) ?_
          show OwnFin p e below _ (T55.setTop (mkF m 113 #[.val (.int fl), .val (.int pe), .val (.int c), .val (.ref es), .val (.ref b29), .val u5, .val u6, .val u7, .val (.ref b48), .val (.ref b56)] []))
          refine OwnFin.step (fun tT kK => XS.aloadN X55.here hx rfl (hb hby at_113) rfl rfl kK) ?_
          show OwnFin p e below _ (T55.setTop (mkF m 114 #[.val (.int fl), .val (.int pe), .val (.int c), .val (.ref es), .val (.ref b29), .val u5, .val u6, .val u7, .val (.ref b48), .val (.ref b56)] [(.ref es)]))
          refine OwnFin.step (fun tT kK => XS.ifnullNo X55.here hx rfl (hb hby at_114) rfl kK) ?_
          show OwnFin p e below _ (T55.setTop (mkF m 117 #[.val (.int fl), .val (.int pe), .val (.int c), .val (.ref es), .val (.ref b29), .val u5, .val u6, .val u7, .val (.ref b48), .val (.ref b56)] []))
          refine OwnFin.step (fun tT kK => XS.aload X55.here hx rfl (hb hby at_117) rfl rfl kK) ?_
          show OwnFin p e below _ (T55.setTop (mkF m 119 #[.val (.int fl), .val (.int pe), .val (.int c), .val (.ref es), .val (.ref b29), .val u5, .val u6, .val u7, .val (.ref b48), .val (.ref b56)] [(.ref b56)]))
          refine OwnFin.step (fun tT kK => XS.ifnullNo X55.here hx rfl (hb hby at_119) rfl kK) ?_
          show OwnFin p e below _ (T55.setTop (mkF m 122 #[.val (.int fl), .val (.int pe), .val (.int c), .val (.ref es), .val (.ref b29), .val u5, .val u6, .val u7, .val (.ref b48), .val (.ref b56)] []))
          refine OwnFin.step (fun tT kK => XS.aload X55.here hx rfl (hb hby at_122) rfl rfl kK) ?_
          show OwnFin p e below _ (T55.setTop (mkF m 124 #[.val (.int fl), .val (.int pe), .val (.int c), .val (.ref es), .val (.ref b29), .val u5, .val u6, .val u7, .val (.ref b48), .val (.ref b56)] [(.ref b56)]))
          obtain ⟨cq57, kq57, q57a, q57b, q57c⟩ := isOf hZ rfl P55_0
          obtain ⟨_, _, ⟨T57, L57, k57, n57⟩, -, X57, ⟨Lc57, hQ57, l57, y57, z57⟩, st57⟩ := X55.virtualBack hx (y := (⟨"com/example/myna/myna/delivery/Deliveries$Lanes", "deferred", "()Ljava/util/Set;"⟩ : MethodName)) (z := (⟨"com/example/myna/myna/delivery/Deliveries$Lanes", "deferred", "()Ljava/util/Set;"⟩ : MethodName)) hown (mvT hZ (hw _ (List.mem_of_getElem? (i := 33) rfl))) (mvT hZ (hw _ (List.mem_of_getElem? (i := 34) rfl))) (notFace_of_selects (args := #[]) (mvT hZ (hw _ (List.mem_of_getElem? (i := 36) rfl)))) (mvT hZ (hw _ (List.mem_of_getElem? (i := 36) rfl))) (mvT hZ (hw _ (List.mem_of_getElem? (i := 35) rfl))) (by decide) (backOf (W := 0) (rm54 l Z a0 hw [] b56 u7 T55.heap n0 (Nat.le_trans (Nat.le_trans (Nat.le_trans (Nat.le_trans (Nat.le_trans (Nat.le_trans (Nat.le_trans (Nat.le_trans Z0 E1.1) E29.1) K34.1) E36.1) K44.1) E48.1) K54.1) E55.1) P55_5 r_u7) hZ (hw _ (List.mem_of_getElem? (i := 37) rfl)) (hw _ (List.mem_of_getElem? (i := 2) rfl)) (by decide) (by decide)) q57a q57c (g := (mkF m 124 #[.val (.int fl), .val (.int pe), .val (.int c), .val (.ref es), .val (.ref b29), .val u5, .val u6, .val u7, .val (.ref b48), .val (.ref b56)] [(.ref b56)])) rfl (by rw [hml]; rfl) (Steps.refl _) (argsL := []) (rest := []) (lenOf pd_34 rfl) rfl (by show 2 * 0 + _ ≤ _; exact Nat.le_of_eq rfl) (hb hby at_124) (fun _ _ => ⟨rfl, rfl, (by decide : 7 + 0 ≤ _), (by decide : 33 + 0 ≤ _)⟩)
          dsimp only [Pt.U, Pt.locs, Pt.cells, Pt.slots] at X57 l57 y57 z57 st57 hQ57
          subst l57 y57 z57
          obtain ⟨rfl, N57q, e57⟩ := hQ57
          have N57 := Fr.app N55 N57q
          refine OwnFin.step (fun tT kK => st57.trans kK) ?_
          show OwnFin p e below _ (T57.setTop (mkF m 127 #[.val (.int fl), .val (.int pe), .val (.int c), .val (.ref es), .val (.ref b29), .val u5, .val u6, .val u7, .val (.ref b48), .val (.ref b56)] [u7]))
          refine OwnFin.step (fun tT kK => XS.aload X57.here hx rfl (hb hby at_127) rfl r_u7 kK) ?_
          show OwnFin p e below _ (T57.setTop (mkF m 129 #[.val (.int fl), .val (.int pe), .val (.int c), .val (.ref es), .val (.ref b29), .val u5, .val u6, .val u7, .val (.ref b48), .val (.ref b56)] [u7, u7]))
          refine OwnFin.step (fun tT kK => Jvm.RoadKit.acmp (g := (mkF m 129 #[.val (.int fl), .val (.int pe), .val (.int c), .val (.ref es), .val (.ref b29), .val u5, .val u6, .val u7, .val (.ref b48), .val (.ref b56)] [u7, u7])) X57 hx rfl r_u7 r_u7 (pc0 := 129) (pc' := 132) (same := true) rfl (hb hby at_129) rfl (decide_eq_true rfl) (by decide) (by decide) kK) ?_
          show OwnFin p e below _ (T57.setTop (mkF m 132 #[.val (.int fl), .val (.int pe), .val (.int c), .val (.ref es), .val (.ref b29), .val u5, .val u6, .val u7, .val (.ref b48), .val (.ref b56)] []))
          refine OwnFin.step (fun tT kK => XS.aload X57.here hx rfl (hb hby at_132) rfl rfl kK) ?_
          show OwnFin p e below _ (T57.setTop (mkF m 134 #[.val (.int fl), .val (.int pe), .val (.int c), .val (.ref es), .val (.ref b29), .val u5, .val u6, .val u7, .val (.ref b48), .val (.ref b56)] [(.ref b56)]))
          obtain ⟨cq58, kq58, q58a, q58b, q58c⟩ := isOf hZ e57 P55_0
          obtain ⟨_, _, ⟨T58, L58, k58, n58⟩, -, X58, ⟨Lc58, hQ58, l58, y58, z58⟩, st58⟩ := X57.virtualBack hx (y := (⟨"com/example/myna/myna/delivery/Deliveries$Lanes", "endpointIds", "()Ljava/util/List;"⟩ : MethodName)) (z := (⟨"com/example/myna/myna/delivery/Deliveries$Lanes", "endpointIds", "()Ljava/util/List;"⟩ : MethodName)) hown (mvT hZ (hw _ (List.mem_of_getElem? (i := 45) rfl))) (mvT hZ (hw _ (List.mem_of_getElem? (i := 46) rfl))) (notFace_of_selects (args := #[]) (mvT hZ (hw _ (List.mem_of_getElem? (i := 48) rfl)))) (mvT hZ (hw _ (List.mem_of_getElem? (i := 48) rfl))) (mvT hZ (hw _ (List.mem_of_getElem? (i := 47) rfl))) (by decide) (backOf (W := 0) (rm50 l Z a0 hw [] b56 (.ref b29) T55.heap n0 (Nat.le_trans (Nat.le_trans (Nat.le_trans (Nat.le_trans (Nat.le_trans (Nat.le_trans (Nat.le_trans (Nat.le_trans Z0 E1.1) E29.1) K34.1) E36.1) K44.1) E48.1) K54.1) E55.1) P55_1 rfl) hZ (hw _ (List.mem_of_getElem? (i := 49) rfl)) (hw _ (List.mem_of_getElem? (i := 2) rfl)) (by decide) (by decide)) q58a q58c (g := (mkF m 134 #[.val (.int fl), .val (.int pe), .val (.int c), .val (.ref es), .val (.ref b29), .val u5, .val u6, .val u7, .val (.ref b48), .val (.ref b56)] [(.ref b56)])) rfl (by rw [hml]; rfl) (Steps.refl _) (argsL := []) (rest := []) (lenOf pd_194 rfl) rfl (by show 2 * 0 + _ ≤ _; exact Nat.le_of_eq rfl) (hb hby at_134) (fun _ _ => ⟨rfl, e57, (by decide : 7 + 0 ≤ _), (by decide : 33 + 0 ≤ _)⟩)
          dsimp only [Pt.U, Pt.locs, Pt.cells, Pt.slots] at X58 l58 y58 z58 st58 hQ58
          subst l58 y58 z58
          obtain ⟨rfl, N58q, e58⟩ := hQ58
          have N58 := Fr.app N57 N58q
          refine OwnFin.step (fun tT kK => st58.trans kK) ?_
          show OwnFin p e below _ (T58.setTop (mkF m 137 #[.val (.int fl), .val (.int pe), .val (.int c), .val (.ref es), .val (.ref b29), .val u5, .val u6, .val u7, .val (.ref b48), .val (.ref b56)] [(.ref b29)]))
          refine OwnFin.step (fun tT kK => XS.aload X58.here hx rfl (hb hby at_137) rfl rfl kK) ?_
          show OwnFin p e below _ (T58.setTop (mkF m 139 #[.val (.int fl), .val (.int pe), .val (.int c), .val (.ref es), .val (.ref b29), .val u5, .val u6, .val u7, .val (.ref b48), .val (.ref b56)] [(.ref b29), (.ref b29)]))
          refine OwnFin.step (fun tT kK => Jvm.RoadKit.acmp (g := (mkF m 139 #[.val (.int fl), .val (.int pe), .val (.int c), .val (.ref es), .val (.ref b29), .val u5, .val u6, .val u7, .val (.ref b48), .val (.ref b56)] [(.ref b29), (.ref b29)])) X58 hx rfl rfl rfl (pc0 := 139) (pc' := 142) (same := true) rfl (hb hby at_139) rfl (decide_eq_true rfl) (by decide) (by decide) kK) ?_
          show OwnFin p e below _ (T58.setTop (mkF m 142 #[.val (.int fl), .val (.int pe), .val (.int c), .val (.ref es), .val (.ref b29), .val u5, .val u6, .val u7, .val (.ref b48), .val (.ref b56)] []))
          refine OwnFin.step (fun tT kK => XS.aload X58.here hx rfl (hb hby at_142) rfl rfl kK) ?_
          show OwnFin p e below _ (T58.setTop (mkF m 144 #[.val (.int fl), .val (.int pe), .val (.int c), .val (.ref es), .val (.ref b29), .val u5, .val u6, .val u7, .val (.ref b48), .val (.ref b56)] [(.ref b56)]))
          obtain ⟨cq59, kq59, q59a, q59b, q59c⟩ := isOf hZ e58 P55_0
          obtain ⟨_, _, ⟨T59, L59, k59, n59⟩, -, X59, ⟨Lc59, hQ59, l59, y59, z59⟩, st59⟩ := X58.virtualBack hx (y := (⟨"com/example/myna/myna/delivery/Deliveries$Lanes", "openRequests", "()Ljava/util/Map;"⟩ : MethodName)) (z := (⟨"com/example/myna/myna/delivery/Deliveries$Lanes", "openRequests", "()Ljava/util/Map;"⟩ : MethodName)) hown (mvT hZ (hw _ (List.mem_of_getElem? (i := 50) rfl))) (mvT hZ (hw _ (List.mem_of_getElem? (i := 51) rfl))) (notFace_of_selects (args := #[]) (mvT hZ (hw _ (List.mem_of_getElem? (i := 53) rfl)))) (mvT hZ (hw _ (List.mem_of_getElem? (i := 53) rfl))) (mvT hZ (hw _ (List.mem_of_getElem? (i := 52) rfl))) (by decide) (backOf (W := 0) (rm51 l Z a0 hw [] b56 .null T55.heap n0 (Nat.le_trans (Nat.le_trans (Nat.le_trans (Nat.le_trans (Nat.le_trans (Nat.le_trans (Nat.le_trans (Nat.le_trans Z0 E1.1) E29.1) K34.1) E36.1) K44.1) E48.1) K54.1) E55.1) P55_2 rfl) hZ (hw _ (List.mem_of_getElem? (i := 54) rfl)) (hw _ (List.mem_of_getElem? (i := 2) rfl)) (by decide) (by decide)) q59a q59c (g := (mkF m 144 #[.val (.int fl), .val (.int pe), .val (.int c), .val (.ref es), .val (.ref b29), .val u5, .val u6, .val u7, .val (.ref b48), .val (.ref b56)] [(.ref b56)])) rfl (by rw [hml]; rfl) (Steps.refl _) (argsL := []) (rest := []) (lenOf pd_195 rfl) rfl (by show 2 * 0 + _ ≤ _; exact Nat.le_of_eq rfl) (hb hby at_144) (fun _ _ => ⟨rfl, e58, (by decide : 7 + 0 ≤ _), (by decide : 33 + 0 ≤ _)⟩)
          dsimp only [Pt.U, Pt.locs, Pt.cells, Pt.slots] at X59 l59 y59 z59 st59 hQ59
          subst l59 y59 z59
          obtain ⟨rfl, N59q, e59⟩ := hQ59
          have N59 := Fr.app N58 N59q
          refine OwnFin.step (fun tT kK => st59.trans kK) ?_
          show OwnFin p e below _ (T59.setTop (mkF m 147 #[.val (.int fl), .val (.int pe), .val (.int c), .val (.ref es), .val (.ref b29), .val u5, .val u6, .val u7, .val (.ref b48), .val (.ref b56)] [.null]))
          refine OwnFin.step (fun tT kK => XS.ifnonnullNo X59.here hx rfl (hb hby at_147) rfl kK) ?_
          show OwnFin p e below _ (T59.setTop (mkF m 150 #[.val (.int fl), .val (.int pe), .val (.int c), .val (.ref es), .val (.ref b29), .val u5, .val u6, .val u7, .val (.ref b48), .val (.ref b56)] []))
          refine OwnFin.step (fun tT kK => XS.aload X59.here hx rfl (hb hby at_150) rfl rfl kK) ?_
          show OwnFin p e below _ (T59.setTop (mkF m 152 #[.val (.int fl), .val (.int pe), .val (.int c), .val (.ref es), .val (.ref b29), .val u5, .val u6, .val u7, .val (.ref b48), .val (.ref b56)] [(.ref b56)]))
          obtain ⟨cq60, kq60, q60a, q60b, q60c⟩ := isOf hZ e59 P55_0
          obtain ⟨_, _, ⟨T60, L60, k60, n60⟩, -, X60, ⟨Lc60, hQ60, l60, y60, z60⟩, st60⟩ := X59.virtualBack hx (y := (⟨"com/example/myna/myna/delivery/Deliveries$Lanes", "perEndpoint", "()I"⟩ : MethodName)) (z := (⟨"com/example/myna/myna/delivery/Deliveries$Lanes", "perEndpoint", "()I"⟩ : MethodName)) hown (mvT hZ (hw _ (List.mem_of_getElem? (i := 55) rfl))) (mvT hZ (hw _ (List.mem_of_getElem? (i := 56) rfl))) (notFace_of_selects (args := #[]) (mvT hZ (hw _ (List.mem_of_getElem? (i := 58) rfl)))) (mvT hZ (hw _ (List.mem_of_getElem? (i := 58) rfl))) (mvT hZ (hw _ (List.mem_of_getElem? (i := 57) rfl))) (by decide) (backOf (W := 0) (rm52 l Z a0 hw [] b56 pe T55.heap n0 (Nat.le_trans (Nat.le_trans (Nat.le_trans (Nat.le_trans (Nat.le_trans (Nat.le_trans (Nat.le_trans (Nat.le_trans Z0 E1.1) E29.1) K34.1) E36.1) K44.1) E48.1) K54.1) E55.1) P55_3) hZ (hw _ (List.mem_of_getElem? (i := 59) rfl)) (hw _ (List.mem_of_getElem? (i := 2) rfl)) (by decide) (by decide)) q60a q60c (g := (mkF m 152 #[.val (.int fl), .val (.int pe), .val (.int c), .val (.ref es), .val (.ref b29), .val u5, .val u6, .val u7, .val (.ref b48), .val (.ref b56)] [(.ref b56)])) rfl (by rw [hml]; rfl) (Steps.refl _) (argsL := []) (rest := []) (lenOf pd_196 rfl) rfl (by show 2 * 0 + _ ≤ _; exact Nat.le_of_eq rfl) (hb hby at_152) (fun _ _ => ⟨rfl, e59, (by decide : 7 + 0 ≤ _), (by decide : 33 + 0 ≤ _)⟩)
          dsimp only [Pt.U, Pt.locs, Pt.cells, Pt.slots] at X60 l60 y60 z60 st60 hQ60
          subst l60 y60 z60
          obtain ⟨rfl, N60q, e60⟩ := hQ60
          have N60 := Fr.app N59 N60q
          refine OwnFin.step (fun tT kK => st60.trans kK) ?_
          show OwnFin p e below _ (T60.setTop (mkF m 155 #[.val (.int fl), .val (.int pe), .val (.int c), .val (.ref es), .val (.ref b29), .val u5, .val u6, .val u7, .val (.ref b48), .val (.ref b56)] [(.int pe)]))
          refine OwnFin.step (fun tT kK => XS.iloadN X60.here hx rfl (hb hby at_155) rfl kK) ?_
          show OwnFin p e below _ (T60.setTop (mkF m 156 #[.val (.int fl), .val (.int pe), .val (.int c), .val (.ref es), .val (.ref b29), .val u5, .val u6, .val u7, .val (.ref b48), .val (.ref b56)] [(.int pe), (.int pe)]))
          refine OwnFin.step (fun tT kK => XS.icmpNo X60.here hx rfl (hb hby at_156) rfl (teq (rfl : pe = pe)).2 kK) ?_
          show OwnFin p e below _ (T60.setTop (mkF m 159 #[.val (.int fl), .val (.int pe), .val (.int c), .val (.ref es), .val (.ref b29), .val u5, .val u6, .val u7, .val (.ref b48), .val (.ref b56)] []))
          refine OwnFin.step (fun tT kK => XS.aload X60.here hx rfl (hb hby at_159) rfl rfl kK) ?_
          show OwnFin p e below _ (T60.setTop (mkF m 161 #[.val (.int fl), .val (.int pe), .val (.int c), .val (.ref es), .val (.ref b29), .val u5, .val u6, .val u7, .val (.ref b48), .val (.ref b56)] [(.ref b56)]))
          obtain ⟨cq61, kq61, q61a, q61b, q61c⟩ := isOf hZ e60 P55_0
          obtain ⟨_, _, ⟨T61, L61, k61, n61⟩, -, X61, ⟨Lc61, hQ61, l61, y61, z61⟩, st61⟩ := X60.virtualBack hx (y := (⟨"com/example/myna/myna/delivery/Deliveries$Lanes", "shut", "()Ljava/util/Set;"⟩ : MethodName)) (z := (⟨"com/example/myna/myna/delivery/Deliveries$Lanes", "shut", "()Ljava/util/Set;"⟩ : MethodName)) hown (mvT hZ (hw _ (List.mem_of_getElem? (i := 60) rfl))) (mvT hZ (hw _ (List.mem_of_getElem? (i := 61) rfl))) (notFace_of_selects (args := #[]) (mvT hZ (hw _ (List.mem_of_getElem? (i := 63) rfl)))) (mvT hZ (hw _ (List.mem_of_getElem? (i := 63) rfl))) (mvT hZ (hw _ (List.mem_of_getElem? (i := 62) rfl))) (by decide) (backOf (W := 0) (rm53 l Z a0 hw [] b56 u5 T55.heap n0 (Nat.le_trans (Nat.le_trans (Nat.le_trans (Nat.le_trans (Nat.le_trans (Nat.le_trans (Nat.le_trans (Nat.le_trans Z0 E1.1) E29.1) K34.1) E36.1) K44.1) E48.1) K54.1) E55.1) P55_4 r_u5) hZ (hw _ (List.mem_of_getElem? (i := 64) rfl)) (hw _ (List.mem_of_getElem? (i := 2) rfl)) (by decide) (by decide)) q61a q61c (g := (mkF m 161 #[.val (.int fl), .val (.int pe), .val (.int c), .val (.ref es), .val (.ref b29), .val u5, .val u6, .val u7, .val (.ref b48), .val (.ref b56)] [(.ref b56)])) rfl (by rw [hml]; rfl) (Steps.refl _) (argsL := []) (rest := []) (lenOf pd_34 rfl) rfl (by show 2 * 0 + _ ≤ _; exact Nat.le_of_eq rfl) (hb hby at_161) (fun _ _ => ⟨rfl, e60, (by decide : 7 + 0 ≤ _), (by decide : 33 + 0 ≤ _)⟩)
          dsimp only [Pt.U, Pt.locs, Pt.cells, Pt.slots] at X61 l61 y61 z61 st61 hQ61
          subst l61 y61 z61
          obtain ⟨rfl, N61q, e61⟩ := hQ61
          have N61 := Fr.app N60 N61q
          refine OwnFin.step (fun tT kK => st61.trans kK) ?_
          show OwnFin p e below _ (T61.setTop (mkF m 164 #[.val (.int fl), .val (.int pe), .val (.int c), .val (.ref es), .val (.ref b29), .val u5, .val u6, .val u7, .val (.ref b48), .val (.ref b56)] [u5]))
          refine OwnFin.step (fun tT kK => XS.aload X61.here hx rfl (hb hby at_164) rfl r_u5 kK) ?_
          show OwnFin p e below _ (T61.setTop (mkF m 166 #[.val (.int fl), .val (.int pe), .val (.int c), .val (.ref es), .val (.ref b29), .val u5, .val u6, .val u7, .val (.ref b48), .val (.ref b56)] [u5, u5]))
          refine OwnFin.step (fun tT kK => Jvm.RoadKit.acmp (g := (mkF m 166 #[.val (.int fl), .val (.int pe), .val (.int c), .val (.ref es), .val (.ref b29), .val u5, .val u6, .val u7, .val (.ref b48), .val (.ref b56)] [u5, u5])) X61 hx rfl r_u5 r_u5 (pc0 := 166) (pc' := 169) (same := true) rfl (hb hby at_166) rfl (decide_eq_true rfl) (by decide) (by decide) kK) ?_
          show OwnFin p e below _ (T61.setTop (mkF m 169 #[.val (.int fl), .val (.int pe), .val (.int c), .val (.ref es), .val (.ref b29), .val u5, .val u6, .val u7, .val (.ref b48), .val (.ref b56)] []))
          refine OwnFin.step (fun tT kK => XS.aload X61.here hx rfl (hb hby at_169) rfl rfl kK) ?_
          show OwnFin p e below _ (T61.setTop (mkF m 171 #[.val (.int fl), .val (.int pe), .val (.int c), .val (.ref es), .val (.ref b29), .val u5, .val u6, .val u7, .val (.ref b48), .val (.ref b56)] [(.ref b48)]))
          have f62 : Fld Z T55.heap b48 "com/example/myna/myna/delivery/Deliveries$Lanes" "deferred" "Ljava/util/Set;" u6 := (P54_5.ext E55)
          have f64 : Exa Z T55.heap b48 "com/example/myna/myna/delivery/Deliveries$Lanes" := (P54_0.ext E55)
          obtain ⟨cq63, kq63, q63a, q63b, q63c⟩ := isOf hZ e61 f64
          obtain ⟨_, _, ⟨T63, L63, k63, n63⟩, -, X63, ⟨Lc63, hQ63, l63, y63, z63⟩, st63⟩ := X61.virtualBack hx (y := (⟨"com/example/myna/myna/delivery/Deliveries$Lanes", "deferred", "()Ljava/util/Set;"⟩ : MethodName)) (z := (⟨"com/example/myna/myna/delivery/Deliveries$Lanes", "deferred", "()Ljava/util/Set;"⟩ : MethodName)) hown (mvT hZ (hw _ (List.mem_of_getElem? (i := 33) rfl))) (mvT hZ (hw _ (List.mem_of_getElem? (i := 34) rfl))) (notFace_of_selects (args := #[]) (mvT hZ (hw _ (List.mem_of_getElem? (i := 36) rfl)))) (mvT hZ (hw _ (List.mem_of_getElem? (i := 36) rfl))) (mvT hZ (hw _ (List.mem_of_getElem? (i := 35) rfl))) (by decide) (backOf (W := 0) (rm54 l Z a0 hw [] b48 u6 T55.heap n0 (Nat.le_trans (Nat.le_trans (Nat.le_trans (Nat.le_trans (Nat.le_trans (Nat.le_trans (Nat.le_trans (Nat.le_trans Z0 E1.1) E29.1) K34.1) E36.1) K44.1) E48.1) K54.1) E55.1) f62 r_u6) hZ (hw _ (List.mem_of_getElem? (i := 37) rfl)) (hw _ (List.mem_of_getElem? (i := 2) rfl)) (by decide) (by decide)) q63a q63c (g := (mkF m 171 #[.val (.int fl), .val (.int pe), .val (.int c), .val (.ref es), .val (.ref b29), .val u5, .val u6, .val u7, .val (.ref b48), .val (.ref b56)] [(.ref b48)])) rfl (by rw [hml]; rfl) (Steps.refl _) (argsL := []) (rest := []) (lenOf pd_34 rfl) rfl (by show 2 * 0 + _ ≤ _; exact Nat.le_of_eq rfl) (hb hby at_171) (fun _ _ => ⟨rfl, e61, (by decide : 7 + 0 ≤ _), (by decide : 33 + 0 ≤ _)⟩)
          dsimp only [Pt.U, Pt.locs, Pt.cells, Pt.slots] at X63 l63 y63 z63 st63 hQ63
          subst l63 y63 z63
          obtain ⟨rfl, N63q, e63⟩ := hQ63
          have N63 := Fr.app N61 N63q
          refine OwnFin.step (fun tT kK => st63.trans kK) ?_
          show OwnFin p e below _ (T63.setTop (mkF m 174 #[.val (.int fl), .val (.int pe), .val (.int c), .val (.ref es), .val (.ref b29), .val u5, .val u6, .val u7, .val (.ref b48), .val (.ref b56)] [u6]))
          refine OwnFin.step (fun tT kK => XS.aload X63.here hx rfl (hb hby at_174) rfl r_u6 kK) ?_
          show OwnFin p e below _ (T63.setTop (mkF m 176 #[.val (.int fl), .val (.int pe), .val (.int c), .val (.ref es), .val (.ref b29), .val u5, .val u6, .val u7, .val (.ref b48), .val (.ref b56)] [u6, u6]))
          refine OwnFin.step (fun tT kK => Jvm.RoadKit.acmp (g := (mkF m 176 #[.val (.int fl), .val (.int pe), .val (.int c), .val (.ref es), .val (.ref b29), .val u5, .val u6, .val u7, .val (.ref b48), .val (.ref b56)] [u6, u6])) X63 hx rfl r_u6 r_u6 (pc0 := 176) (pc' := 179) (same := true) rfl (hb hby at_176) rfl (decide_eq_true rfl) (by decide) (by decide) kK) ?_
          show OwnFin p e below _ (T63.setTop (mkF m 179 #[.val (.int fl), .val (.int pe), .val (.int c), .val (.ref es), .val (.ref b29), .val u5, .val u6, .val u7, .val (.ref b48), .val (.ref b56)] []))
          refine OwnFin.step (fun tT kK => XS.iconst X63.here hx rfl (hb hby at_179) kK) ?_
          show OwnFin p e below _ (T63.setTop (mkF m 180 #[.val (.int fl), .val (.int pe), .val (.int c), .val (.ref es), .val (.ref b29), .val u5, .val u6, .val u7, .val (.ref b48), .val (.ref b56)] [(.int (1 : Int32))]))
          refine OwnFin.step (fun tT kK => XS.goto X63.here hx rfl (pc0 := 180) (pc' := 184) rfl (hb hby at_180) (by decide) (by decide) kK) ?_
          show OwnFin p e below _ (T63.setTop (mkF m 184 #[.val (.int fl), .val (.int pe), .val (.int c), .val (.ref es), .val (.ref b29), .val u5, .val u6, .val u7, .val (.ref b48), .val (.ref b56)] [(.int (1 : Int32))]))
          obtain ⟨fs65, hr65, hrun65, hended65, hW65, hsame65⟩ := X63.leave (v := (some (.int (1 : Int32)))) (fun h => by rw [Bd.returns] at h; cases h)
          refine ⟨_, _, retN X63 hx (t := .boolean) Bd.returns (by simp) (hb hby at_184) hr65, hrun65, hended65, _, _, rfl, ?_, ⟨_, rfl⟩, hW65, hsame65.mono (by decide) (by decide)⟩
          show Q0 Z fl pe c es dc kd cs h0 n0 _ T63.heap _
          rw [e63]
          exact ⟨rfl, N63, (((((((((Keep.refl h0 []).ext E1).ext E29).trans K34 (allS (P := fun x => x ∈ [] ∨ h0.size ≤ x) (Or.inr (Nat.le_trans (Nat.le_trans (Nat.le_refl _) E1.1) (Nat.le_of_eq g29.symm))) all0)).ext E36).trans K44 (allS (P := fun x => x ∈ [] ∨ h0.size ≤ x) (Or.inr (Nat.le_trans (Nat.le_trans (Nat.le_refl _) E1.1) (Nat.le_of_eq g29.symm))) all0)).ext E48).trans K54 (allS (P := fun x => x ∈ [] ∨ h0.size ≤ x) (Or.inr (Nat.le_trans (Nat.le_trans (Nat.le_trans (Nat.le_trans (Nat.le_trans (Nat.le_trans (Nat.le_refl _) E1.1) E29.1) K34.1) E36.1) K44.1) (Nat.le_of_eq g48.symm))) all0)).ext E55)⟩
        by_cases hc66 : (fl &&& (8 : Int32)) = (0 : Int32)
        · skip
          refine OwnFin.step (fun tT kK => XS.ifYes X44.here hx rfl (pc0 := 77) (pc' := 84) rfl (hb hby at_77) rfl ((if0 _ _).trans (teq (hc66 : (fl &&& (8 : Int32)) = (0 : Int32))).1) (by decide) (by decide) kK) ?_
          show OwnFin p e below _ (T44.setTop (mkF m 84 #[.val (.int fl), .val (.int pe), .val (.int c), .val (.ref es), .val (.ref b29), .val u5, .val u6, .unset, .unset, .unset] []))
          refine OwnFin.step (fun tT kK => XS.aconstNull X44.here hx rfl (hb hby at_84) kK) ?_
          show OwnFin p e below _ (T44.setTop (mkF m 85 #[.val (.int fl), .val (.int pe), .val (.int c), .val (.ref es), .val (.ref b29), .val u5, .val u6, .unset, .unset, .unset] [.null]))
          exact key47 _ rfl
        · skip
          refine OwnFin.step (fun tT kK => XS.ifNo X44.here hx rfl (hb hby at_77) rfl ((if0 _ _).trans (feq (hc66 : ¬ ((fl &&& (8 : Int32)) = (0 : Int32)))).1) kK) ?_
          show OwnFin p e below _ (T44.setTop (mkF m 80 #[.val (.int fl), .val (.int pe), .val (.int c), .val (.ref es), .val (.ref b29), .val u5, .val u6, .unset, .unset, .unset] []))
          refine OwnFin.step (fun tT kK => XS.aloadN X44.here hx rfl (hb hby at_80) rfl rfl kK) ?_
          show OwnFin p e below _ (T44.setTop (mkF m 81 #[.val (.int fl), .val (.int pe), .val (.int c), .val (.ref es), .val (.ref b29), .val u5, .val u6, .unset, .unset, .unset] [(.ref es)]))
          refine OwnFin.step (fun tT kK => XS.goto X44.here hx rfl (pc0 := 81) (pc' := 85) rfl (hb hby at_81) (by decide) (by decide) kK) ?_
          show OwnFin p e below _ (T44.setTop (mkF m 85 #[.val (.int fl), .val (.int pe), .val (.int c), .val (.ref es), .val (.ref b29), .val u5, .val u6, .unset, .unset, .unset] [(.ref es)]))
          exact key47 _ rfl
      by_cases hc67 : (fl &&& (4 : Int32)) = (0 : Int32)
      · skip
        refine OwnFin.step (fun tT kK => XS.ifYes X44.here hx rfl (pc0 := 63) (pc' := 70) rfl (hb hby at_63) rfl ((if0 _ _).trans (teq (hc67 : (fl &&& (4 : Int32)) = (0 : Int32))).1) (by decide) (by decide) kK) ?_
        show OwnFin p e below _ (T44.setTop (mkF m 70 #[.val (.int fl), .val (.int pe), .val (.int c), .val (.ref es), .val (.ref b29), .val u5, .unset, .unset, .unset, .unset] []))
        refine OwnFin.step (fun tT kK => XS.aconstNull X44.here hx rfl (hb hby at_70) kK) ?_
        show OwnFin p e below _ (T44.setTop (mkF m 71 #[.val (.int fl), .val (.int pe), .val (.int c), .val (.ref es), .val (.ref b29), .val u5, .unset, .unset, .unset, .unset] [.null]))
        exact key46 _ rfl
      · skip
        refine OwnFin.step (fun tT kK => XS.ifNo X44.here hx rfl (hb hby at_63) rfl ((if0 _ _).trans (feq (hc67 : ¬ ((fl &&& (4 : Int32)) = (0 : Int32)))).1) kK) ?_
        show OwnFin p e below _ (T44.setTop (mkF m 66 #[.val (.int fl), .val (.int pe), .val (.int c), .val (.ref es), .val (.ref b29), .val u5, .unset, .unset, .unset, .unset] []))
        refine OwnFin.step (fun tT kK => XS.aloadN X44.here hx rfl (hb hby at_66) rfl rfl kK) ?_
        show OwnFin p e below _ (T44.setTop (mkF m 67 #[.val (.int fl), .val (.int pe), .val (.int c), .val (.ref es), .val (.ref b29), .val u5, .unset, .unset, .unset, .unset] [(.ref es)]))
        refine OwnFin.step (fun tT kK => XS.goto X44.here hx rfl (pc0 := 67) (pc' := 71) rfl (hb hby at_67) (by decide) (by decide) kK) ?_
        show OwnFin p e below _ (T44.setTop (mkF m 71 #[.val (.int fl), .val (.int pe), .val (.int c), .val (.ref es), .val (.ref b29), .val u5, .unset, .unset, .unset, .unset] [(.ref es)]))
        exact key46 _ rfl
    by_cases hc68 : (fl &&& (2 : Int32)) = (0 : Int32)
    · skip
      refine OwnFin.step (fun tT kK => XS.ifYes X44.here hx rfl (pc0 := 50) (pc' := 57) rfl (hb hby at_50) rfl ((if0 _ _).trans (teq (hc68 : (fl &&& (2 : Int32)) = (0 : Int32))).1) (by decide) (by decide) kK) ?_
      show OwnFin p e below _ (T44.setTop (mkF m 57 #[.val (.int fl), .val (.int pe), .val (.int c), .val (.ref es), .val (.ref b29), .val (.ref b29), .unset, .unset, .unset, .unset] []))
      refine OwnFin.step (fun tT kK => XS.aconstNull X44.here hx rfl (hb hby at_57) kK) ?_
      show OwnFin p e below _ (T44.setTop (mkF m 58 #[.val (.int fl), .val (.int pe), .val (.int c), .val (.ref es), .val (.ref b29), .val (.ref b29), .unset, .unset, .unset, .unset] [.null]))
      exact key45 _ rfl
    · skip
      refine OwnFin.step (fun tT kK => XS.ifNo X44.here hx rfl (hb hby at_50) rfl ((if0 _ _).trans (feq (hc68 : ¬ ((fl &&& (2 : Int32)) = (0 : Int32)))).1) kK) ?_
      show OwnFin p e below _ (T44.setTop (mkF m 53 #[.val (.int fl), .val (.int pe), .val (.int c), .val (.ref es), .val (.ref b29), .val (.ref b29), .unset, .unset, .unset, .unset] []))
      refine OwnFin.step (fun tT kK => XS.aloadN X44.here hx rfl (hb hby at_53) rfl rfl kK) ?_
      show OwnFin p e below _ (T44.setTop (mkF m 54 #[.val (.int fl), .val (.int pe), .val (.int c), .val (.ref es), .val (.ref b29), .val (.ref b29), .unset, .unset, .unset, .unset] [(.ref es)]))
      refine OwnFin.step (fun tT kK => XS.goto X44.here hx rfl (pc0 := 54) (pc' := 58) rfl (hb hby at_54) (by decide) (by decide) kK) ?_
      show OwnFin p e below _ (T44.setTop (mkF m 58 #[.val (.int fl), .val (.int pe), .val (.int c), .val (.ref es), .val (.ref b29), .val (.ref b29), .unset, .unset, .unset, .unset] [(.ref es)]))
      exact key45 _ rfl
set_option maxRecDepth 65536 in
set_option maxHeartbeats 40000000 in
theorem comes_1 {Post : Tables → Env → Array Value → State → Outcome → State → Prop} (hpost : ∀ tb e args s v u, (limb_1_1.after args s (.returned v) u = true ∧ limb_1_2.after args s (.returned v) u = true ∧ True) → FrameEnd s (.returned v) u (Jvm.fieldLocs frame_1_writes args s ++ Jvm.arrayLocs frame_1_arrays args s ++ Jvm.staticLocs frame_1_statics s) 24 192 → Post tb e args s (.returned v) u) :
    ArmFor flags0 classFile x code maxLocals ret World_1 tables_1 room_1 Calls_1 rest_1 Pre_1 Post := by
  intro l hfl _ _ p e ha hc hk s m args below hf hA hF happ hP
  obtain ⟨hcalls, hrest, hpre⟩ := hP
  obtain ⟨-, -, -, hnamed, -, -, -, hat⟩ := (Spec.applies_iff hf).mp happ
  obtain ⟨hg, hn⟩ := and_e (Cond.before_iff.mp (show (Jvm.Cond.and given_1 narrow_1).before args s = true from hpre))
  obtain ⟨g1, g2⟩ := and_e hg
  obtain ⟨g3, g4⟩ := and_e g2
  obtain ⟨g5, g6⟩ := and_e g4
  obtain ⟨w_0, w_1, w_2, rfl⟩ : ∃ w_0 w_1 w_2 : Value, args = #[w_0, w_1, w_2] := by
    have hs : args.size = 3 := by simpa [Cond.value, given_1] using g1
    obtain ⟨L⟩ := args
    match L, hs with
    | [w_0, w_1, w_2], _ => exact ⟨w_0, w_1, w_2, rfl⟩
  have hw := fun d (hd : d ∈ tables_1) => atoms_spec (ws := Jvm.Cond.code x code maxLocals ret :: tables_1) hat d (List.mem_cons_of_mem _ hd)
  have hfit : Fit s := fun {y c} hc i hi => by
    obtain ⟨ha, rfl⟩ := Array.getElem?_eq_some_iff.mp hc
    have q := List.all_eq_true.mp ((Array.all_eq_true_iff_forall_mem.mp hF) _ (Array.getElem_mem ha)) i (List.mem_range.mpr hi)
    simpa [Array.getElem?_eq_getElem hi] using q
  obtain ⟨hsets, hown0⟩ := atoms_of _ (rest_1_c_eq ▸ (show rest_1_c.before _ s = true from hrest))
  have hr0 := Cond.before_iff.mp hown0
  obtain ⟨fl, ei0⟩ := is_v g3
  obtain rfl : w_0 = (.int fl) := Option.some.inj ei0
  obtain ⟨pe, ei1⟩ := is_v g5
  obtain rfl : w_1 = (.int pe) := Option.some.inj ei1
  obtain ⟨c, ei2⟩ := is_v g6
  obtain rfl : w_2 = (.int c) := Option.some.inj ei2
  obtain ⟨es, ev_es⟩ := exa_v (Cond.before_iff.mp (hsets _ (List.mem_of_getElem? (i := 2) rfl)))
  have S_es := Sta.start ev_es (Or.inl (hsets _ (List.mem_of_getElem? (i := 1) rfl)))
  obtain ⟨dc, ev_dc⟩ := arr_v (Cond.before_iff.mp (hsets _ (List.mem_of_getElem? (i := 13) rfl)))
  have S_dc := Sta.start ev_dc (Or.inr ⟨(hw _ (List.mem_of_getElem? (i := 67) rfl)), (hsets _ (List.mem_of_getElem? (i := 9) rfl))⟩)
  obtain ⟨cl, A_dc⟩ := Arr.start ev_dc (Cond.before_iff.mp (hsets _ (List.mem_of_getElem? (i := 13) rfl)))
  have V_dc := own_arv (vs := []) (dv := .null) hfit A_dc ev_dc (own_eqI (Cond.before_iff.mp (hsets _ (List.mem_of_getElem? (i := 15) rfl)))) (by decide) rfl trivial
  obtain ⟨cs, ev_cs⟩ := is_v (Cond.before_iff.mp (hsets _ (List.mem_of_getElem? (i := 17) rfl)))
  have S_cs := Sta.start ev_cs (Or.inl (hsets _ (List.mem_of_getElem? (i := 16) rfl)))
  have hcs : ¬ cs = (0 : Int32) := own_neI ev_cs (Cond.before_iff.mp (hsets _ (List.mem_of_getElem? (i := 18) rfl)))
  obtain ⟨n, o, h1, h2, h3, _, L, rfl, ⟨rfl, N, -⟩, hq⟩ := rm0 l s _ hw tables_1 fl pe c es dc _ cs s.heap s.heap.size (Nat.le_refl _) S_es S_dc V_dc S_cs hcs p e ha hc hk s m _ below hf ((Spec.applies_iff_loose hf).mp happ).1 ⟨rfl, State.Warmed39.refl s, rfl⟩ trivial
  refine ⟨n, _, h1, h2, h3, hpost _ _ _ _ _ _ ⟨Cond.after_iff.mpr rfl, Cond.after_iff.mpr (eq_i res_at (Term.int_eval (1)) rfl), trivial⟩ ⟨hq.1, hq.2.1, (hq.2.2.sift fun y hy => Or.inr (N y hy)).mono (by decide) (by decide)⟩⟩
theorem main_1_1 : Claimed_1_1 := comes_1 fun _ _ _ _ _ _ h hF => ⟨h.1, hF⟩
theorem main_1_2 : Claimed_1_2 := comes_1 fun _ _ _ _ _ _ h hF => ⟨h.2.1, hF⟩
end Jvm.Pilot.@@N@@
namespace Jvm.Pilot.@@N@@
open Jvm Jvm.ClassFile Sem Op Lib Jvm.Free Jvm.Stand Jvm.Pilot.@@N@@.Jvm.D
/-! MADE BY PROGRAM (witnessworld.py) out of the Statement's table words and the real class files: 33 classes; the members and pool entries that the words name. The judged class is class 1, her method 1. -/
namespace start1
open Jvm.ClassFile
def u (s : String) : CpInfo := .utf8 (stringToUtf16 s)
/-- a pool by its gaps: so many unusable entries, then the entry; so many at the end -/
def gap : Nat → List CpInfo → List CpInfo
  | 0, r => r
  | n + 1, r => .unusable :: gap n r
def poolList (es : List (Nat × CpInfo)) (last : Nat) : List CpInfo := es.foldr (fun e r => gap e.1 (e.2 :: r)) (gap last [])
def pool (es : List (Nat × CpInfo)) (last : Nat) : Array CpInfo := ⟨poolList es last⟩
def fileOf (pool : Array CpInfo) (this : Nat) (attrs : Array Attribute := #[]) (ms : Array MethodInfo := #[]) (fl : Nat := 33) (sup : Nat := 0) (ifs : Array Nat := #[]) (fds : Array FieldInfo := #[]) : ClassFile where
  minorVersion := 0
  majorVersion := 65
  constantPool := pool
  accessFlags := fl
  thisClass := this
  superClass := sup
  interfaces := ifs
  fields := fds
  methods := ms
  attributes := attrs
def plain (name : String) (sup : Option ClassId) : Class where
  name := name
  kind := .ordinary
  loader := none
  accessFlags := 33
  super := sup
  interfaces := #[]
  cf := none
  fields := #[]
  methods := #[]
  instanceTypes := #[]
  staticTypes := #[]
  resolved := #[]
  callSites := []
  init := .initialized
  statics := none
  mirror := none

def pool0 : Array CpInfo := pool [(5, u "<init>"), (0, u "()V"), (1, .class_ 10), (1, u "java/lang/Object")] 113

def k0c0 : Code := { maxStack := 0, maxLocals := 1, code := object_method_1_code, exceptionTable := #[], attributes := #[] }
def k0m0 : Method := { name := "<init>", desc := "()V", sig := { parameters := [], returnType := none }, accessFlags := 1, code := some k0c0 }
/-- java/lang/Object -/
def k0 : Class := { plain "java/lang/Object" none with
  accessFlags := 33
  interfaces := #[]
  cf := some (fileOf pool0 8 #[] #[{ accessFlags := 1, nameIndex := 5, descriptorIndex := 6, attributes := #[] }] 33 0 #[] #[])
  fields := #[]
  methods := #[k0m0]
  instanceTypes := #[]
  staticTypes := #[]
  resolved := Array.replicate 124 none
  statics := none }

def pool1 : Array CpInfo := pool [(2, .class_ 4), (0, .nameAndType 5 6), (0, u "java/lang/Object"), (0, u "<init>"), (0, u "()V"), (0, .methodref 8 9), (0, .class_ 10), (0, .nameAndType 11 12), (0, u "com/example/myna/myna/delivery/Deliveries$Lanes"), (0, u "every"), (0, u "(Ljava/util/Map;ILjava/util/Set;)Lcom/example/myna/myna/delivery/Deliveries$Lanes;"), (0, .methodref 8 14), (0, .nameAndType 15 16), (0, u "deferred"), (0, u "()Ljava/util/Set;"), (0, .class_ 18), (0, u "java/util/ArrayList"), (0, .methodref 17 3), (0, .methodref 21 22), (0, .class_ 23), (0, .nameAndType 24 25), (0, u "java/lang/String"), (0, u "valueOf"), (0, u "(C)Ljava/lang/String;"), (0, .methodref 17 27), (0, .nameAndType 28 29), (0, u "add"), (0, u "(Ljava/lang/Object;)Z"), (0, .methodref 8 31), (0, .nameAndType 5 32), (0, u "(Ljava/util/List;Ljava/util/Map;ILjava/util/Set;Ljava/util/Set;)V"), (0, .methodref 8 34), (0, .nameAndType 35 36), (0, u "deferring"), (0, u "(Ljava/util/Set;)Lcom/example/myna/myna/delivery/Deliveries$Lanes;"), (0, .methodref 8 38), (0, .nameAndType 39 40), (0, u "endpointIds"), (0, u "()Ljava/util/List;"), (0, .methodref 8 42), (0, .nameAndType 43 44), (0, u "openRequests"), (0, u "()Ljava/util/Map;"), (0, .methodref 8 46), (0, .nameAndType 47 48), (0, u "perEndpoint"), (0, u "()I"), (0, .methodref 8 50), (0, .nameAndType 51 16), (0, u "shut"), (0, .class_ 53), (0, u "com/example/myna/myna/delivery/LanesDeferringPinLaw"), (2, u "law"), (0, u "(III)Z")] 11

def k1m0 : Method := { name := "<init>", desc := "()V", sig := { parameters := [], returnType := none }, accessFlags := 2, code := none }
def k1c1 : Code := { maxStack := 7, maxLocals := 10, code := code, exceptionTable := #[], attributes := #[] }
def k1m1 : Method := { name := "law", desc := "(III)Z", sig := { parameters := [.int, .int, .int], returnType := some .boolean }, accessFlags := 9, code := some k1c1 }
/-- com/example/myna/myna/delivery/LanesDeferringPinLaw -/
def k1 : Class := { plain "com/example/myna/myna/delivery/LanesDeferringPinLaw" (some 0) with
  accessFlags := 49
  interfaces := #[]
  cf := some (fileOf pool1 52 #[] #[{ accessFlags := 2, nameIndex := 5, descriptorIndex := 6, attributes := #[] }, { accessFlags := 9, nameIndex := 56, descriptorIndex := 57, attributes := #[] }] 49 2 #[] #[])
  fields := #[]
  methods := #[k1m0, k1m1]
  instanceTypes := #[]
  staticTypes := #[]
  resolved := Array.replicate 69 none
  statics := none }

def pool2 : Array CpInfo := pool [(1, .methodref 2 3), (0, .class_ 4), (0, .nameAndType 5 6), (0, u "java/lang/Object"), (0, u "<init>"), (0, u "()V"), (0, .class_ 8), (0, u "java/lang/Record")] 13

def k2c0 : Code := { maxStack := 1, maxLocals := 1, code := jdk_30_method_1_code, exceptionTable := #[], attributes := #[] }
def k2m0 : Method := { name := "<init>", desc := "()V", sig := { parameters := [], returnType := none }, accessFlags := 4, code := some k2c0 }
/-- java/lang/Record -/
def k2 : Class := { plain "java/lang/Record" (some 0) with
  accessFlags := 1057
  interfaces := #[]
  cf := some (fileOf pool2 7 #[] #[{ accessFlags := 4, nameIndex := 5, descriptorIndex := 6, attributes := #[] }] 1057 2 #[] #[])
  fields := #[]
  methods := #[k2m0]
  instanceTypes := #[]
  staticTypes := #[]
  resolved := Array.replicate 22 none
  statics := none }

def pool3 : Array CpInfo := pool [(1, .methodref 2 3), (0, .class_ 4), (0, .nameAndType 5 6), (0, u "java/lang/Record"), (0, u "<init>"), (0, u "()V"), (0, .fieldref 8 9), (0, .class_ 10), (0, .nameAndType 11 12), (0, u "com/example/myna/myna/delivery/Deliveries$Lanes"), (0, u "endpointIds"), (0, u "Ljava/util/List;"), (0, .fieldref 8 14), (0, .nameAndType 15 16), (0, u "openRequests"), (0, u "Ljava/util/Map;"), (0, .fieldref 8 18), (0, .nameAndType 19 20), (0, u "perEndpoint"), (0, u "I"), (0, .fieldref 8 22), (0, .nameAndType 23 24), (0, u "shut"), (0, u "Ljava/util/Set;"), (0, .fieldref 8 26), (0, .nameAndType 27 24), (0, u "deferred"), (0, .interfaceMethodref 29 30), (0, .class_ 31), (0, .nameAndType 32 33), (0, u "java/util/Set"), (0, u "of"), (0, u "()Ljava/util/Set;"), (0, .methodref 8 35), (0, .nameAndType 5 36), (0, u "(Ljava/util/List;Ljava/util/Map;ILjava/util/Set;Ljava/util/Set;)V"), (21, u "()I"), (30, u "every"), (0, u "(Ljava/util/Map;ILjava/util/Set;)Lcom/example/myna/myna/delivery/Deliveries$Lanes;"), (3, u "deferring"), (0, u "(Ljava/util/Set;)Lcom/example/myna/myna/delivery/Deliveries$Lanes;"), (5, u "()Ljava/util/List;"), (1, u "()Ljava/util/Map;"), (5, .class_ 110), (0, u "com/example/myna/myna/delivery/Deliveries")] 23

def k3c0 : Code := { maxStack := 2, maxLocals := 6, code := prog_14_method_1_code, exceptionTable := #[], attributes := #[] }
def k3m0 : Method := { name := "<init>", desc := "(Ljava/util/List;Ljava/util/Map;ILjava/util/Set;Ljava/util/Set;)V", sig := { parameters := [(.object "java/util/List"), (.object "java/util/Map"), .int, (.object "java/util/Set"), (.object "java/util/Set")], returnType := none }, accessFlags := 0, code := some k3c0 }
def k3c1 : Code := { maxStack := 7, maxLocals := 3, code := prog_14_method_2_code, exceptionTable := #[], attributes := #[] }
def k3m1 : Method := { name := "every", desc := "(Ljava/util/Map;ILjava/util/Set;)Lcom/example/myna/myna/delivery/Deliveries$Lanes;", sig := { parameters := [(.object "java/util/Map"), .int, (.object "java/util/Set")], returnType := some (.object "com/example/myna/myna/delivery/Deliveries$Lanes") }, accessFlags := 8, code := some k3c1 }
def k3c2 : Code := { maxStack := 7, maxLocals := 2, code := prog_14_method_4_code, exceptionTable := #[], attributes := #[] }
def k3m2 : Method := { name := "deferring", desc := "(Ljava/util/Set;)Lcom/example/myna/myna/delivery/Deliveries$Lanes;", sig := { parameters := [(.object "java/util/Set")], returnType := some (.object "com/example/myna/myna/delivery/Deliveries$Lanes") }, accessFlags := 0, code := some k3c2 }
def k3c3 : Code := { maxStack := 1, maxLocals := 1, code := prog_14_method_9_code, exceptionTable := #[], attributes := #[] }
def k3m3 : Method := { name := "endpointIds", desc := "()Ljava/util/List;", sig := { parameters := [], returnType := some (.object "java/util/List") }, accessFlags := 1, code := some k3c3 }
def k3c4 : Code := { maxStack := 1, maxLocals := 1, code := prog_14_method_10_code, exceptionTable := #[], attributes := #[] }
def k3m4 : Method := { name := "openRequests", desc := "()Ljava/util/Map;", sig := { parameters := [], returnType := some (.object "java/util/Map") }, accessFlags := 1, code := some k3c4 }
def k3c5 : Code := { maxStack := 1, maxLocals := 1, code := prog_14_method_11_code, exceptionTable := #[], attributes := #[] }
def k3m5 : Method := { name := "perEndpoint", desc := "()I", sig := { parameters := [], returnType := some .int }, accessFlags := 1, code := some k3c5 }
def k3c6 : Code := { maxStack := 1, maxLocals := 1, code := prog_14_method_12_code, exceptionTable := #[], attributes := #[] }
def k3m6 : Method := { name := "shut", desc := "()Ljava/util/Set;", sig := { parameters := [], returnType := some (.object "java/util/Set") }, accessFlags := 1, code := some k3c6 }
def k3c7 : Code := { maxStack := 1, maxLocals := 1, code := prog_14_method_13_code, exceptionTable := #[], attributes := #[] }
def k3m7 : Method := { name := "deferred", desc := "()Ljava/util/Set;", sig := { parameters := [], returnType := some (.object "java/util/Set") }, accessFlags := 1, code := some k3c7 }
/-- com/example/myna/myna/delivery/Deliveries$Lanes -/
def k3 : Class := { plain "com/example/myna/myna/delivery/Deliveries$Lanes" (some 2) with
  accessFlags := 48
  interfaces := #[]
  cf := some (fileOf pool3 8 #[.nestHost 109] #[{ accessFlags := 0, nameIndex := 5, descriptorIndex := 36, attributes := #[] }, { accessFlags := 8, nameIndex := 89, descriptorIndex := 90, attributes := #[] }, { accessFlags := 0, nameIndex := 94, descriptorIndex := 95, attributes := #[] }, { accessFlags := 1, nameIndex := 11, descriptorIndex := 101, attributes := #[] }, { accessFlags := 1, nameIndex := 15, descriptorIndex := 103, attributes := #[] }, { accessFlags := 1, nameIndex := 19, descriptorIndex := 58, attributes := #[] }, { accessFlags := 1, nameIndex := 23, descriptorIndex := 33, attributes := #[] }, { accessFlags := 1, nameIndex := 27, descriptorIndex := 33, attributes := #[] }] 48 2 #[] #[{ accessFlags := 18, nameIndex := 11, descriptorIndex := 12, attributes := #[] }, { accessFlags := 18, nameIndex := 15, descriptorIndex := 16, attributes := #[] }, { accessFlags := 18, nameIndex := 19, descriptorIndex := 20, attributes := #[] }, { accessFlags := 18, nameIndex := 23, descriptorIndex := 24, attributes := #[] }, { accessFlags := 18, nameIndex := 27, descriptorIndex := 24, attributes := #[] }])
  fields := #[{ name := "endpointIds", type := (.object "java/util/List"), accessFlags := 18, slot := 0, constantValue := 0 }, { name := "openRequests", type := (.object "java/util/Map"), accessFlags := 18, slot := 1, constantValue := 0 }, { name := "perEndpoint", type := .int, accessFlags := 18, slot := 2, constantValue := 0 }, { name := "shut", type := (.object "java/util/Set"), accessFlags := 18, slot := 3, constantValue := 0 }, { name := "deferred", type := (.object "java/util/Set"), accessFlags := 18, slot := 4, constantValue := 0 }]
  methods := #[k3m0, k3m1, k3m2, k3m3, k3m4, k3m5, k3m6, k3m7]
  instanceTypes := #[(.object "java/util/List"), (.object "java/util/Map"), .int, (.object "java/util/Set"), (.object "java/util/Set")]
  staticTypes := #[]
  resolved := Array.replicate 134 none
  statics := none }

def pool4 : Array CpInfo := pool [(8, .class_ 10), (1, u "java/lang/Iterable"), (24, .class_ 36), (0, u "java/lang/Object")] 25

/-- java/lang/Iterable -/
def k4 : Class := { plain "java/lang/Iterable" (some 0) with
  accessFlags := 1537
  interfaces := #[]
  cf := some (fileOf pool4 8 #[] #[] 1537 35 #[] #[])
  fields := #[]
  methods := #[]
  instanceTypes := #[]
  staticTypes := #[]
  resolved := Array.replicate 62 none
  statics := none }

def pool5 : Array CpInfo := pool [(10, .class_ 12), (1, u "java/util/Collection"), (47, .class_ 61), (0, u "java/lang/Object"), (0, .class_ 63), (0, u "java/lang/Iterable")] 51

/-- java/util/Collection -/
def k5 : Class := { plain "java/util/Collection" (some 0) with
  accessFlags := 1537
  interfaces := #[4]
  cf := some (fileOf pool5 10 #[] #[] 1537 60 #[62] #[])
  fields := #[]
  methods := #[]
  instanceTypes := #[]
  staticTypes := #[]
  resolved := Array.replicate 115 none
  statics := none }

def pool6 : Array CpInfo := pool [(9, .fieldref 10 11), (0, .class_ 12), (0, .nameAndType 13 14), (0, u "java/util/ImmutableCollections"), (0, u "EMPTY_SET"), (0, u "Ljava/util/ImmutableCollections$SetN;"), (11, .class_ 27), (0, u "java/lang/Object"), (5, .class_ 34), (0, u "java/util/Set"), (1, .class_ 38), (1, u "java/util/Collection"), (4, u "of"), (0, u "()Ljava/util/Set;")] 99

def k6c0 : Code := { maxStack := 1, maxLocals := 0, code := jdk_96_method_17_code, exceptionTable := #[], attributes := #[] }
def k6m0 : Method := { name := "of", desc := "()Ljava/util/Set;", sig := { parameters := [], returnType := some (.object "java/util/Set") }, accessFlags := 9, code := some k6c0 }
/-- java/util/Set -/
def k6 : Class := { plain "java/util/Set" (some 0) with
  accessFlags := 1537
  interfaces := #[5]
  cf := some (fileOf pool6 33 #[] #[{ accessFlags := 9, nameIndex := 43, descriptorIndex := 44, attributes := #[] }] 1537 26 #[36] #[])
  fields := #[]
  methods := #[k6m0]
  instanceTypes := #[]
  staticTypes := #[]
  resolved := Array.replicate 144 none
  statics := none }

def pool7 : Array CpInfo := pool [(2, .class_ 4), (1, u "java/lang/Object"), (0, u "<init>"), (0, u "()V"), (3, .class_ 11), (0, u "java/util/ImmutableCollections$List12"), (0, .class_ 13), (0, u "java/util/ImmutableCollections$ListN"), (3, u "Z"), (29, .class_ 49), (1, u "java/util/ImmutableCollections"), (0, u "$assertionsDisabled"), (5, u "[Ljava/lang/Object;"), (5, u "EMPTY_LIST"), (0, u "Ljava/util/ImmutableCollections$ListN;"), (8, u "EMPTY_LIST_NULLS"), (22, u "SALT32L"), (0, u "J"), (2, u "REVERSE"), (6, u "archivedObjects"), (2, u "EMPTY"), (0, u "Ljava/lang/Object;"), (0, .class_ 112), (0, u "java/util/ImmutableCollections$SetN"), (5, u "EMPTY_SET"), (0, u "Ljava/util/ImmutableCollections$SetN;"), (0, .class_ 121), (0, u "java/util/ImmutableCollections$MapN"), (3, u "EMPTY_MAP"), (0, u "Ljava/util/ImmutableCollections$MapN;"), (4, u "EXPAND_FACTOR"), (0, u "I"), (36, .class_ 170), (0, u "java/util/ImmutableCollections$MapN$MapNIterator"), (0, .class_ 172), (0, u "java/util/ImmutableCollections$MapN$1"), (0, .class_ 174), (0, u "java/util/ImmutableCollections$Map1"), (0, .class_ 176), (0, u "java/util/ImmutableCollections$AbstractImmutableMap"), (0, .class_ 178), (0, u "java/util/ImmutableCollections$SetN$SetNIterator"), (0, .class_ 180), (0, u "java/util/ImmutableCollections$Set12"), (0, .class_ 182), (0, u "java/util/ImmutableCollections$Set12$1"), (0, .class_ 184), (0, u "java/util/ImmutableCollections$AbstractImmutableSet"), (0, .class_ 186), (0, u "java/util/ImmutableCollections$SubList"), (0, .class_ 188), (0, u "java/util/ImmutableCollections$ListItr"), (0, .class_ 190), (0, u "java/util/ImmutableCollections$AbstractImmutableList"), (0, .class_ 192), (0, u "java/util/ImmutableCollections$AbstractImmutableCollection"), (0, .class_ 194), (0, u "java/util/ImmutableCollections$Access"), (0, .class_ 196), (0, u "java/util/ImmutableCollections$Access$1")] 16

def k7m0 : Method := { name := "<init>", desc := "()V", sig := { parameters := [], returnType := none }, accessFlags := 2, code := none }
/-- java/util/ImmutableCollections -/
def k7 : Class := { plain "java/util/ImmutableCollections" (some 0) with
  accessFlags := 32
  interfaces := #[]
  cf := some (fileOf pool7 47 #[.nestMembers #[120, 169, 171, 173, 175, 111, 177, 179, 181, 183, 12, 10, 185, 187, 189, 191, 193, 195]] #[{ accessFlags := 2, nameIndex := 5, descriptorIndex := 6, attributes := #[] }] 32 2 #[] #[{ accessFlags := 26, nameIndex := 95, descriptorIndex := 96, attributes := #[] }, { accessFlags := 26, nameIndex := 99, descriptorIndex := 17, attributes := #[] }, { accessFlags := 10, nameIndex := 106, descriptorIndex := 56, attributes := #[] }, { accessFlags := 26, nameIndex := 109, descriptorIndex := 110, attributes := #[] }, { accessFlags := 24, nameIndex := 62, descriptorIndex := 63, attributes := #[] }, { accessFlags := 24, nameIndex := 72, descriptorIndex := 63, attributes := #[] }, { accessFlags := 24, nameIndex := 118, descriptorIndex := 119, attributes := #[] }, { accessFlags := 24, nameIndex := 125, descriptorIndex := 126, attributes := #[] }, { accessFlags := 24, nameIndex := 131, descriptorIndex := 132, attributes := #[] }, { accessFlags := 4120, nameIndex := 50, descriptorIndex := 17, attributes := #[] }])
  fields := #[{ name := "SALT32L", type := .long, accessFlags := 26, slot := 0, constantValue := 0 }, { name := "REVERSE", type := .boolean, accessFlags := 26, slot := 1, constantValue := 0 }, { name := "archivedObjects", type := (.array (.object "java/lang/Object")), accessFlags := 10, slot := 2, constantValue := 0 }, { name := "EMPTY", type := (.object "java/lang/Object"), accessFlags := 26, slot := 3, constantValue := 0 }, { name := "EMPTY_LIST", type := (.object "java/util/ImmutableCollections$ListN"), accessFlags := 24, slot := 4, constantValue := 0 }, { name := "EMPTY_LIST_NULLS", type := (.object "java/util/ImmutableCollections$ListN"), accessFlags := 24, slot := 5, constantValue := 0 }, { name := "EMPTY_SET", type := (.object "java/util/ImmutableCollections$SetN"), accessFlags := 24, slot := 6, constantValue := 0 }, { name := "EMPTY_MAP", type := (.object "java/util/ImmutableCollections$MapN"), accessFlags := 24, slot := 7, constantValue := 0 }, { name := "EXPAND_FACTOR", type := .int, accessFlags := 24, slot := 8, constantValue := 0 }, { name := "$assertionsDisabled", type := .boolean, accessFlags := 4120, slot := 9, constantValue := 0 }]
  methods := #[k7m0]
  instanceTypes := #[]
  staticTypes := #[.long, .boolean, (.array (.object "java/lang/Object")), (.object "java/lang/Object"), (.object "java/util/ImmutableCollections$ListN"), (.object "java/util/ImmutableCollections$ListN"), (.object "java/util/ImmutableCollections$SetN"), (.object "java/util/ImmutableCollections$MapN"), .int, .boolean]
  resolved := Array.replicate 213 none
  statics := some 0 }

def pool8 : Array CpInfo := pool [(1, .methodref 2 3), (0, .class_ 4), (0, .nameAndType 5 6), (0, u "java/lang/Object"), (0, u "<init>"), (0, u "()V"), (1, .class_ 10), (1, u "java/util/AbstractCollection"), (66, .class_ 78), (0, u "java/util/Collection")] 81

def k8c0 : Code := { maxStack := 1, maxLocals := 1, code := jdk_22_method_1_code, exceptionTable := #[], attributes := #[] }
def k8m0 : Method := { name := "<init>", desc := "()V", sig := { parameters := [], returnType := none }, accessFlags := 4, code := some k8c0 }
/-- java/util/AbstractCollection -/
def k8 : Class := { plain "java/util/AbstractCollection" (some 0) with
  accessFlags := 1057
  interfaces := #[5]
  cf := some (fileOf pool8 8 #[] #[{ accessFlags := 4, nameIndex := 5, descriptorIndex := 6, attributes := #[] }] 1057 2 #[77] #[])
  fields := #[]
  methods := #[k8m0]
  instanceTypes := #[]
  staticTypes := #[]
  resolved := Array.replicate 160 none
  statics := none }

def pool9 : Array CpInfo := pool [(8, .class_ 10), (1, u "java/util/SequencedCollection"), (15, .class_ 27), (0, u "java/lang/Object"), (0, .class_ 29), (0, u "java/util/Collection")] 27

/-- java/util/SequencedCollection -/
def k9 : Class := { plain "java/util/SequencedCollection" (some 0) with
  accessFlags := 1537
  interfaces := #[5]
  cf := some (fileOf pool9 8 #[] #[] 1537 26 #[28] #[])
  fields := #[]
  methods := #[]
  instanceTypes := #[]
  staticTypes := #[]
  resolved := Array.replicate 57 none
  statics := none }

def pool10 : Array CpInfo := pool [(8, .class_ 10), (1, u "java/util/List"), (92, .class_ 104), (0, u "java/lang/Object"), (15, .class_ 121), (0, u "java/util/SequencedCollection")] 129

/-- java/util/List -/
def k10 : Class := { plain "java/util/List" (some 0) with
  accessFlags := 1537
  interfaces := #[9]
  cf := some (fileOf pool10 8 #[] #[] 1537 103 #[120] #[])
  fields := #[]
  methods := #[]
  instanceTypes := #[]
  staticTypes := #[]
  resolved := Array.replicate 251 none
  statics := none }

def pool11 : Array CpInfo := pool [(1, .methodref 2 3), (0, .class_ 4), (0, .nameAndType 5 6), (0, u "java/util/AbstractCollection"), (0, u "<init>"), (0, u "()V"), (0, .fieldref 8 9), (0, .class_ 10), (0, .nameAndType 11 12), (0, u "java/util/AbstractList"), (0, u "modCount"), (0, u "I"), (64, .class_ 78), (0, u "java/util/AbstractList$Itr"), (3, .class_ 83), (0, u "java/util/AbstractList$ListItr"), (9, .class_ 94), (0, u "java/util/AbstractList$RandomAccessSubList"), (3, .class_ 99), (0, u "java/util/AbstractList$SubList"), (33, .class_ 134), (0, u "java/util/List"), (73, .class_ 209), (0, u "java/util/AbstractList$SubList$1"), (0, .class_ 211), (0, u "java/util/AbstractList$RandomAccessSpliterator")] 6

def k11c0 : Code := { maxStack := 2, maxLocals := 1, code := jdk_39_method_1_code, exceptionTable := #[], attributes := #[] }
def k11m0 : Method := { name := "<init>", desc := "()V", sig := { parameters := [], returnType := none }, accessFlags := 4, code := some k11c0 }
/-- java/util/AbstractList -/
def k11 : Class := { plain "java/util/AbstractList" (some 8) with
  accessFlags := 1057
  interfaces := #[10]
  cf := some (fileOf pool11 8 #[.nestMembers #[93, 98, 208, 210, 82, 77]] #[{ accessFlags := 4, nameIndex := 5, descriptorIndex := 6, attributes := #[] }] 1057 2 #[133] #[{ accessFlags := 132, nameIndex := 11, descriptorIndex := 12, attributes := #[] }])
  fields := #[{ name := "modCount", type := .int, accessFlags := 132, slot := 0, constantValue := 0 }]
  methods := #[k11m0]
  instanceTypes := #[.int]
  staticTypes := #[]
  resolved := Array.replicate 218 none
  statics := none }

def pool12 : Array CpInfo := pool [(1, .class_ 2), (0, u "java/util/RandomAccess"), (0, .class_ 4), (0, u "java/lang/Object")] 2

/-- java/util/RandomAccess -/
def k12 : Class := { plain "java/util/RandomAccess" (some 0) with
  accessFlags := 1537
  interfaces := #[]
  cf := some (fileOf pool12 1 #[] #[] 1537 3 #[] #[])
  fields := #[]
  methods := #[]
  instanceTypes := #[]
  staticTypes := #[]
  resolved := Array.replicate 7 none
  statics := none }

def pool13 : Array CpInfo := pool [(1, .class_ 2), (0, u "java/lang/Cloneable"), (0, .class_ 4), (0, u "java/lang/Object")] 2

/-- java/lang/Cloneable -/
def k13 : Class := { plain "java/lang/Cloneable" (some 0) with
  accessFlags := 1537
  interfaces := #[]
  cf := some (fileOf pool13 1 #[] #[] 1537 3 #[] #[])
  fields := #[]
  methods := #[]
  instanceTypes := #[]
  staticTypes := #[]
  resolved := Array.replicate 7 none
  statics := none }

def pool14 : Array CpInfo := pool [(1, .class_ 2), (0, u "java/io/Serializable"), (0, .class_ 4), (0, u "java/lang/Object")] 2

/-- java/io/Serializable -/
def k14 : Class := { plain "java/io/Serializable" (some 0) with
  accessFlags := 1537
  interfaces := #[]
  cf := some (fileOf pool14 1 #[] #[] 1537 3 #[] #[])
  fields := #[]
  methods := #[]
  instanceTypes := #[]
  staticTypes := #[]
  resolved := Array.replicate 7 none
  statics := none }

def pool15 : Array CpInfo := pool [(1, .methodref 2 3), (0, .class_ 4), (0, .nameAndType 5 6), (0, u "java/util/AbstractList"), (0, u "<init>"), (0, u "()V"), (0, .class_ 8), (0, u "java/lang/Object"), (0, .fieldref 10 11), (0, .class_ 12), (0, .nameAndType 13 14), (0, u "java/util/ArrayList"), (0, u "elementData"), (0, u "[Ljava/lang/Object;"), (2, u "EMPTY_ELEMENTDATA"), (21, .fieldref 10 40), (0, .nameAndType 41 14), (0, u "DEFAULTCAPACITY_EMPTY_ELEMENTDATA"), (5, u "()[Ljava/lang/Object;"), (0, .fieldref 10 49), (0, .nameAndType 50 51), (0, u "size"), (0, u "I"), (11, .fieldref 10 64), (0, .nameAndType 65 51), (0, u "modCount"), (3, .methodref 10 70), (0, .nameAndType 71 72), (0, u "grow"), (0, u "(I)[Ljava/lang/Object;"), (6, .methodref 80 81), (0, .class_ 82), (0, .nameAndType 83 84), (0, u "java/lang/Math"), (0, u "max"), (0, u "(II)I"), (11, u "(Ljava/lang/Object;)Z"), (32, .methodref 10 130), (0, .nameAndType 71 47), (0, .methodref 10 132), (0, .nameAndType 133 134), (0, u "add"), (0, u "(Ljava/lang/Object;[Ljava/lang/Object;I)V"), (13, .class_ 149), (0, u "java/util/List"), (112, .class_ 263), (0, u "java/util/ArrayList$ListItr"), (3, .class_ 268), (0, u "java/util/ArrayList$Itr"), (7, .class_ 277), (0, u "java/util/ArrayList$SubList"), (12, .class_ 291), (0, u "java/util/ArrayList$ArrayListSpliterator"), (37, .class_ 330), (0, u "java/util/RandomAccess"), (0, .class_ 332), (0, u "java/lang/Cloneable"), (0, .class_ 334), (0, u "java/io/Serializable"), (0, u "serialVersionUID"), (0, u "J"), (3, u "DEFAULT_CAPACITY"), (159, .class_ 501), (0, u "java/util/ArrayList$SubList$2"), (0, .class_ 503), (0, u "java/util/ArrayList$SubList$1")] 5

def k15c0 : Code := { maxStack := 2, maxLocals := 1, code := jdk_38_method_2_code, exceptionTable := #[], attributes := #[] }
def k15m0 : Method := { name := "<init>", desc := "()V", sig := { parameters := [], returnType := none }, accessFlags := 1, code := some k15c0 }
def k15c1 : Code := { maxStack := 4, maxLocals := 4, code := jdk_38_method_6_code, exceptionTable := #[], attributes := #[] }
def k15m1 : Method := { name := "grow", desc := "(I)[Ljava/lang/Object;", sig := { parameters := [.int], returnType := some (.array (.object "java/lang/Object")) }, accessFlags := 2, code := some k15c1 }
def k15c2 : Code := { maxStack := 3, maxLocals := 1, code := jdk_38_method_7_code, exceptionTable := #[], attributes := #[] }
def k15m2 : Method := { name := "grow", desc := "()[Ljava/lang/Object;", sig := { parameters := [], returnType := some (.array (.object "java/lang/Object")) }, accessFlags := 2, code := some k15c2 }
def k15c3 : Code := { maxStack := 3, maxLocals := 4, code := jdk_38_method_24_code, exceptionTable := #[], attributes := #[] }
def k15m3 : Method := { name := "add", desc := "(Ljava/lang/Object;[Ljava/lang/Object;I)V", sig := { parameters := [(.object "java/lang/Object"), (.array (.object "java/lang/Object")), .int], returnType := none }, accessFlags := 2, code := some k15c3 }
def k15c4 : Code := { maxStack := 4, maxLocals := 2, code := jdk_38_method_25_code, exceptionTable := #[], attributes := #[] }
def k15m4 : Method := { name := "add", desc := "(Ljava/lang/Object;)Z", sig := { parameters := [(.object "java/lang/Object")], returnType := some .boolean }, accessFlags := 1, code := some k15c4 }
/-- java/util/ArrayList -/
def k15 : Class := { plain "java/util/ArrayList" (some 11) with
  accessFlags := 33
  interfaces := #[10, 12, 13, 14]
  cf := some (fileOf pool15 10 #[.nestMembers #[290, 276, 500, 502, 262, 267]] #[{ accessFlags := 1, nameIndex := 5, descriptorIndex := 6, attributes := #[] }, { accessFlags := 2, nameIndex := 71, descriptorIndex := 72, attributes := #[] }, { accessFlags := 2, nameIndex := 71, descriptorIndex := 47, attributes := #[] }, { accessFlags := 2, nameIndex := 133, descriptorIndex := 134, attributes := #[] }, { accessFlags := 1, nameIndex := 133, descriptorIndex := 96, attributes := #[] }] 33 2 #[148, 329, 331, 333] #[{ accessFlags := 26, nameIndex := 335, descriptorIndex := 336, attributes := #[] }, { accessFlags := 26, nameIndex := 340, descriptorIndex := 51, attributes := #[] }, { accessFlags := 26, nameIndex := 17, descriptorIndex := 14, attributes := #[] }, { accessFlags := 26, nameIndex := 41, descriptorIndex := 14, attributes := #[] }, { accessFlags := 128, nameIndex := 13, descriptorIndex := 14, attributes := #[] }, { accessFlags := 2, nameIndex := 50, descriptorIndex := 51, attributes := #[] }])
  fields := #[{ name := "serialVersionUID", type := .long, accessFlags := 26, slot := 0, constantValue := 0 }, { name := "DEFAULT_CAPACITY", type := .int, accessFlags := 26, slot := 1, constantValue := 0 }, { name := "EMPTY_ELEMENTDATA", type := (.array (.object "java/lang/Object")), accessFlags := 26, slot := 2, constantValue := 0 }, { name := "DEFAULTCAPACITY_EMPTY_ELEMENTDATA", type := (.array (.object "java/lang/Object")), accessFlags := 26, slot := 3, constantValue := 0 }, { name := "elementData", type := (.array (.object "java/lang/Object")), accessFlags := 128, slot := 1, constantValue := 0 }, { name := "size", type := .int, accessFlags := 2, slot := 2, constantValue := 0 }]
  methods := #[k15m0, k15m1, k15m2, k15m3, k15m4]
  instanceTypes := #[.int, (.array (.object "java/lang/Object")), .int]
  staticTypes := #[.long, .int, (.array (.object "java/lang/Object")), (.array (.object "java/lang/Object"))]
  resolved := Array.replicate 509 none
  statics := some 1 }

def pool16 : Array CpInfo := pool [(1, .class_ 2), (0, u "java/lang/Comparable"), (0, .class_ 4), (0, u "java/lang/Object")] 7

/-- java/lang/Comparable -/
def k16 : Class := { plain "java/lang/Comparable" (some 0) with
  accessFlags := 1537
  interfaces := #[]
  cf := some (fileOf pool16 1 #[] #[] 1537 3 #[] #[])
  fields := #[]
  methods := #[]
  instanceTypes := #[]
  staticTypes := #[]
  resolved := Array.replicate 12 none
  statics := none }

def pool17 : Array CpInfo := pool [(2, .class_ 4), (1, u "java/lang/CharSequence"), (42, .class_ 48), (0, u "java/lang/CharSequence$1CodePointIterator"), (10, .class_ 60), (0, u "java/lang/CharSequence$1CharIterator"), (5, .class_ 67), (0, u "java/lang/Object")] 63

/-- java/lang/CharSequence -/
def k17 : Class := { plain "java/lang/CharSequence" (some 0) with
  accessFlags := 1537
  interfaces := #[]
  cf := some (fileOf pool17 2 #[.nestMembers #[47, 59]] #[] 1537 66 #[] #[])
  fields := #[]
  methods := #[]
  instanceTypes := #[]
  staticTypes := #[]
  resolved := Array.replicate 131 none
  statics := none }

def pool18 : Array CpInfo := pool [(1, .class_ 2), (0, u "java/lang/constant/Constable"), (0, .class_ 4), (0, u "java/lang/Object")] 6

/-- java/lang/constant/Constable -/
def k18 : Class := { plain "java/lang/constant/Constable" (some 0) with
  accessFlags := 1537
  interfaces := #[]
  cf := some (fileOf pool18 1 #[] #[] 1537 3 #[] #[])
  fields := #[]
  methods := #[]
  instanceTypes := #[]
  staticTypes := #[]
  resolved := Array.replicate 11 none
  statics := none }

def pool19 : Array CpInfo := pool [(1, .class_ 2), (0, u "java/lang/constant/ConstantDesc"), (0, .class_ 4), (0, u "java/lang/Object")] 32

/-- java/lang/constant/ConstantDesc -/
def k19 : Class := { plain "java/lang/constant/ConstantDesc" (some 0) with
  accessFlags := 1537
  interfaces := #[]
  cf := some (fileOf pool19 1 #[] #[] 1537 3 #[] #[])
  fields := #[]
  methods := #[]
  instanceTypes := #[]
  staticTypes := #[]
  resolved := Array.replicate 37 none
  statics := none }

def pool20 : Array CpInfo := pool [(1, .methodref 2 3), (0, .class_ 4), (0, .nameAndType 5 6), (0, u "java/lang/Object"), (0, u "<init>"), (0, u "()V"), (2, .fieldref 10 11), (0, .class_ 12), (0, .nameAndType 13 14), (0, u "java/lang/String"), (0, u "value"), (0, u "[B"), (0, .fieldref 10 16), (0, .nameAndType 17 18), (0, u "coder"), (0, u "B"), (2, u "hash"), (0, u "I"), (2, u "hashIsZero"), (0, u "Z"), (11, .fieldref 10 39), (0, .nameAndType 40 26), (0, u "COMPACT_STRINGS"), (12, u "toBytes"), (53, .class_ 109), (1, u "java/lang/StringLatin1"), (99, .methodref 10 210), (0, .nameAndType 5 211), (0, u "([BB)V"), (157, u "(C)Z"), (205, .class_ 576), (0, u "java/lang/CharSequence"), (22, u "CASE_INSENSITIVE_ORDER"), (0, u "Ljava/util/Comparator;"), (181, u "valueOf"), (0, u "(C)Ljava/lang/String;"), (231, .methodref 107 1016), (0, .nameAndType 1017 369), (0, u "canEncode"), (0, .methodref 107 1019), (0, .nameAndType 53 1020), (0, u "(C)[B"), (80, u "serialPersistentFields"), (0, u "[Ljava/io/ObjectStreamField;"), (0, .class_ 1104), (0, u "java/lang/String$CaseInsensitiveComparator"), (1, .class_ 1107), (0, u "java/io/Serializable"), (0, .class_ 1109), (0, u "java/lang/Comparable"), (0, .class_ 1111), (0, u "java/lang/constant/Constable"), (0, .class_ 1113), (0, u "java/lang/constant/ConstantDesc"), (2, u "serialVersionUID"), (0, u "J"), (3, u "REPL"), (0, u "C"), (2, u "LATIN1"), (1, u "UTF16")] 323

def k20m0 : Method := { name := "<init>", desc := "()V", sig := { parameters := [], returnType := none }, accessFlags := 1, code := none }
def k20c1 : Code := { maxStack := 4, maxLocals := 1, code := jdk_42_method_139_code, exceptionTable := #[], attributes := #[] }
def k20m1 : Method := { name := "valueOf", desc := "(C)Ljava/lang/String;", sig := { parameters := [.char], returnType := some (.object "java/lang/String") }, accessFlags := 9, code := some k20c1 }
def k20c2 : Code := { maxStack := 2, maxLocals := 3, code := jdk_42_method_151_code, exceptionTable := #[], attributes := #[] }
def k20m2 : Method := { name := "<init>", desc := "([BB)V", sig := { parameters := [(.array .byte), .byte], returnType := none }, accessFlags := 0, code := some k20c2 }
/-- java/lang/String -/
def k20 : Class := { plain "java/lang/String" (some 0) with
  accessFlags := 49
  interfaces := #[14, 16, 17, 18, 19]
  cf := some (fileOf pool20 10 #[.nestMembers #[1103]] #[{ accessFlags := 1, nameIndex := 5, descriptorIndex := 6, attributes := #[] }, { accessFlags := 9, nameIndex := 782, descriptorIndex := 783, attributes := #[] }, { accessFlags := 0, nameIndex := 5, descriptorIndex := 211, attributes := #[] }] 49 2 #[1106, 1108, 575, 1110, 1112] #[{ accessFlags := 18, nameIndex := 13, descriptorIndex := 14, attributes := #[] }, { accessFlags := 18, nameIndex := 17, descriptorIndex := 18, attributes := #[] }, { accessFlags := 2, nameIndex := 21, descriptorIndex := 22, attributes := #[] }, { accessFlags := 2, nameIndex := 25, descriptorIndex := 26, attributes := #[] }, { accessFlags := 26, nameIndex := 1116, descriptorIndex := 1117, attributes := #[] }, { accessFlags := 24, nameIndex := 40, descriptorIndex := 26, attributes := #[] }, { accessFlags := 26, nameIndex := 1101, descriptorIndex := 1102, attributes := #[] }, { accessFlags := 26, nameIndex := 1121, descriptorIndex := 1122, attributes := #[] }, { accessFlags := 25, nameIndex := 599, descriptorIndex := 600, attributes := #[] }, { accessFlags := 24, nameIndex := 1125, descriptorIndex := 18, attributes := #[] }, { accessFlags := 24, nameIndex := 1127, descriptorIndex := 18, attributes := #[] }])
  fields := #[{ name := "value", type := (.array .byte), accessFlags := 18, slot := 0, constantValue := 0 }, { name := "coder", type := .byte, accessFlags := 18, slot := 1, constantValue := 0 }, { name := "hash", type := .int, accessFlags := 2, slot := 2, constantValue := 0 }, { name := "hashIsZero", type := .boolean, accessFlags := 2, slot := 3, constantValue := 0 }, { name := "serialVersionUID", type := .long, accessFlags := 26, slot := 0, constantValue := 0 }, { name := "COMPACT_STRINGS", type := .boolean, accessFlags := 24, slot := 1, constantValue := 0 }, { name := "serialPersistentFields", type := (.array (.object "java/io/ObjectStreamField")), accessFlags := 26, slot := 2, constantValue := 0 }, { name := "REPL", type := .char, accessFlags := 26, slot := 3, constantValue := 0 }, { name := "CASE_INSENSITIVE_ORDER", type := (.object "java/util/Comparator"), accessFlags := 25, slot := 4, constantValue := 0 }, { name := "LATIN1", type := .byte, accessFlags := 24, slot := 5, constantValue := 0 }, { name := "UTF16", type := .byte, accessFlags := 24, slot := 6, constantValue := 0 }]
  methods := #[k20m0, k20m1, k20m2]
  instanceTypes := #[(.array .byte), .byte, .int, .boolean]
  staticTypes := #[.long, .boolean, (.array (.object "java/io/ObjectStreamField")), .char, (.object "java/util/Comparator"), .byte, .byte]
  resolved := Array.replicate 1451 none
  statics := some 2 }

def pool21 : Array CpInfo := pool [(4, .class_ 6), (1, u "java/lang/Object"), (0, u "<init>"), (0, u "()V"), (5, .class_ 16), (1, u "java/lang/StringLatin1"), (73, u "canEncode"), (14, u "(C)Z"), (15, u "$assertionsDisabled"), (0, u "Z"), (98, .class_ 223), (1, u "java/lang/StringLatin1$LinesSpliterator"), (156, u "toBytes"), (1, u "(C)[B"), (7, .class_ 391), (0, u "java/lang/StringLatin1$CharsSpliterator")] 3

def k21m0 : Method := { name := "<init>", desc := "()V", sig := { parameters := [], returnType := none }, accessFlags := 0, code := none }
def k21c1 : Code := { maxStack := 2, maxLocals := 1, code := jdk_43_method_3_code, exceptionTable := #[], attributes := #[] }
def k21m1 : Method := { name := "canEncode", desc := "(C)Z", sig := { parameters := [.char], returnType := some .boolean }, accessFlags := 9, code := some k21c1 }
def k21c2 : Code := { maxStack := 4, maxLocals := 1, code := jdk_43_method_46_code, exceptionTable := #[], attributes := #[] }
def k21m2 : Method := { name := "toBytes", desc := "(C)[B", sig := { parameters := [.char], returnType := some (.array .byte) }, accessFlags := 9, code := some k21c2 }
/-- java/lang/StringLatin1 -/
def k21 : Class := { plain "java/lang/StringLatin1" (some 0) with
  accessFlags := 48
  interfaces := #[]
  cf := some (fileOf pool21 14 #[.nestMembers #[390, 221]] #[{ accessFlags := 0, nameIndex := 7, descriptorIndex := 8, attributes := #[] }, { accessFlags := 9, nameIndex := 90, descriptorIndex := 105, attributes := #[] }, { accessFlags := 9, nameIndex := 380, descriptorIndex := 382, attributes := #[] }] 48 4 #[] #[{ accessFlags := 4120, nameIndex := 121, descriptorIndex := 122, attributes := #[] }])
  fields := #[{ name := "$assertionsDisabled", type := .boolean, accessFlags := 4120, slot := 0, constantValue := 0 }]
  methods := #[k21m0, k21m1, k21m2]
  instanceTypes := #[]
  staticTypes := #[.boolean]
  resolved := Array.replicate 395 none
  statics := none }

def pool22 : Array CpInfo := pool [(1, .class_ 2), (0, u "java/lang/Math"), (1, .class_ 6), (1, u "java/lang/Object"), (0, u "<init>"), (0, u "()V"), (89, .class_ 100), (1, u "java/lang/Math$RandomNumberGeneratorHolder"), (71, u "negativeZeroFloatBits"), (0, u "J"), (2, u "negativeZeroDoubleBits"), (21, u "max"), (46, u "$assertionsDisabled"), (0, u "Z"), (88, u "(II)I"), (2, u "twoToTheDoubleScaleDown"), (0, u "D"), (4, u "twoToTheDoubleScaleUp"), (9, u "E"), (3, u "PI"), (2, u "TAU"), (2, u "DEGREES_TO_RADIANS"), (0, u "RADIANS_TO_DEGREES")] 94

def k22m0 : Method := { name := "<init>", desc := "()V", sig := { parameters := [], returnType := none }, accessFlags := 2, code := none }
def k22c1 : Code := { maxStack := 2, maxLocals := 2, code := jdk_29_method_65_code, exceptionTable := #[], attributes := #[] }
def k22m1 : Method := { name := "max", desc := "(II)I", sig := { parameters := [.int, .int], returnType := some .int }, accessFlags := 9, code := some k22c1 }
/-- java/lang/Math -/
def k22 : Class := { plain "java/lang/Math" (some 0) with
  accessFlags := 49
  interfaces := #[]
  cf := some (fileOf pool22 1 #[.nestMembers #[98]] #[{ accessFlags := 2, nameIndex := 7, descriptorIndex := 8, attributes := #[] }, { accessFlags := 9, nameIndex := 198, descriptorIndex := 335, attributes := #[] }] 49 4 #[] #[{ accessFlags := 25, nameIndex := 354, descriptorIndex := 339, attributes := #[] }, { accessFlags := 25, nameIndex := 358, descriptorIndex := 339, attributes := #[] }, { accessFlags := 25, nameIndex := 361, descriptorIndex := 339, attributes := #[] }, { accessFlags := 26, nameIndex := 364, descriptorIndex := 339, attributes := #[] }, { accessFlags := 26, nameIndex := 365, descriptorIndex := 339, attributes := #[] }, { accessFlags := 26, nameIndex := 172, descriptorIndex := 173, attributes := #[] }, { accessFlags := 26, nameIndex := 176, descriptorIndex := 173, attributes := #[] }, { accessFlags := 8, nameIndex := 344, descriptorIndex := 339, attributes := #[] }, { accessFlags := 8, nameIndex := 338, descriptorIndex := 339, attributes := #[] }, { accessFlags := 4120, nameIndex := 245, descriptorIndex := 246, attributes := #[] }])
  fields := #[{ name := "E", type := .double, accessFlags := 25, slot := 0, constantValue := 0 }, { name := "PI", type := .double, accessFlags := 25, slot := 1, constantValue := 0 }, { name := "TAU", type := .double, accessFlags := 25, slot := 2, constantValue := 0 }, { name := "DEGREES_TO_RADIANS", type := .double, accessFlags := 26, slot := 3, constantValue := 0 }, { name := "RADIANS_TO_DEGREES", type := .double, accessFlags := 26, slot := 4, constantValue := 0 }, { name := "negativeZeroFloatBits", type := .long, accessFlags := 26, slot := 5, constantValue := 0 }, { name := "negativeZeroDoubleBits", type := .long, accessFlags := 26, slot := 6, constantValue := 0 }, { name := "twoToTheDoubleScaleUp", type := .double, accessFlags := 8, slot := 7, constantValue := 0 }, { name := "twoToTheDoubleScaleDown", type := .double, accessFlags := 8, slot := 8, constantValue := 0 }, { name := "$assertionsDisabled", type := .boolean, accessFlags := 4120, slot := 9, constantValue := 0 }]
  methods := #[k22m0, k22m1]
  instanceTypes := #[]
  staticTypes := #[.double, .double, .double, .double, .double, .long, .long, .double, .double, .boolean]
  resolved := Array.replicate 460 none
  statics := none }

def pool23 : Array CpInfo := pool [(2, .class_ 4), (1, u "java/lang/Object"), (0, u "<init>"), (0, u "()V"), (17, .class_ 26), (1, u "jdk/internal/util/Preconditions"), (28, .class_ 56), (0, u "jdk/internal/util/Preconditions$4"), (57, .class_ 115), (0, u "jdk/internal/util/Preconditions$1"), (7, u "SIOOBE_FORMATTER"), (0, u "Ljava/util/function/BiFunction;"), (0, .class_ 126), (0, u "jdk/internal/util/Preconditions$2"), (3, u "AIOOBE_FORMATTER"), (0, .class_ 132), (0, u "jdk/internal/util/Preconditions$3"), (3, u "IOOBE_FORMATTER")] 57

def k23m0 : Method := { name := "<init>", desc := "()V", sig := { parameters := [], returnType := none }, accessFlags := 1, code := none }
/-- jdk/internal/util/Preconditions -/
def k23 : Class := { plain "jdk/internal/util/Preconditions" (some 0) with
  accessFlags := 33
  interfaces := #[]
  cf := some (fileOf pool23 24 #[.nestMembers #[55, 131, 125, 114]] #[{ accessFlags := 1, nameIndex := 5, descriptorIndex := 6, attributes := #[] }] 33 2 #[] #[{ accessFlags := 25, nameIndex := 123, descriptorIndex := 124, attributes := #[] }, { accessFlags := 25, nameIndex := 130, descriptorIndex := 124, attributes := #[] }, { accessFlags := 25, nameIndex := 136, descriptorIndex := 124, attributes := #[] }])
  fields := #[{ name := "SIOOBE_FORMATTER", type := (.object "java/util/function/BiFunction"), accessFlags := 25, slot := 0, constantValue := 0 }, { name := "AIOOBE_FORMATTER", type := (.object "java/util/function/BiFunction"), accessFlags := 25, slot := 1, constantValue := 0 }, { name := "IOOBE_FORMATTER", type := (.object "java/util/function/BiFunction"), accessFlags := 25, slot := 2, constantValue := 0 }]
  methods := #[k23m0]
  instanceTypes := #[]
  staticTypes := #[(.object "java/util/function/BiFunction"), (.object "java/util/function/BiFunction"), (.object "java/util/function/BiFunction")]
  resolved := Array.replicate 194 none
  statics := some 3 }

def pool24 : Array CpInfo := pool [(9, u "<init>"), (6, .class_ 18), (1, u "java/lang/Object"), (0, u "()V"), (1, .class_ 23), (1, u "jdk/internal/util/ArraysSupport"), (0, u "LOG2_ARRAY_LONG_INDEX_SCALE"), (0, u "I"), (2, u "U"), (0, u "Ljdk/internal/misc/Unsafe;"), (8, u "BIG_ENDIAN"), (0, u "Z"), (8, u "LOG2_BYTE_BIT_SIZE"), (4, u "LOG2_ARRAY_INT_INDEX_SCALE"), (54, u "JLA"), (0, u "Ljdk/internal/access/JavaLangAccess;"), (11, u "LOG2_ARRAY_BOOLEAN_INDEX_SCALE"), (9, u "LOG2_ARRAY_BYTE_INDEX_SCALE"), (5, u "LOG2_ARRAY_CHAR_INDEX_SCALE"), (5, u "LOG2_ARRAY_SHORT_INDEX_SCALE"), (18, u "LOG2_ARRAY_FLOAT_INDEX_SCALE"), (24, u "LOG2_ARRAY_DOUBLE_INDEX_SCALE"), (89, u "T_BOOLEAN"), (2, u "T_CHAR"), (1, u "T_FLOAT"), (1, u "T_DOUBLE"), (1, u "T_BYTE"), (1, u "T_SHORT"), (1, u "T_INT"), (1, u "T_LONG"), (1, u "SOFT_MAX_ARRAY_LENGTH")] 83

def k24m0 : Method := { name := "<init>", desc := "()V", sig := { parameters := [], returnType := none }, accessFlags := 2, code := none }
/-- jdk/internal/util/ArraysSupport -/
def k24 : Class := { plain "jdk/internal/util/ArraysSupport" (some 0) with
  accessFlags := 33
  interfaces := #[]
  cf := some (fileOf pool24 21 #[] #[{ accessFlags := 2, nameIndex := 9, descriptorIndex := 19, attributes := #[] }] 33 16 #[] #[{ accessFlags := 24, nameIndex := 28, descriptorIndex := 29, attributes := #[] }, { accessFlags := 26, nameIndex := 38, descriptorIndex := 39, attributes := #[] }, { accessFlags := 25, nameIndex := 121, descriptorIndex := 25, attributes := #[] }, { accessFlags := 25, nameIndex := 131, descriptorIndex := 25, attributes := #[] }, { accessFlags := 25, nameIndex := 137, descriptorIndex := 25, attributes := #[] }, { accessFlags := 25, nameIndex := 143, descriptorIndex := 25, attributes := #[] }, { accessFlags := 25, nameIndex := 53, descriptorIndex := 25, attributes := #[] }, { accessFlags := 25, nameIndex := 24, descriptorIndex := 25, attributes := #[] }, { accessFlags := 25, nameIndex := 162, descriptorIndex := 25, attributes := #[] }, { accessFlags := 25, nameIndex := 187, descriptorIndex := 25, attributes := #[] }, { accessFlags := 26, nameIndex := 48, descriptorIndex := 25, attributes := #[] }, { accessFlags := 25, nameIndex := 277, descriptorIndex := 25, attributes := #[] }, { accessFlags := 25, nameIndex := 280, descriptorIndex := 25, attributes := #[] }, { accessFlags := 25, nameIndex := 282, descriptorIndex := 25, attributes := #[] }, { accessFlags := 25, nameIndex := 284, descriptorIndex := 25, attributes := #[] }, { accessFlags := 25, nameIndex := 286, descriptorIndex := 25, attributes := #[] }, { accessFlags := 25, nameIndex := 288, descriptorIndex := 25, attributes := #[] }, { accessFlags := 25, nameIndex := 290, descriptorIndex := 25, attributes := #[] }, { accessFlags := 25, nameIndex := 292, descriptorIndex := 25, attributes := #[] }, { accessFlags := 26, nameIndex := 108, descriptorIndex := 109, attributes := #[] }, { accessFlags := 25, nameIndex := 294, descriptorIndex := 25, attributes := #[] }])
  fields := #[{ name := "U", type := (.object "jdk/internal/misc/Unsafe"), accessFlags := 24, slot := 0, constantValue := 0 }, { name := "BIG_ENDIAN", type := .boolean, accessFlags := 26, slot := 1, constantValue := 0 }, { name := "LOG2_ARRAY_BOOLEAN_INDEX_SCALE", type := .int, accessFlags := 25, slot := 2, constantValue := 0 }, { name := "LOG2_ARRAY_BYTE_INDEX_SCALE", type := .int, accessFlags := 25, slot := 3, constantValue := 0 }, { name := "LOG2_ARRAY_CHAR_INDEX_SCALE", type := .int, accessFlags := 25, slot := 4, constantValue := 0 }, { name := "LOG2_ARRAY_SHORT_INDEX_SCALE", type := .int, accessFlags := 25, slot := 5, constantValue := 0 }, { name := "LOG2_ARRAY_INT_INDEX_SCALE", type := .int, accessFlags := 25, slot := 6, constantValue := 0 }, { name := "LOG2_ARRAY_LONG_INDEX_SCALE", type := .int, accessFlags := 25, slot := 7, constantValue := 0 }, { name := "LOG2_ARRAY_FLOAT_INDEX_SCALE", type := .int, accessFlags := 25, slot := 8, constantValue := 0 }, { name := "LOG2_ARRAY_DOUBLE_INDEX_SCALE", type := .int, accessFlags := 25, slot := 9, constantValue := 0 }, { name := "LOG2_BYTE_BIT_SIZE", type := .int, accessFlags := 26, slot := 10, constantValue := 0 }, { name := "T_BOOLEAN", type := .int, accessFlags := 25, slot := 11, constantValue := 0 }, { name := "T_CHAR", type := .int, accessFlags := 25, slot := 12, constantValue := 0 }, { name := "T_FLOAT", type := .int, accessFlags := 25, slot := 13, constantValue := 0 }, { name := "T_DOUBLE", type := .int, accessFlags := 25, slot := 14, constantValue := 0 }, { name := "T_BYTE", type := .int, accessFlags := 25, slot := 15, constantValue := 0 }, { name := "T_SHORT", type := .int, accessFlags := 25, slot := 16, constantValue := 0 }, { name := "T_INT", type := .int, accessFlags := 25, slot := 17, constantValue := 0 }, { name := "T_LONG", type := .int, accessFlags := 25, slot := 18, constantValue := 0 }, { name := "JLA", type := (.object "jdk/internal/access/JavaLangAccess"), accessFlags := 26, slot := 19, constantValue := 0 }, { name := "SOFT_MAX_ARRAY_LENGTH", type := .int, accessFlags := 25, slot := 20, constantValue := 0 }]
  methods := #[k24m0]
  instanceTypes := #[]
  staticTypes := #[(.object "jdk/internal/misc/Unsafe"), .boolean, .int, .int, .int, .int, .int, .int, .int, .int, .int, .int, .int, .int, .int, .int, .int, .int, .int, (.object "jdk/internal/access/JavaLangAccess"), .int]
  resolved := Array.replicate 378 none
  statics := none }

def pool25 : Array CpInfo := pool [(2, .class_ 4), (1, u "java/util/AbstractCollection"), (0, u "<init>"), (0, u "()V"), (1, .class_ 10), (1, u "java/util/ImmutableCollections"), (2, .class_ 14), (0, u "java/util/ImmutableCollections$AbstractImmutableCollection")] 41

def k25m0 : Method := { name := "<init>", desc := "()V", sig := { parameters := [], returnType := none }, accessFlags := 0, code := none }
/-- java/util/ImmutableCollections$AbstractImmutableCollection -/
def k25 : Class := { plain "java/util/ImmutableCollections$AbstractImmutableCollection" (some 8) with
  accessFlags := 1056
  interfaces := #[]
  cf := some (fileOf pool25 13 #[.nestHost 8] #[{ accessFlags := 0, nameIndex := 5, descriptorIndex := 6, attributes := #[] }] 1056 2 #[] #[])
  fields := #[]
  methods := #[k25m0]
  instanceTypes := #[]
  staticTypes := #[]
  resolved := Array.replicate 56 none
  statics := none }

def pool26 : Array CpInfo := pool [(2, .class_ 4), (1, u "java/util/ImmutableCollections$AbstractImmutableCollection"), (0, u "<init>"), (0, u "()V"), (0, .class_ 8), (0, u "java/util/Set"), (7, .class_ 17), (0, u "java/util/ImmutableCollections$AbstractImmutableSet"), (43, .class_ 62), (0, u "java/util/ImmutableCollections")] 3

def k26m0 : Method := { name := "<init>", desc := "()V", sig := { parameters := [], returnType := none }, accessFlags := 0, code := none }
/-- java/util/ImmutableCollections$AbstractImmutableSet -/
def k26 : Class := { plain "java/util/ImmutableCollections$AbstractImmutableSet" (some 25) with
  accessFlags := 1056
  interfaces := #[6]
  cf := some (fileOf pool26 16 #[.nestHost 61] #[{ accessFlags := 0, nameIndex := 5, descriptorIndex := 6, attributes := #[] }] 1056 2 #[7] #[])
  fields := #[]
  methods := #[k26m0]
  instanceTypes := #[]
  staticTypes := #[]
  resolved := Array.replicate 66 none
  statics := none }

def pool27 : Array CpInfo := pool [(1, .class_ 2), (0, u "java/util/ImmutableCollections"), (1, .class_ 6), (1, u "java/util/ImmutableCollections$AbstractImmutableSet"), (3, .class_ 12), (1, u "java/util/ImmutableCollections$SetN"), (0, u "size"), (0, u "I"), (4, u "elements"), (0, u "[Ljava/lang/Object;"), (86, .class_ 108), (0, u "java/io/Serializable")] 59

/-- java/util/ImmutableCollections$SetN -/
def k27 : Class := { plain "java/util/ImmutableCollections$SetN" (some 26) with
  accessFlags := 48
  interfaces := #[14]
  cf := some (fileOf pool27 10 #[.nestHost 1] #[] 48 4 #[107] #[{ accessFlags := 16, nameIndex := 19, descriptorIndex := 20, attributes := #[] }, { accessFlags := 16, nameIndex := 13, descriptorIndex := 14, attributes := #[] }])
  fields := #[{ name := "elements", type := (.array (.object "java/lang/Object")), accessFlags := 16, slot := 0, constantValue := 0 }, { name := "size", type := .int, accessFlags := 16, slot := 1, constantValue := 0 }]
  methods := #[]
  instanceTypes := #[(.array (.object "java/lang/Object")), .int]
  staticTypes := #[]
  resolved := Array.replicate 168 none
  statics := none }

/-- the primitive byte -/
def k28 : Class := { plain "byte" none with kind := .primitive 'B', accessFlags := 0x411 }
/-- [B -/
def k29 : Class := { plain "[B" (some 0) with kind := .array 28 .byte, interfaces := #[13, 14], accessFlags := 1041 }

/-- the primitive int -/
def k30 : Class := { plain "int" none with kind := .primitive 'I', accessFlags := 0x411 }
/-- [I -/
def k31 : Class := { plain "[I" (some 0) with kind := .array 30 .int, interfaces := #[13, 14], accessFlags := 1041 }

/-- [Ljava/lang/Object; -/
def k32 : Class := { plain "[Ljava/lang/Object;" (some 0) with kind := .array 0 (.object "java/lang/Object"), interfaces := #[13, 14], accessFlags := 1041 }

def heap : Heap := #[{ cls := 7, slots := #[.long 0, .int 0, .null, .null, .null, .null, .ref 5, .null, .int 0, .int 0], vm := .statics 7 },
  { cls := 15, slots := #[.long 0, .int 0, .ref 6, .ref 7], vm := .statics 15 },
  { cls := 20, slots := #[.long 0, .int 1, .null, .int 0, .null, .int 0, .int 0], vm := .statics 20 },
  { cls := 23, slots := #[.null, .null, .null], vm := .statics 23 },
  { cls := 32, slots := #[], vm := .none },
  { cls := 27, slots := #[.ref 4, .int 0], vm := .none },
  { cls := 32, slots := #[], vm := .none },
  { cls := 32, slots := #[], vm := .none }]
def classes : Array Class := #[k0, k1, k2, k3, k4, k5, k6, k7, k8, k9, k10, k11, k12, k13, k14, k15, k16, k17, k18, k19, k20, k21, k22, k23, k24, k25, k26, k27, k28, k29, k30, k31, k32]
def interned : List (Array UInt16 × Addr) := []
def slotsUsed : Nat := 26
def theMethod : MethodId := ⟨1, 1⟩
def args0 : Array Value := #[.int 15, .int 2, .int 65]
def aboutOver (below : List Frame) : State where
  vm := { classes := classes, interned := interned.toArray }
  heap := heap
  slotsUsed := slotsUsed
  threads := #[{ frames := .invoking theMethod args0 :: below }]
def below0 : List Frame := [.native { method := ⟨0, 0⟩, args := #[] }]
def about1 : State := aboutOver below0
def p0 : Program := .bare "" "" ""
def e0 : Env := launch0.env 0 0 0
theorem w_frames : about1.frames = Frame.invoking theMethod args0 :: below0 := rfl
set_option maxRecDepth 65536 in
theorem w_args : argsFit about1.vm theMethod args0 = true := by decide +kernel
set_option maxRecDepth 65536 in
theorem w_heap : heapFits about1 = true := by decide +kernel
set_option maxRecDepth 65536 in
theorem w_runnable : about1.curStatus? = some .runnable := by decide +kernel
set_option maxRecDepth 65536 in
theorem w_alone : about1.alone = true := by decide +kernel
set_option maxRecDepth 65536 in
theorem w_named : about1.methodNamed? x = some theMethod := by decide +kernel
set_option maxRecDepth 65536 in
theorem w_hears : about1.hears theMethod below0 = true := by decide +kernel
set_option maxRecDepth 65536 in
theorem w_ripe : about1.ripe theMethod args0 below0 = true := by decide +kernel
theorem w_running : about1.status = .running := rfl
set_option maxRecDepth 65536 in
theorem w_room : about1.hasRoom e0.platform room_1 = true :=
  launch0.hasRoom_least _ room_1 (by decide +kernel) (by decide +kernel) (by decide +kernel) (by decide +kernel) (by decide +kernel) (by decide +kernel)
theorem allAtoms_all (ts : List Jvm.Cond) (a : Array Jvm.Value) (st : Jvm.State) : (allAtoms ts).before a st = ts.all (fun c => c.before a st) := by
  induction ts with
  | nil => rfl
  | cons c t ih =>
    show (Jvm.Cond.and c (allAtoms t)).before a st = _
    rw [Jvm.Cond.before_and, ih, List.all_cons]
def words1 : List Jvm.Cond := Jvm.Cond.code x code maxLocals ret :: tables_1
/-- a 'code' word, met by the world's own term for the bytes: nothing is compared byte by byte -/
theorem code_word {y : MethodName} {bytes : ByteArray} {mx : Nat} {rt : Option FieldType} {a : Array Value} {s : State} {m : MethodId} {meth : Method} {c : Code} (h1 : s.methodNamed? y = some m) (h2 : s.vm.method? m = some meth) (h3 : meth.code = some c) (h4 : c.code = bytes)
    (h5 : (c.maxLocals == mx && c.exceptionTable.isEmpty && decide (c.maxStack ≤ mostOperands) && decide (meth.sig.returnType = rt) && !meth.locks && decide (parseMethodDescriptor y.desc = some meth.sig)) = true) : (Jvm.Cond.code y bytes mx rt).before a s = true := by
  simp only [Bool.and_eq_true, beq_iff_eq, Bool.not_eq_true', decide_eq_true_eq] at h5
  obtain ⟨⟨⟨⟨⟨g1, g2⟩, g3⟩, g4⟩, g5⟩, g6⟩ := h5
  simp [Cond.before, Cond.holds, Cond.value, h1, h2, h3, h4, g1, g2, g3, g4, g5, g6]
def isCode : Jvm.Cond → Bool
  | .code _ _ _ _ => true
  | _ => false
theorem all_split {L : List Jvm.Cond} {P : Jvm.Cond → Bool} (h1 : L.all (fun c => isCode c || P c) = true) (h2 : ∀ c ∈ L.filter isCode, P c = true) : L.all P = true := by
  refine List.all_eq_true.mpr fun c hc => ?_
  have h := List.all_eq_true.mp h1 c hc
  rcases Bool.eq_false_or_eq_true (isCode c) with hi | hi
  · exact h2 c (List.mem_filter.mpr ⟨hc, hi⟩)
  · simpa [hi] using h
set_option maxRecDepth 65536 in
theorem w_c0 : (Jvm.Cond.code x code maxLocals ret).before args0 about1 = true := code_word (m := ⟨1, 1⟩) (meth := k1m1) (c := k1c1) (by decide +kernel) rfl rfl rfl (by decide +kernel)
set_option maxRecDepth 65536 in
theorem w_c1 : (Jvm.Cond.code ({ cls := "com/example/myna/myna/delivery/Deliveries$Lanes", name := "every", desc := "(Ljava/util/Map;ILjava/util/Set;)Lcom/example/myna/myna/delivery/Deliveries$Lanes;" } : Jvm.MethodName) prog_14_method_2_code (3 : Nat) (Option.some (Jvm.ClassFile.FieldType.object "com/example/myna/myna/delivery/Deliveries$Lanes"))).before args0 about1 = true := code_word (m := ⟨3, 1⟩) (meth := k3m1) (c := k3c1) (by decide +kernel) rfl rfl rfl (by decide +kernel)
set_option maxRecDepth 65536 in
theorem w_c2 : (Jvm.Cond.code ({ cls := "java/util/Set", name := "of", desc := "()Ljava/util/Set;" } : Jvm.MethodName) jdk_96_method_17_code (0 : Nat) (Option.some (Jvm.ClassFile.FieldType.object "java/util/Set"))).before args0 about1 = true := code_word (m := ⟨6, 0⟩) (meth := k6m0) (c := k6c0) (by decide +kernel) rfl rfl rfl (by decide +kernel)
set_option maxRecDepth 65536 in
theorem w_c3 : (Jvm.Cond.code ({ cls := "com/example/myna/myna/delivery/Deliveries$Lanes", name := "<init>", desc := "(Ljava/util/List;Ljava/util/Map;ILjava/util/Set;Ljava/util/Set;)V" } : Jvm.MethodName) prog_14_method_1_code (6 : Nat) (Option.none : Option Jvm.ClassFile.FieldType)).before args0 about1 = true := code_word (m := ⟨3, 0⟩) (meth := k3m0) (c := k3c0) (by decide +kernel) rfl rfl rfl (by decide +kernel)
set_option maxRecDepth 65536 in
theorem w_c4 : (Jvm.Cond.code ({ cls := "java/lang/Record", name := "<init>", desc := "()V" } : Jvm.MethodName) jdk_30_method_1_code (1 : Nat) (Option.none : Option Jvm.ClassFile.FieldType)).before args0 about1 = true := code_word (m := ⟨2, 0⟩) (meth := k2m0) (c := k2c0) (by decide +kernel) rfl rfl rfl (by decide +kernel)
set_option maxRecDepth 65536 in
theorem w_c5 : (Jvm.Cond.code ({ cls := "java/lang/Object", name := "<init>", desc := "()V" } : Jvm.MethodName) object_method_1_code (1 : Nat) (Option.none : Option Jvm.ClassFile.FieldType)).before args0 about1 = true := code_word (m := ⟨0, 0⟩) (meth := k0m0) (c := k0c0) (by decide +kernel) rfl rfl rfl (by decide +kernel)
set_option maxRecDepth 65536 in
theorem w_c6 : (Jvm.Cond.code ({ cls := "com/example/myna/myna/delivery/Deliveries$Lanes", name := "deferred", desc := "()Ljava/util/Set;" } : Jvm.MethodName) prog_14_method_13_code (1 : Nat) (Option.some (Jvm.ClassFile.FieldType.object "java/util/Set"))).before args0 about1 = true := code_word (m := ⟨3, 7⟩) (meth := k3m7) (c := k3c7) (by decide +kernel) rfl rfl rfl (by decide +kernel)
set_option maxRecDepth 65536 in
theorem w_c7 : (Jvm.Cond.code ({ cls := "com/example/myna/myna/delivery/Deliveries$Lanes", name := "deferring", desc := "(Ljava/util/Set;)Lcom/example/myna/myna/delivery/Deliveries$Lanes;" } : Jvm.MethodName) prog_14_method_4_code (2 : Nat) (Option.some (Jvm.ClassFile.FieldType.object "com/example/myna/myna/delivery/Deliveries$Lanes"))).before args0 about1 = true := code_word (m := ⟨3, 2⟩) (meth := k3m2) (c := k3c2) (by decide +kernel) rfl rfl rfl (by decide +kernel)
set_option maxRecDepth 65536 in
theorem w_c8 : (Jvm.Cond.code ({ cls := "com/example/myna/myna/delivery/Deliveries$Lanes", name := "endpointIds", desc := "()Ljava/util/List;" } : Jvm.MethodName) prog_14_method_9_code (1 : Nat) (Option.some (Jvm.ClassFile.FieldType.object "java/util/List"))).before args0 about1 = true := code_word (m := ⟨3, 3⟩) (meth := k3m3) (c := k3c3) (by decide +kernel) rfl rfl rfl (by decide +kernel)
set_option maxRecDepth 65536 in
theorem w_c9 : (Jvm.Cond.code ({ cls := "com/example/myna/myna/delivery/Deliveries$Lanes", name := "openRequests", desc := "()Ljava/util/Map;" } : Jvm.MethodName) prog_14_method_10_code (1 : Nat) (Option.some (Jvm.ClassFile.FieldType.object "java/util/Map"))).before args0 about1 = true := code_word (m := ⟨3, 4⟩) (meth := k3m4) (c := k3c4) (by decide +kernel) rfl rfl rfl (by decide +kernel)
set_option maxRecDepth 65536 in
theorem w_c10 : (Jvm.Cond.code ({ cls := "com/example/myna/myna/delivery/Deliveries$Lanes", name := "perEndpoint", desc := "()I" } : Jvm.MethodName) prog_14_method_11_code (1 : Nat) (Option.some Jvm.ClassFile.FieldType.int)).before args0 about1 = true := code_word (m := ⟨3, 5⟩) (meth := k3m5) (c := k3c5) (by decide +kernel) rfl rfl rfl (by decide +kernel)
set_option maxRecDepth 65536 in
theorem w_c11 : (Jvm.Cond.code ({ cls := "com/example/myna/myna/delivery/Deliveries$Lanes", name := "shut", desc := "()Ljava/util/Set;" } : Jvm.MethodName) prog_14_method_12_code (1 : Nat) (Option.some (Jvm.ClassFile.FieldType.object "java/util/Set"))).before args0 about1 = true := code_word (m := ⟨3, 6⟩) (meth := k3m6) (c := k3c6) (by decide +kernel) rfl rfl rfl (by decide +kernel)
set_option maxRecDepth 65536 in
theorem w_c12 : (Jvm.Cond.code ({ cls := "java/util/ArrayList", name := "<init>", desc := "()V" } : Jvm.MethodName) jdk_38_method_2_code (1 : Nat) (Option.none : Option Jvm.ClassFile.FieldType)).before args0 about1 = true := code_word (m := ⟨15, 0⟩) (meth := k15m0) (c := k15c0) (by decide +kernel) rfl rfl rfl (by decide +kernel)
set_option maxRecDepth 65536 in
theorem w_c13 : (Jvm.Cond.code ({ cls := "java/util/AbstractList", name := "<init>", desc := "()V" } : Jvm.MethodName) jdk_39_method_1_code (1 : Nat) (Option.none : Option Jvm.ClassFile.FieldType)).before args0 about1 = true := code_word (m := ⟨11, 0⟩) (meth := k11m0) (c := k11c0) (by decide +kernel) rfl rfl rfl (by decide +kernel)
set_option maxRecDepth 65536 in
theorem w_c14 : (Jvm.Cond.code ({ cls := "java/util/AbstractCollection", name := "<init>", desc := "()V" } : Jvm.MethodName) jdk_22_method_1_code (1 : Nat) (Option.none : Option Jvm.ClassFile.FieldType)).before args0 about1 = true := code_word (m := ⟨8, 0⟩) (meth := k8m0) (c := k8c0) (by decide +kernel) rfl rfl rfl (by decide +kernel)
set_option maxRecDepth 65536 in
theorem w_c15 : (Jvm.Cond.code ({ cls := "java/lang/String", name := "valueOf", desc := "(C)Ljava/lang/String;" } : Jvm.MethodName) jdk_42_method_139_code (1 : Nat) (Option.some (Jvm.ClassFile.FieldType.object "java/lang/String"))).before args0 about1 = true := code_word (m := ⟨20, 1⟩) (meth := k20m1) (c := k20c1) (by decide +kernel) rfl rfl rfl (by decide +kernel)
set_option maxRecDepth 65536 in
theorem w_c16 : (Jvm.Cond.code ({ cls := "java/lang/StringLatin1", name := "canEncode", desc := "(C)Z" } : Jvm.MethodName) jdk_43_method_3_code (1 : Nat) (Option.some Jvm.ClassFile.FieldType.boolean)).before args0 about1 = true := code_word (m := ⟨21, 1⟩) (meth := k21m1) (c := k21c1) (by decide +kernel) rfl rfl rfl (by decide +kernel)
set_option maxRecDepth 65536 in
theorem w_c17 : (Jvm.Cond.code ({ cls := "java/lang/StringLatin1", name := "toBytes", desc := "(C)[B" } : Jvm.MethodName) jdk_43_method_46_code (1 : Nat) (Option.some (Jvm.ClassFile.FieldType.array Jvm.ClassFile.FieldType.byte))).before args0 about1 = true := code_word (m := ⟨21, 2⟩) (meth := k21m2) (c := k21c2) (by decide +kernel) rfl rfl rfl (by decide +kernel)
set_option maxRecDepth 65536 in
theorem w_c18 : (Jvm.Cond.code ({ cls := "java/lang/String", name := "<init>", desc := "([BB)V" } : Jvm.MethodName) jdk_42_method_151_code (3 : Nat) (Option.none : Option Jvm.ClassFile.FieldType)).before args0 about1 = true := code_word (m := ⟨20, 2⟩) (meth := k20m2) (c := k20c2) (by decide +kernel) rfl rfl rfl (by decide +kernel)
set_option maxRecDepth 65536 in
theorem w_c19 : (Jvm.Cond.code ({ cls := "java/util/ArrayList", name := "add", desc := "(Ljava/lang/Object;)Z" } : Jvm.MethodName) jdk_38_method_25_code (2 : Nat) (Option.some Jvm.ClassFile.FieldType.boolean)).before args0 about1 = true := code_word (m := ⟨15, 4⟩) (meth := k15m4) (c := k15c4) (by decide +kernel) rfl rfl rfl (by decide +kernel)
set_option maxRecDepth 65536 in
theorem w_c20 : (Jvm.Cond.code ({ cls := "java/util/ArrayList", name := "add", desc := "(Ljava/lang/Object;[Ljava/lang/Object;I)V" } : Jvm.MethodName) jdk_38_method_24_code (4 : Nat) (Option.none : Option Jvm.ClassFile.FieldType)).before args0 about1 = true := code_word (m := ⟨15, 3⟩) (meth := k15m3) (c := k15c3) (by decide +kernel) rfl rfl rfl (by decide +kernel)
set_option maxRecDepth 65536 in
theorem w_c21 : (Jvm.Cond.code ({ cls := "java/util/ArrayList", name := "grow", desc := "()[Ljava/lang/Object;" } : Jvm.MethodName) jdk_38_method_7_code (1 : Nat) (Option.some (Jvm.ClassFile.FieldType.array (Jvm.ClassFile.FieldType.object "java/lang/Object")))).before args0 about1 = true := code_word (m := ⟨15, 2⟩) (meth := k15m2) (c := k15c2) (by decide +kernel) rfl rfl rfl (by decide +kernel)
set_option maxRecDepth 65536 in
theorem w_c22 : (Jvm.Cond.code ({ cls := "java/util/ArrayList", name := "grow", desc := "(I)[Ljava/lang/Object;" } : Jvm.MethodName) jdk_38_method_6_code (4 : Nat) (Option.some (Jvm.ClassFile.FieldType.array (Jvm.ClassFile.FieldType.object "java/lang/Object")))).before args0 about1 = true := code_word (m := ⟨15, 1⟩) (meth := k15m1) (c := k15c1) (by decide +kernel) rfl rfl rfl (by decide +kernel)
set_option maxRecDepth 65536 in
theorem w_c23 : (Jvm.Cond.code ({ cls := "java/lang/Math", name := "max", desc := "(II)I" } : Jvm.MethodName) jdk_29_method_65_code (2 : Nat) (Option.some Jvm.ClassFile.FieldType.int)).before args0 about1 = true := code_word (m := ⟨22, 1⟩) (meth := k22m1) (c := k22c1) (by decide +kernel) rfl rfl rfl (by decide +kernel)
def codes1 : List Jvm.Cond := [Jvm.Cond.code x code maxLocals ret, Jvm.Cond.code ({ cls := "com/example/myna/myna/delivery/Deliveries$Lanes", name := "every", desc := "(Ljava/util/Map;ILjava/util/Set;)Lcom/example/myna/myna/delivery/Deliveries$Lanes;" } : Jvm.MethodName) prog_14_method_2_code (3 : Nat) (Option.some (Jvm.ClassFile.FieldType.object "com/example/myna/myna/delivery/Deliveries$Lanes")), Jvm.Cond.code ({ cls := "java/util/Set", name := "of", desc := "()Ljava/util/Set;" } : Jvm.MethodName) jdk_96_method_17_code (0 : Nat) (Option.some (Jvm.ClassFile.FieldType.object "java/util/Set")), Jvm.Cond.code ({ cls := "com/example/myna/myna/delivery/Deliveries$Lanes", name := "<init>", desc := "(Ljava/util/List;Ljava/util/Map;ILjava/util/Set;Ljava/util/Set;)V" } : Jvm.MethodName) prog_14_method_1_code (6 : Nat) (Option.none : Option Jvm.ClassFile.FieldType), Jvm.Cond.code ({ cls := "java/lang/Record", name := "<init>", desc := "()V" } : Jvm.MethodName) jdk_30_method_1_code (1 : Nat) (Option.none : Option Jvm.ClassFile.FieldType), Jvm.Cond.code ({ cls := "java/lang/Object", name := "<init>", desc := "()V" } : Jvm.MethodName) object_method_1_code (1 : Nat) (Option.none : Option Jvm.ClassFile.FieldType), Jvm.Cond.code ({ cls := "com/example/myna/myna/delivery/Deliveries$Lanes", name := "deferred", desc := "()Ljava/util/Set;" } : Jvm.MethodName) prog_14_method_13_code (1 : Nat) (Option.some (Jvm.ClassFile.FieldType.object "java/util/Set")), Jvm.Cond.code ({ cls := "com/example/myna/myna/delivery/Deliveries$Lanes", name := "deferring", desc := "(Ljava/util/Set;)Lcom/example/myna/myna/delivery/Deliveries$Lanes;" } : Jvm.MethodName) prog_14_method_4_code (2 : Nat) (Option.some (Jvm.ClassFile.FieldType.object "com/example/myna/myna/delivery/Deliveries$Lanes")), Jvm.Cond.code ({ cls := "com/example/myna/myna/delivery/Deliveries$Lanes", name := "endpointIds", desc := "()Ljava/util/List;" } : Jvm.MethodName) prog_14_method_9_code (1 : Nat) (Option.some (Jvm.ClassFile.FieldType.object "java/util/List")), Jvm.Cond.code ({ cls := "com/example/myna/myna/delivery/Deliveries$Lanes", name := "openRequests", desc := "()Ljava/util/Map;" } : Jvm.MethodName) prog_14_method_10_code (1 : Nat) (Option.some (Jvm.ClassFile.FieldType.object "java/util/Map")), Jvm.Cond.code ({ cls := "com/example/myna/myna/delivery/Deliveries$Lanes", name := "perEndpoint", desc := "()I" } : Jvm.MethodName) prog_14_method_11_code (1 : Nat) (Option.some Jvm.ClassFile.FieldType.int), Jvm.Cond.code ({ cls := "com/example/myna/myna/delivery/Deliveries$Lanes", name := "shut", desc := "()Ljava/util/Set;" } : Jvm.MethodName) prog_14_method_12_code (1 : Nat) (Option.some (Jvm.ClassFile.FieldType.object "java/util/Set")), Jvm.Cond.code ({ cls := "java/util/ArrayList", name := "<init>", desc := "()V" } : Jvm.MethodName) jdk_38_method_2_code (1 : Nat) (Option.none : Option Jvm.ClassFile.FieldType), Jvm.Cond.code ({ cls := "java/util/AbstractList", name := "<init>", desc := "()V" } : Jvm.MethodName) jdk_39_method_1_code (1 : Nat) (Option.none : Option Jvm.ClassFile.FieldType), Jvm.Cond.code ({ cls := "java/util/AbstractCollection", name := "<init>", desc := "()V" } : Jvm.MethodName) jdk_22_method_1_code (1 : Nat) (Option.none : Option Jvm.ClassFile.FieldType), Jvm.Cond.code ({ cls := "java/lang/String", name := "valueOf", desc := "(C)Ljava/lang/String;" } : Jvm.MethodName) jdk_42_method_139_code (1 : Nat) (Option.some (Jvm.ClassFile.FieldType.object "java/lang/String")), Jvm.Cond.code ({ cls := "java/lang/StringLatin1", name := "canEncode", desc := "(C)Z" } : Jvm.MethodName) jdk_43_method_3_code (1 : Nat) (Option.some Jvm.ClassFile.FieldType.boolean), Jvm.Cond.code ({ cls := "java/lang/StringLatin1", name := "toBytes", desc := "(C)[B" } : Jvm.MethodName) jdk_43_method_46_code (1 : Nat) (Option.some (Jvm.ClassFile.FieldType.array Jvm.ClassFile.FieldType.byte)), Jvm.Cond.code ({ cls := "java/lang/String", name := "<init>", desc := "([BB)V" } : Jvm.MethodName) jdk_42_method_151_code (3 : Nat) (Option.none : Option Jvm.ClassFile.FieldType), Jvm.Cond.code ({ cls := "java/util/ArrayList", name := "add", desc := "(Ljava/lang/Object;)Z" } : Jvm.MethodName) jdk_38_method_25_code (2 : Nat) (Option.some Jvm.ClassFile.FieldType.boolean), Jvm.Cond.code ({ cls := "java/util/ArrayList", name := "add", desc := "(Ljava/lang/Object;[Ljava/lang/Object;I)V" } : Jvm.MethodName) jdk_38_method_24_code (4 : Nat) (Option.none : Option Jvm.ClassFile.FieldType), Jvm.Cond.code ({ cls := "java/util/ArrayList", name := "grow", desc := "()[Ljava/lang/Object;" } : Jvm.MethodName) jdk_38_method_7_code (1 : Nat) (Option.some (Jvm.ClassFile.FieldType.array (Jvm.ClassFile.FieldType.object "java/lang/Object"))), Jvm.Cond.code ({ cls := "java/util/ArrayList", name := "grow", desc := "(I)[Ljava/lang/Object;" } : Jvm.MethodName) jdk_38_method_6_code (4 : Nat) (Option.some (Jvm.ClassFile.FieldType.array (Jvm.ClassFile.FieldType.object "java/lang/Object"))), Jvm.Cond.code ({ cls := "java/lang/Math", name := "max", desc := "(II)I" } : Jvm.MethodName) jdk_29_method_65_code (2 : Nat) (Option.some Jvm.ClassFile.FieldType.int)]
set_option maxRecDepth 65536 in
theorem codes_eq : words1.filter isCode = codes1 := rfl
theorem w_codes : ∀ c ∈ words1.filter isCode, c.before args0 about1 = true := by
  rw [codes_eq]
  intro c hc
  simp only [codes1, List.mem_cons, List.not_mem_nil, or_false] at hc
  rcases hc with rfl | rfl | rfl | rfl | rfl | rfl | rfl | rfl | rfl | rfl | rfl | rfl | rfl | rfl | rfl | rfl | rfl | rfl | rfl | rfl | rfl | rfl | rfl | rfl
  · exact w_c0
  · exact w_c1
  · exact w_c2
  · exact w_c3
  · exact w_c4
  · exact w_c5
  · exact w_c6
  · exact w_c7
  · exact w_c8
  · exact w_c9
  · exact w_c10
  · exact w_c11
  · exact w_c12
  · exact w_c13
  · exact w_c14
  · exact w_c15
  · exact w_c16
  · exact w_c17
  · exact w_c18
  · exact w_c19
  · exact w_c20
  · exact w_c21
  · exact w_c22
  · exact w_c23
set_option maxRecDepth 65536 in
theorem w_t1 : (words1.take 24).all (fun c => isCode c || c.before args0 about1) = true := by decide +kernel
set_option maxRecDepth 65536 in
theorem w_t2 : ((words1.drop 24).take 24).all (fun c => isCode c || c.before args0 about1) = true := by decide +kernel
set_option maxRecDepth 65536 in
theorem w_t3 : (((words1.drop 24).drop 24).take 24).all (fun c => isCode c || c.before args0 about1) = true := by decide +kernel
set_option maxRecDepth 65536 in
theorem w_t4 : ((((words1.drop 24).drop 24).drop 24).take 24).all (fun c => isCode c || c.before args0 about1) = true := by decide +kernel
set_option maxRecDepth 65536 in
theorem w_t5 : (((((words1.drop 24).drop 24).drop 24).drop 24).take 24).all (fun c => isCode c || c.before args0 about1) = true := by decide +kernel
set_option maxRecDepth 65536 in
theorem w_t6 : ((((((words1.drop 24).drop 24).drop 24).drop 24).drop 24).take 24).all (fun c => isCode c || c.before args0 about1) = true := by decide +kernel
set_option maxRecDepth 65536 in
theorem w_t7 : ((((((words1.drop 24).drop 24).drop 24).drop 24).drop 24).drop 24).all (fun c => isCode c || c.before args0 about1) = true := by decide +kernel
theorem w_tables : (allAtoms (Jvm.Cond.code x code maxLocals ret :: tables_1)).before args0 about1 = true := by
  rw [allAtoms_all]
  show words1.all (fun c => c.before args0 about1) = true
  refine all_split ?_ w_codes
  rw [← List.take_append_drop 24 words1, List.all_append, w_t1, ← List.take_append_drop 24 (words1.drop 24), List.all_append, w_t2, ← List.take_append_drop 24 ((words1.drop 24).drop 24), List.all_append, w_t3, ← List.take_append_drop 24 (((words1.drop 24).drop 24).drop 24), List.all_append, w_t4, ← List.take_append_drop 24 ((((words1.drop 24).drop 24).drop 24).drop 24), List.all_append, w_t5, ← List.take_append_drop 24 (((((words1.drop 24).drop 24).drop 24).drop 24).drop 24), List.all_append, w_t6, w_t7]
  rfl
set_option maxRecDepth 65536 in
theorem w_rest : rest_1_c.before args0 about1 = true := by decide +kernel
set_option maxRecDepth 65536 in
theorem w_case : (Jvm.Cond.and given_1 narrow_1).before args0 about1 = true := by decide +kernel
theorem w_applies : (headSpec (Jvm.Cond.code x code maxLocals ret :: tables_1) room_1).applies x e0.platform about1 = true :=
  (Spec.applies_iff w_frames).mpr ⟨w_running, w_runnable, w_alone, w_named, w_hears, w_ripe, w_room, w_tables⟩
theorem atStart : AtStart classFile x code maxLocals ret World_1 tables_1 room_1 Calls_1 rest_1 Pre_1 launch0 p0 e0 about1 theMethod args0 below0 :=
  ⟨lists_1, trivial, launch0.admits_env _ _ _, launch0.least_env, fairChoices_fair.cas, fairChoices_fair.clock, w_frames, w_args, w_heap, w_applies, trivial, w_rest, w_case⟩
end start1
theorem witness_1 : WitnessClaimed_1 := ⟨start1.p0, start1.e0, start1.about1, start1.theMethod, start1.args0, start1.below0, start1.atStart⟩
end Jvm.Pilot.@@N@@
