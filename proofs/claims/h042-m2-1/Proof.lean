import JvmDerived
import JvmDerived.Pilot.@@N@@Statement
import JvmDerived.Pilot.@@N@@Code
set_option linter.unusedVariables false
set_option linter.unusedSimpArgs false

namespace Jvm.Pilot.@@N@@
open Jvm Jvm.ClassFile Sem Op Lib Jvm.Free Jvm.Stand Jvm.LawKit Jvm.RoadKit Bundle Jvm.Pilot.@@N@@.Jvm.D
def OwnFin (p : Program) (e : Env) (below : List Frame) (Q : Outcome → State → Prop) (T : State) : Prop := ∃ s₂ o, Steps p.tables e below T s₂ ∧ s₂.status = .running ∧ Ended s₂ below o ∧ Q o s₂
theorem OwnFin.step {p : Program} {e : Env} {below : List Frame} {Q : Outcome → State → Prop} {A B : State} (h : ∀ t, Steps p.tables e below A t → Steps p.tables e below B t) (k : OwnFin p e below Q A) : OwnFin p e below Q B := by
  obtain ⟨s₂, o, h1, h2⟩ := k
  exact ⟨s₂, o, h _ h1, h2⟩
theorem own_safe_nil {Z : State} {vm : Vm} {h : Heap} {x : Addr} : Safe Z [] vm h x := fun ⟨_, hp, _⟩ => nomatch hp
theorem own_safe_str {Z : State} {EL : List (String × Nat)} {vm : Vm} {h : Heap} {x : Addr} (hal : Z.vm.Alike vm) (E : Exa Z h x "java/lang/String") (F : Fld Z h x "java/lang/String" "value" "[B" .null) : Safe Z EL vm h x := fun B => by
  obtain ⟨p, -, u, a, -, q, -, G, rfl | rfl⟩ := B
  · obtain ⟨cell, cf, k, i, f, h1, h2, h3, h4, h5, h6, h7⟩ := F
    cases (show h[q.sa]? = some q.sC from G.ha).symm.trans h1
    obtain ⟨cS, ⟨⟨-, -, -, ⟨c1, k1, i1, f1, -⟩, -, -, -, v1, -⟩, -⟩, -⟩ := G
    obtain ⟨k3, e3, -⟩ := State.fieldFound?_setVm (s := Z) hal h2
    have e4 := (show (Wst Z vm h).fieldFound? _ _ _ = _ from e3).symm.trans f1
    simp only [Option.some.injEq, Prod.mk.injEq] at e4
    rw [← e4.2.2.2, h7] at v1
    simp at v1
  · obtain ⟨cell, k, e1, e2, e3, -, -⟩ := E
    cases (show h[q.sd]? = some q.SA from G.hd).symm.trans e1
    obtain ⟨cS, -, -, f, -⟩ := G
    have f : vm.findClass "[B" = some q.SA.cls := f
    rw [hal.findClass] at f
    obtain ⟨k1, q1, q2⟩ := Vm.findClass_spec f
    obtain ⟨k2, q3, q4⟩ := Vm.findClass_spec e2
    cases q1.symm.trans q3
    exact absurd (q2.symm.trans q4) (by decide)
theorem own_fits {C : String} {v : Value} (h : v.isRef = true) : fits (.object C) v = true := by cases v <;> simp_all [Value.isRef, fits]
theorem own_cat {v : Value} (h : v.isRef = true) : v.category = 1 := by cases v <;> simp_all [Value.isRef, Value.category]
theorem own_nonsta {Z : State} {h : Heap} {a : Addr} {C : String} (E : Exa Z h a C) : ∃ cell : Cell, h[a]? = some cell ∧ cell.vm.isStatics = false := by
  obtain ⟨cell, k, h1, -, -, h2, -⟩ := E
  exact ⟨cell, h1, h2⟩
theorem own_sta_keep {Z : State} {h h' : Heap} {ws : List Addr} {C n d : String} {v : Value} (F : Sta Z h C n d v) (K : Keep h h' ws) (q : ∀ x ∈ ws, ∃ cell : Cell, h[x]? = some cell ∧ cell.vm.isStatics = false) : Sta Z h' C n d v := by
  obtain ⟨cf, i, k, f, st, cell, h1, h2, h3, h4, h5, h6, h7⟩ := F
  refine ⟨cf, i, k, f, st, cell, h1, h2, h3, h4, K.2.1 _ _ h5 fun z => ?_, h6, h7⟩
  obtain ⟨c2, e1, e2⟩ := q st z
  rw [h5] at e1
  cases e1
  rw [h6] at e2
  cases e2
theorem own_arr_keep {Z : State} {h h' : Heap} {ws : List Addr} {a : Addr} {c : Cell} {ty : FieldType} (A : Arr Z h a c ty) (K : Keep h h' ws) (q : a ∉ ws) : Arr Z h' a c ty := ⟨K.2.1 a c A.1 q, A.2⟩
section OwnLen
variable {p : Program} {l : Launch} {e : Env} {R : Room} {s : State} {m : MethodId} {args : Array Value} {below : List Frame} {meth : Method} {c : Code} {T : State} {locs : List Loc} {cells slots : Nat} {Z : State} {h : Heap}
theorem own_len (X : Stand p l e R s m args below meth c T locs cells slots) (hx : p.tables.exec = Jvm.exec) (hZ : Z.Warmed39 s.vm) (eT : T.heap = h) {a : Addr} {cl : Cell} {ty : FieldType} (A : Arr Z h a cl ty) {z : Int32} (Sz : cl.slots.size = z.toNatClampNeg) (Ng : ¬ z < 0) {g : JFrame} (hg : g.method = m) {rest : List Value} (hs : g.stack = .ref a :: rest) (hd : decode c.code g.pc = .ok (.arraylength, 1)) {t : State}
    (k : Steps p.tables e below (T.setTop { g with pc := g.pc + 1, stack := .int z :: rest }) t) : Steps p.tables e below (T.setTop g) t := by
  refine X.arraylength hx (by rw [eT]; exact A.1) (State.isArrayOf_alike hZ.alike A.2.1) hg hs hd _ ?_
  rw [len_of Sz Ng]
  exact k
end OwnLen

section OwnStart
variable {args : Array Value} {s : State} {t : Term} {x : Addr}
theorem own_eqI {a : Term} {k : Int32} (h : (Jvm.Cond.eq a (Term.int k)).value args s none s [] = some true) : a.eval args s none [] s = some (.int k) := by
  obtain ⟨v, y, e1, e2, k1, k2⟩ := cmp_v (Or.inl h)
  have e3 : (Term.int k).eval args s none [] s = some (.int k) := Term.int_eval k
  rw [e3] at e2
  cases e2
  obtain ⟨z, rfl⟩ := k2
  simp [Cond.value, e1, e3] at h
  subst h
  exact e1
theorem own_fldI {C n d : String} {k : Int32} (ht : t.eval args s none [] s = some (.ref x)) (h : (Jvm.Cond.eq (Term.field t C n d) (Term.int k)).value args s none s [] = some true) : Fld s s.heap x C n d (.int k) := Fld.start (by rw [← fld_at ht (args := args) (first := s) (o := none) (idx := [])]; exact own_eqI h)
theorem own_neI {a : Term} {z k : Int32} (e1 : a.eval args s none [] s = some (.int z)) (h : (Jvm.Cond.not (Jvm.Cond.eq a (Term.int k))).value args s none s [] = some true) : ¬ z = k := by
  have h2 := not_v h
  have e3 : (Term.int k).eval args s none [] s = some (.int k) := Term.int_eval k
  intro e
  subst e
  simp [Cond.value, e1, e3] at h2
theorem own_eqR {a b : Term} {y : Addr} (hb : b.eval args s none [] s = some (.ref y)) (h : (Jvm.Cond.eq a b).value args s none s [] = some true) : a.eval args s none [] s = some (.ref y) := by
  obtain ⟨v, z, e1, e2, k1, k2⟩ := cmp_v (Or.inl h)
  rw [hb] at e2
  cases e2
  have hv : v.isRef = true := k2.2
  rw [eq_R e1 hb hv rfl] at h
  have := of_decide_eq_true (Option.some.inj h)
  subst this
  exact e1
theorem own_arv {t : Term} {a : Addr} {cl : Cell} {ty : FieldType} {z : Int32} {vs : List Value} {dv : Value} (hf : Fit s) (A : Arr s s.heap a cl ty) (ev : t.eval args s none [] s = some (.ref a)) (hl : (Term.length t).eval args s none [] s = some (.int z)) (hz : ¬ z < 0) (hn : z.toNatClampNeg = vs.length) (H : HasL cl 0 vs) : Arv s s.heap a cl.cls ty z vs dv := by
  obtain ⟨b, cell, h1, h2, h3⟩ := Term.length_spec hl
  cases ev.symm.trans h1
  obtain ⟨hcell, -⟩ := State.arrayAt?_spec h2
  cases A.1.symm.trans hcell
  have hsz : cl.slots.size < 2 ^ 31 := by
    simp only [Term.eval, ev, h2, Option.bind_eq_bind, Option.bind_some] at hl
    by_cases hlt : cl.slots.size < 2147483648
    · exact hlt
    · simp [hlt] at hl
  exact Arv.start hf A hsz (Value.int.inj h3).symm hz hn H
theorem own_elem {t : Term} {a : Addr} {cl : Cell} {ty : FieldType} {j : Int32} {v : Value} (A : Arr s s.heap a cl ty) (ev : t.eval args s none [] s = some (.ref a)) (h : (Term.elem t (Term.int j)).eval args s none [] s = some v) : cl.slots[j.toNatClampNeg]? = some v := (elem_in h ev (Term.int_eval j) A.1).2
end OwnStart

theorem own_mod (k : Int32) (d : Int32) (D : Int) (hd : d.toInt = D) (hD : 0 < D) : 0 ≤ ((k &&& (2147483647 : Int32)) % d).toInt ∧ ((k &&& (2147483647 : Int32)) % d).toInt < D := by
  have h1 := c_mask k (2147483647 : Int32) 31 (by decide) (by decide)
  have h2 := (c_irem (k &&& (2147483647 : Int32)) d D hd).1 (by rw [h1]; exact Int.emod_nonneg _ (by decide))
  rw [h2]
  exact ⟨Int.emod_nonneg _ (by omega), Int.emod_lt_of_pos _ hD⟩

theorem own_cases3 {i : Int32} (h0 : 0 ≤ i.toInt) (h1 : i.toInt < 3) : i = (0 : Int32) ∨ i = (1 : Int32) ∨ i = (2 : Int32) := by
  simp only [← Int32.toInt_inj]
  simp
  omega
theorem own_cases4 {i : Int32} (h0 : 0 ≤ i.toInt) (h1 : i.toInt < 4) : i = (0 : Int32) ∨ i = (1 : Int32) ∨ i = (2 : Int32) ∨ i = (3 : Int32) := by
  simp only [← Int32.toInt_inj]
  simp
  omega
theorem pn_0 : plainName "java/lang/Record" = true := by first | (simp [plainName, overriddenIn]; done) | decide +kernel
theorem d_jdk_30_method_1_0 : decode jdk_30_method_1_code 0 = .ok (.aload_n 0, 1) := by decide +kernel
theorem d_jdk_30_method_1_1 : decode jdk_30_method_1_code 1 = .ok (.invokespecial 1, 3) := by decide +kernel
theorem d_jdk_30_method_1_4 : decode jdk_30_method_1_code 4 = .ok (.return_, 1) := by decide +kernel
theorem ef_1 (m : MethodId) (a : Addr) : entryFrame m #[(.ref a)] 1 = mkF m 0 #[.val (.ref a)] [] := by first | (simp [entryFrame, mkF, argsToLocals, Value.category]; done) | rfl
def Q1 (Z : State) (a : Addr) (h0 : Heap) (n0 : Nat) (vV : Option Value) (hH : Heap) (LL : List Loc) : Prop := vV = none ∧ Fr n0 LL ∧ hH = h0
def R1 (Z : State) (a : Addr) (h0 : Heap) (n0 : Nat) (U : State) (o : Outcome) (U' : State) : Prop := ∃ vV LL, o = .returned vV ∧ Q1 Z a h0 n0 vV U'.heap LL ∧ FrameEnd U o U' LL ({ frames := 1, cells := 0, slots := 0, locals := 12 } : Room).cells ({ frames := 1, cells := 0, slots := 0, locals := 12 } : Room).slots
set_option maxRecDepth 65536 in
set_option maxHeartbeats 40000000 in
theorem rm1 (l : Launch) (Z : State) (a0 : Array Value) (hw : ∀ d ∈ tables_1, d.before a0 Z = true) (ws : List Jvm.Cond) (a : Addr) (h0 : Heap) (n0 : Nat) (Z0 : n0 ≤ h0.size) :
    MetFree l (⟨"java/lang/Record", "<init>", "()V"⟩ : MethodName) (head1 (Jvm.Cond.code (⟨"java/lang/Record", "<init>", "()V"⟩ : MethodName) jdk_30_method_1_code 1 none :: ws) ({ frames := 1, cells := 0, slots := 0, locals := 12 } : Room)) (fun aA U => aA = #[(.ref a)] ∧ Z.Warmed39 U.vm ∧ U.heap = h0) (fun _ _ _ _ _ => True) (fun _ U o U' => ∃ vV LL, o = .returned vV ∧ Q1 Z a h0 n0 vV U'.heap LL ∧ FrameEnd U o U' LL ({ frames := 1, cells := 0, slots := 0, locals := 12 } : Room).cells ({ frames := 1, cells := 0, slots := 0, locals := 12 } : Room).slots) := by
  refine MetFree.of_bodySF (plainFor_of_name pn_0) hisR ?_
  intro p e s m args below meth cC s₁ Bd hml0 hP hK
  obtain ⟨rfl, hZ, hh⟩ := hP
  have hx := Bd.exec
  have hby := Bd.bytes
  have hml : cC.maxLocals = 1 := hml0
  have hown : s.vm.findClass "java/lang/Record" = some m.cls := findClass_of_methodNamed Bd.named
  have hnm := (name_of_methodNamed Bd.named Bd.method).1
  have X0 : Stand p l e ({ frames := 1, cells := 0, slots := 0, locals := 12 } : Room) s m #[(.ref a)] below meth cC s₁ [] 0 0 := Stand.of_body Bd
  have e0 : s₁.heap = h0 := by rw [← hh, Bd.state]; rfl
  have N0 := Fr.nil n0
  show OwnFin p e below (R1 Z a h0 n0 s) (s₁.setTop (entryFrame m #[(.ref a)] 1))
  rw [ef_1 m a]
  refine OwnFin.step (fun tT kK => XS.aloadN X0.here hx rfl (hb hby d_jdk_30_method_1_0) rfl rfl kK) ?_
  show OwnFin p e below _ (s₁.setTop (mkF m 1 #[.val (.ref a)] [(.ref a)]))
  obtain ⟨T1, X1, e1, st1⟩ := initO X0 hx hZ hown (hw _ (List.mem_of_getElem? (i := 57) rfl)) (hw _ (List.mem_of_getElem? (i := 17) rfl)) (hw _ (List.mem_of_getElem? (i := 18) rfl)) e0 (g := (mkF m 1 #[.val (.ref a)] [(.ref a)])) rfl (by rw [hml]; rfl) rfl (hb hby d_jdk_30_method_1_1) (by decide) (W := 0) (by show 2 * 0 + _ ≤ _; exact Nat.le_of_eq rfl) (by decide)
  refine OwnFin.step st1 ?_
  show OwnFin p e below _ (T1.setTop (mkF m 4 #[.val (.ref a)] []))
  obtain ⟨fs2, hr2, hrun2, hended2, hW2, hsame2⟩ := X1.leave (v := none) (fun _ => rfl)
  refine ⟨_, _, X1.returnOut hx Bd.returns (hb hby d_jdk_30_method_1_4) hr2, hrun2, hended2, _, _, rfl, ?_, ⟨_, rfl⟩, hW2, hsame2.mono (by decide) (by decide)⟩
  show Q1 Z a h0 n0 _ T1.heap _
  rw [e1]
  exact ⟨rfl, N0, rfl⟩
theorem pn_4 : plainName "java/lang/StringUTF16" = true := by first | (simp [plainName, overriddenIn]; done) | decide +kernel
theorem d_jdk_52_method_21_0 : decode jdk_52_method_21_code 0 = .ok (.iconst 0, 1) := by decide +kernel
theorem d_jdk_52_method_21_1 : decode jdk_52_method_21_code 1 = .ok (.istore 5, 2) := by decide +kernel
theorem d_jdk_52_method_21_3 : decode jdk_52_method_21_code 3 = .ok (.iload 5, 2) := by decide +kernel
theorem d_jdk_52_method_21_5 : decode jdk_52_method_21_code 5 = .ok (.iload 4, 2) := by decide +kernel
theorem d_jdk_52_method_21_7 : decode jdk_52_method_21_code 7 = .ok (.if_icmp .ge 37, 3) := by decide +kernel
theorem d_jdk_52_method_21_10 : decode jdk_52_method_21_code 10 = .ok (.aload_n 0, 1) := by decide +kernel
theorem d_jdk_52_method_21_11 : decode jdk_52_method_21_code 11 = .ok (.iload_n 1, 1) := by decide +kernel
theorem d_jdk_52_method_21_12 : decode jdk_52_method_21_code 12 = .ok (.caload, 1) := by decide +kernel
theorem d_jdk_52_method_21_13 : decode jdk_52_method_21_code 13 = .ok (.istore 6, 2) := by decide +kernel
theorem d_jdk_52_method_21_15 : decode jdk_52_method_21_code 15 = .ok (.iload 6, 2) := by decide +kernel
theorem d_jdk_52_method_21_17 : decode jdk_52_method_21_code 17 = .ok (.sipush 255, 3) := by decide +kernel
theorem d_jdk_52_method_21_20 : decode jdk_52_method_21_code 20 = .ok (.if_icmp .le 6, 3) := by decide +kernel
theorem d_jdk_52_method_21_26 : decode jdk_52_method_21_code 26 = .ok (.aload_n 2, 1) := by decide +kernel
theorem d_jdk_52_method_21_27 : decode jdk_52_method_21_code 27 = .ok (.iload_n 3, 1) := by decide +kernel
theorem d_jdk_52_method_21_28 : decode jdk_52_method_21_code 28 = .ok (.iload 6, 2) := by decide +kernel
theorem d_jdk_52_method_21_30 : decode jdk_52_method_21_code 30 = .ok (.i2b, 1) := by decide +kernel
theorem d_jdk_52_method_21_31 : decode jdk_52_method_21_code 31 = .ok (.bastore, 1) := by decide +kernel
theorem d_jdk_52_method_21_32 : decode jdk_52_method_21_code 32 = .ok (.iinc 1 1, 3) := by decide +kernel
theorem d_jdk_52_method_21_35 : decode jdk_52_method_21_code 35 = .ok (.iinc 3 1, 3) := by decide +kernel
theorem d_jdk_52_method_21_38 : decode jdk_52_method_21_code 38 = .ok (.iinc 5 1, 3) := by decide +kernel
theorem d_jdk_52_method_21_41 : decode jdk_52_method_21_code 41 = .ok (.goto (-38), 3) := by decide +kernel
theorem d_jdk_52_method_21_44 : decode jdk_52_method_21_code 44 = .ok (.iload 4, 2) := by decide +kernel
theorem d_jdk_52_method_21_46 : decode jdk_52_method_21_code 46 = .ok (.ireturn, 1) := by decide +kernel
theorem ef_2a (m : MethodId) (ar : Addr) (yb : Addr) : entryFrame m #[(.ref ar), (.int (0 : Int32)), (.ref yb), (.int (0 : Int32)), (.int (1 : Int32))] 7 = mkF m 0 #[.val (.ref ar), .val (.int (0 : Int32)), .val (.ref yb), .val (.int (0 : Int32)), .val (.int (1 : Int32)), .unset, .unset] [] := by first | (simp [entryFrame, mkF, argsToLocals, Value.category]; done) | rfl
def Q2a (Z : State) (ar : Addr) (yb : Addr) (k : ClassId) (kb : ClassId) (c0 : Int32) (h0 : Heap) (n0 : Nat) (vV : Option Value) (hH : Heap) (LL : List Loc) : Prop := vV = some (.int (1 : Int32)) ∧ Fr n0 LL ∧ Keep h0 hH [yb] ∧ (Arv Z hH yb kb .byte (1 : Int32) [(.int (nar .byte (c0.toInt8.toInt32)))] (.int (0 : Int32)))
def R2a (Z : State) (ar : Addr) (yb : Addr) (k : ClassId) (kb : ClassId) (c0 : Int32) (h0 : Heap) (n0 : Nat) (U : State) (o : Outcome) (U' : State) : Prop := ∃ vV LL, o = .returned vV ∧ Q2a Z ar yb k kb c0 h0 n0 vV U'.heap LL ∧ FrameEnd U o U' LL ({ frames := 0, cells := 0, slots := 0, locals := 0 } : Room).cells ({ frames := 0, cells := 0, slots := 0, locals := 0 } : Room).slots
set_option maxRecDepth 65536 in
set_option maxHeartbeats 40000000 in
theorem rm2a (l : Launch) (Z : State) (a0 : Array Value) (hw : ∀ d ∈ tables_1, d.before a0 Z = true) (ws : List Jvm.Cond) (ar : Addr) (yb : Addr) (k : ClassId) (kb : ClassId) (c0 : Int32) (h0 : Heap) (n0 : Nat) (Z0 : n0 ≤ h0.size) (hp0 : Arv Z h0 ar k .char (1 : Int32) [(.int c0)] (.int (0 : Int32))) (hp1 : Arv Z h0 yb kb .byte (1 : Int32) [(.int (0 : Int32))] (.int (0 : Int32))) (hp2 : ¬ (255 : Int32) < c0) (hp3 : n0 ≤ yb) (hp4 : ar ≠ yb) :
    MetFree l (⟨"java/lang/StringUTF16", "compress", "([CI[BII)I"⟩ : MethodName) (head1 (Jvm.Cond.code (⟨"java/lang/StringUTF16", "compress", "([CI[BII)I"⟩ : MethodName) jdk_52_method_21_code 7 (some .int) :: ws) ({ frames := 0, cells := 0, slots := 0, locals := 0 } : Room)) (fun aA U => aA = #[(.ref ar), (.int (0 : Int32)), (.ref yb), (.int (0 : Int32)), (.int (1 : Int32))] ∧ Z.Warmed39 U.vm ∧ U.heap = h0) (fun _ _ _ _ _ => True) (fun _ U o U' => ∃ vV LL, o = .returned vV ∧ Q2a Z ar yb k kb c0 h0 n0 vV U'.heap LL ∧ FrameEnd U o U' LL ({ frames := 0, cells := 0, slots := 0, locals := 0 } : Room).cells ({ frames := 0, cells := 0, slots := 0, locals := 0 } : Room).slots) := by
  refine MetFree.of_bodySF (plainFor_of_name pn_4) hisR ?_
  intro p e s m args below meth cC s₁ Bd hml0 hP hK
  obtain ⟨rfl, hZ, hh⟩ := hP
  have hx := Bd.exec
  have hby := Bd.bytes
  have hml : cC.maxLocals = 7 := hml0
  have hown : s.vm.findClass "java/lang/StringUTF16" = some m.cls := findClass_of_methodNamed Bd.named
  have hnm := (name_of_methodNamed Bd.named Bd.method).1
  have X0 : Stand p l e ({ frames := 0, cells := 0, slots := 0, locals := 0 } : Room) s m #[(.ref ar), (.int (0 : Int32)), (.ref yb), (.int (0 : Int32)), (.int (1 : Int32))] below meth cC s₁ [] 0 0 := Stand.of_body Bd
  have e0 : s₁.heap = h0 := by rw [← hh, Bd.state]; rfl
  have N0 := Fr.nil n0
  show OwnFin p e below (R2a Z ar yb k kb c0 h0 n0 s) (s₁.setTop (entryFrame m #[(.ref ar), (.int (0 : Int32)), (.ref yb), (.int (0 : Int32)), (.int (1 : Int32))] 7))
  rw [ef_2a m ar yb]
  refine OwnFin.step (fun tT kK => XS.iconst X0.here hx rfl (hb hby d_jdk_52_method_21_0) kK) ?_
  show OwnFin p e below _ (s₁.setTop (mkF m 1 #[.val (.ref ar), .val (.int (0 : Int32)), .val (.ref yb), .val (.int (0 : Int32)), .val (.int (1 : Int32)), .unset, .unset] [(.int (0 : Int32))]))
  refine OwnFin.step (fun tT kK => XS.istore X0.here hx rfl (hb hby d_jdk_52_method_21_1) rfl (l' := #[.val (.ref ar), .val (.int (0 : Int32)), .val (.ref yb), .val (.int (0 : Int32)), .val (.int (1 : Int32)), .val (.int (0 : Int32)), .unset]) rfl kK) ?_
  show OwnFin p e below _ (s₁.setTop (mkF m 3 #[.val (.ref ar), .val (.int (0 : Int32)), .val (.ref yb), .val (.int (0 : Int32)), .val (.int (1 : Int32)), .val (.int (0 : Int32)), .unset] []))
  refine OwnFin.step (fun tT kK => XS.iload X0.here hx rfl (hb hby d_jdk_52_method_21_3) rfl kK) ?_
  show OwnFin p e below _ (s₁.setTop (mkF m 5 #[.val (.ref ar), .val (.int (0 : Int32)), .val (.ref yb), .val (.int (0 : Int32)), .val (.int (1 : Int32)), .val (.int (0 : Int32)), .unset] [(.int (0 : Int32))]))
  refine OwnFin.step (fun tT kK => XS.iload X0.here hx rfl (hb hby d_jdk_52_method_21_5) rfl kK) ?_
  show OwnFin p e below _ (s₁.setTop (mkF m 7 #[.val (.ref ar), .val (.int (0 : Int32)), .val (.ref yb), .val (.int (0 : Int32)), .val (.int (1 : Int32)), .val (.int (0 : Int32)), .unset] [(.int (1 : Int32)), (.int (0 : Int32))]))
  refine OwnFin.step (fun tT kK => XS.icmpNo X0.here hx rfl (hb hby d_jdk_52_method_21_7) rfl (tlt (by decide : (0 : Int32) < (1 : Int32))).2.1 kK) ?_
  show OwnFin p e below _ (s₁.setTop (mkF m 10 #[.val (.ref ar), .val (.int (0 : Int32)), .val (.ref yb), .val (.int (0 : Int32)), .val (.int (1 : Int32)), .val (.int (0 : Int32)), .unset] []))
  refine OwnFin.step (fun tT kK => XS.aloadN X0.here hx rfl (hb hby d_jdk_52_method_21_10) rfl rfl kK) ?_
  show OwnFin p e below _ (s₁.setTop (mkF m 11 #[.val (.ref ar), .val (.int (0 : Int32)), .val (.ref yb), .val (.int (0 : Int32)), .val (.int (1 : Int32)), .val (.int (0 : Int32)), .unset] [(.ref ar)]))
  refine OwnFin.step (fun tT kK => XS.iloadN X0.here hx rfl (hb hby d_jdk_52_method_21_11) rfl kK) ?_
  show OwnFin p e below _ (s₁.setTop (mkF m 12 #[.val (.ref ar), .val (.int (0 : Int32)), .val (.ref yb), .val (.int (0 : Int32)), .val (.int (1 : Int32)), .val (.int (0 : Int32)), .unset] [(.int (0 : Int32)), (.ref ar)]))
  obtain ⟨cl1, Ar1, q1, Sz1, Ng1, H1, G1⟩ := id hp0
  have hin1 : ¬ ((0 : Int32) < 0 ∨ cl1.slots.size ≤ ((0 : Int32)).toNatClampNeg) := inb_of Sz1 ⟨by decide, by decide⟩
  refine OwnFin.step (fun tT kK => X0.caload hx (j := (0 : Int32)) (v := (.int c0)) (by rw [e0]; exact Ar1.1) (State.isArrayOf_alike hZ.alike Ar1.2.1) Ar1.2.2 hin1 (H1.at hin1 rfl) (g := (mkF m 12 #[.val (.ref ar), .val (.int (0 : Int32)), .val (.ref yb), .val (.int (0 : Int32)), .val (.int (1 : Int32)), .val (.int (0 : Int32)), .unset] [(.int (0 : Int32)), (.ref ar)])) rfl rfl (hb hby d_jdk_52_method_21_12) _ kK) ?_
  show OwnFin p e below _ (s₁.setTop (mkF m 13 #[.val (.ref ar), .val (.int (0 : Int32)), .val (.ref yb), .val (.int (0 : Int32)), .val (.int (1 : Int32)), .val (.int (0 : Int32)), .unset] [(.int c0)]))
  refine OwnFin.step (fun tT kK => XS.istore X0.here hx rfl (hb hby d_jdk_52_method_21_13) rfl (l' := #[.val (.ref ar), .val (.int (0 : Int32)), .val (.ref yb), .val (.int (0 : Int32)), .val (.int (1 : Int32)), .val (.int (0 : Int32)), .val (.int c0)]) rfl kK) ?_
  show OwnFin p e below _ (s₁.setTop (mkF m 15 #[.val (.ref ar), .val (.int (0 : Int32)), .val (.ref yb), .val (.int (0 : Int32)), .val (.int (1 : Int32)), .val (.int (0 : Int32)), .val (.int c0)] []))
  refine OwnFin.step (fun tT kK => XS.iload X0.here hx rfl (hb hby d_jdk_52_method_21_15) rfl kK) ?_
  show OwnFin p e below _ (s₁.setTop (mkF m 17 #[.val (.ref ar), .val (.int (0 : Int32)), .val (.ref yb), .val (.int (0 : Int32)), .val (.int (1 : Int32)), .val (.int (0 : Int32)), .val (.int c0)] [(.int c0)]))
  refine OwnFin.step (fun tT kK => XS.sipush X0.here hx rfl (hb hby d_jdk_52_method_21_17) kK) ?_
  show OwnFin p e below _ (s₁.setTop (mkF m 20 #[.val (.ref ar), .val (.int (0 : Int32)), .val (.ref yb), .val (.int (0 : Int32)), .val (.int (1 : Int32)), .val (.int (0 : Int32)), .val (.int c0)] [(.int (255 : Int32)), (.int c0)]))
  refine OwnFin.step (fun tT kK => XS.icmpYes X0.here hx rfl (pc0 := 20) (pc' := 26) rfl (hb hby d_jdk_52_method_21_20) rfl (flt (hp2 : ¬ ((255 : Int32) < c0))).2.2.2 (by decide) (by decide) kK) ?_
  show OwnFin p e below _ (s₁.setTop (mkF m 26 #[.val (.ref ar), .val (.int (0 : Int32)), .val (.ref yb), .val (.int (0 : Int32)), .val (.int (1 : Int32)), .val (.int (0 : Int32)), .val (.int c0)] []))
  refine OwnFin.step (fun tT kK => XS.aloadN X0.here hx rfl (hb hby d_jdk_52_method_21_26) rfl rfl kK) ?_
  show OwnFin p e below _ (s₁.setTop (mkF m 27 #[.val (.ref ar), .val (.int (0 : Int32)), .val (.ref yb), .val (.int (0 : Int32)), .val (.int (1 : Int32)), .val (.int (0 : Int32)), .val (.int c0)] [(.ref yb)]))
  refine OwnFin.step (fun tT kK => XS.iloadN X0.here hx rfl (hb hby d_jdk_52_method_21_27) rfl kK) ?_
  show OwnFin p e below _ (s₁.setTop (mkF m 28 #[.val (.ref ar), .val (.int (0 : Int32)), .val (.ref yb), .val (.int (0 : Int32)), .val (.int (1 : Int32)), .val (.int (0 : Int32)), .val (.int c0)] [(.int (0 : Int32)), (.ref yb)]))
  refine OwnFin.step (fun tT kK => XS.iload X0.here hx rfl (hb hby d_jdk_52_method_21_28) rfl kK) ?_
  show OwnFin p e below _ (s₁.setTop (mkF m 30 #[.val (.ref ar), .val (.int (0 : Int32)), .val (.ref yb), .val (.int (0 : Int32)), .val (.int (1 : Int32)), .val (.int (0 : Int32)), .val (.int c0)] [(.int c0), (.int (0 : Int32)), (.ref yb)]))
  refine OwnFin.step (fun tT kK => XS.i2b X0.here hx rfl (hb hby d_jdk_52_method_21_30) rfl kK) ?_
  show OwnFin p e below _ (s₁.setTop (mkF m 31 #[.val (.ref ar), .val (.int (0 : Int32)), .val (.ref yb), .val (.int (0 : Int32)), .val (.int (1 : Int32)), .val (.int (0 : Int32)), .val (.int c0)] [(.int (c0.toInt8.toInt32)), (.int (0 : Int32)), (.ref yb)]))
  obtain ⟨cl2, Ar2, q2, Sz2, Ng2, H2, G2⟩ := id hp1
  have hin2 : ¬ ((0 : Int32) < 0 ∨ cl2.slots.size ≤ ((0 : Int32)).toNatClampNeg) := inb_of Sz2 ⟨by decide, by decide⟩
  obtain ⟨T3, h3, X3, e3, W3, st3⟩ := stB X0 hx hZ e0 Ar2 (j := (0 : Int32)) hin2 (g := (mkF m 31 #[.val (.ref ar), .val (.int (0 : Int32)), .val (.ref yb), .val (.int (0 : Int32)), .val (.int (1 : Int32)), .val (.int (0 : Int32)), .val (.int c0)] [(.int (c0.toInt8.toInt32)), (.int (0 : Int32)), (.ref yb)])) rfl rfl (hb hby d_jdk_52_method_21_31)
  refine OwnFin.step st3 ?_
  have N3 := Fr.snoc X3 N0 hp3
  have V3 : Arv Z h3 yb kb .byte (1 : Int32) [(.int (nar .byte (c0.toInt8.toInt32)))] (.int (0 : Int32)) := Arv.set Ar2 q2 Sz2 Ng2 H2 G2 (fits_nar_byte _) W3 0 rfl (Nat.le_of_ble_eq_true rfl)
  show OwnFin p e below _ (T3.setTop (mkF m 32 #[.val (.ref ar), .val (.int (0 : Int32)), .val (.ref yb), .val (.int (0 : Int32)), .val (.int (1 : Int32)), .val (.int (0 : Int32)), .val (.int c0)] []))
  refine OwnFin.step (fun tT kK => XS.iinc X3.here hx rfl (hb hby d_jdk_52_method_21_32) rfl (l' := #[.val (.ref ar), .val (.int (1 : Int32)), .val (.ref yb), .val (.int (0 : Int32)), .val (.int (1 : Int32)), .val (.int (0 : Int32)), .val (.int c0)]) rfl kK) ?_
  show OwnFin p e below _ (T3.setTop (mkF m 35 #[.val (.ref ar), .val (.int (1 : Int32)), .val (.ref yb), .val (.int (0 : Int32)), .val (.int (1 : Int32)), .val (.int (0 : Int32)), .val (.int c0)] []))
  refine OwnFin.step (fun tT kK => XS.iinc X3.here hx rfl (hb hby d_jdk_52_method_21_35) rfl (l' := #[.val (.ref ar), .val (.int (1 : Int32)), .val (.ref yb), .val (.int (1 : Int32)), .val (.int (1 : Int32)), .val (.int (0 : Int32)), .val (.int c0)]) rfl kK) ?_
  show OwnFin p e below _ (T3.setTop (mkF m 38 #[.val (.ref ar), .val (.int (1 : Int32)), .val (.ref yb), .val (.int (1 : Int32)), .val (.int (1 : Int32)), .val (.int (0 : Int32)), .val (.int c0)] []))
  refine OwnFin.step (fun tT kK => XS.iinc X3.here hx rfl (hb hby d_jdk_52_method_21_38) rfl (l' := #[.val (.ref ar), .val (.int (1 : Int32)), .val (.ref yb), .val (.int (1 : Int32)), .val (.int (1 : Int32)), .val (.int (1 : Int32)), .val (.int c0)]) rfl kK) ?_
  show OwnFin p e below _ (T3.setTop (mkF m 41 #[.val (.ref ar), .val (.int (1 : Int32)), .val (.ref yb), .val (.int (1 : Int32)), .val (.int (1 : Int32)), .val (.int (1 : Int32)), .val (.int c0)] []))
  refine OwnFin.step (fun tT kK => XS.goto X3.here hx rfl (pc0 := 41) (pc' := 3) rfl (hb hby d_jdk_52_method_21_41) (by decide) (by decide) kK) ?_
  show OwnFin p e below _ (T3.setTop (mkF m 3 #[.val (.ref ar), .val (.int (1 : Int32)), .val (.ref yb), .val (.int (1 : Int32)), .val (.int (1 : Int32)), .val (.int (1 : Int32)), .val (.int c0)] []))
  refine OwnFin.step (fun tT kK => XS.iload X3.here hx rfl (hb hby d_jdk_52_method_21_3) rfl kK) ?_
  show OwnFin p e below _ (T3.setTop (mkF m 5 #[.val (.ref ar), .val (.int (1 : Int32)), .val (.ref yb), .val (.int (1 : Int32)), .val (.int (1 : Int32)), .val (.int (1 : Int32)), .val (.int c0)] [(.int (1 : Int32))]))
  refine OwnFin.step (fun tT kK => XS.iload X3.here hx rfl (hb hby d_jdk_52_method_21_5) rfl kK) ?_
  show OwnFin p e below _ (T3.setTop (mkF m 7 #[.val (.ref ar), .val (.int (1 : Int32)), .val (.ref yb), .val (.int (1 : Int32)), .val (.int (1 : Int32)), .val (.int (1 : Int32)), .val (.int c0)] [(.int (1 : Int32)), (.int (1 : Int32))]))
  refine OwnFin.step (fun tT kK => XS.icmpYes X3.here hx rfl (pc0 := 7) (pc' := 44) rfl (hb hby d_jdk_52_method_21_7) rfl (flt (by decide : ¬ ((1 : Int32) < (1 : Int32)))).2.1 (by decide) (by decide) kK) ?_
  show OwnFin p e below _ (T3.setTop (mkF m 44 #[.val (.ref ar), .val (.int (1 : Int32)), .val (.ref yb), .val (.int (1 : Int32)), .val (.int (1 : Int32)), .val (.int (1 : Int32)), .val (.int c0)] []))
  refine OwnFin.step (fun tT kK => XS.iload X3.here hx rfl (hb hby d_jdk_52_method_21_44) rfl kK) ?_
  show OwnFin p e below _ (T3.setTop (mkF m 46 #[.val (.ref ar), .val (.int (1 : Int32)), .val (.ref yb), .val (.int (1 : Int32)), .val (.int (1 : Int32)), .val (.int (1 : Int32)), .val (.int c0)] [(.int (1 : Int32))]))
  obtain ⟨fs4, hr4, hrun4, hended4, hW4, hsame4⟩ := X3.leave (v := (some (.int (1 : Int32)))) (fun h => by rw [Bd.returns] at h; cases h)
  refine ⟨_, _, retOut X3 hx Bd.returns rfl (Or.inl ⟨rfl, Or.inl rfl, _, rfl⟩) (hb hby d_jdk_52_method_21_46) hr4, hrun4, hended4, _, _, rfl, ?_, ⟨_, rfl⟩, hW4, hsame4.mono (by decide) (by decide)⟩
  show Q2a Z ar yb k kb c0 h0 n0 _ T3.heap _
  rw [e3]
  exact ⟨rfl, N3, ((Keep.refl h0 [yb]).wr W3 (Or.inl (List.mem_of_getElem? (i := 0) rfl))), V3⟩
theorem d_jdk_52_method_16_0 : decode jdk_52_method_16_code 0 = .ok (.iload_n 2, 1) := by decide +kernel
theorem d_jdk_52_method_16_1 : decode jdk_52_method_16_code 1 = .ok (.newarray .byte, 2) := by decide +kernel
theorem d_jdk_52_method_16_3 : decode jdk_52_method_16_code 3 = .ok (.astore_n 3, 1) := by decide +kernel
theorem d_jdk_52_method_16_4 : decode jdk_52_method_16_code 4 = .ok (.aload_n 0, 1) := by decide +kernel
theorem d_jdk_52_method_16_5 : decode jdk_52_method_16_code 5 = .ok (.iload_n 1, 1) := by decide +kernel
theorem d_jdk_52_method_16_6 : decode jdk_52_method_16_code 6 = .ok (.aload_n 3, 1) := by decide +kernel
theorem d_jdk_52_method_16_7 : decode jdk_52_method_16_code 7 = .ok (.iconst 0, 1) := by decide +kernel
theorem d_jdk_52_method_16_8 : decode jdk_52_method_16_code 8 = .ok (.iload_n 2, 1) := by decide +kernel
theorem d_jdk_52_method_16_9 : decode jdk_52_method_16_code 9 = .ok (.invokestatic 115, 3) := by decide +kernel
theorem pd_37 : parseMethodDescriptor "([CI[BII)I" = some ⟨[(.array .char), .int, (.array .byte), .int, .int], some .int⟩ := by decide +kernel
theorem d_jdk_52_method_16_12 : decode jdk_52_method_16_code 12 = .ok (.istore 4, 2) := by decide +kernel
theorem d_jdk_52_method_16_14 : decode jdk_52_method_16_code 14 = .ok (.iload 4, 2) := by decide +kernel
theorem d_jdk_52_method_16_16 : decode jdk_52_method_16_code 16 = .ok (.iload_n 2, 1) := by decide +kernel
theorem d_jdk_52_method_16_17 : decode jdk_52_method_16_code 17 = .ok (.if_icmp .eq 40, 3) := by decide +kernel
theorem d_jdk_52_method_16_57 : decode jdk_52_method_16_code 57 = .ok (.aload_n 3, 1) := by decide +kernel
theorem d_jdk_52_method_16_58 : decode jdk_52_method_16_code 58 = .ok (.areturn, 1) := by decide +kernel
theorem ef_2b (m : MethodId) (ar : Addr) : entryFrame m #[(.ref ar), (.int (0 : Int32)), (.int (1 : Int32))] 6 = mkF m 0 #[.val (.ref ar), .val (.int (0 : Int32)), .val (.int (1 : Int32)), .unset, .unset, .unset] [] := by first | (simp [entryFrame, mkF, argsToLocals, Value.category]; done) | rfl
def Q2b (Z : State) (ar : Addr) (k : ClassId) (c0 : Int32) (h0 : Heap) (n0 : Nat) (vV : Option Value) (hH : Heap) (LL : List Loc) : Prop := ∃ b : Addr, ∃ kb : ClassId, vV = some (.ref b) ∧ Fr n0 LL ∧ Keep h0 hH [] ∧ h0.size ≤ b ∧ (Arv Z hH b kb .byte (1 : Int32) [(.int (nar .byte (c0.toInt8.toInt32)))] (.int (0 : Int32)))
def R2b (Z : State) (ar : Addr) (k : ClassId) (c0 : Int32) (h0 : Heap) (n0 : Nat) (U : State) (o : Outcome) (U' : State) : Prop := ∃ vV LL, o = .returned vV ∧ Q2b Z ar k c0 h0 n0 vV U'.heap LL ∧ FrameEnd U o U' LL ({ frames := 1, cells := 1, slots := 1, locals := 18 } : Room).cells ({ frames := 1, cells := 1, slots := 1, locals := 18 } : Room).slots
set_option maxRecDepth 65536 in
set_option maxHeartbeats 40000000 in
theorem rm2b (l : Launch) (Z : State) (a0 : Array Value) (hw : ∀ d ∈ tables_1, d.before a0 Z = true) (ws : List Jvm.Cond) (ar : Addr) (k : ClassId) (c0 : Int32) (h0 : Heap) (n0 : Nat) (Z0 : n0 ≤ h0.size) (hp0 : Arv Z h0 ar k .char (1 : Int32) [(.int c0)] (.int (0 : Int32))) (hp1 : ¬ (255 : Int32) < c0) :
    MetFree l (⟨"java/lang/StringUTF16", "compress", "([CII)[B"⟩ : MethodName) (head1 (Jvm.Cond.code (⟨"java/lang/StringUTF16", "compress", "([CII)[B"⟩ : MethodName) jdk_52_method_16_code 6 (some (.array .byte)) :: ws) ({ frames := 1, cells := 1, slots := 1, locals := 18 } : Room)) (fun aA U => aA = #[(.ref ar), (.int (0 : Int32)), (.int (1 : Int32))] ∧ Z.Warmed39 U.vm ∧ U.heap = h0) (fun _ _ _ _ _ => True) (fun _ U o U' => ∃ vV LL, o = .returned vV ∧ Q2b Z ar k c0 h0 n0 vV U'.heap LL ∧ FrameEnd U o U' LL ({ frames := 1, cells := 1, slots := 1, locals := 18 } : Room).cells ({ frames := 1, cells := 1, slots := 1, locals := 18 } : Room).slots) := by
  refine MetFree.of_bodySF (plainFor_of_name pn_4) hisR ?_
  intro p e s m args below meth cC s₁ Bd hml0 hP hK
  obtain ⟨rfl, hZ, hh⟩ := hP
  have hx := Bd.exec
  have hby := Bd.bytes
  have hml : cC.maxLocals = 6 := hml0
  have hown : s.vm.findClass "java/lang/StringUTF16" = some m.cls := findClass_of_methodNamed Bd.named
  have hnm := (name_of_methodNamed Bd.named Bd.method).1
  have X0 : Stand p l e ({ frames := 1, cells := 1, slots := 1, locals := 18 } : Room) s m #[(.ref ar), (.int (0 : Int32)), (.int (1 : Int32))] below meth cC s₁ [] 0 0 := Stand.of_body Bd
  have e0 : s₁.heap = h0 := by rw [← hh, Bd.state]; rfl
  have N0 := Fr.nil n0
  show OwnFin p e below (R2b Z ar k c0 h0 n0 s) (s₁.setTop (entryFrame m #[(.ref ar), (.int (0 : Int32)), (.int (1 : Int32))] 6))
  rw [ef_2b m ar]
  refine OwnFin.step (fun tT kK => XS.iloadN X0.here hx rfl (hb hby d_jdk_52_method_16_0) rfl kK) ?_
  show OwnFin p e below _ (s₁.setTop (mkF m 1 #[.val (.ref ar), .val (.int (0 : Int32)), .val (.int (1 : Int32)), .unset, .unset, .unset] [(.int (1 : Int32))]))
  obtain ⟨T1, h1, k1, X1, e1, E1, A1, st1⟩ := newP X0 hx hZ (hw _ (List.mem_of_getElem? (i := 24) rfl)) e0 (g := (mkF m 1 #[.val (.ref ar), .val (.int (0 : Int32)), .val (.int (1 : Int32)), .unset, .unset, .unset] [(.int (1 : Int32))])) rfl (hb hby d_jdk_52_method_16_1) rfl (by decide) (cap := 1) (by decide) (by decide) (by decide) (by decide)
  obtain ⟨b1, g1⟩ : ∃ z, z = h0.size := ⟨_, rfl⟩
  rw [← g1] at A1 st1
  refine OwnFin.step st1 ?_
  have V1 : Arv Z h1 b1 k1 .byte (1 : Int32) [(.int (0 : Int32))] (.int (0 : Int32)) := (Arv.new A1 (by decide)).pad (pad_rep [] (.int (0 : Int32)) 1)
  show OwnFin p e below _ (T1.setTop (mkF m 3 #[.val (.ref ar), .val (.int (0 : Int32)), .val (.int (1 : Int32)), .unset, .unset, .unset] [(.ref b1)]))
  refine OwnFin.step (fun tT kK => XS.astoreN X1.here hx rfl (hb hby d_jdk_52_method_16_3) rfl rfl (l' := #[.val (.ref ar), .val (.int (0 : Int32)), .val (.int (1 : Int32)), .val (.ref b1), .unset, .unset]) rfl kK) ?_
  show OwnFin p e below _ (T1.setTop (mkF m 4 #[.val (.ref ar), .val (.int (0 : Int32)), .val (.int (1 : Int32)), .val (.ref b1), .unset, .unset] []))
  refine OwnFin.step (fun tT kK => XS.aloadN X1.here hx rfl (hb hby d_jdk_52_method_16_4) rfl rfl kK) ?_
  show OwnFin p e below _ (T1.setTop (mkF m 5 #[.val (.ref ar), .val (.int (0 : Int32)), .val (.int (1 : Int32)), .val (.ref b1), .unset, .unset] [(.ref ar)]))
  refine OwnFin.step (fun tT kK => XS.iloadN X1.here hx rfl (hb hby d_jdk_52_method_16_5) rfl kK) ?_
  show OwnFin p e below _ (T1.setTop (mkF m 6 #[.val (.ref ar), .val (.int (0 : Int32)), .val (.int (1 : Int32)), .val (.ref b1), .unset, .unset] [(.int (0 : Int32)), (.ref ar)]))
  refine OwnFin.step (fun tT kK => XS.aloadN X1.here hx rfl (hb hby d_jdk_52_method_16_6) rfl rfl kK) ?_
  show OwnFin p e below _ (T1.setTop (mkF m 7 #[.val (.ref ar), .val (.int (0 : Int32)), .val (.int (1 : Int32)), .val (.ref b1), .unset, .unset] [(.ref b1), (.int (0 : Int32)), (.ref ar)]))
  refine OwnFin.step (fun tT kK => XS.iconst X1.here hx rfl (hb hby d_jdk_52_method_16_7) kK) ?_
  show OwnFin p e below _ (T1.setTop (mkF m 8 #[.val (.ref ar), .val (.int (0 : Int32)), .val (.int (1 : Int32)), .val (.ref b1), .unset, .unset] [(.int (0 : Int32)), (.ref b1), (.int (0 : Int32)), (.ref ar)]))
  refine OwnFin.step (fun tT kK => XS.iloadN X1.here hx rfl (hb hby d_jdk_52_method_16_8) rfl kK) ?_
  show OwnFin p e below _ (T1.setTop (mkF m 9 #[.val (.ref ar), .val (.int (0 : Int32)), .val (.int (1 : Int32)), .val (.ref b1), .unset, .unset] [(.int (1 : Int32)), (.int (0 : Int32)), (.ref b1), (.int (0 : Int32)), (.ref ar)]))
  have f2 : Arv Z h1 ar k .char (1 : Int32) [(.int c0)] (.int (0 : Int32)) := (hp0.ext E1)
  obtain ⟨_, _, ⟨T3, L3, k3, n3⟩, -, X3, ⟨Lc3, hQ3, l3, y3, z3⟩, st3⟩ := Jvm.LawKit.callS X1 hx (y := (⟨"java/lang/StringUTF16", "compress", "([CI[BII)I"⟩ : MethodName)) hown (mvT hZ (hw _ (List.mem_of_getElem? (i := 25) rfl))) (mvT hZ (hw _ (List.mem_of_getElem? (i := 26) rfl))) (mvT hZ (hw _ (List.mem_of_getElem? (i := 22) rfl))) (mvT hZ (hw _ (List.mem_of_getElem? (i := 27) rfl))) (by decide) (backOf (W := 0) (rm2a l Z a0 hw [] ar b1 k k1 c0 h1 n0 (Nat.le_trans Z0 E1.1) f2 V1 (hp1) (Nat.le_trans Z0 (Nat.le_of_eq g1.symm)) (Nat.ne_of_lt (Nat.lt_of_lt_of_le (Nat.lt_of_lt_of_le hp0.lt (Nat.le_refl _)) (Nat.le_of_eq g1.symm)))) hZ (hw _ (List.mem_of_getElem? (i := 27) rfl)) (hw _ (List.mem_of_getElem? (i := 22) rfl)) (by decide) (by decide)) (g := (mkF m 9 #[.val (.ref ar), .val (.int (0 : Int32)), .val (.int (1 : Int32)), .val (.ref b1), .unset, .unset] [(.int (1 : Int32)), (.int (0 : Int32)), (.ref b1), (.int (0 : Int32)), (.ref ar)])) rfl (by rw [hml]; rfl) (argsL := [(.ref ar), (.int (0 : Int32)), (.ref b1), (.int (0 : Int32)), (.int (1 : Int32))]) (rest := []) (lenOf pd_37 rfl) rfl (by show 2 * 0 + _ ≤ _; exact Nat.le_of_eq rfl) (hb hby d_jdk_52_method_16_9) (fun _ _ => ⟨rfl, e1, (by decide : 1 + 0 ≤ _), (by decide : 1 + 0 ≤ _)⟩)
  dsimp only [Pt.U, Pt.locs, Pt.cells, Pt.slots] at X3 l3 y3 z3 st3 hQ3
  subst l3 y3 z3
  obtain ⟨rfl, N3q, K3, P3_0⟩ := hQ3
  have N3 := Fr.app N0 N3q
  refine OwnFin.step st3 ?_
  show OwnFin p e below _ (T3.setTop (mkF m 12 #[.val (.ref ar), .val (.int (0 : Int32)), .val (.int (1 : Int32)), .val (.ref b1), .unset, .unset] [(.int (1 : Int32))]))
  refine OwnFin.step (fun tT kK => XS.istore X3.here hx rfl (hb hby d_jdk_52_method_16_12) rfl (l' := #[.val (.ref ar), .val (.int (0 : Int32)), .val (.int (1 : Int32)), .val (.ref b1), .val (.int (1 : Int32)), .unset]) rfl kK) ?_
  show OwnFin p e below _ (T3.setTop (mkF m 14 #[.val (.ref ar), .val (.int (0 : Int32)), .val (.int (1 : Int32)), .val (.ref b1), .val (.int (1 : Int32)), .unset] []))
  refine OwnFin.step (fun tT kK => XS.iload X3.here hx rfl (hb hby d_jdk_52_method_16_14) rfl kK) ?_
  show OwnFin p e below _ (T3.setTop (mkF m 16 #[.val (.ref ar), .val (.int (0 : Int32)), .val (.int (1 : Int32)), .val (.ref b1), .val (.int (1 : Int32)), .unset] [(.int (1 : Int32))]))
  refine OwnFin.step (fun tT kK => XS.iloadN X3.here hx rfl (hb hby d_jdk_52_method_16_16) rfl kK) ?_
  show OwnFin p e below _ (T3.setTop (mkF m 17 #[.val (.ref ar), .val (.int (0 : Int32)), .val (.int (1 : Int32)), .val (.ref b1), .val (.int (1 : Int32)), .unset] [(.int (1 : Int32)), (.int (1 : Int32))]))
  refine OwnFin.step (fun tT kK => XS.icmpYes X3.here hx rfl (pc0 := 17) (pc' := 57) rfl (hb hby d_jdk_52_method_16_17) rfl (teq (rfl : (1 : Int32) = (1 : Int32))).1 (by decide) (by decide) kK) ?_
  show OwnFin p e below _ (T3.setTop (mkF m 57 #[.val (.ref ar), .val (.int (0 : Int32)), .val (.int (1 : Int32)), .val (.ref b1), .val (.int (1 : Int32)), .unset] []))
  refine OwnFin.step (fun tT kK => XS.aloadN X3.here hx rfl (hb hby d_jdk_52_method_16_57) rfl rfl kK) ?_
  show OwnFin p e below _ (T3.setTop (mkF m 58 #[.val (.ref ar), .val (.int (0 : Int32)), .val (.int (1 : Int32)), .val (.ref b1), .val (.int (1 : Int32)), .unset] [(.ref b1)]))
  obtain ⟨fs4, hr4, hrun4, hended4, hW4, hsame4⟩ := X3.leave (v := (some (.ref b1))) (fun h => by rw [Bd.returns] at h; cases h)
  refine ⟨_, _, retOut X3 hx Bd.returns rfl (Or.inr (Or.inr (Or.inr (Or.inr ⟨rfl, rfl, rfl⟩)))) (hb hby d_jdk_52_method_16_58) hr4, hrun4, hended4, _, _, rfl, ?_, ⟨_, rfl⟩, hW4, hsame4.mono (by decide) (by decide)⟩
  show Q2b Z ar k c0 h0 n0 _ T3.heap _
  exact ⟨b1, k1, rfl, N3, (((Keep.refl h0 []).ext E1).trans K3 (allS (P := fun x => x ∈ [] ∨ h0.size ≤ x) (Or.inr (Nat.le_trans (Nat.le_refl _) (Nat.le_of_eq g1.symm))) all0)), (Nat.le_trans (Nat.le_refl _) (Nat.le_of_eq g1.symm)), P3_0⟩
theorem d_jdk_52_method_15_0 : decode jdk_52_method_15_code 0 = .ok (.iload_n 1, 1) := by decide +kernel
theorem d_jdk_52_method_15_1 : decode jdk_52_method_15_code 1 = .ok (.aload_n 0, 1) := by decide +kernel
theorem d_jdk_52_method_15_2 : decode jdk_52_method_15_code 2 = .ok (.arraylength, 1) := by decide +kernel
theorem d_jdk_52_method_15_3 : decode jdk_52_method_15_code 3 = .ok (.isub, 1) := by decide +kernel
theorem d_jdk_52_method_15_4 : decode jdk_52_method_15_code 4 = .ok (.bipush 31, 2) := by decide +kernel
theorem d_jdk_52_method_15_6 : decode jdk_52_method_15_code 6 = .ok (.iushr, 1) := by decide +kernel
theorem d_jdk_52_method_15_7 : decode jdk_52_method_15_code 7 = .ok (.i2b, 1) := by decide +kernel
theorem d_jdk_52_method_15_8 : decode jdk_52_method_15_code 8 = .ok (.ireturn, 1) := by decide +kernel
theorem ef_2c (m : MethodId) (b : Addr) : entryFrame m #[(.ref b), (.int (1 : Int32))] 2 = mkF m 0 #[.val (.ref b), .val (.int (1 : Int32))] [] := by first | (simp [entryFrame, mkF, argsToLocals, Value.category]; done) | rfl
def Q2c (Z : State) (b : Addr) (kb : ClassId) (c0 : Int32) (h0 : Heap) (n0 : Nat) (vV : Option Value) (hH : Heap) (LL : List Loc) : Prop := vV = some (.int (0 : Int32)) ∧ Fr n0 LL ∧ hH = h0
def R2c (Z : State) (b : Addr) (kb : ClassId) (c0 : Int32) (h0 : Heap) (n0 : Nat) (U : State) (o : Outcome) (U' : State) : Prop := ∃ vV LL, o = .returned vV ∧ Q2c Z b kb c0 h0 n0 vV U'.heap LL ∧ FrameEnd U o U' LL ({ frames := 0, cells := 0, slots := 0, locals := 0 } : Room).cells ({ frames := 0, cells := 0, slots := 0, locals := 0 } : Room).slots
set_option maxRecDepth 65536 in
set_option maxHeartbeats 40000000 in
theorem rm2c (l : Launch) (Z : State) (a0 : Array Value) (hw : ∀ d ∈ tables_1, d.before a0 Z = true) (ws : List Jvm.Cond) (b : Addr) (kb : ClassId) (c0 : Int32) (h0 : Heap) (n0 : Nat) (Z0 : n0 ≤ h0.size) (hp0 : Arv Z h0 b kb .byte (1 : Int32) [(.int (nar .byte (c0.toInt8.toInt32)))] (.int (0 : Int32))) :
    MetFree l (⟨"java/lang/StringUTF16", "coderFromArrayLen", "([BI)B"⟩ : MethodName) (head1 (Jvm.Cond.code (⟨"java/lang/StringUTF16", "coderFromArrayLen", "([BI)B"⟩ : MethodName) jdk_52_method_15_code 2 (some .byte) :: ws) ({ frames := 0, cells := 0, slots := 0, locals := 0 } : Room)) (fun aA U => aA = #[(.ref b), (.int (1 : Int32))] ∧ Z.Warmed39 U.vm ∧ U.heap = h0) (fun _ _ _ _ _ => True) (fun _ U o U' => ∃ vV LL, o = .returned vV ∧ Q2c Z b kb c0 h0 n0 vV U'.heap LL ∧ FrameEnd U o U' LL ({ frames := 0, cells := 0, slots := 0, locals := 0 } : Room).cells ({ frames := 0, cells := 0, slots := 0, locals := 0 } : Room).slots) := by
  refine MetFree.of_bodySF (plainFor_of_name pn_4) hisR ?_
  intro p e s m args below meth cC s₁ Bd hml0 hP hK
  obtain ⟨rfl, hZ, hh⟩ := hP
  have hx := Bd.exec
  have hby := Bd.bytes
  have hml : cC.maxLocals = 2 := hml0
  have hown : s.vm.findClass "java/lang/StringUTF16" = some m.cls := findClass_of_methodNamed Bd.named
  have hnm := (name_of_methodNamed Bd.named Bd.method).1
  have X0 : Stand p l e ({ frames := 0, cells := 0, slots := 0, locals := 0 } : Room) s m #[(.ref b), (.int (1 : Int32))] below meth cC s₁ [] 0 0 := Stand.of_body Bd
  have e0 : s₁.heap = h0 := by rw [← hh, Bd.state]; rfl
  have N0 := Fr.nil n0
  show OwnFin p e below (R2c Z b kb c0 h0 n0 s) (s₁.setTop (entryFrame m #[(.ref b), (.int (1 : Int32))] 2))
  rw [ef_2c m b]
  refine OwnFin.step (fun tT kK => XS.iloadN X0.here hx rfl (hb hby d_jdk_52_method_15_0) rfl kK) ?_
  show OwnFin p e below _ (s₁.setTop (mkF m 1 #[.val (.ref b), .val (.int (1 : Int32))] [(.int (1 : Int32))]))
  refine OwnFin.step (fun tT kK => XS.aloadN X0.here hx rfl (hb hby d_jdk_52_method_15_1) rfl rfl kK) ?_
  show OwnFin p e below _ (s₁.setTop (mkF m 2 #[.val (.ref b), .val (.int (1 : Int32))] [(.ref b), (.int (1 : Int32))]))
  obtain ⟨cl1, Ar1, -, Sz1, Ng1, -, -⟩ := id hp0
  refine OwnFin.step (fun tT kK => own_len X0 hx hZ e0 Ar1 Sz1 Ng1 (g := (mkF m 2 #[.val (.ref b), .val (.int (1 : Int32))] [(.ref b), (.int (1 : Int32))])) rfl rfl (hb hby d_jdk_52_method_15_2) kK) ?_
  show OwnFin p e below _ (s₁.setTop (mkF m 3 #[.val (.ref b), .val (.int (1 : Int32))] [(.int (1 : Int32)), (.int (1 : Int32))]))
  refine OwnFin.step (fun tT kK => XS.isub X0.here hx rfl (hb hby d_jdk_52_method_15_3) rfl kK) ?_
  show OwnFin p e below _ (s₁.setTop (mkF m 4 #[.val (.ref b), .val (.int (1 : Int32))] [(.int (0 : Int32))]))
  refine OwnFin.step (fun tT kK => XS.bipush X0.here hx rfl (hb hby d_jdk_52_method_15_4) kK) ?_
  show OwnFin p e below _ (s₁.setTop (mkF m 6 #[.val (.ref b), .val (.int (1 : Int32))] [(.int (31 : Int32)), (.int (0 : Int32))]))
  refine OwnFin.step (fun tT kK => XS.iushr X0.here hx rfl (hb hby d_jdk_52_method_15_6) rfl kK) ?_
  show OwnFin p e below _ (s₁.setTop (mkF m 7 #[.val (.ref b), .val (.int (1 : Int32))] [(.int (0 : Int32))]))
  refine OwnFin.step (fun tT kK => XS.i2b X0.here hx rfl (hb hby d_jdk_52_method_15_7) rfl kK) ?_
  show OwnFin p e below _ (s₁.setTop (mkF m 8 #[.val (.ref b), .val (.int (1 : Int32))] [(.int (0 : Int32))]))
  obtain ⟨fs2, hr2, hrun2, hended2, hW2, hsame2⟩ := X0.leave (v := (some (.int (0 : Int32)))) (fun h => by rw [Bd.returns] at h; cases h)
  refine ⟨_, _, retN X0 hx (t := .byte) Bd.returns (by simp) (hb hby d_jdk_52_method_15_8) hr2, hrun2, hended2, _, _, rfl, ?_, ⟨_, rfl⟩, hW2, hsame2.mono (by decide) (by decide)⟩
  show Q2c Z b kb c0 h0 n0 _ s₁.heap _
  rw [e0]
  exact ⟨rfl, N0, rfl⟩
theorem pn_52 : plainName "java/lang/String" = true := by first | (simp [plainName, overriddenIn]; done) | decide +kernel
theorem d_jdk_42_method_149_0 : decode jdk_42_method_149_code 0 = .ok (.aload_n 0, 1) := by decide +kernel
theorem d_jdk_42_method_149_1 : decode jdk_42_method_149_code 1 = .ok (.invokespecial 1, 3) := by decide +kernel
theorem d_jdk_42_method_149_4 : decode jdk_42_method_149_code 4 = .ok (.iload_n 3, 1) := by decide +kernel
theorem d_jdk_42_method_149_5 : decode jdk_42_method_149_code 5 = .ok (.ifCond .ne 22, 3) := by decide +kernel
theorem d_jdk_42_method_149_27 : decode jdk_42_method_149_code 27 = .ok (.getstatic 38, 3) := by decide +kernel
theorem d_jdk_42_method_149_30 : decode jdk_42_method_149_code 30 = .ok (.ifCond .eq 28, 3) := by decide +kernel
theorem d_jdk_42_method_149_33 : decode jdk_42_method_149_code 33 = .ok (.aload_n 1, 1) := by decide +kernel
theorem d_jdk_42_method_149_34 : decode jdk_42_method_149_code 34 = .ok (.iload_n 2, 1) := by decide +kernel
theorem d_jdk_42_method_149_35 : decode jdk_42_method_149_code 35 = .ok (.iload_n 3, 1) := by decide +kernel
theorem d_jdk_42_method_149_36 : decode jdk_42_method_149_code 36 = .ok (.invokestatic 177, 3) := by decide +kernel
theorem pd_63 : parseMethodDescriptor "([CII)[B" = some ⟨[(.array .char), .int, .int], some (.array .byte)⟩ := by decide +kernel
theorem d_jdk_42_method_149_39 : decode jdk_42_method_149_code 39 = .ok (.astore 5, 2) := by decide +kernel
theorem d_jdk_42_method_149_41 : decode jdk_42_method_149_code 41 = .ok (.aload_n 0, 1) := by decide +kernel
theorem d_jdk_42_method_149_42 : decode jdk_42_method_149_code 42 = .ok (.aload 5, 2) := by decide +kernel
theorem d_jdk_42_method_149_44 : decode jdk_42_method_149_code 44 = .ok (.iload_n 3, 1) := by decide +kernel
theorem d_jdk_42_method_149_45 : decode jdk_42_method_149_code 45 = .ok (.invokestatic 47, 3) := by decide +kernel
theorem pd_69 : parseMethodDescriptor "([BI)B" = some ⟨[(.array .byte), .int], some .byte⟩ := by decide +kernel
theorem d_jdk_42_method_149_48 : decode jdk_42_method_149_code 48 = .ok (.putfield 15, 3) := by decide +kernel
theorem d_jdk_42_method_149_51 : decode jdk_42_method_149_code 51 = .ok (.aload_n 0, 1) := by decide +kernel
theorem d_jdk_42_method_149_52 : decode jdk_42_method_149_code 52 = .ok (.aload 5, 2) := by decide +kernel
theorem d_jdk_42_method_149_54 : decode jdk_42_method_149_code 54 = .ok (.putfield 9, 3) := by decide +kernel
theorem d_jdk_42_method_149_57 : decode jdk_42_method_149_code 57 = .ok (.return_, 1) := by decide +kernel
theorem ef_2d (m : MethodId) (a : Addr) (ar : Addr) : entryFrame m #[(.ref a), (.ref ar), (.int (0 : Int32)), (.int (1 : Int32)), .null] 6 = mkF m 0 #[.val (.ref a), .val (.ref ar), .val (.int (0 : Int32)), .val (.int (1 : Int32)), .val .null, .unset] [] := by first | (simp [entryFrame, mkF, argsToLocals, Value.category]; done) | rfl
def Q2d (Z : State) (a : Addr) (ar : Addr) (k : ClassId) (cs : Int32) (c0 : Int32) (h0 : Heap) (n0 : Nat) (vV : Option Value) (hH : Heap) (LL : List Loc) : Prop := ∃ b : Addr, ∃ kb : ClassId, vV = none ∧ Fr n0 LL ∧ Keep h0 hH [a] ∧ h0.size ≤ b ∧ (Exa Z hH a "java/lang/String") ∧ (Fld Z hH a "java/lang/String" "value" "[B" (.ref b)) ∧ (Fld Z hH a "java/lang/String" "coder" "B" (.int (0 : Int32))) ∧ (Arv Z hH b kb .byte (1 : Int32) [(.int (nar .byte (c0.toInt8.toInt32)))] (.int (0 : Int32)))
def R2d (Z : State) (a : Addr) (ar : Addr) (k : ClassId) (cs : Int32) (c0 : Int32) (h0 : Heap) (n0 : Nat) (U : State) (o : Outcome) (U' : State) : Prop := ∃ vV LL, o = .returned vV ∧ Q2d Z a ar k cs c0 h0 n0 vV U'.heap LL ∧ FrameEnd U o U' LL ({ frames := 2, cells := 1, slots := 1, locals := 35 } : Room).cells ({ frames := 2, cells := 1, slots := 1, locals := 35 } : Room).slots
set_option maxRecDepth 65536 in
set_option maxHeartbeats 40000000 in
theorem rm2d (l : Launch) (Z : State) (a0 : Array Value) (hw : ∀ d ∈ tables_1, d.before a0 Z = true) (ws : List Jvm.Cond) (a : Addr) (ar : Addr) (k : ClassId) (cs : Int32) (c0 : Int32) (h0 : Heap) (n0 : Nat) (Z0 : n0 ≤ h0.size) (hp0 : Exa Z h0 a "java/lang/String") (hp1 : Fld Z h0 a "java/lang/String" "value" "[B" .null) (hp2 : Fld Z h0 a "java/lang/String" "coder" "B" (.int (0 : Int32))) (hp3 : n0 ≤ a) (hp4 : Arv Z h0 ar k .char (1 : Int32) [(.int c0)] (.int (0 : Int32))) (hp5 : Sta Z h0 "java/lang/String" "COMPACT_STRINGS" "Z" (.int cs)) (hp6 : ¬ cs = (0 : Int32)) (hp7 : ¬ (255 : Int32) < c0) :
    MetFree l (⟨"java/lang/String", "<init>", "([CIILjava/lang/Void;)V"⟩ : MethodName) (head1 (Jvm.Cond.code (⟨"java/lang/String", "<init>", "([CIILjava/lang/Void;)V"⟩ : MethodName) jdk_42_method_149_code 6 none :: ws) ({ frames := 2, cells := 1, slots := 1, locals := 35 } : Room)) (fun aA U => aA = #[(.ref a), (.ref ar), (.int (0 : Int32)), (.int (1 : Int32)), .null] ∧ Z.Warmed39 U.vm ∧ U.heap = h0) (fun _ _ _ _ _ => True) (fun _ U o U' => ∃ vV LL, o = .returned vV ∧ Q2d Z a ar k cs c0 h0 n0 vV U'.heap LL ∧ FrameEnd U o U' LL ({ frames := 2, cells := 1, slots := 1, locals := 35 } : Room).cells ({ frames := 2, cells := 1, slots := 1, locals := 35 } : Room).slots) := by
  refine MetFree.of_bodySF (plainFor_of_name pn_52) hisR ?_
  intro p e s m args below meth cC s₁ Bd hml0 hP hK
  obtain ⟨rfl, hZ, hh⟩ := hP
  have hx := Bd.exec
  have hby := Bd.bytes
  have hml : cC.maxLocals = 6 := hml0
  have hown : s.vm.findClass "java/lang/String" = some m.cls := findClass_of_methodNamed Bd.named
  have hnm := (name_of_methodNamed Bd.named Bd.method).1
  have X0 : Stand p l e ({ frames := 2, cells := 1, slots := 1, locals := 35 } : Room) s m #[(.ref a), (.ref ar), (.int (0 : Int32)), (.int (1 : Int32)), .null] below meth cC s₁ [] 0 0 := Stand.of_body Bd
  have e0 : s₁.heap = h0 := by rw [← hh, Bd.state]; rfl
  have N0 := Fr.nil n0
  show OwnFin p e below (R2d Z a ar k cs c0 h0 n0 s) (s₁.setTop (entryFrame m #[(.ref a), (.ref ar), (.int (0 : Int32)), (.int (1 : Int32)), .null] 6))
  rw [ef_2d m a ar]
  refine OwnFin.step (fun tT kK => XS.aloadN X0.here hx rfl (hb hby d_jdk_42_method_149_0) rfl rfl kK) ?_
  show OwnFin p e below _ (s₁.setTop (mkF m 1 #[.val (.ref a), .val (.ref ar), .val (.int (0 : Int32)), .val (.int (1 : Int32)), .val .null, .unset] [(.ref a)]))
  obtain ⟨T1, X1, e1, st1⟩ := initO X0 hx hZ hown (hw _ (List.mem_of_getElem? (i := 16) rfl)) (hw _ (List.mem_of_getElem? (i := 17) rfl)) (hw _ (List.mem_of_getElem? (i := 18) rfl)) e0 (g := (mkF m 1 #[.val (.ref a), .val (.ref ar), .val (.int (0 : Int32)), .val (.int (1 : Int32)), .val .null, .unset] [(.ref a)])) rfl (by rw [hml]; rfl) rfl (hb hby d_jdk_42_method_149_1) (by decide) (W := 0) (by show 2 * 0 + _ ≤ _; exact Nat.le_of_eq rfl) (by decide)
  refine OwnFin.step st1 ?_
  show OwnFin p e below _ (T1.setTop (mkF m 4 #[.val (.ref a), .val (.ref ar), .val (.int (0 : Int32)), .val (.int (1 : Int32)), .val .null, .unset] []))
  refine OwnFin.step (fun tT kK => XS.iloadN X1.here hx rfl (hb hby d_jdk_42_method_149_4) rfl kK) ?_
  show OwnFin p e below _ (T1.setTop (mkF m 5 #[.val (.ref a), .val (.ref ar), .val (.int (0 : Int32)), .val (.int (1 : Int32)), .val .null, .unset] [(.int (1 : Int32))]))
  refine OwnFin.step (fun tT kK => XS.ifYes X1.here hx rfl (pc0 := 5) (pc' := 27) rfl (hb hby d_jdk_42_method_149_5) rfl ((if0 _ _).trans (feq (by decide : ¬ ((1 : Int32) = (0 : Int32)))).2) (by decide) (by decide) kK) ?_
  show OwnFin p e below _ (T1.setTop (mkF m 27 #[.val (.ref a), .val (.ref ar), .val (.int (0 : Int32)), .val (.int (1 : Int32)), .val .null, .unset] []))
  obtain ⟨T2, X2, e2, st2⟩ := getS2 X1 hx hZ hown (host := "") (Or.inl (hw _ (List.mem_of_getElem? (i := 19) rfl))) Via.refl e1 hp5 (g := (mkF m 27 #[.val (.ref a), .val (.ref ar), .val (.int (0 : Int32)), .val (.int (1 : Int32)), .val .null, .unset] [])) rfl (hb hby d_jdk_42_method_149_27)
  refine OwnFin.step st2 ?_
  show OwnFin p e below _ (T2.setTop (mkF m 30 #[.val (.ref a), .val (.ref ar), .val (.int (0 : Int32)), .val (.int (1 : Int32)), .val .null, .unset] [(.int cs)]))
  refine OwnFin.step (fun tT kK => XS.ifNo X2.here hx rfl (hb hby d_jdk_42_method_149_30) rfl ((if0 _ _).trans (feq (hp6 : ¬ (cs = (0 : Int32)))).1) kK) ?_
  show OwnFin p e below _ (T2.setTop (mkF m 33 #[.val (.ref a), .val (.ref ar), .val (.int (0 : Int32)), .val (.int (1 : Int32)), .val .null, .unset] []))
  refine OwnFin.step (fun tT kK => XS.aloadN X2.here hx rfl (hb hby d_jdk_42_method_149_33) rfl rfl kK) ?_
  show OwnFin p e below _ (T2.setTop (mkF m 34 #[.val (.ref a), .val (.ref ar), .val (.int (0 : Int32)), .val (.int (1 : Int32)), .val .null, .unset] [(.ref ar)]))
  refine OwnFin.step (fun tT kK => XS.iloadN X2.here hx rfl (hb hby d_jdk_42_method_149_34) rfl kK) ?_
  show OwnFin p e below _ (T2.setTop (mkF m 35 #[.val (.ref a), .val (.ref ar), .val (.int (0 : Int32)), .val (.int (1 : Int32)), .val .null, .unset] [(.int (0 : Int32)), (.ref ar)]))
  refine OwnFin.step (fun tT kK => XS.iloadN X2.here hx rfl (hb hby d_jdk_42_method_149_35) rfl kK) ?_
  show OwnFin p e below _ (T2.setTop (mkF m 36 #[.val (.ref a), .val (.ref ar), .val (.int (0 : Int32)), .val (.int (1 : Int32)), .val .null, .unset] [(.int (1 : Int32)), (.int (0 : Int32)), (.ref ar)]))
  obtain ⟨_, _, ⟨T3, L3, k3, n3⟩, -, X3, ⟨Lc3, hQ3, l3, y3, z3⟩, st3⟩ := Jvm.LawKit.callS X2 hx (y := (⟨"java/lang/StringUTF16", "compress", "([CII)[B"⟩ : MethodName)) hown (mvT hZ (hw _ (List.mem_of_getElem? (i := 20) rfl))) (mvT hZ (hw _ (List.mem_of_getElem? (i := 21) rfl))) (mvT hZ (hw _ (List.mem_of_getElem? (i := 22) rfl))) (mvT hZ (hw _ (List.mem_of_getElem? (i := 23) rfl))) (by decide) (backOf (W := 0) (rm2b l Z a0 hw [] ar k c0 h0 n0 Z0 hp4 (hp7)) hZ (hw _ (List.mem_of_getElem? (i := 23) rfl)) (hw _ (List.mem_of_getElem? (i := 22) rfl)) (by decide) (by decide)) (g := (mkF m 36 #[.val (.ref a), .val (.ref ar), .val (.int (0 : Int32)), .val (.int (1 : Int32)), .val .null, .unset] [(.int (1 : Int32)), (.int (0 : Int32)), (.ref ar)])) rfl (by rw [hml]; rfl) (argsL := [(.ref ar), (.int (0 : Int32)), (.int (1 : Int32))]) (rest := []) (lenOf pd_63 rfl) rfl (by show 2 * 0 + _ ≤ _; exact Nat.le_of_eq rfl) (hb hby d_jdk_42_method_149_36) (fun _ _ => ⟨rfl, e2, (by decide : 0 + 1 ≤ _), (by decide : 0 + 1 ≤ _)⟩)
  dsimp only [Pt.U, Pt.locs, Pt.cells, Pt.slots] at X3 l3 y3 z3 st3 hQ3
  subst l3 y3 z3
  obtain ⟨b4, ⟨kb5, ⟨rfl, N3q, K3, B3_0, P3_0⟩⟩⟩ := hQ3
  have N3 := Fr.app N0 N3q
  refine OwnFin.step st3 ?_
  have E3 : Ext h0 T3.heap := ⟨K3.1, fun x c q => K3.2.1 x c q nin0⟩
  show OwnFin p e below _ (T3.setTop (mkF m 39 #[.val (.ref a), .val (.ref ar), .val (.int (0 : Int32)), .val (.int (1 : Int32)), .val .null, .unset] [(.ref b4)]))
  refine OwnFin.step (fun tT kK => XS.astore X3.here hx rfl (hb hby d_jdk_42_method_149_39) rfl rfl (l' := #[.val (.ref a), .val (.ref ar), .val (.int (0 : Int32)), .val (.int (1 : Int32)), .val .null, .val (.ref b4)]) rfl kK) ?_
  show OwnFin p e below _ (T3.setTop (mkF m 41 #[.val (.ref a), .val (.ref ar), .val (.int (0 : Int32)), .val (.int (1 : Int32)), .val .null, .val (.ref b4)] []))
  refine OwnFin.step (fun tT kK => XS.aloadN X3.here hx rfl (hb hby d_jdk_42_method_149_41) rfl rfl kK) ?_
  show OwnFin p e below _ (T3.setTop (mkF m 42 #[.val (.ref a), .val (.ref ar), .val (.int (0 : Int32)), .val (.int (1 : Int32)), .val .null, .val (.ref b4)] [(.ref a)]))
  refine OwnFin.step (fun tT kK => XS.aload X3.here hx rfl (hb hby d_jdk_42_method_149_42) rfl rfl kK) ?_
  show OwnFin p e below _ (T3.setTop (mkF m 44 #[.val (.ref a), .val (.ref ar), .val (.int (0 : Int32)), .val (.int (1 : Int32)), .val .null, .val (.ref b4)] [(.ref b4), (.ref a)]))
  refine OwnFin.step (fun tT kK => XS.iloadN X3.here hx rfl (hb hby d_jdk_42_method_149_44) rfl kK) ?_
  show OwnFin p e below _ (T3.setTop (mkF m 45 #[.val (.ref a), .val (.ref ar), .val (.int (0 : Int32)), .val (.int (1 : Int32)), .val .null, .val (.ref b4)] [(.int (1 : Int32)), (.ref b4), (.ref a)]))
  obtain ⟨_, _, ⟨T6, L6, k6, n6⟩, -, X6, ⟨Lc6, hQ6, l6, y6, z6⟩, st6⟩ := Jvm.LawKit.callS X3 hx (y := (⟨"java/lang/StringUTF16", "coderFromArrayLen", "([BI)B"⟩ : MethodName)) hown (mvT hZ (hw _ (List.mem_of_getElem? (i := 28) rfl))) (mvT hZ (hw _ (List.mem_of_getElem? (i := 29) rfl))) (mvT hZ (hw _ (List.mem_of_getElem? (i := 22) rfl))) (mvT hZ (hw _ (List.mem_of_getElem? (i := 30) rfl))) (by decide) (backOf (W := 1) (rm2c l Z a0 hw [] b4 kb5 c0 T3.heap n0 (Nat.le_trans Z0 E3.1) P3_0) hZ (hw _ (List.mem_of_getElem? (i := 30) rfl)) (hw _ (List.mem_of_getElem? (i := 22) rfl)) (by decide) (by decide)) (g := (mkF m 45 #[.val (.ref a), .val (.ref ar), .val (.int (0 : Int32)), .val (.int (1 : Int32)), .val .null, .val (.ref b4)] [(.int (1 : Int32)), (.ref b4), (.ref a)])) rfl (by rw [hml]; rfl) (argsL := [(.ref b4), (.int (1 : Int32))]) (rest := [(.ref a)]) (lenOf pd_69 rfl) rfl (by show 2 * 0 + _ ≤ _; exact Nat.le_of_eq rfl) (hb hby d_jdk_42_method_149_45) (fun _ _ => ⟨rfl, rfl, (by decide : 1 + 0 ≤ _), (by decide : 1 + 0 ≤ _)⟩)
  dsimp only [Pt.U, Pt.locs, Pt.cells, Pt.slots] at X6 l6 y6 z6 st6 hQ6
  subst l6 y6 z6
  obtain ⟨rfl, N6q, e6⟩ := hQ6
  have N6 := Fr.app N3 N6q
  refine OwnFin.step st6 ?_
  show OwnFin p e below _ (T6.setTop (mkF m 48 #[.val (.ref a), .val (.ref ar), .val (.int (0 : Int32)), .val (.int (1 : Int32)), .val .null, .val (.ref b4)] [(.int (0 : Int32)), (.ref a)]))
  have f7 : Exa Z T3.heap a "java/lang/String" := (hp0.ext E3)
  have f8 : Fld Z T3.heap a "java/lang/String" "coder" "B" (.int (0 : Int32)) := (hp2.ext E3)
  obtain ⟨T9, h9, X9, e9, W9, st9⟩ := putF X6 hx hZ hown (host := "") (Or.inl (hw _ (List.mem_of_getElem? (i := 31) rfl))) Via.refl e6 f8 f7 (Or.inr ⟨(hw _ (List.mem_of_getElem? (i := 32) rfl)), rfl, hnm⟩) (hw _ (List.mem_of_getElem? (i := 7) rfl)) (ty := .byte) (by decide) rfl rfl (g := (mkF m 48 #[.val (.ref a), .val (.ref ar), .val (.int (0 : Int32)), .val (.int (1 : Int32)), .val .null, .val (.ref b4)] [(.int (0 : Int32)), (.ref a)])) rfl rfl (hb hby d_jdk_42_method_149_48)
  refine OwnFin.step st9 ?_
  have N9 := Fr.snoc X9 N6 hp3
  have Fw9 : Fld Z h9 a "java/lang/String" "coder" "B" (.int (0 : Int32)) := f8.same W9
  show OwnFin p e below _ (T9.setTop (mkF m 51 #[.val (.ref a), .val (.ref ar), .val (.int (0 : Int32)), .val (.int (1 : Int32)), .val .null, .val (.ref b4)] []))
  refine OwnFin.step (fun tT kK => XS.aloadN X9.here hx rfl (hb hby d_jdk_42_method_149_51) rfl rfl kK) ?_
  show OwnFin p e below _ (T9.setTop (mkF m 52 #[.val (.ref a), .val (.ref ar), .val (.int (0 : Int32)), .val (.int (1 : Int32)), .val .null, .val (.ref b4)] [(.ref a)]))
  refine OwnFin.step (fun tT kK => XS.aload X9.here hx rfl (hb hby d_jdk_42_method_149_52) rfl rfl kK) ?_
  show OwnFin p e below _ (T9.setTop (mkF m 54 #[.val (.ref a), .val (.ref ar), .val (.int (0 : Int32)), .val (.int (1 : Int32)), .val .null, .val (.ref b4)] [(.ref b4), (.ref a)]))
  have f10 : Exa Z h9 a "java/lang/String" := (f7.wr W9)
  have f11 : Fld Z h9 a "java/lang/String" "value" "[B" .null := ((hp1.ext E3).other W9 (Or.inr (slot_ne (Or.inr (hw _ (List.mem_of_getElem? (i := 34) rfl))) (Or.inr (hw _ (List.mem_of_getElem? (i := 32) rfl))) (by decide) (t := (.array .byte)) (t' := .byte) (by decide) (by decide))))
  obtain ⟨T12, h12, X12, e12, W12, st12⟩ := putF X9 hx hZ hown (host := "") (Or.inl (hw _ (List.mem_of_getElem? (i := 33) rfl))) Via.refl e9 f11 f10 (Or.inr ⟨(hw _ (List.mem_of_getElem? (i := 34) rfl)), rfl, hnm⟩) (hw _ (List.mem_of_getElem? (i := 7) rfl)) (ty := (.array .byte)) (by decide) rfl rfl (g := (mkF m 54 #[.val (.ref a), .val (.ref ar), .val (.int (0 : Int32)), .val (.int (1 : Int32)), .val .null, .val (.ref b4)] [(.ref b4), (.ref a)])) rfl rfl (hb hby d_jdk_42_method_149_54)
  refine OwnFin.step st12 ?_
  have N12 := Fr.snoc X12 N9 hp3
  have Fw12 : Fld Z h12 a "java/lang/String" "value" "[B" (.ref b4) := f11.same W12
  show OwnFin p e below _ (T12.setTop (mkF m 57 #[.val (.ref a), .val (.ref ar), .val (.int (0 : Int32)), .val (.int (1 : Int32)), .val .null, .val (.ref b4)] []))
  have f14 : Exa Z h12 a "java/lang/String" := (f10.wr W12)
  have f15 : Fld Z h12 a "java/lang/String" "coder" "B" (.int (0 : Int32)) := (Fw9.other W12 (Or.inr (slot_ne (Or.inr (hw _ (List.mem_of_getElem? (i := 32) rfl))) (Or.inr (hw _ (List.mem_of_getElem? (i := 34) rfl))) (by decide) (t := .byte) (t' := (.array .byte)) (by decide) (by decide))))
  have f16 : Arv Z h12 b4 kb5 .byte (1 : Int32) [(.int (nar .byte (c0.toInt8.toInt32)))] (.int (0 : Int32)) := ((P3_0.other W9 (Ne.symm (Nat.ne_of_lt (Nat.lt_of_lt_of_le (Nat.lt_of_lt_of_le hp0.lt (Nat.le_refl _)) B3_0)))).other W12 (Ne.symm (Nat.ne_of_lt (Nat.lt_of_lt_of_le (Nat.lt_of_lt_of_le hp0.lt (Nat.le_refl _)) B3_0))))
  obtain ⟨fs13, hr13, hrun13, hended13, hW13, hsame13⟩ := X12.leave (v := none) (fun _ => rfl)
  refine ⟨_, _, X12.returnOut hx Bd.returns (hb hby d_jdk_42_method_149_57) hr13, hrun13, hended13, _, _, rfl, ?_, ⟨_, rfl⟩, hW13, hsame13.mono (by decide) (by decide)⟩
  show Q2d Z a ar k cs c0 h0 n0 _ T12.heap _
  rw [e12]
  exact ⟨b4, kb5, rfl, N12, ((((Keep.refl h0 [a]).ext E3).wr W9 (Or.inl (List.mem_of_getElem? (i := 0) rfl))).wr W12 (Or.inl (List.mem_of_getElem? (i := 0) rfl))), (Nat.le_trans (Nat.le_refl _) B3_0), f14, Fw12, f15, f16⟩
theorem d_jdk_42_method_3_0 : decode jdk_42_method_3_code 0 = .ok (.aload_n 0, 1) := by decide +kernel
theorem d_jdk_42_method_3_1 : decode jdk_42_method_3_code 1 = .ok (.aload_n 1, 1) := by decide +kernel
theorem d_jdk_42_method_3_2 : decode jdk_42_method_3_code 2 = .ok (.iconst 0, 1) := by decide +kernel
theorem d_jdk_42_method_3_3 : decode jdk_42_method_3_code 3 = .ok (.aload_n 1, 1) := by decide +kernel
theorem d_jdk_42_method_3_4 : decode jdk_42_method_3_code 4 = .ok (.arraylength, 1) := by decide +kernel
theorem d_jdk_42_method_3_5 : decode jdk_42_method_3_code 5 = .ok (.aconst_null, 1) := by decide +kernel
theorem d_jdk_42_method_3_6 : decode jdk_42_method_3_code 6 = .ok (.invokespecial 27, 3) := by decide +kernel
theorem pd_82 : parseMethodDescriptor "([CIILjava/lang/Void;)V" = some ⟨[(.array .char), .int, .int, (.object "java/lang/Void")], none⟩ := by decide +kernel
theorem d_jdk_42_method_3_9 : decode jdk_42_method_3_code 9 = .ok (.return_, 1) := by decide +kernel
theorem ef_2 (m : MethodId) (a : Addr) (ar : Addr) : entryFrame m #[(.ref a), (.ref ar)] 2 = mkF m 0 #[.val (.ref a), .val (.ref ar)] [] := by first | (simp [entryFrame, mkF, argsToLocals, Value.category]; done) | rfl
def Q2 (Z : State) (a : Addr) (ar : Addr) (k : ClassId) (cs : Int32) (c0 : Int32) (h0 : Heap) (n0 : Nat) (vV : Option Value) (hH : Heap) (LL : List Loc) : Prop := ∃ b : Addr, ∃ kb : ClassId, vV = none ∧ Fr n0 LL ∧ Keep h0 hH [a] ∧ h0.size ≤ b ∧ (Exa Z hH a "java/lang/String") ∧ (Fld Z hH a "java/lang/String" "value" "[B" (.ref b)) ∧ (Fld Z hH a "java/lang/String" "coder" "B" (.int (0 : Int32))) ∧ (Arv Z hH b kb .byte (1 : Int32) [(.int (nar .byte (c0.toInt8.toInt32)))] (.int (0 : Int32)))
def R2 (Z : State) (a : Addr) (ar : Addr) (k : ClassId) (cs : Int32) (c0 : Int32) (h0 : Heap) (n0 : Nat) (U : State) (o : Outcome) (U' : State) : Prop := ∃ vV LL, o = .returned vV ∧ Q2 Z a ar k cs c0 h0 n0 vV U'.heap LL ∧ FrameEnd U o U' LL ({ frames := 3, cells := 1, slots := 1, locals := 52 } : Room).cells ({ frames := 3, cells := 1, slots := 1, locals := 52 } : Room).slots
set_option maxRecDepth 65536 in
set_option maxHeartbeats 40000000 in
theorem rm2 (l : Launch) (Z : State) (a0 : Array Value) (hw : ∀ d ∈ tables_1, d.before a0 Z = true) (ws : List Jvm.Cond) (a : Addr) (ar : Addr) (k : ClassId) (cs : Int32) (c0 : Int32) (h0 : Heap) (n0 : Nat) (Z0 : n0 ≤ h0.size) (hp0 : Exa Z h0 a "java/lang/String") (hp1 : Fld Z h0 a "java/lang/String" "value" "[B" .null) (hp2 : Fld Z h0 a "java/lang/String" "coder" "B" (.int (0 : Int32))) (hp3 : n0 ≤ a) (hp4 : Arv Z h0 ar k .char (1 : Int32) [(.int c0)] (.int (0 : Int32))) (hp5 : Sta Z h0 "java/lang/String" "COMPACT_STRINGS" "Z" (.int cs)) (hp6 : ¬ cs = (0 : Int32)) (hp7 : ¬ (255 : Int32) < c0) :
    MetFree l (⟨"java/lang/String", "<init>", "([C)V"⟩ : MethodName) (head1 (Jvm.Cond.code (⟨"java/lang/String", "<init>", "([C)V"⟩ : MethodName) jdk_42_method_3_code 2 none :: ws) ({ frames := 3, cells := 1, slots := 1, locals := 52 } : Room)) (fun aA U => aA = #[(.ref a), (.ref ar)] ∧ Z.Warmed39 U.vm ∧ U.heap = h0) (fun _ _ _ _ _ => True) (fun _ U o U' => ∃ vV LL, o = .returned vV ∧ Q2 Z a ar k cs c0 h0 n0 vV U'.heap LL ∧ FrameEnd U o U' LL ({ frames := 3, cells := 1, slots := 1, locals := 52 } : Room).cells ({ frames := 3, cells := 1, slots := 1, locals := 52 } : Room).slots) := by
  refine MetFree.of_bodySF (plainFor_of_name pn_52) hisR ?_
  intro p e s m args below meth cC s₁ Bd hml0 hP hK
  obtain ⟨rfl, hZ, hh⟩ := hP
  have hx := Bd.exec
  have hby := Bd.bytes
  have hml : cC.maxLocals = 2 := hml0
  have hown : s.vm.findClass "java/lang/String" = some m.cls := findClass_of_methodNamed Bd.named
  have hnm := (name_of_methodNamed Bd.named Bd.method).1
  have X0 : Stand p l e ({ frames := 3, cells := 1, slots := 1, locals := 52 } : Room) s m #[(.ref a), (.ref ar)] below meth cC s₁ [] 0 0 := Stand.of_body Bd
  have e0 : s₁.heap = h0 := by rw [← hh, Bd.state]; rfl
  have N0 := Fr.nil n0
  show OwnFin p e below (R2 Z a ar k cs c0 h0 n0 s) (s₁.setTop (entryFrame m #[(.ref a), (.ref ar)] 2))
  rw [ef_2 m a ar]
  refine OwnFin.step (fun tT kK => XS.aloadN X0.here hx rfl (hb hby d_jdk_42_method_3_0) rfl rfl kK) ?_
  show OwnFin p e below _ (s₁.setTop (mkF m 1 #[.val (.ref a), .val (.ref ar)] [(.ref a)]))
  refine OwnFin.step (fun tT kK => XS.aloadN X0.here hx rfl (hb hby d_jdk_42_method_3_1) rfl rfl kK) ?_
  show OwnFin p e below _ (s₁.setTop (mkF m 2 #[.val (.ref a), .val (.ref ar)] [(.ref ar), (.ref a)]))
  refine OwnFin.step (fun tT kK => XS.iconst X0.here hx rfl (hb hby d_jdk_42_method_3_2) kK) ?_
  show OwnFin p e below _ (s₁.setTop (mkF m 3 #[.val (.ref a), .val (.ref ar)] [(.int (0 : Int32)), (.ref ar), (.ref a)]))
  refine OwnFin.step (fun tT kK => XS.aloadN X0.here hx rfl (hb hby d_jdk_42_method_3_3) rfl rfl kK) ?_
  show OwnFin p e below _ (s₁.setTop (mkF m 4 #[.val (.ref a), .val (.ref ar)] [(.ref ar), (.int (0 : Int32)), (.ref ar), (.ref a)]))
  obtain ⟨cl1, Ar1, -, Sz1, Ng1, -, -⟩ := id hp4
  refine OwnFin.step (fun tT kK => own_len X0 hx hZ e0 Ar1 Sz1 Ng1 (g := (mkF m 4 #[.val (.ref a), .val (.ref ar)] [(.ref ar), (.int (0 : Int32)), (.ref ar), (.ref a)])) rfl rfl (hb hby d_jdk_42_method_3_4) kK) ?_
  show OwnFin p e below _ (s₁.setTop (mkF m 5 #[.val (.ref a), .val (.ref ar)] [(.int (1 : Int32)), (.int (0 : Int32)), (.ref ar), (.ref a)]))
  refine OwnFin.step (fun tT kK => XS.aconstNull X0.here hx rfl (hb hby d_jdk_42_method_3_5) kK) ?_
  show OwnFin p e below _ (s₁.setTop (mkF m 6 #[.val (.ref a), .val (.ref ar)] [.null, (.int (1 : Int32)), (.int (0 : Int32)), (.ref ar), (.ref a)]))
  obtain ⟨_, _, ⟨T2, L2, k2, n2⟩, -, X2, ⟨Lc2, hQ2, l2, y2, z2⟩, st2⟩ := X0.specialBack hx (y := (⟨"java/lang/String", "<init>", "([CIILjava/lang/Void;)V"⟩ : MethodName)) rfl hown (mvT hZ (hw _ (List.mem_of_getElem? (i := 12) rfl))) (mvT hZ (hw _ (List.mem_of_getElem? (i := 13) rfl))) (mvT hZ (hw _ (List.mem_of_getElem? (i := 15) rfl))) (by decide) (backOf (W := 0) (rm2d l Z a0 hw [] a ar k cs c0 h0 n0 Z0 hp0 hp1 hp2 hp3 hp4 hp5 (hp6) (hp7)) hZ (hw _ (List.mem_of_getElem? (i := 15) rfl)) (hw _ (List.mem_of_getElem? (i := 8) rfl)) (by decide) (by decide)) (g := (mkF m 6 #[.val (.ref a), .val (.ref ar)] [.null, (.int (1 : Int32)), (.int (0 : Int32)), (.ref ar), (.ref a)])) rfl (by rw [hml]; rfl) (Steps.refl _) (a := a) (argsL := [(.ref ar), (.int (0 : Int32)), (.int (1 : Int32)), .null]) (rest := []) (lenOf pd_82 rfl) rfl (by show 2 * 0 + _ ≤ _; exact Nat.le_of_eq rfl) (hb hby d_jdk_42_method_3_6) (fun _ _ => ⟨rfl, e0, (by decide : 0 + 1 ≤ _), (by decide : 0 + 1 ≤ _)⟩)
  dsimp only [Pt.U, Pt.locs, Pt.cells, Pt.slots] at X2 l2 y2 z2 st2 hQ2
  subst l2 y2 z2
  obtain ⟨b3, ⟨kb4, ⟨rfl, N2q, K2, B2_0, P2_0, P2_1, P2_2, P2_3⟩⟩⟩ := hQ2
  have N2 := Fr.app N0 N2q
  refine OwnFin.step (fun tT kK => st2.trans kK) ?_
  show OwnFin p e below _ (T2.setTop (mkF m 9 #[.val (.ref a), .val (.ref ar)] []))
  obtain ⟨fs5, hr5, hrun5, hended5, hW5, hsame5⟩ := X2.leave (v := none) (fun _ => rfl)
  refine ⟨_, _, X2.returnOut hx Bd.returns (hb hby d_jdk_42_method_3_9) hr5, hrun5, hended5, _, _, rfl, ?_, ⟨_, rfl⟩, hW5, hsame5.mono (by decide) (by decide)⟩
  show Q2 Z a ar k cs c0 h0 n0 _ T2.heap _
  exact ⟨b3, kb4, rfl, N2, ((Keep.refl h0 [a]).trans K2 (allS (P := fun x => x ∈ [a] ∨ h0.size ≤ x) (Or.inl (List.mem_of_getElem? (i := 0) rfl)) all0)), (Nat.le_trans (Nat.le_refl _) B2_0), P2_0, P2_1, P2_2, P2_3⟩
theorem own_c8 (x : Int64) : ¬ (255 : Int32) < nar .char ((x &&& (255 : Int64)).toInt32.toUInt32.toUInt16.toUInt32.toInt32) := by
  have h1 := c_maskL x (255 : Int64) 8 (by decide) (by decide)
  have h2 := c_l2i (x &&& (255 : Int64))
  have h3 := c_i2c (x &&& (255 : Int64)).toInt32
  have h5 := c_i2c ((x &&& (255 : Int64)).toInt32.toUInt32.toUInt16.toUInt32.toInt32)
  have r := rng32 (x &&& (255 : Int64)).toInt32
  show ¬ (255 : Int32) < ((x &&& (255 : Int64)).toInt32.toUInt32.toUInt16.toUInt32.toInt32).toUInt32.toUInt16.toUInt32.toInt32
  rw [Int32.lt_iff_toInt_lt]
  have h4 : ((255 : Int32)).toInt = 255 := rfl
  omega
theorem pn_84 : plainName "com/example/myna/myna/delivery/AttemptWithBodyPinLaw" = true := by first | (simp [plainName, overriddenIn]; done) | decide +kernel
theorem d_method_2_0 : decode method_2_code 0 = .ok (.iconst 1, 1) := by decide +kernel
theorem d_method_2_1 : decode method_2_code 1 = .ok (.newarray .char, 2) := by decide +kernel
theorem d_method_2_3 : decode method_2_code 3 = .ok (.astore_n 3, 1) := by decide +kernel
theorem d_method_2_4 : decode method_2_code 4 = .ok (.aload_n 3, 1) := by decide +kernel
theorem d_method_2_5 : decode method_2_code 5 = .ok (.iconst 0, 1) := by decide +kernel
theorem d_method_2_6 : decode method_2_code 6 = .ok (.lload_n 0, 1) := by decide +kernel
theorem d_method_2_7 : decode method_2_code 7 = .ok (.iload_n 2, 1) := by decide +kernel
theorem d_method_2_8 : decode method_2_code 8 = .ok (.lushr, 1) := by decide +kernel
theorem d_method_2_9 : decode method_2_code 9 = .ok (.ldc2_w 7, 3) := by decide +kernel
theorem d_method_2_12 : decode method_2_code 12 = .ok (.land, 1) := by decide +kernel
theorem d_method_2_13 : decode method_2_code 13 = .ok (.l2i, 1) := by decide +kernel
theorem d_method_2_14 : decode method_2_code 14 = .ok (.i2c, 1) := by decide +kernel
theorem d_method_2_15 : decode method_2_code 15 = .ok (.castore, 1) := by decide +kernel
theorem d_method_2_16 : decode method_2_code 16 = .ok (.new 9, 3) := by decide +kernel
theorem d_method_2_19 : decode method_2_code 19 = .ok (.dup, 1) := by decide +kernel
theorem d_method_2_20 : decode method_2_code 20 = .ok (.aload_n 3, 1) := by decide +kernel
theorem d_method_2_21 : decode method_2_code 21 = .ok (.invokespecial 11, 3) := by decide +kernel
theorem pd_102 : parseMethodDescriptor "([C)V" = some ⟨[(.array .char)], none⟩ := by decide +kernel
theorem d_method_2_24 : decode method_2_code 24 = .ok (.areturn, 1) := by decide +kernel
theorem ef_3 (m : MethodId) (bi : Int64) (sh : Int32) : entryFrame m #[(.long bi), (.int sh)] 4 = mkF m 0 #[.val (.long bi), .second, .val (.int sh), .unset] [] := by first | (simp [entryFrame, mkF, argsToLocals, Value.category]; done) | rfl
def Q3 (Z : State) (bi : Int64) (sh : Int32) (cs : Int32) (h0 : Heap) (n0 : Nat) (vV : Option Value) (hH : Heap) (LL : List Loc) : Prop := ∃ b : Addr, vV = some (.ref b) ∧ Fr n0 LL ∧ Keep h0 hH [] ∧ h0.size ≤ b ∧ (Exa Z hH b "java/lang/String")
def R3 (Z : State) (bi : Int64) (sh : Int32) (cs : Int32) (h0 : Heap) (n0 : Nat) (U : State) (o : Outcome) (U' : State) : Prop := ∃ vV LL, o = .returned vV ∧ Q3 Z bi sh cs h0 n0 vV U'.heap LL ∧ FrameEnd U o U' LL ({ frames := 4, cells := 3, slots := 6, locals := 66 } : Room).cells ({ frames := 4, cells := 3, slots := 6, locals := 66 } : Room).slots
set_option maxRecDepth 65536 in
set_option maxHeartbeats 40000000 in
theorem rm3 (l : Launch) (Z : State) (a0 : Array Value) (hw : ∀ d ∈ tables_1, d.before a0 Z = true) (ws : List Jvm.Cond) (bi : Int64) (sh : Int32) (cs : Int32) (h0 : Heap) (n0 : Nat) (Z0 : n0 ≤ h0.size) (hp0 : Sta Z h0 "java/lang/String" "COMPACT_STRINGS" "Z" (.int cs)) (hp1 : ¬ cs = (0 : Int32)) :
    MetFree l (⟨"com/example/myna/myna/delivery/AttemptWithBodyPinLaw", "str", "(JI)Ljava/lang/String;"⟩ : MethodName) (head1 (Jvm.Cond.code (⟨"com/example/myna/myna/delivery/AttemptWithBodyPinLaw", "str", "(JI)Ljava/lang/String;"⟩ : MethodName) method_2_code 4 (some (.object "java/lang/String")) :: ws) ({ frames := 4, cells := 3, slots := 6, locals := 66 } : Room)) (fun aA U => aA = #[(.long bi), (.int sh)] ∧ Z.Warmed39 U.vm ∧ U.heap = h0) (fun _ _ _ _ _ => True) (fun _ U o U' => ∃ vV LL, o = .returned vV ∧ Q3 Z bi sh cs h0 n0 vV U'.heap LL ∧ FrameEnd U o U' LL ({ frames := 4, cells := 3, slots := 6, locals := 66 } : Room).cells ({ frames := 4, cells := 3, slots := 6, locals := 66 } : Room).slots) := by
  refine MetFree.of_bodySF (plainFor_of_name pn_84) hisR ?_
  intro p e s m args below meth cC s₁ Bd hml0 hP hK
  obtain ⟨rfl, hZ, hh⟩ := hP
  have hx := Bd.exec
  have hby := Bd.bytes
  have hml : cC.maxLocals = 4 := hml0
  have hown : s.vm.findClass "com/example/myna/myna/delivery/AttemptWithBodyPinLaw" = some m.cls := findClass_of_methodNamed Bd.named
  have hnm := (name_of_methodNamed Bd.named Bd.method).1
  have X0 : Stand p l e ({ frames := 4, cells := 3, slots := 6, locals := 66 } : Room) s m #[(.long bi), (.int sh)] below meth cC s₁ [] 0 0 := Stand.of_body Bd
  have e0 : s₁.heap = h0 := by rw [← hh, Bd.state]; rfl
  have N0 := Fr.nil n0
  show OwnFin p e below (R3 Z bi sh cs h0 n0 s) (s₁.setTop (entryFrame m #[(.long bi), (.int sh)] 4))
  rw [ef_3 m bi sh]
  refine OwnFin.step (fun tT kK => XS.iconst X0.here hx rfl (hb hby d_method_2_0) kK) ?_
  show OwnFin p e below _ (s₁.setTop (mkF m 1 #[.val (.long bi), .second, .val (.int sh), .unset] [(.int (1 : Int32))]))
  obtain ⟨T1, h1, k1, X1, e1, E1, A1, st1⟩ := newP X0 hx hZ (hw _ (List.mem_of_getElem? (i := 4) rfl)) e0 (g := (mkF m 1 #[.val (.long bi), .second, .val (.int sh), .unset] [(.int (1 : Int32))])) rfl (hb hby d_method_2_1) rfl (by decide) (cap := 1) (by decide) (by decide) (by decide) (by decide)
  obtain ⟨b1, g1⟩ : ∃ z, z = h0.size := ⟨_, rfl⟩
  rw [← g1] at A1 st1
  refine OwnFin.step st1 ?_
  have V1 : Arv Z h1 b1 k1 .char (1 : Int32) [(.int (0 : Int32))] (.int (0 : Int32)) := (Arv.new A1 (by decide)).pad (pad_rep [] (.int (0 : Int32)) 1)
  show OwnFin p e below _ (T1.setTop (mkF m 3 #[.val (.long bi), .second, .val (.int sh), .unset] [(.ref b1)]))
  refine OwnFin.step (fun tT kK => XS.astoreN X1.here hx rfl (hb hby d_method_2_3) rfl rfl (l' := #[.val (.long bi), .second, .val (.int sh), .val (.ref b1)]) rfl kK) ?_
  show OwnFin p e below _ (T1.setTop (mkF m 4 #[.val (.long bi), .second, .val (.int sh), .val (.ref b1)] []))
  refine OwnFin.step (fun tT kK => XS.aloadN X1.here hx rfl (hb hby d_method_2_4) rfl rfl kK) ?_
  show OwnFin p e below _ (T1.setTop (mkF m 5 #[.val (.long bi), .second, .val (.int sh), .val (.ref b1)] [(.ref b1)]))
  refine OwnFin.step (fun tT kK => XS.iconst X1.here hx rfl (hb hby d_method_2_5) kK) ?_
  show OwnFin p e below _ (T1.setTop (mkF m 6 #[.val (.long bi), .second, .val (.int sh), .val (.ref b1)] [(.int (0 : Int32)), (.ref b1)]))
  refine OwnFin.step (fun tT kK => XS.lloadN X1.here hx rfl (hb hby d_method_2_6) rfl kK) ?_
  show OwnFin p e below _ (T1.setTop (mkF m 7 #[.val (.long bi), .second, .val (.int sh), .val (.ref b1)] [(.long bi), (.int (0 : Int32)), (.ref b1)]))
  refine OwnFin.step (fun tT kK => XS.iloadN X1.here hx rfl (hb hby d_method_2_7) rfl kK) ?_
  show OwnFin p e below _ (T1.setTop (mkF m 8 #[.val (.long bi), .second, .val (.int sh), .val (.ref b1)] [(.int sh), (.long bi), (.int (0 : Int32)), (.ref b1)]))
  refine OwnFin.step (fun tT kK => XS.lushr X1.here hx rfl (hb hby d_method_2_8) rfl kK) ?_
  show OwnFin p e below _ (T1.setTop (mkF m 9 #[.val (.long bi), .second, .val (.int sh), .val (.ref b1)] [(.long ((bi.toUInt64 >>> (sh &&& 0x3f).toInt64.toUInt64).toInt64)), (.int (0 : Int32)), (.ref b1)]))
  refine OwnFin.step (fun tT kK => X1.ldc2J hx hown (mvT hZ (hw _ (List.mem_of_getElem? (i := 5) rfl))) (g := (mkF m 9 #[.val (.long bi), .second, .val (.int sh), .val (.ref b1)] [(.long ((bi.toUInt64 >>> (sh &&& 0x3f).toInt64.toUInt64).toInt64)), (.int (0 : Int32)), (.ref b1)])) rfl (hb hby d_method_2_9) kK) ?_
  show OwnFin p e below _ (T1.setTop (mkF m 12 #[.val (.long bi), .second, .val (.int sh), .val (.ref b1)] [(.long (255 : Int64)), (.long ((bi.toUInt64 >>> (sh &&& 0x3f).toInt64.toUInt64).toInt64)), (.int (0 : Int32)), (.ref b1)]))
  refine OwnFin.step (fun tT kK => XS.land X1.here hx rfl (hb hby d_method_2_12) rfl kK) ?_
  show OwnFin p e below _ (T1.setTop (mkF m 13 #[.val (.long bi), .second, .val (.int sh), .val (.ref b1)] [(.long (((bi.toUInt64 >>> (sh &&& 0x3f).toInt64.toUInt64).toInt64) &&& (255 : Int64))), (.int (0 : Int32)), (.ref b1)]))
  refine OwnFin.step (fun tT kK => XS.l2i X1.here hx rfl (hb hby d_method_2_13) rfl kK) ?_
  show OwnFin p e below _ (T1.setTop (mkF m 14 #[.val (.long bi), .second, .val (.int sh), .val (.ref b1)] [(.int ((((bi.toUInt64 >>> (sh &&& 0x3f).toInt64.toUInt64).toInt64) &&& (255 : Int64)).toInt32)), (.int (0 : Int32)), (.ref b1)]))
  refine OwnFin.step (fun tT kK => XS.i2c X1.here hx rfl (hb hby d_method_2_14) rfl kK) ?_
  show OwnFin p e below _ (T1.setTop (mkF m 15 #[.val (.long bi), .second, .val (.int sh), .val (.ref b1)] [(.int (((((bi.toUInt64 >>> (sh &&& 0x3f).toInt64.toUInt64).toInt64) &&& (255 : Int64)).toInt32).toUInt32.toUInt16.toUInt32.toInt32)), (.int (0 : Int32)), (.ref b1)]))
  obtain ⟨cl2, Ar2, q2, Sz2, Ng2, H2, G2⟩ := id V1
  have hin2 : ¬ ((0 : Int32) < 0 ∨ cl2.slots.size ≤ ((0 : Int32)).toNatClampNeg) := inb_of Sz2 ⟨by decide, by decide⟩
  obtain ⟨T3, h3, X3, e3, W3, st3⟩ := stC X1 hx hZ e1 Ar2 (j := (0 : Int32)) hin2 (g := (mkF m 15 #[.val (.long bi), .second, .val (.int sh), .val (.ref b1)] [(.int (((((bi.toUInt64 >>> (sh &&& 0x3f).toInt64.toUInt64).toInt64) &&& (255 : Int64)).toInt32).toUInt32.toUInt16.toUInt32.toInt32)), (.int (0 : Int32)), (.ref b1)])) rfl rfl (hb hby d_method_2_15)
  refine OwnFin.step st3 ?_
  have N3 := Fr.snoc X3 N0 (Nat.le_trans Z0 (Nat.le_of_eq g1.symm))
  have V3 : Arv Z h3 b1 k1 .char (1 : Int32) [(.int (nar .char (((((bi.toUInt64 >>> (sh &&& 0x3f).toInt64.toUInt64).toInt64) &&& (255 : Int64)).toInt32).toUInt32.toUInt16.toUInt32.toInt32)))] (.int (0 : Int32)) := Arv.set Ar2 q2 Sz2 Ng2 H2 G2 (fits_nar_char _) W3 0 rfl (Nat.le_of_ble_eq_true rfl)
  show OwnFin p e below _ (T3.setTop (mkF m 16 #[.val (.long bi), .second, .val (.int sh), .val (.ref b1)] []))
  obtain ⟨T4, h4, X4, e4, E4, A4, D4, -, st4⟩ := newO X3 hx hZ hown (hw _ (List.mem_of_getElem? (i := 6) rfl)) (hw _ (List.mem_of_getElem? (i := 7) rfl)) (hw _ (List.mem_of_getElem? (i := 8) rfl)) e3 (g := (mkF m 16 #[.val (.long bi), .second, .val (.int sh), .val (.ref b1)] [])) rfl (hb hby d_method_2_16) (by decide) (by decide)
  obtain ⟨b4, g4⟩ : ∃ z, z = h3.size := ⟨_, rfl⟩
  rw [← g4] at A4 D4 st4
  refine OwnFin.step st4 ?_
  have Fz5 : Fld Z h4 b4 "java/lang/String" "coder" "B" (.int (0 : Int32)) := D4 (Or.inr (hw _ (List.mem_of_getElem? (i := 32) rfl))) (ty := .byte) (by decide)
  have Fz6 : Fld Z h4 b4 "java/lang/String" "value" "[B" .null := D4 (Or.inr (hw _ (List.mem_of_getElem? (i := 34) rfl))) (ty := (.array .byte)) (by decide)
  show OwnFin p e below _ (T4.setTop (mkF m 19 #[.val (.long bi), .second, .val (.int sh), .val (.ref b1)] [(.ref b4)]))
  refine OwnFin.step (fun tT kK => XS.dup X4.here hx rfl (hb hby d_method_2_19) rfl rfl kK) ?_
  show OwnFin p e below _ (T4.setTop (mkF m 20 #[.val (.long bi), .second, .val (.int sh), .val (.ref b1)] [(.ref b4), (.ref b4)]))
  refine OwnFin.step (fun tT kK => XS.aloadN X4.here hx rfl (hb hby d_method_2_20) rfl rfl kK) ?_
  show OwnFin p e below _ (T4.setTop (mkF m 21 #[.val (.long bi), .second, .val (.int sh), .val (.ref b1)] [(.ref b1), (.ref b4), (.ref b4)]))
  have f7 : Arv Z h4 b1 k1 .char (1 : Int32) [(.int (nar .char (((((bi.toUInt64 >>> (sh &&& 0x3f).toInt64.toUInt64).toInt64) &&& (255 : Int64)).toInt32).toUInt32.toUInt16.toUInt32.toInt32)))] (.int (0 : Int32)) := (V3.ext E4)
  have f8 : Sta Z h4 "java/lang/String" "COMPACT_STRINGS" "Z" (.int cs) := (((hp0.ext E1).wr W3).ext E4)
  obtain ⟨_, _, ⟨T9, L9, k9, n9⟩, -, X9, ⟨Lc9, hQ9, l9, y9, z9⟩, st9⟩ := X4.specialBack hx (y := (⟨"java/lang/String", "<init>", "([C)V"⟩ : MethodName)) rfl hown (mvT hZ (hw _ (List.mem_of_getElem? (i := 9) rfl))) (mvT hZ (hw _ (List.mem_of_getElem? (i := 10) rfl))) (mvT hZ (hw _ (List.mem_of_getElem? (i := 11) rfl))) (by decide) (backOf (W := 1) (rm2 l Z a0 hw [] b4 b1 k1 cs (nar .char (((((bi.toUInt64 >>> (sh &&& 0x3f).toInt64.toUInt64).toInt64) &&& (255 : Int64)).toInt32).toUInt32.toUInt16.toUInt32.toInt32)) h4 n0 (Nat.le_trans (Nat.le_trans (Nat.le_trans Z0 E1.1) (Keep.of_wr W3).1) E4.1) A4 Fz6 Fz5 (Nat.le_trans (Nat.le_trans (Nat.le_trans Z0 E1.1) (Keep.of_wr W3).1) (Nat.le_of_eq g4.symm)) f7 f8 (hp1) (own_c8 _)) hZ (hw _ (List.mem_of_getElem? (i := 11) rfl)) (hw _ (List.mem_of_getElem? (i := 8) rfl)) (by decide) (by decide)) (g := (mkF m 21 #[.val (.long bi), .second, .val (.int sh), .val (.ref b1)] [(.ref b1), (.ref b4), (.ref b4)])) rfl (by rw [hml]; rfl) (Steps.refl _) (a := b4) (argsL := [(.ref b1)]) (rest := [(.ref b4)]) (lenOf pd_102 rfl) rfl (by show 2 * 0 + _ ≤ _; exact Nat.le_of_eq rfl) (hb hby d_method_2_21) (fun _ _ => ⟨rfl, e4, (by decide : 2 + 1 ≤ _), (by decide : 5 + 1 ≤ _)⟩)
  dsimp only [Pt.U, Pt.locs, Pt.cells, Pt.slots] at X9 l9 y9 z9 st9 hQ9
  subst l9 y9 z9
  obtain ⟨b10, ⟨kb11, ⟨rfl, N9q, K9, B9_0, P9_0, P9_1, P9_2, P9_3⟩⟩⟩ := hQ9
  have N9 := Fr.app N3 N9q
  refine OwnFin.step (fun tT kK => st9.trans kK) ?_
  show OwnFin p e below _ (T9.setTop (mkF m 24 #[.val (.long bi), .second, .val (.int sh), .val (.ref b1)] [(.ref b4)]))
  obtain ⟨fs12, hr12, hrun12, hended12, hW12, hsame12⟩ := X9.leave (v := (some (.ref b4))) (fun h => by rw [Bd.returns] at h; cases h)
  refine ⟨_, _, retOut X9 hx Bd.returns rfl (Or.inr (Or.inr (Or.inr (Or.inr ⟨rfl, rfl, rfl⟩)))) (hb hby d_method_2_24) hr12, hrun12, hended12, _, _, rfl, ?_, ⟨_, rfl⟩, hW12, hsame12.mono (by decide) (by decide)⟩
  show Q3 Z bi sh cs h0 n0 _ T9.heap _
  exact ⟨b4, rfl, N9, (((((Keep.refl h0 []).ext E1).wr W3 (Or.inr (Nat.le_trans (Nat.le_refl _) (Nat.le_of_eq g1.symm)))).ext E4).trans K9 (allS (P := fun x => x ∈ [] ∨ h0.size ≤ x) (Or.inr (Nat.le_trans (Nat.le_trans (Nat.le_trans (Nat.le_refl _) E1.1) (Keep.of_wr W3).1) (Nat.le_of_eq g4.symm))) all0)), (Nat.le_trans (Nat.le_trans (Nat.le_trans (Nat.le_refl _) E1.1) (Keep.of_wr W3).1) (Nat.le_of_eq g4.symm)), P9_0⟩
theorem pn_104 : plainName "com/example/myna/myna/delivery/Attempt" = true := by first | (simp [plainName, overriddenIn]; done) | decide +kernel
theorem d_prog_9_method_1_0 : decode prog_9_method_1_code 0 = .ok (.aload_n 0, 1) := by decide +kernel
theorem d_prog_9_method_1_1 : decode prog_9_method_1_code 1 = .ok (.invokespecial 1, 3) := by decide +kernel
theorem pd_107 : parseMethodDescriptor "()V" = some ⟨[], none⟩ := by decide +kernel
theorem d_prog_9_method_1_4 : decode prog_9_method_1_code 4 = .ok (.aload_n 0, 1) := by decide +kernel
theorem d_prog_9_method_1_5 : decode prog_9_method_1_code 5 = .ok (.aload_n 1, 1) := by decide +kernel
theorem d_prog_9_method_1_6 : decode prog_9_method_1_code 6 = .ok (.putfield 7, 3) := by decide +kernel
theorem d_prog_9_method_1_9 : decode prog_9_method_1_code 9 = .ok (.aload_n 0, 1) := by decide +kernel
theorem d_prog_9_method_1_10 : decode prog_9_method_1_code 10 = .ok (.aload_n 2, 1) := by decide +kernel
theorem d_prog_9_method_1_11 : decode prog_9_method_1_code 11 = .ok (.putfield 13, 3) := by decide +kernel
theorem d_prog_9_method_1_14 : decode prog_9_method_1_code 14 = .ok (.aload_n 0, 1) := by decide +kernel
theorem d_prog_9_method_1_15 : decode prog_9_method_1_code 15 = .ok (.aload_n 3, 1) := by decide +kernel
theorem d_prog_9_method_1_16 : decode prog_9_method_1_code 16 = .ok (.putfield 16, 3) := by decide +kernel
theorem d_prog_9_method_1_19 : decode prog_9_method_1_code 19 = .ok (.aload_n 0, 1) := by decide +kernel
theorem d_prog_9_method_1_20 : decode prog_9_method_1_code 20 = .ok (.aload 4, 2) := by decide +kernel
theorem d_prog_9_method_1_22 : decode prog_9_method_1_code 22 = .ok (.putfield 19, 3) := by decide +kernel
theorem d_prog_9_method_1_25 : decode prog_9_method_1_code 25 = .ok (.aload_n 0, 1) := by decide +kernel
theorem d_prog_9_method_1_26 : decode prog_9_method_1_code 26 = .ok (.iload 5, 2) := by decide +kernel
theorem d_prog_9_method_1_28 : decode prog_9_method_1_code 28 = .ok (.putfield 22, 3) := by decide +kernel
theorem d_prog_9_method_1_31 : decode prog_9_method_1_code 31 = .ok (.aload_n 0, 1) := by decide +kernel
theorem d_prog_9_method_1_32 : decode prog_9_method_1_code 32 = .ok (.aload 6, 2) := by decide +kernel
theorem d_prog_9_method_1_34 : decode prog_9_method_1_code 34 = .ok (.putfield 26, 3) := by decide +kernel
theorem d_prog_9_method_1_37 : decode prog_9_method_1_code 37 = .ok (.aload_n 0, 1) := by decide +kernel
theorem d_prog_9_method_1_38 : decode prog_9_method_1_code 38 = .ok (.aload 7, 2) := by decide +kernel
theorem d_prog_9_method_1_40 : decode prog_9_method_1_code 40 = .ok (.putfield 30, 3) := by decide +kernel
theorem d_prog_9_method_1_43 : decode prog_9_method_1_code 43 = .ok (.aload_n 0, 1) := by decide +kernel
theorem d_prog_9_method_1_44 : decode prog_9_method_1_code 44 = .ok (.aload 8, 2) := by decide +kernel
theorem d_prog_9_method_1_46 : decode prog_9_method_1_code 46 = .ok (.putfield 33, 3) := by decide +kernel
theorem d_prog_9_method_1_49 : decode prog_9_method_1_code 49 = .ok (.aload_n 0, 1) := by decide +kernel
theorem d_prog_9_method_1_50 : decode prog_9_method_1_code 50 = .ok (.aload 9, 2) := by decide +kernel
theorem d_prog_9_method_1_52 : decode prog_9_method_1_code 52 = .ok (.putfield 36, 3) := by decide +kernel
theorem d_prog_9_method_1_55 : decode prog_9_method_1_code 55 = .ok (.return_, 1) := by decide +kernel
theorem ef_4 (m : MethodId) (a : Addr) (u0 : Addr) (u1 : Addr) (u2 : Addr) (u3 : Addr) (u4 : Int32) (u5 : Addr) (u6 : Addr) (u7 : Addr) (u8 : Addr) : entryFrame m #[(.ref a), (.ref u0), (.ref u1), (.ref u2), (.ref u3), (.int u4), (.ref u5), (.ref u6), (.ref u7), (.ref u8)] 10 = mkF m 0 #[.val (.ref a), .val (.ref u0), .val (.ref u1), .val (.ref u2), .val (.ref u3), .val (.int u4), .val (.ref u5), .val (.ref u6), .val (.ref u7), .val (.ref u8)] [] := by first | (simp [entryFrame, mkF, argsToLocals, Value.category]; done) | rfl
def Q4 (Z : State) (a : Addr) (u0 : Addr) (u1 : Addr) (u2 : Addr) (u3 : Addr) (u4 : Int32) (u5 : Addr) (u6 : Addr) (u7 : Addr) (u8 : Addr) (h0 : Heap) (n0 : Nat) (vV : Option Value) (hH : Heap) (LL : List Loc) : Prop := vV = none ∧ Fr n0 LL ∧ Keep h0 hH [a] ∧ (Exa Z hH a "com/example/myna/myna/delivery/Attempt") ∧ (Fld Z hH a "com/example/myna/myna/delivery/Attempt" "deliveryId" "Ljava/lang/String;" (.ref u0)) ∧ (Fld Z hH a "com/example/myna/myna/delivery/Attempt" "tenant" "Ljava/lang/String;" (.ref u1)) ∧ (Fld Z hH a "com/example/myna/myna/delivery/Attempt" "eventId" "Ljava/lang/String;" (.ref u2)) ∧ (Fld Z hH a "com/example/myna/myna/delivery/Attempt" "endpointId" "Ljava/lang/String;" (.ref u3)) ∧ (Fld Z hH a "com/example/myna/myna/delivery/Attempt" "number" "I" (.int u4)) ∧ (Fld Z hH a "com/example/myna/myna/delivery/Attempt" "status" "Lcom/example/myna/myna/delivery/Status;" (.ref u5)) ∧ (Fld Z hH a "com/example/myna/myna/delivery/Attempt" "url" "Ljava/lang/String;" (.ref u6)) ∧ (Fld Z hH a "com/example/myna/myna/delivery/Attempt" "secret" "Ljava/lang/String;" (.ref u7)) ∧ (Fld Z hH a "com/example/myna/myna/delivery/Attempt" "body" "[B" (.ref u8))
def R4 (Z : State) (a : Addr) (u0 : Addr) (u1 : Addr) (u2 : Addr) (u3 : Addr) (u4 : Int32) (u5 : Addr) (u6 : Addr) (u7 : Addr) (u8 : Addr) (h0 : Heap) (n0 : Nat) (U : State) (o : Outcome) (U' : State) : Prop := ∃ vV LL, o = .returned vV ∧ Q4 Z a u0 u1 u2 u3 u4 u5 u6 u7 u8 h0 n0 vV U'.heap LL ∧ FrameEnd U o U' LL ({ frames := 2, cells := 0, slots := 0, locals := 24 } : Room).cells ({ frames := 2, cells := 0, slots := 0, locals := 24 } : Room).slots
set_option maxRecDepth 65536 in
set_option maxHeartbeats 40000000 in
theorem rm4 (l : Launch) (Z : State) (a0 : Array Value) (hw : ∀ d ∈ tables_1, d.before a0 Z = true) (ws : List Jvm.Cond) (a : Addr) (u0 : Addr) (u1 : Addr) (u2 : Addr) (u3 : Addr) (u4 : Int32) (u5 : Addr) (u6 : Addr) (u7 : Addr) (u8 : Addr) (h0 : Heap) (n0 : Nat) (Z0 : n0 ≤ h0.size) (hp0 : Exa Z h0 a "com/example/myna/myna/delivery/Attempt") (hp1 : Fld Z h0 a "com/example/myna/myna/delivery/Attempt" "deliveryId" "Ljava/lang/String;" .null) (hp2 : Fld Z h0 a "com/example/myna/myna/delivery/Attempt" "tenant" "Ljava/lang/String;" .null) (hp3 : Fld Z h0 a "com/example/myna/myna/delivery/Attempt" "eventId" "Ljava/lang/String;" .null) (hp4 : Fld Z h0 a "com/example/myna/myna/delivery/Attempt" "endpointId" "Ljava/lang/String;" .null) (hp5 : Fld Z h0 a "com/example/myna/myna/delivery/Attempt" "number" "I" (.int (0 : Int32))) (hp6 : Fld Z h0 a "com/example/myna/myna/delivery/Attempt" "status" "Lcom/example/myna/myna/delivery/Status;" .null) (hp7 : Fld Z h0 a "com/example/myna/myna/delivery/Attempt" "url" "Ljava/lang/String;" .null) (hp8 : Fld Z h0 a "com/example/myna/myna/delivery/Attempt" "secret" "Ljava/lang/String;" .null) (hp9 : Fld Z h0 a "com/example/myna/myna/delivery/Attempt" "body" "[B" .null) (hp10 : n0 ≤ a) :
    MetFree l (⟨"com/example/myna/myna/delivery/Attempt", "<init>", "(Ljava/lang/String;Ljava/lang/String;Ljava/lang/String;Ljava/lang/String;ILcom/example/myna/myna/delivery/Status;Ljava/lang/String;Ljava/lang/String;[B)V"⟩ : MethodName) (head1 (Jvm.Cond.code (⟨"com/example/myna/myna/delivery/Attempt", "<init>", "(Ljava/lang/String;Ljava/lang/String;Ljava/lang/String;Ljava/lang/String;ILcom/example/myna/myna/delivery/Status;Ljava/lang/String;Ljava/lang/String;[B)V"⟩ : MethodName) prog_9_method_1_code 10 none :: ws) ({ frames := 2, cells := 0, slots := 0, locals := 24 } : Room)) (fun aA U => aA = #[(.ref a), (.ref u0), (.ref u1), (.ref u2), (.ref u3), (.int u4), (.ref u5), (.ref u6), (.ref u7), (.ref u8)] ∧ Z.Warmed39 U.vm ∧ U.heap = h0) (fun _ _ _ _ _ => True) (fun _ U o U' => ∃ vV LL, o = .returned vV ∧ Q4 Z a u0 u1 u2 u3 u4 u5 u6 u7 u8 h0 n0 vV U'.heap LL ∧ FrameEnd U o U' LL ({ frames := 2, cells := 0, slots := 0, locals := 24 } : Room).cells ({ frames := 2, cells := 0, slots := 0, locals := 24 } : Room).slots) := by
  refine MetFree.of_bodySF (plainFor_of_name pn_104) hisR ?_
  intro p e s m args below meth cC s₁ Bd hml0 hP hK
  obtain ⟨rfl, hZ, hh⟩ := hP
  have hx := Bd.exec
  have hby := Bd.bytes
  have hml : cC.maxLocals = 10 := hml0
  have hown : s.vm.findClass "com/example/myna/myna/delivery/Attempt" = some m.cls := findClass_of_methodNamed Bd.named
  have hnm := (name_of_methodNamed Bd.named Bd.method).1
  have X0 : Stand p l e ({ frames := 2, cells := 0, slots := 0, locals := 24 } : Room) s m #[(.ref a), (.ref u0), (.ref u1), (.ref u2), (.ref u3), (.int u4), (.ref u5), (.ref u6), (.ref u7), (.ref u8)] below meth cC s₁ [] 0 0 := Stand.of_body Bd
  have e0 : s₁.heap = h0 := by rw [← hh, Bd.state]; rfl
  have N0 := Fr.nil n0
  show OwnFin p e below (R4 Z a u0 u1 u2 u3 u4 u5 u6 u7 u8 h0 n0 s) (s₁.setTop (entryFrame m #[(.ref a), (.ref u0), (.ref u1), (.ref u2), (.ref u3), (.int u4), (.ref u5), (.ref u6), (.ref u7), (.ref u8)] 10))
  rw [ef_4 m a u0 u1 u2 u3 u4 u5 u6 u7 u8]
  refine OwnFin.step (fun tT kK => XS.aloadN X0.here hx rfl (hb hby d_prog_9_method_1_0) rfl rfl kK) ?_
  show OwnFin p e below _ (s₁.setTop (mkF m 1 #[.val (.ref a), .val (.ref u0), .val (.ref u1), .val (.ref u2), .val (.ref u3), .val (.int u4), .val (.ref u5), .val (.ref u6), .val (.ref u7), .val (.ref u8)] [(.ref a)]))
  obtain ⟨_, _, ⟨T1, L1, k1, n1⟩, -, X1, ⟨Lc1, hQ1, l1, y1, z1⟩, st1⟩ := X0.specialBack hx (y := (⟨"java/lang/Record", "<init>", "()V"⟩ : MethodName)) rfl hown (mvT hZ (hw _ (List.mem_of_getElem? (i := 52) rfl))) (mvT hZ (hw _ (List.mem_of_getElem? (i := 53) rfl))) (mvT hZ (hw _ (List.mem_of_getElem? (i := 56) rfl))) (by decide) (backOf (W := 0) (rm1 l Z a0 hw [] a h0 n0 Z0 ) hZ (hw _ (List.mem_of_getElem? (i := 56) rfl)) (hw _ (List.mem_of_getElem? (i := 55) rfl)) (by decide) (by decide)) (g := (mkF m 1 #[.val (.ref a), .val (.ref u0), .val (.ref u1), .val (.ref u2), .val (.ref u3), .val (.int u4), .val (.ref u5), .val (.ref u6), .val (.ref u7), .val (.ref u8)] [(.ref a)])) rfl (by rw [hml]; rfl) (Steps.refl _) (a := a) (argsL := []) (rest := []) (lenOf pd_107 rfl) rfl (by show 2 * 0 + _ ≤ _; exact Nat.le_of_eq rfl) (hb hby d_prog_9_method_1_1) (fun _ _ => ⟨rfl, e0, (by decide : 0 + 0 ≤ _), (by decide : 0 + 0 ≤ _)⟩)
  dsimp only [Pt.U, Pt.locs, Pt.cells, Pt.slots] at X1 l1 y1 z1 st1 hQ1
  subst l1 y1 z1
  obtain ⟨rfl, N1q, e1⟩ := hQ1
  have N1 := Fr.app N0 N1q
  refine OwnFin.step (fun tT kK => st1.trans kK) ?_
  show OwnFin p e below _ (T1.setTop (mkF m 4 #[.val (.ref a), .val (.ref u0), .val (.ref u1), .val (.ref u2), .val (.ref u3), .val (.int u4), .val (.ref u5), .val (.ref u6), .val (.ref u7), .val (.ref u8)] []))
  refine OwnFin.step (fun tT kK => XS.aloadN X1.here hx rfl (hb hby d_prog_9_method_1_4) rfl rfl kK) ?_
  show OwnFin p e below _ (T1.setTop (mkF m 5 #[.val (.ref a), .val (.ref u0), .val (.ref u1), .val (.ref u2), .val (.ref u3), .val (.int u4), .val (.ref u5), .val (.ref u6), .val (.ref u7), .val (.ref u8)] [(.ref a)]))
  refine OwnFin.step (fun tT kK => XS.aloadN X1.here hx rfl (hb hby d_prog_9_method_1_5) rfl rfl kK) ?_
  show OwnFin p e below _ (T1.setTop (mkF m 6 #[.val (.ref a), .val (.ref u0), .val (.ref u1), .val (.ref u2), .val (.ref u3), .val (.int u4), .val (.ref u5), .val (.ref u6), .val (.ref u7), .val (.ref u8)] [(.ref u0), (.ref a)]))
  obtain ⟨T2, h2, X2, e2, W2, st2⟩ := putF X1 hx hZ hown (host := "") (Or.inl (hw _ (List.mem_of_getElem? (i := 58) rfl))) Via.refl e1 hp1 hp0 (Or.inr ⟨(hw _ (List.mem_of_getElem? (i := 59) rfl)), rfl, hnm⟩) (hw _ (List.mem_of_getElem? (i := 47) rfl)) (ty := (.object "java/lang/String")) (by decide) rfl rfl (g := (mkF m 6 #[.val (.ref a), .val (.ref u0), .val (.ref u1), .val (.ref u2), .val (.ref u3), .val (.int u4), .val (.ref u5), .val (.ref u6), .val (.ref u7), .val (.ref u8)] [(.ref u0), (.ref a)])) rfl rfl (hb hby d_prog_9_method_1_6)
  refine OwnFin.step st2 ?_
  have N2 := Fr.snoc X2 N1 hp10
  have Fw2 : Fld Z h2 a "com/example/myna/myna/delivery/Attempt" "deliveryId" "Ljava/lang/String;" (.ref u0) := hp1.same W2
  show OwnFin p e below _ (T2.setTop (mkF m 9 #[.val (.ref a), .val (.ref u0), .val (.ref u1), .val (.ref u2), .val (.ref u3), .val (.int u4), .val (.ref u5), .val (.ref u6), .val (.ref u7), .val (.ref u8)] []))
  refine OwnFin.step (fun tT kK => XS.aloadN X2.here hx rfl (hb hby d_prog_9_method_1_9) rfl rfl kK) ?_
  show OwnFin p e below _ (T2.setTop (mkF m 10 #[.val (.ref a), .val (.ref u0), .val (.ref u1), .val (.ref u2), .val (.ref u3), .val (.int u4), .val (.ref u5), .val (.ref u6), .val (.ref u7), .val (.ref u8)] [(.ref a)]))
  refine OwnFin.step (fun tT kK => XS.aloadN X2.here hx rfl (hb hby d_prog_9_method_1_10) rfl rfl kK) ?_
  show OwnFin p e below _ (T2.setTop (mkF m 11 #[.val (.ref a), .val (.ref u0), .val (.ref u1), .val (.ref u2), .val (.ref u3), .val (.int u4), .val (.ref u5), .val (.ref u6), .val (.ref u7), .val (.ref u8)] [(.ref u1), (.ref a)]))
  have f3 : Exa Z h2 a "com/example/myna/myna/delivery/Attempt" := (hp0.wr W2)
  have f4 : Fld Z h2 a "com/example/myna/myna/delivery/Attempt" "tenant" "Ljava/lang/String;" .null := (hp2.other W2 (Or.inr (slot_ne (Or.inr (hw _ (List.mem_of_getElem? (i := 61) rfl))) (Or.inr (hw _ (List.mem_of_getElem? (i := 59) rfl))) (by decide) (t := (.object "java/lang/String")) (t' := (.object "java/lang/String")) (by decide) (by decide))))
  obtain ⟨T5, h5, X5, e5, W5, st5⟩ := putF X2 hx hZ hown (host := "") (Or.inl (hw _ (List.mem_of_getElem? (i := 60) rfl))) Via.refl e2 f4 f3 (Or.inr ⟨(hw _ (List.mem_of_getElem? (i := 61) rfl)), rfl, hnm⟩) (hw _ (List.mem_of_getElem? (i := 47) rfl)) (ty := (.object "java/lang/String")) (by decide) rfl rfl (g := (mkF m 11 #[.val (.ref a), .val (.ref u0), .val (.ref u1), .val (.ref u2), .val (.ref u3), .val (.int u4), .val (.ref u5), .val (.ref u6), .val (.ref u7), .val (.ref u8)] [(.ref u1), (.ref a)])) rfl rfl (hb hby d_prog_9_method_1_11)
  refine OwnFin.step st5 ?_
  have N5 := Fr.snoc X5 N2 hp10
  have Fw5 : Fld Z h5 a "com/example/myna/myna/delivery/Attempt" "tenant" "Ljava/lang/String;" (.ref u1) := f4.same W5
  show OwnFin p e below _ (T5.setTop (mkF m 14 #[.val (.ref a), .val (.ref u0), .val (.ref u1), .val (.ref u2), .val (.ref u3), .val (.int u4), .val (.ref u5), .val (.ref u6), .val (.ref u7), .val (.ref u8)] []))
  refine OwnFin.step (fun tT kK => XS.aloadN X5.here hx rfl (hb hby d_prog_9_method_1_14) rfl rfl kK) ?_
  show OwnFin p e below _ (T5.setTop (mkF m 15 #[.val (.ref a), .val (.ref u0), .val (.ref u1), .val (.ref u2), .val (.ref u3), .val (.int u4), .val (.ref u5), .val (.ref u6), .val (.ref u7), .val (.ref u8)] [(.ref a)]))
  refine OwnFin.step (fun tT kK => XS.aloadN X5.here hx rfl (hb hby d_prog_9_method_1_15) rfl rfl kK) ?_
  show OwnFin p e below _ (T5.setTop (mkF m 16 #[.val (.ref a), .val (.ref u0), .val (.ref u1), .val (.ref u2), .val (.ref u3), .val (.int u4), .val (.ref u5), .val (.ref u6), .val (.ref u7), .val (.ref u8)] [(.ref u2), (.ref a)]))
  have f6 : Exa Z h5 a "com/example/myna/myna/delivery/Attempt" := (f3.wr W5)
  have f7 : Fld Z h5 a "com/example/myna/myna/delivery/Attempt" "eventId" "Ljava/lang/String;" .null := ((hp3.other W2 (Or.inr (slot_ne (Or.inr (hw _ (List.mem_of_getElem? (i := 63) rfl))) (Or.inr (hw _ (List.mem_of_getElem? (i := 59) rfl))) (by decide) (t := (.object "java/lang/String")) (t' := (.object "java/lang/String")) (by decide) (by decide)))).other W5 (Or.inr (slot_ne (Or.inr (hw _ (List.mem_of_getElem? (i := 63) rfl))) (Or.inr (hw _ (List.mem_of_getElem? (i := 61) rfl))) (by decide) (t := (.object "java/lang/String")) (t' := (.object "java/lang/String")) (by decide) (by decide))))
  obtain ⟨T8, h8, X8, e8, W8, st8⟩ := putF X5 hx hZ hown (host := "") (Or.inl (hw _ (List.mem_of_getElem? (i := 62) rfl))) Via.refl e5 f7 f6 (Or.inr ⟨(hw _ (List.mem_of_getElem? (i := 63) rfl)), rfl, hnm⟩) (hw _ (List.mem_of_getElem? (i := 47) rfl)) (ty := (.object "java/lang/String")) (by decide) rfl rfl (g := (mkF m 16 #[.val (.ref a), .val (.ref u0), .val (.ref u1), .val (.ref u2), .val (.ref u3), .val (.int u4), .val (.ref u5), .val (.ref u6), .val (.ref u7), .val (.ref u8)] [(.ref u2), (.ref a)])) rfl rfl (hb hby d_prog_9_method_1_16)
  refine OwnFin.step st8 ?_
  have N8 := Fr.snoc X8 N5 hp10
  have Fw8 : Fld Z h8 a "com/example/myna/myna/delivery/Attempt" "eventId" "Ljava/lang/String;" (.ref u2) := f7.same W8
  show OwnFin p e below _ (T8.setTop (mkF m 19 #[.val (.ref a), .val (.ref u0), .val (.ref u1), .val (.ref u2), .val (.ref u3), .val (.int u4), .val (.ref u5), .val (.ref u6), .val (.ref u7), .val (.ref u8)] []))
  refine OwnFin.step (fun tT kK => XS.aloadN X8.here hx rfl (hb hby d_prog_9_method_1_19) rfl rfl kK) ?_
  show OwnFin p e below _ (T8.setTop (mkF m 20 #[.val (.ref a), .val (.ref u0), .val (.ref u1), .val (.ref u2), .val (.ref u3), .val (.int u4), .val (.ref u5), .val (.ref u6), .val (.ref u7), .val (.ref u8)] [(.ref a)]))
  refine OwnFin.step (fun tT kK => XS.aload X8.here hx rfl (hb hby d_prog_9_method_1_20) rfl rfl kK) ?_
  show OwnFin p e below _ (T8.setTop (mkF m 22 #[.val (.ref a), .val (.ref u0), .val (.ref u1), .val (.ref u2), .val (.ref u3), .val (.int u4), .val (.ref u5), .val (.ref u6), .val (.ref u7), .val (.ref u8)] [(.ref u3), (.ref a)]))
  have f9 : Exa Z h8 a "com/example/myna/myna/delivery/Attempt" := (f6.wr W8)
  have f10 : Fld Z h8 a "com/example/myna/myna/delivery/Attempt" "endpointId" "Ljava/lang/String;" .null := (((hp4.other W2 (Or.inr (slot_ne (Or.inr (hw _ (List.mem_of_getElem? (i := 65) rfl))) (Or.inr (hw _ (List.mem_of_getElem? (i := 59) rfl))) (by decide) (t := (.object "java/lang/String")) (t' := (.object "java/lang/String")) (by decide) (by decide)))).other W5 (Or.inr (slot_ne (Or.inr (hw _ (List.mem_of_getElem? (i := 65) rfl))) (Or.inr (hw _ (List.mem_of_getElem? (i := 61) rfl))) (by decide) (t := (.object "java/lang/String")) (t' := (.object "java/lang/String")) (by decide) (by decide)))).other W8 (Or.inr (slot_ne (Or.inr (hw _ (List.mem_of_getElem? (i := 65) rfl))) (Or.inr (hw _ (List.mem_of_getElem? (i := 63) rfl))) (by decide) (t := (.object "java/lang/String")) (t' := (.object "java/lang/String")) (by decide) (by decide))))
  obtain ⟨T11, h11, X11, e11, W11, st11⟩ := putF X8 hx hZ hown (host := "") (Or.inl (hw _ (List.mem_of_getElem? (i := 64) rfl))) Via.refl e8 f10 f9 (Or.inr ⟨(hw _ (List.mem_of_getElem? (i := 65) rfl)), rfl, hnm⟩) (hw _ (List.mem_of_getElem? (i := 47) rfl)) (ty := (.object "java/lang/String")) (by decide) rfl rfl (g := (mkF m 22 #[.val (.ref a), .val (.ref u0), .val (.ref u1), .val (.ref u2), .val (.ref u3), .val (.int u4), .val (.ref u5), .val (.ref u6), .val (.ref u7), .val (.ref u8)] [(.ref u3), (.ref a)])) rfl rfl (hb hby d_prog_9_method_1_22)
  refine OwnFin.step st11 ?_
  have N11 := Fr.snoc X11 N8 hp10
  have Fw11 : Fld Z h11 a "com/example/myna/myna/delivery/Attempt" "endpointId" "Ljava/lang/String;" (.ref u3) := f10.same W11
  show OwnFin p e below _ (T11.setTop (mkF m 25 #[.val (.ref a), .val (.ref u0), .val (.ref u1), .val (.ref u2), .val (.ref u3), .val (.int u4), .val (.ref u5), .val (.ref u6), .val (.ref u7), .val (.ref u8)] []))
  refine OwnFin.step (fun tT kK => XS.aloadN X11.here hx rfl (hb hby d_prog_9_method_1_25) rfl rfl kK) ?_
  show OwnFin p e below _ (T11.setTop (mkF m 26 #[.val (.ref a), .val (.ref u0), .val (.ref u1), .val (.ref u2), .val (.ref u3), .val (.int u4), .val (.ref u5), .val (.ref u6), .val (.ref u7), .val (.ref u8)] [(.ref a)]))
  refine OwnFin.step (fun tT kK => XS.iload X11.here hx rfl (hb hby d_prog_9_method_1_26) rfl kK) ?_
  show OwnFin p e below _ (T11.setTop (mkF m 28 #[.val (.ref a), .val (.ref u0), .val (.ref u1), .val (.ref u2), .val (.ref u3), .val (.int u4), .val (.ref u5), .val (.ref u6), .val (.ref u7), .val (.ref u8)] [(.int u4), (.ref a)]))
  have f12 : Exa Z h11 a "com/example/myna/myna/delivery/Attempt" := (f9.wr W11)
  have f13 : Fld Z h11 a "com/example/myna/myna/delivery/Attempt" "number" "I" (.int (0 : Int32)) := ((((hp5.other W2 (Or.inr (slot_ne (Or.inr (hw _ (List.mem_of_getElem? (i := 67) rfl))) (Or.inr (hw _ (List.mem_of_getElem? (i := 59) rfl))) (by decide) (t := .int) (t' := (.object "java/lang/String")) (by decide) (by decide)))).other W5 (Or.inr (slot_ne (Or.inr (hw _ (List.mem_of_getElem? (i := 67) rfl))) (Or.inr (hw _ (List.mem_of_getElem? (i := 61) rfl))) (by decide) (t := .int) (t' := (.object "java/lang/String")) (by decide) (by decide)))).other W8 (Or.inr (slot_ne (Or.inr (hw _ (List.mem_of_getElem? (i := 67) rfl))) (Or.inr (hw _ (List.mem_of_getElem? (i := 63) rfl))) (by decide) (t := .int) (t' := (.object "java/lang/String")) (by decide) (by decide)))).other W11 (Or.inr (slot_ne (Or.inr (hw _ (List.mem_of_getElem? (i := 67) rfl))) (Or.inr (hw _ (List.mem_of_getElem? (i := 65) rfl))) (by decide) (t := .int) (t' := (.object "java/lang/String")) (by decide) (by decide))))
  obtain ⟨T14, h14, X14, e14, W14, st14⟩ := putF X11 hx hZ hown (host := "") (Or.inl (hw _ (List.mem_of_getElem? (i := 66) rfl))) Via.refl e11 f13 f12 (Or.inr ⟨(hw _ (List.mem_of_getElem? (i := 67) rfl)), rfl, hnm⟩) (hw _ (List.mem_of_getElem? (i := 47) rfl)) (ty := .int) (by decide) rfl rfl (g := (mkF m 28 #[.val (.ref a), .val (.ref u0), .val (.ref u1), .val (.ref u2), .val (.ref u3), .val (.int u4), .val (.ref u5), .val (.ref u6), .val (.ref u7), .val (.ref u8)] [(.int u4), (.ref a)])) rfl rfl (hb hby d_prog_9_method_1_28)
  refine OwnFin.step st14 ?_
  have N14 := Fr.snoc X14 N11 hp10
  have Fw14 : Fld Z h14 a "com/example/myna/myna/delivery/Attempt" "number" "I" (.int u4) := f13.same W14
  show OwnFin p e below _ (T14.setTop (mkF m 31 #[.val (.ref a), .val (.ref u0), .val (.ref u1), .val (.ref u2), .val (.ref u3), .val (.int u4), .val (.ref u5), .val (.ref u6), .val (.ref u7), .val (.ref u8)] []))
  refine OwnFin.step (fun tT kK => XS.aloadN X14.here hx rfl (hb hby d_prog_9_method_1_31) rfl rfl kK) ?_
  show OwnFin p e below _ (T14.setTop (mkF m 32 #[.val (.ref a), .val (.ref u0), .val (.ref u1), .val (.ref u2), .val (.ref u3), .val (.int u4), .val (.ref u5), .val (.ref u6), .val (.ref u7), .val (.ref u8)] [(.ref a)]))
  refine OwnFin.step (fun tT kK => XS.aload X14.here hx rfl (hb hby d_prog_9_method_1_32) rfl rfl kK) ?_
  show OwnFin p e below _ (T14.setTop (mkF m 34 #[.val (.ref a), .val (.ref u0), .val (.ref u1), .val (.ref u2), .val (.ref u3), .val (.int u4), .val (.ref u5), .val (.ref u6), .val (.ref u7), .val (.ref u8)] [(.ref u5), (.ref a)]))
  have f15 : Exa Z h14 a "com/example/myna/myna/delivery/Attempt" := (f12.wr W14)
  have f16 : Fld Z h14 a "com/example/myna/myna/delivery/Attempt" "status" "Lcom/example/myna/myna/delivery/Status;" .null := (((((hp6.other W2 (Or.inr (slot_ne (Or.inr (hw _ (List.mem_of_getElem? (i := 69) rfl))) (Or.inr (hw _ (List.mem_of_getElem? (i := 59) rfl))) (by decide) (t := (.object "com/example/myna/myna/delivery/Status")) (t' := (.object "java/lang/String")) (by decide) (by decide)))).other W5 (Or.inr (slot_ne (Or.inr (hw _ (List.mem_of_getElem? (i := 69) rfl))) (Or.inr (hw _ (List.mem_of_getElem? (i := 61) rfl))) (by decide) (t := (.object "com/example/myna/myna/delivery/Status")) (t' := (.object "java/lang/String")) (by decide) (by decide)))).other W8 (Or.inr (slot_ne (Or.inr (hw _ (List.mem_of_getElem? (i := 69) rfl))) (Or.inr (hw _ (List.mem_of_getElem? (i := 63) rfl))) (by decide) (t := (.object "com/example/myna/myna/delivery/Status")) (t' := (.object "java/lang/String")) (by decide) (by decide)))).other W11 (Or.inr (slot_ne (Or.inr (hw _ (List.mem_of_getElem? (i := 69) rfl))) (Or.inr (hw _ (List.mem_of_getElem? (i := 65) rfl))) (by decide) (t := (.object "com/example/myna/myna/delivery/Status")) (t' := (.object "java/lang/String")) (by decide) (by decide)))).other W14 (Or.inr (slot_ne (Or.inr (hw _ (List.mem_of_getElem? (i := 69) rfl))) (Or.inr (hw _ (List.mem_of_getElem? (i := 67) rfl))) (by decide) (t := (.object "com/example/myna/myna/delivery/Status")) (t' := .int) (by decide) (by decide))))
  obtain ⟨T17, h17, X17, e17, W17, st17⟩ := putF X14 hx hZ hown (host := "") (Or.inl (hw _ (List.mem_of_getElem? (i := 68) rfl))) Via.refl e14 f16 f15 (Or.inr ⟨(hw _ (List.mem_of_getElem? (i := 69) rfl)), rfl, hnm⟩) (hw _ (List.mem_of_getElem? (i := 47) rfl)) (ty := (.object "com/example/myna/myna/delivery/Status")) (by decide) rfl rfl (g := (mkF m 34 #[.val (.ref a), .val (.ref u0), .val (.ref u1), .val (.ref u2), .val (.ref u3), .val (.int u4), .val (.ref u5), .val (.ref u6), .val (.ref u7), .val (.ref u8)] [(.ref u5), (.ref a)])) rfl rfl (hb hby d_prog_9_method_1_34)
  refine OwnFin.step st17 ?_
  have N17 := Fr.snoc X17 N14 hp10
  have Fw17 : Fld Z h17 a "com/example/myna/myna/delivery/Attempt" "status" "Lcom/example/myna/myna/delivery/Status;" (.ref u5) := f16.same W17
  show OwnFin p e below _ (T17.setTop (mkF m 37 #[.val (.ref a), .val (.ref u0), .val (.ref u1), .val (.ref u2), .val (.ref u3), .val (.int u4), .val (.ref u5), .val (.ref u6), .val (.ref u7), .val (.ref u8)] []))
  refine OwnFin.step (fun tT kK => XS.aloadN X17.here hx rfl (hb hby d_prog_9_method_1_37) rfl rfl kK) ?_
  show OwnFin p e below _ (T17.setTop (mkF m 38 #[.val (.ref a), .val (.ref u0), .val (.ref u1), .val (.ref u2), .val (.ref u3), .val (.int u4), .val (.ref u5), .val (.ref u6), .val (.ref u7), .val (.ref u8)] [(.ref a)]))
  refine OwnFin.step (fun tT kK => XS.aload X17.here hx rfl (hb hby d_prog_9_method_1_38) rfl rfl kK) ?_
  show OwnFin p e below _ (T17.setTop (mkF m 40 #[.val (.ref a), .val (.ref u0), .val (.ref u1), .val (.ref u2), .val (.ref u3), .val (.int u4), .val (.ref u5), .val (.ref u6), .val (.ref u7), .val (.ref u8)] [(.ref u6), (.ref a)]))
  have f18 : Exa Z h17 a "com/example/myna/myna/delivery/Attempt" := (f15.wr W17)
  have f19 : Fld Z h17 a "com/example/myna/myna/delivery/Attempt" "url" "Ljava/lang/String;" .null := ((((((hp7.other W2 (Or.inr (slot_ne (Or.inr (hw _ (List.mem_of_getElem? (i := 71) rfl))) (Or.inr (hw _ (List.mem_of_getElem? (i := 59) rfl))) (by decide) (t := (.object "java/lang/String")) (t' := (.object "java/lang/String")) (by decide) (by decide)))).other W5 (Or.inr (slot_ne (Or.inr (hw _ (List.mem_of_getElem? (i := 71) rfl))) (Or.inr (hw _ (List.mem_of_getElem? (i := 61) rfl))) (by decide) (t := (.object "java/lang/String")) (t' := (.object "java/lang/String")) (by decide) (by decide)))).other W8 (Or.inr (slot_ne (Or.inr (hw _ (List.mem_of_getElem? (i := 71) rfl))) (Or.inr (hw _ (List.mem_of_getElem? (i := 63) rfl))) (by decide) (t := (.object "java/lang/String")) (t' := (.object "java/lang/String")) (by decide) (by decide)))).other W11 (Or.inr (slot_ne (Or.inr (hw _ (List.mem_of_getElem? (i := 71) rfl))) (Or.inr (hw _ (List.mem_of_getElem? (i := 65) rfl))) (by decide) (t := (.object "java/lang/String")) (t' := (.object "java/lang/String")) (by decide) (by decide)))).other W14 (Or.inr (slot_ne (Or.inr (hw _ (List.mem_of_getElem? (i := 71) rfl))) (Or.inr (hw _ (List.mem_of_getElem? (i := 67) rfl))) (by decide) (t := (.object "java/lang/String")) (t' := .int) (by decide) (by decide)))).other W17 (Or.inr (slot_ne (Or.inr (hw _ (List.mem_of_getElem? (i := 71) rfl))) (Or.inr (hw _ (List.mem_of_getElem? (i := 69) rfl))) (by decide) (t := (.object "java/lang/String")) (t' := (.object "com/example/myna/myna/delivery/Status")) (by decide) (by decide))))
  obtain ⟨T20, h20, X20, e20, W20, st20⟩ := putF X17 hx hZ hown (host := "") (Or.inl (hw _ (List.mem_of_getElem? (i := 70) rfl))) Via.refl e17 f19 f18 (Or.inr ⟨(hw _ (List.mem_of_getElem? (i := 71) rfl)), rfl, hnm⟩) (hw _ (List.mem_of_getElem? (i := 47) rfl)) (ty := (.object "java/lang/String")) (by decide) rfl rfl (g := (mkF m 40 #[.val (.ref a), .val (.ref u0), .val (.ref u1), .val (.ref u2), .val (.ref u3), .val (.int u4), .val (.ref u5), .val (.ref u6), .val (.ref u7), .val (.ref u8)] [(.ref u6), (.ref a)])) rfl rfl (hb hby d_prog_9_method_1_40)
  refine OwnFin.step st20 ?_
  have N20 := Fr.snoc X20 N17 hp10
  have Fw20 : Fld Z h20 a "com/example/myna/myna/delivery/Attempt" "url" "Ljava/lang/String;" (.ref u6) := f19.same W20
  show OwnFin p e below _ (T20.setTop (mkF m 43 #[.val (.ref a), .val (.ref u0), .val (.ref u1), .val (.ref u2), .val (.ref u3), .val (.int u4), .val (.ref u5), .val (.ref u6), .val (.ref u7), .val (.ref u8)] []))
  refine OwnFin.step (fun tT kK => XS.aloadN X20.here hx rfl (hb hby d_prog_9_method_1_43) rfl rfl kK) ?_
  show OwnFin p e below _ (T20.setTop (mkF m 44 #[.val (.ref a), .val (.ref u0), .val (.ref u1), .val (.ref u2), .val (.ref u3), .val (.int u4), .val (.ref u5), .val (.ref u6), .val (.ref u7), .val (.ref u8)] [(.ref a)]))
  refine OwnFin.step (fun tT kK => XS.aload X20.here hx rfl (hb hby d_prog_9_method_1_44) rfl rfl kK) ?_
  show OwnFin p e below _ (T20.setTop (mkF m 46 #[.val (.ref a), .val (.ref u0), .val (.ref u1), .val (.ref u2), .val (.ref u3), .val (.int u4), .val (.ref u5), .val (.ref u6), .val (.ref u7), .val (.ref u8)] [(.ref u7), (.ref a)]))
  have f21 : Exa Z h20 a "com/example/myna/myna/delivery/Attempt" := (f18.wr W20)
  have f22 : Fld Z h20 a "com/example/myna/myna/delivery/Attempt" "secret" "Ljava/lang/String;" .null := (((((((hp8.other W2 (Or.inr (slot_ne (Or.inr (hw _ (List.mem_of_getElem? (i := 73) rfl))) (Or.inr (hw _ (List.mem_of_getElem? (i := 59) rfl))) (by decide) (t := (.object "java/lang/String")) (t' := (.object "java/lang/String")) (by decide) (by decide)))).other W5 (Or.inr (slot_ne (Or.inr (hw _ (List.mem_of_getElem? (i := 73) rfl))) (Or.inr (hw _ (List.mem_of_getElem? (i := 61) rfl))) (by decide) (t := (.object "java/lang/String")) (t' := (.object "java/lang/String")) (by decide) (by decide)))).other W8 (Or.inr (slot_ne (Or.inr (hw _ (List.mem_of_getElem? (i := 73) rfl))) (Or.inr (hw _ (List.mem_of_getElem? (i := 63) rfl))) (by decide) (t := (.object "java/lang/String")) (t' := (.object "java/lang/String")) (by decide) (by decide)))).other W11 (Or.inr (slot_ne (Or.inr (hw _ (List.mem_of_getElem? (i := 73) rfl))) (Or.inr (hw _ (List.mem_of_getElem? (i := 65) rfl))) (by decide) (t := (.object "java/lang/String")) (t' := (.object "java/lang/String")) (by decide) (by decide)))).other W14 (Or.inr (slot_ne (Or.inr (hw _ (List.mem_of_getElem? (i := 73) rfl))) (Or.inr (hw _ (List.mem_of_getElem? (i := 67) rfl))) (by decide) (t := (.object "java/lang/String")) (t' := .int) (by decide) (by decide)))).other W17 (Or.inr (slot_ne (Or.inr (hw _ (List.mem_of_getElem? (i := 73) rfl))) (Or.inr (hw _ (List.mem_of_getElem? (i := 69) rfl))) (by decide) (t := (.object "java/lang/String")) (t' := (.object "com/example/myna/myna/delivery/Status")) (by decide) (by decide)))).other W20 (Or.inr (slot_ne (Or.inr (hw _ (List.mem_of_getElem? (i := 73) rfl))) (Or.inr (hw _ (List.mem_of_getElem? (i := 71) rfl))) (by decide) (t := (.object "java/lang/String")) (t' := (.object "java/lang/String")) (by decide) (by decide))))
  obtain ⟨T23, h23, X23, e23, W23, st23⟩ := putF X20 hx hZ hown (host := "") (Or.inl (hw _ (List.mem_of_getElem? (i := 72) rfl))) Via.refl e20 f22 f21 (Or.inr ⟨(hw _ (List.mem_of_getElem? (i := 73) rfl)), rfl, hnm⟩) (hw _ (List.mem_of_getElem? (i := 47) rfl)) (ty := (.object "java/lang/String")) (by decide) rfl rfl (g := (mkF m 46 #[.val (.ref a), .val (.ref u0), .val (.ref u1), .val (.ref u2), .val (.ref u3), .val (.int u4), .val (.ref u5), .val (.ref u6), .val (.ref u7), .val (.ref u8)] [(.ref u7), (.ref a)])) rfl rfl (hb hby d_prog_9_method_1_46)
  refine OwnFin.step st23 ?_
  have N23 := Fr.snoc X23 N20 hp10
  have Fw23 : Fld Z h23 a "com/example/myna/myna/delivery/Attempt" "secret" "Ljava/lang/String;" (.ref u7) := f22.same W23
  show OwnFin p e below _ (T23.setTop (mkF m 49 #[.val (.ref a), .val (.ref u0), .val (.ref u1), .val (.ref u2), .val (.ref u3), .val (.int u4), .val (.ref u5), .val (.ref u6), .val (.ref u7), .val (.ref u8)] []))
  refine OwnFin.step (fun tT kK => XS.aloadN X23.here hx rfl (hb hby d_prog_9_method_1_49) rfl rfl kK) ?_
  show OwnFin p e below _ (T23.setTop (mkF m 50 #[.val (.ref a), .val (.ref u0), .val (.ref u1), .val (.ref u2), .val (.ref u3), .val (.int u4), .val (.ref u5), .val (.ref u6), .val (.ref u7), .val (.ref u8)] [(.ref a)]))
  refine OwnFin.step (fun tT kK => XS.aload X23.here hx rfl (hb hby d_prog_9_method_1_50) rfl rfl kK) ?_
  show OwnFin p e below _ (T23.setTop (mkF m 52 #[.val (.ref a), .val (.ref u0), .val (.ref u1), .val (.ref u2), .val (.ref u3), .val (.int u4), .val (.ref u5), .val (.ref u6), .val (.ref u7), .val (.ref u8)] [(.ref u8), (.ref a)]))
  have f24 : Exa Z h23 a "com/example/myna/myna/delivery/Attempt" := (f21.wr W23)
  have f25 : Fld Z h23 a "com/example/myna/myna/delivery/Attempt" "body" "[B" .null := ((((((((hp9.other W2 (Or.inr (slot_ne (Or.inr (hw _ (List.mem_of_getElem? (i := 75) rfl))) (Or.inr (hw _ (List.mem_of_getElem? (i := 59) rfl))) (by decide) (t := (.array .byte)) (t' := (.object "java/lang/String")) (by decide) (by decide)))).other W5 (Or.inr (slot_ne (Or.inr (hw _ (List.mem_of_getElem? (i := 75) rfl))) (Or.inr (hw _ (List.mem_of_getElem? (i := 61) rfl))) (by decide) (t := (.array .byte)) (t' := (.object "java/lang/String")) (by decide) (by decide)))).other W8 (Or.inr (slot_ne (Or.inr (hw _ (List.mem_of_getElem? (i := 75) rfl))) (Or.inr (hw _ (List.mem_of_getElem? (i := 63) rfl))) (by decide) (t := (.array .byte)) (t' := (.object "java/lang/String")) (by decide) (by decide)))).other W11 (Or.inr (slot_ne (Or.inr (hw _ (List.mem_of_getElem? (i := 75) rfl))) (Or.inr (hw _ (List.mem_of_getElem? (i := 65) rfl))) (by decide) (t := (.array .byte)) (t' := (.object "java/lang/String")) (by decide) (by decide)))).other W14 (Or.inr (slot_ne (Or.inr (hw _ (List.mem_of_getElem? (i := 75) rfl))) (Or.inr (hw _ (List.mem_of_getElem? (i := 67) rfl))) (by decide) (t := (.array .byte)) (t' := .int) (by decide) (by decide)))).other W17 (Or.inr (slot_ne (Or.inr (hw _ (List.mem_of_getElem? (i := 75) rfl))) (Or.inr (hw _ (List.mem_of_getElem? (i := 69) rfl))) (by decide) (t := (.array .byte)) (t' := (.object "com/example/myna/myna/delivery/Status")) (by decide) (by decide)))).other W20 (Or.inr (slot_ne (Or.inr (hw _ (List.mem_of_getElem? (i := 75) rfl))) (Or.inr (hw _ (List.mem_of_getElem? (i := 71) rfl))) (by decide) (t := (.array .byte)) (t' := (.object "java/lang/String")) (by decide) (by decide)))).other W23 (Or.inr (slot_ne (Or.inr (hw _ (List.mem_of_getElem? (i := 75) rfl))) (Or.inr (hw _ (List.mem_of_getElem? (i := 73) rfl))) (by decide) (t := (.array .byte)) (t' := (.object "java/lang/String")) (by decide) (by decide))))
  obtain ⟨T26, h26, X26, e26, W26, st26⟩ := putF X23 hx hZ hown (host := "") (Or.inl (hw _ (List.mem_of_getElem? (i := 74) rfl))) Via.refl e23 f25 f24 (Or.inr ⟨(hw _ (List.mem_of_getElem? (i := 75) rfl)), rfl, hnm⟩) (hw _ (List.mem_of_getElem? (i := 47) rfl)) (ty := (.array .byte)) (by decide) rfl rfl (g := (mkF m 52 #[.val (.ref a), .val (.ref u0), .val (.ref u1), .val (.ref u2), .val (.ref u3), .val (.int u4), .val (.ref u5), .val (.ref u6), .val (.ref u7), .val (.ref u8)] [(.ref u8), (.ref a)])) rfl rfl (hb hby d_prog_9_method_1_52)
  refine OwnFin.step st26 ?_
  have N26 := Fr.snoc X26 N23 hp10
  have Fw26 : Fld Z h26 a "com/example/myna/myna/delivery/Attempt" "body" "[B" (.ref u8) := f25.same W26
  show OwnFin p e below _ (T26.setTop (mkF m 55 #[.val (.ref a), .val (.ref u0), .val (.ref u1), .val (.ref u2), .val (.ref u3), .val (.int u4), .val (.ref u5), .val (.ref u6), .val (.ref u7), .val (.ref u8)] []))
  have f28 : Exa Z h26 a "com/example/myna/myna/delivery/Attempt" := (f24.wr W26)
  have f29 : Fld Z h26 a "com/example/myna/myna/delivery/Attempt" "deliveryId" "Ljava/lang/String;" (.ref u0) := ((((((((Fw2.other W5 (Or.inr (slot_ne (Or.inr (hw _ (List.mem_of_getElem? (i := 59) rfl))) (Or.inr (hw _ (List.mem_of_getElem? (i := 61) rfl))) (by decide) (t := (.object "java/lang/String")) (t' := (.object "java/lang/String")) (by decide) (by decide)))).other W8 (Or.inr (slot_ne (Or.inr (hw _ (List.mem_of_getElem? (i := 59) rfl))) (Or.inr (hw _ (List.mem_of_getElem? (i := 63) rfl))) (by decide) (t := (.object "java/lang/String")) (t' := (.object "java/lang/String")) (by decide) (by decide)))).other W11 (Or.inr (slot_ne (Or.inr (hw _ (List.mem_of_getElem? (i := 59) rfl))) (Or.inr (hw _ (List.mem_of_getElem? (i := 65) rfl))) (by decide) (t := (.object "java/lang/String")) (t' := (.object "java/lang/String")) (by decide) (by decide)))).other W14 (Or.inr (slot_ne (Or.inr (hw _ (List.mem_of_getElem? (i := 59) rfl))) (Or.inr (hw _ (List.mem_of_getElem? (i := 67) rfl))) (by decide) (t := (.object "java/lang/String")) (t' := .int) (by decide) (by decide)))).other W17 (Or.inr (slot_ne (Or.inr (hw _ (List.mem_of_getElem? (i := 59) rfl))) (Or.inr (hw _ (List.mem_of_getElem? (i := 69) rfl))) (by decide) (t := (.object "java/lang/String")) (t' := (.object "com/example/myna/myna/delivery/Status")) (by decide) (by decide)))).other W20 (Or.inr (slot_ne (Or.inr (hw _ (List.mem_of_getElem? (i := 59) rfl))) (Or.inr (hw _ (List.mem_of_getElem? (i := 71) rfl))) (by decide) (t := (.object "java/lang/String")) (t' := (.object "java/lang/String")) (by decide) (by decide)))).other W23 (Or.inr (slot_ne (Or.inr (hw _ (List.mem_of_getElem? (i := 59) rfl))) (Or.inr (hw _ (List.mem_of_getElem? (i := 73) rfl))) (by decide) (t := (.object "java/lang/String")) (t' := (.object "java/lang/String")) (by decide) (by decide)))).other W26 (Or.inr (slot_ne (Or.inr (hw _ (List.mem_of_getElem? (i := 59) rfl))) (Or.inr (hw _ (List.mem_of_getElem? (i := 75) rfl))) (by decide) (t := (.object "java/lang/String")) (t' := (.array .byte)) (by decide) (by decide))))
  have f30 : Fld Z h26 a "com/example/myna/myna/delivery/Attempt" "tenant" "Ljava/lang/String;" (.ref u1) := (((((((Fw5.other W8 (Or.inr (slot_ne (Or.inr (hw _ (List.mem_of_getElem? (i := 61) rfl))) (Or.inr (hw _ (List.mem_of_getElem? (i := 63) rfl))) (by decide) (t := (.object "java/lang/String")) (t' := (.object "java/lang/String")) (by decide) (by decide)))).other W11 (Or.inr (slot_ne (Or.inr (hw _ (List.mem_of_getElem? (i := 61) rfl))) (Or.inr (hw _ (List.mem_of_getElem? (i := 65) rfl))) (by decide) (t := (.object "java/lang/String")) (t' := (.object "java/lang/String")) (by decide) (by decide)))).other W14 (Or.inr (slot_ne (Or.inr (hw _ (List.mem_of_getElem? (i := 61) rfl))) (Or.inr (hw _ (List.mem_of_getElem? (i := 67) rfl))) (by decide) (t := (.object "java/lang/String")) (t' := .int) (by decide) (by decide)))).other W17 (Or.inr (slot_ne (Or.inr (hw _ (List.mem_of_getElem? (i := 61) rfl))) (Or.inr (hw _ (List.mem_of_getElem? (i := 69) rfl))) (by decide) (t := (.object "java/lang/String")) (t' := (.object "com/example/myna/myna/delivery/Status")) (by decide) (by decide)))).other W20 (Or.inr (slot_ne (Or.inr (hw _ (List.mem_of_getElem? (i := 61) rfl))) (Or.inr (hw _ (List.mem_of_getElem? (i := 71) rfl))) (by decide) (t := (.object "java/lang/String")) (t' := (.object "java/lang/String")) (by decide) (by decide)))).other W23 (Or.inr (slot_ne (Or.inr (hw _ (List.mem_of_getElem? (i := 61) rfl))) (Or.inr (hw _ (List.mem_of_getElem? (i := 73) rfl))) (by decide) (t := (.object "java/lang/String")) (t' := (.object "java/lang/String")) (by decide) (by decide)))).other W26 (Or.inr (slot_ne (Or.inr (hw _ (List.mem_of_getElem? (i := 61) rfl))) (Or.inr (hw _ (List.mem_of_getElem? (i := 75) rfl))) (by decide) (t := (.object "java/lang/String")) (t' := (.array .byte)) (by decide) (by decide))))
  have f31 : Fld Z h26 a "com/example/myna/myna/delivery/Attempt" "eventId" "Ljava/lang/String;" (.ref u2) := ((((((Fw8.other W11 (Or.inr (slot_ne (Or.inr (hw _ (List.mem_of_getElem? (i := 63) rfl))) (Or.inr (hw _ (List.mem_of_getElem? (i := 65) rfl))) (by decide) (t := (.object "java/lang/String")) (t' := (.object "java/lang/String")) (by decide) (by decide)))).other W14 (Or.inr (slot_ne (Or.inr (hw _ (List.mem_of_getElem? (i := 63) rfl))) (Or.inr (hw _ (List.mem_of_getElem? (i := 67) rfl))) (by decide) (t := (.object "java/lang/String")) (t' := .int) (by decide) (by decide)))).other W17 (Or.inr (slot_ne (Or.inr (hw _ (List.mem_of_getElem? (i := 63) rfl))) (Or.inr (hw _ (List.mem_of_getElem? (i := 69) rfl))) (by decide) (t := (.object "java/lang/String")) (t' := (.object "com/example/myna/myna/delivery/Status")) (by decide) (by decide)))).other W20 (Or.inr (slot_ne (Or.inr (hw _ (List.mem_of_getElem? (i := 63) rfl))) (Or.inr (hw _ (List.mem_of_getElem? (i := 71) rfl))) (by decide) (t := (.object "java/lang/String")) (t' := (.object "java/lang/String")) (by decide) (by decide)))).other W23 (Or.inr (slot_ne (Or.inr (hw _ (List.mem_of_getElem? (i := 63) rfl))) (Or.inr (hw _ (List.mem_of_getElem? (i := 73) rfl))) (by decide) (t := (.object "java/lang/String")) (t' := (.object "java/lang/String")) (by decide) (by decide)))).other W26 (Or.inr (slot_ne (Or.inr (hw _ (List.mem_of_getElem? (i := 63) rfl))) (Or.inr (hw _ (List.mem_of_getElem? (i := 75) rfl))) (by decide) (t := (.object "java/lang/String")) (t' := (.array .byte)) (by decide) (by decide))))
  have f32 : Fld Z h26 a "com/example/myna/myna/delivery/Attempt" "endpointId" "Ljava/lang/String;" (.ref u3) := (((((Fw11.other W14 (Or.inr (slot_ne (Or.inr (hw _ (List.mem_of_getElem? (i := 65) rfl))) (Or.inr (hw _ (List.mem_of_getElem? (i := 67) rfl))) (by decide) (t := (.object "java/lang/String")) (t' := .int) (by decide) (by decide)))).other W17 (Or.inr (slot_ne (Or.inr (hw _ (List.mem_of_getElem? (i := 65) rfl))) (Or.inr (hw _ (List.mem_of_getElem? (i := 69) rfl))) (by decide) (t := (.object "java/lang/String")) (t' := (.object "com/example/myna/myna/delivery/Status")) (by decide) (by decide)))).other W20 (Or.inr (slot_ne (Or.inr (hw _ (List.mem_of_getElem? (i := 65) rfl))) (Or.inr (hw _ (List.mem_of_getElem? (i := 71) rfl))) (by decide) (t := (.object "java/lang/String")) (t' := (.object "java/lang/String")) (by decide) (by decide)))).other W23 (Or.inr (slot_ne (Or.inr (hw _ (List.mem_of_getElem? (i := 65) rfl))) (Or.inr (hw _ (List.mem_of_getElem? (i := 73) rfl))) (by decide) (t := (.object "java/lang/String")) (t' := (.object "java/lang/String")) (by decide) (by decide)))).other W26 (Or.inr (slot_ne (Or.inr (hw _ (List.mem_of_getElem? (i := 65) rfl))) (Or.inr (hw _ (List.mem_of_getElem? (i := 75) rfl))) (by decide) (t := (.object "java/lang/String")) (t' := (.array .byte)) (by decide) (by decide))))
  have f33 : Fld Z h26 a "com/example/myna/myna/delivery/Attempt" "number" "I" (.int u4) := ((((Fw14.other W17 (Or.inr (slot_ne (Or.inr (hw _ (List.mem_of_getElem? (i := 67) rfl))) (Or.inr (hw _ (List.mem_of_getElem? (i := 69) rfl))) (by decide) (t := .int) (t' := (.object "com/example/myna/myna/delivery/Status")) (by decide) (by decide)))).other W20 (Or.inr (slot_ne (Or.inr (hw _ (List.mem_of_getElem? (i := 67) rfl))) (Or.inr (hw _ (List.mem_of_getElem? (i := 71) rfl))) (by decide) (t := .int) (t' := (.object "java/lang/String")) (by decide) (by decide)))).other W23 (Or.inr (slot_ne (Or.inr (hw _ (List.mem_of_getElem? (i := 67) rfl))) (Or.inr (hw _ (List.mem_of_getElem? (i := 73) rfl))) (by decide) (t := .int) (t' := (.object "java/lang/String")) (by decide) (by decide)))).other W26 (Or.inr (slot_ne (Or.inr (hw _ (List.mem_of_getElem? (i := 67) rfl))) (Or.inr (hw _ (List.mem_of_getElem? (i := 75) rfl))) (by decide) (t := .int) (t' := (.array .byte)) (by decide) (by decide))))
  have f34 : Fld Z h26 a "com/example/myna/myna/delivery/Attempt" "status" "Lcom/example/myna/myna/delivery/Status;" (.ref u5) := (((Fw17.other W20 (Or.inr (slot_ne (Or.inr (hw _ (List.mem_of_getElem? (i := 69) rfl))) (Or.inr (hw _ (List.mem_of_getElem? (i := 71) rfl))) (by decide) (t := (.object "com/example/myna/myna/delivery/Status")) (t' := (.object "java/lang/String")) (by decide) (by decide)))).other W23 (Or.inr (slot_ne (Or.inr (hw _ (List.mem_of_getElem? (i := 69) rfl))) (Or.inr (hw _ (List.mem_of_getElem? (i := 73) rfl))) (by decide) (t := (.object "com/example/myna/myna/delivery/Status")) (t' := (.object "java/lang/String")) (by decide) (by decide)))).other W26 (Or.inr (slot_ne (Or.inr (hw _ (List.mem_of_getElem? (i := 69) rfl))) (Or.inr (hw _ (List.mem_of_getElem? (i := 75) rfl))) (by decide) (t := (.object "com/example/myna/myna/delivery/Status")) (t' := (.array .byte)) (by decide) (by decide))))
  have f35 : Fld Z h26 a "com/example/myna/myna/delivery/Attempt" "url" "Ljava/lang/String;" (.ref u6) := ((Fw20.other W23 (Or.inr (slot_ne (Or.inr (hw _ (List.mem_of_getElem? (i := 71) rfl))) (Or.inr (hw _ (List.mem_of_getElem? (i := 73) rfl))) (by decide) (t := (.object "java/lang/String")) (t' := (.object "java/lang/String")) (by decide) (by decide)))).other W26 (Or.inr (slot_ne (Or.inr (hw _ (List.mem_of_getElem? (i := 71) rfl))) (Or.inr (hw _ (List.mem_of_getElem? (i := 75) rfl))) (by decide) (t := (.object "java/lang/String")) (t' := (.array .byte)) (by decide) (by decide))))
  have f36 : Fld Z h26 a "com/example/myna/myna/delivery/Attempt" "secret" "Ljava/lang/String;" (.ref u7) := (Fw23.other W26 (Or.inr (slot_ne (Or.inr (hw _ (List.mem_of_getElem? (i := 73) rfl))) (Or.inr (hw _ (List.mem_of_getElem? (i := 75) rfl))) (by decide) (t := (.object "java/lang/String")) (t' := (.array .byte)) (by decide) (by decide))))
  obtain ⟨fs27, hr27, hrun27, hended27, hW27, hsame27⟩ := X26.leave (v := none) (fun _ => rfl)
  refine ⟨_, _, X26.returnOut hx Bd.returns (hb hby d_prog_9_method_1_55) hr27, hrun27, hended27, _, _, rfl, ?_, ⟨_, rfl⟩, hW27, hsame27.mono (by decide) (by decide)⟩
  show Q4 Z a u0 u1 u2 u3 u4 u5 u6 u7 u8 h0 n0 _ T26.heap _
  rw [e26]
  exact ⟨rfl, N26, ((((((((((Keep.refl h0 [a]).wr W2 (Or.inl (List.mem_of_getElem? (i := 0) rfl))).wr W5 (Or.inl (List.mem_of_getElem? (i := 0) rfl))).wr W8 (Or.inl (List.mem_of_getElem? (i := 0) rfl))).wr W11 (Or.inl (List.mem_of_getElem? (i := 0) rfl))).wr W14 (Or.inl (List.mem_of_getElem? (i := 0) rfl))).wr W17 (Or.inl (List.mem_of_getElem? (i := 0) rfl))).wr W20 (Or.inl (List.mem_of_getElem? (i := 0) rfl))).wr W23 (Or.inl (List.mem_of_getElem? (i := 0) rfl))).wr W26 (Or.inl (List.mem_of_getElem? (i := 0) rfl))), f28, f29, f30, f31, f32, f33, f34, f35, f36, Fw26⟩
theorem d_prog_9_method_3_0 : decode prog_9_method_3_code 0 = .ok (.new 8, 3) := by decide +kernel
theorem d_prog_9_method_3_3 : decode prog_9_method_3_code 3 = .ok (.dup, 1) := by decide +kernel
theorem d_prog_9_method_3_4 : decode prog_9_method_3_code 4 = .ok (.aload_n 0, 1) := by decide +kernel
theorem d_prog_9_method_3_5 : decode prog_9_method_3_code 5 = .ok (.getfield 7, 3) := by decide +kernel
theorem d_prog_9_method_3_8 : decode prog_9_method_3_code 8 = .ok (.aload_n 0, 1) := by decide +kernel
theorem d_prog_9_method_3_9 : decode prog_9_method_3_code 9 = .ok (.getfield 13, 3) := by decide +kernel
theorem d_prog_9_method_3_12 : decode prog_9_method_3_code 12 = .ok (.aload_n 0, 1) := by decide +kernel
theorem d_prog_9_method_3_13 : decode prog_9_method_3_code 13 = .ok (.getfield 16, 3) := by decide +kernel
theorem d_prog_9_method_3_16 : decode prog_9_method_3_code 16 = .ok (.aload_n 0, 1) := by decide +kernel
theorem d_prog_9_method_3_17 : decode prog_9_method_3_code 17 = .ok (.getfield 19, 3) := by decide +kernel
theorem d_prog_9_method_3_20 : decode prog_9_method_3_code 20 = .ok (.aload_n 0, 1) := by decide +kernel
theorem d_prog_9_method_3_21 : decode prog_9_method_3_code 21 = .ok (.getfield 22, 3) := by decide +kernel
theorem d_prog_9_method_3_24 : decode prog_9_method_3_code 24 = .ok (.aload_n 0, 1) := by decide +kernel
theorem d_prog_9_method_3_25 : decode prog_9_method_3_code 25 = .ok (.getfield 26, 3) := by decide +kernel
theorem d_prog_9_method_3_28 : decode prog_9_method_3_code 28 = .ok (.aload_n 0, 1) := by decide +kernel
theorem d_prog_9_method_3_29 : decode prog_9_method_3_code 29 = .ok (.getfield 30, 3) := by decide +kernel
theorem d_prog_9_method_3_32 : decode prog_9_method_3_code 32 = .ok (.aload_n 0, 1) := by decide +kernel
theorem d_prog_9_method_3_33 : decode prog_9_method_3_code 33 = .ok (.getfield 33, 3) := by decide +kernel
theorem d_prog_9_method_3_36 : decode prog_9_method_3_code 36 = .ok (.aload_n 1, 1) := by decide +kernel
theorem d_prog_9_method_3_37 : decode prog_9_method_3_code 37 = .ok (.invokespecial 45, 3) := by decide +kernel
theorem pd_156 : parseMethodDescriptor "(Ljava/lang/String;Ljava/lang/String;Ljava/lang/String;Ljava/lang/String;ILcom/example/myna/myna/delivery/Status;Ljava/lang/String;Ljava/lang/String;[B)V" = some ⟨[(.object "java/lang/String"), (.object "java/lang/String"), (.object "java/lang/String"), (.object "java/lang/String"), .int, (.object "com/example/myna/myna/delivery/Status"), (.object "java/lang/String"), (.object "java/lang/String"), (.array .byte)], none⟩ := by decide +kernel
theorem d_prog_9_method_3_40 : decode prog_9_method_3_code 40 = .ok (.areturn, 1) := by decide +kernel
theorem ef_5 (m : MethodId) (a : Addr) (nb : Addr) : entryFrame m #[(.ref a), (.ref nb)] 2 = mkF m 0 #[.val (.ref a), .val (.ref nb)] [] := by first | (simp [entryFrame, mkF, argsToLocals, Value.category]; done) | rfl
def Q5 (Z : State) (a : Addr) (nb : Addr) (u0 : Addr) (u1 : Addr) (u2 : Addr) (u3 : Addr) (u4 : Int32) (u5 : Addr) (u6 : Addr) (u7 : Addr) (h0 : Heap) (n0 : Nat) (vV : Option Value) (hH : Heap) (LL : List Loc) : Prop := ∃ b : Addr, vV = some (.ref b) ∧ Fr n0 LL ∧ Keep h0 hH [] ∧ h0.size ≤ b ∧ (Exa Z hH b "com/example/myna/myna/delivery/Attempt") ∧ (Fld Z hH b "com/example/myna/myna/delivery/Attempt" "deliveryId" "Ljava/lang/String;" (.ref u0)) ∧ (Fld Z hH b "com/example/myna/myna/delivery/Attempt" "tenant" "Ljava/lang/String;" (.ref u1)) ∧ (Fld Z hH b "com/example/myna/myna/delivery/Attempt" "eventId" "Ljava/lang/String;" (.ref u2)) ∧ (Fld Z hH b "com/example/myna/myna/delivery/Attempt" "endpointId" "Ljava/lang/String;" (.ref u3)) ∧ (Fld Z hH b "com/example/myna/myna/delivery/Attempt" "number" "I" (.int u4)) ∧ (Fld Z hH b "com/example/myna/myna/delivery/Attempt" "status" "Lcom/example/myna/myna/delivery/Status;" (.ref u5)) ∧ (Fld Z hH b "com/example/myna/myna/delivery/Attempt" "url" "Ljava/lang/String;" (.ref u6)) ∧ (Fld Z hH b "com/example/myna/myna/delivery/Attempt" "secret" "Ljava/lang/String;" (.ref u7)) ∧ (Fld Z hH b "com/example/myna/myna/delivery/Attempt" "body" "[B" (.ref nb))
def R5 (Z : State) (a : Addr) (nb : Addr) (u0 : Addr) (u1 : Addr) (u2 : Addr) (u3 : Addr) (u4 : Int32) (u5 : Addr) (u6 : Addr) (u7 : Addr) (h0 : Heap) (n0 : Nat) (U : State) (o : Outcome) (U' : State) : Prop := ∃ vV LL, o = .returned vV ∧ Q5 Z a nb u0 u1 u2 u3 u4 u5 u6 u7 h0 n0 vV U'.heap LL ∧ FrameEnd U o U' LL ({ frames := 3, cells := 1, slots := 9, locals := 46 } : Room).cells ({ frames := 3, cells := 1, slots := 9, locals := 46 } : Room).slots
set_option maxRecDepth 65536 in
set_option maxHeartbeats 40000000 in
theorem rm5 (l : Launch) (Z : State) (a0 : Array Value) (hw : ∀ d ∈ tables_1, d.before a0 Z = true) (ws : List Jvm.Cond) (a : Addr) (nb : Addr) (u0 : Addr) (u1 : Addr) (u2 : Addr) (u3 : Addr) (u4 : Int32) (u5 : Addr) (u6 : Addr) (u7 : Addr) (h0 : Heap) (n0 : Nat) (Z0 : n0 ≤ h0.size) (hp0 : Fld Z h0 a "com/example/myna/myna/delivery/Attempt" "deliveryId" "Ljava/lang/String;" (.ref u0)) (hp1 : Fld Z h0 a "com/example/myna/myna/delivery/Attempt" "tenant" "Ljava/lang/String;" (.ref u1)) (hp2 : Fld Z h0 a "com/example/myna/myna/delivery/Attempt" "eventId" "Ljava/lang/String;" (.ref u2)) (hp3 : Fld Z h0 a "com/example/myna/myna/delivery/Attempt" "endpointId" "Ljava/lang/String;" (.ref u3)) (hp4 : Fld Z h0 a "com/example/myna/myna/delivery/Attempt" "number" "I" (.int u4)) (hp5 : Fld Z h0 a "com/example/myna/myna/delivery/Attempt" "status" "Lcom/example/myna/myna/delivery/Status;" (.ref u5)) (hp6 : Fld Z h0 a "com/example/myna/myna/delivery/Attempt" "url" "Ljava/lang/String;" (.ref u6)) (hp7 : Fld Z h0 a "com/example/myna/myna/delivery/Attempt" "secret" "Ljava/lang/String;" (.ref u7)) :
    MetFree l (⟨"com/example/myna/myna/delivery/Attempt", "withBody", "([B)Lcom/example/myna/myna/delivery/Attempt;"⟩ : MethodName) (head1 (Jvm.Cond.code (⟨"com/example/myna/myna/delivery/Attempt", "withBody", "([B)Lcom/example/myna/myna/delivery/Attempt;"⟩ : MethodName) prog_9_method_3_code 2 (some (.object "com/example/myna/myna/delivery/Attempt")) :: ws) ({ frames := 3, cells := 1, slots := 9, locals := 46 } : Room)) (fun aA U => aA = #[(.ref a), (.ref nb)] ∧ Z.Warmed39 U.vm ∧ U.heap = h0) (fun _ _ _ _ _ => True) (fun _ U o U' => ∃ vV LL, o = .returned vV ∧ Q5 Z a nb u0 u1 u2 u3 u4 u5 u6 u7 h0 n0 vV U'.heap LL ∧ FrameEnd U o U' LL ({ frames := 3, cells := 1, slots := 9, locals := 46 } : Room).cells ({ frames := 3, cells := 1, slots := 9, locals := 46 } : Room).slots) := by
  refine MetFree.of_bodySF (plainFor_of_name pn_104) hisR ?_
  intro p e s m args below meth cC s₁ Bd hml0 hP hK
  obtain ⟨rfl, hZ, hh⟩ := hP
  have hx := Bd.exec
  have hby := Bd.bytes
  have hml : cC.maxLocals = 2 := hml0
  have hown : s.vm.findClass "com/example/myna/myna/delivery/Attempt" = some m.cls := findClass_of_methodNamed Bd.named
  have hnm := (name_of_methodNamed Bd.named Bd.method).1
  have X0 : Stand p l e ({ frames := 3, cells := 1, slots := 9, locals := 46 } : Room) s m #[(.ref a), (.ref nb)] below meth cC s₁ [] 0 0 := Stand.of_body Bd
  have e0 : s₁.heap = h0 := by rw [← hh, Bd.state]; rfl
  have N0 := Fr.nil n0
  show OwnFin p e below (R5 Z a nb u0 u1 u2 u3 u4 u5 u6 u7 h0 n0 s) (s₁.setTop (entryFrame m #[(.ref a), (.ref nb)] 2))
  rw [ef_5 m a nb]
  obtain ⟨T1, h1, X1, e1, E1, A1, D1, -, st1⟩ := newO X0 hx hZ hown (hw _ (List.mem_of_getElem? (i := 81) rfl)) (hw _ (List.mem_of_getElem? (i := 47) rfl)) (hw _ (List.mem_of_getElem? (i := 48) rfl)) e0 (g := (mkF m 0 #[.val (.ref a), .val (.ref nb)] [])) rfl (hb hby d_prog_9_method_3_0) (by decide) (by decide)
  obtain ⟨b1, g1⟩ : ∃ z, z = h0.size := ⟨_, rfl⟩
  rw [← g1] at A1 D1 st1
  refine OwnFin.step st1 ?_
  have Fz2 : Fld Z h1 b1 "com/example/myna/myna/delivery/Attempt" "deliveryId" "Ljava/lang/String;" .null := D1 (Or.inr (hw _ (List.mem_of_getElem? (i := 59) rfl))) (ty := (.object "java/lang/String")) (by decide)
  have Fz3 : Fld Z h1 b1 "com/example/myna/myna/delivery/Attempt" "tenant" "Ljava/lang/String;" .null := D1 (Or.inr (hw _ (List.mem_of_getElem? (i := 61) rfl))) (ty := (.object "java/lang/String")) (by decide)
  have Fz4 : Fld Z h1 b1 "com/example/myna/myna/delivery/Attempt" "eventId" "Ljava/lang/String;" .null := D1 (Or.inr (hw _ (List.mem_of_getElem? (i := 63) rfl))) (ty := (.object "java/lang/String")) (by decide)
  have Fz5 : Fld Z h1 b1 "com/example/myna/myna/delivery/Attempt" "endpointId" "Ljava/lang/String;" .null := D1 (Or.inr (hw _ (List.mem_of_getElem? (i := 65) rfl))) (ty := (.object "java/lang/String")) (by decide)
  have Fz6 : Fld Z h1 b1 "com/example/myna/myna/delivery/Attempt" "number" "I" (.int (0 : Int32)) := D1 (Or.inr (hw _ (List.mem_of_getElem? (i := 67) rfl))) (ty := .int) (by decide)
  have Fz7 : Fld Z h1 b1 "com/example/myna/myna/delivery/Attempt" "status" "Lcom/example/myna/myna/delivery/Status;" .null := D1 (Or.inr (hw _ (List.mem_of_getElem? (i := 69) rfl))) (ty := (.object "com/example/myna/myna/delivery/Status")) (by decide)
  have Fz8 : Fld Z h1 b1 "com/example/myna/myna/delivery/Attempt" "url" "Ljava/lang/String;" .null := D1 (Or.inr (hw _ (List.mem_of_getElem? (i := 71) rfl))) (ty := (.object "java/lang/String")) (by decide)
  have Fz9 : Fld Z h1 b1 "com/example/myna/myna/delivery/Attempt" "secret" "Ljava/lang/String;" .null := D1 (Or.inr (hw _ (List.mem_of_getElem? (i := 73) rfl))) (ty := (.object "java/lang/String")) (by decide)
  have Fz10 : Fld Z h1 b1 "com/example/myna/myna/delivery/Attempt" "body" "[B" .null := D1 (Or.inr (hw _ (List.mem_of_getElem? (i := 75) rfl))) (ty := (.array .byte)) (by decide)
  show OwnFin p e below _ (T1.setTop (mkF m 3 #[.val (.ref a), .val (.ref nb)] [(.ref b1)]))
  refine OwnFin.step (fun tT kK => XS.dup X1.here hx rfl (hb hby d_prog_9_method_3_3) rfl rfl kK) ?_
  show OwnFin p e below _ (T1.setTop (mkF m 4 #[.val (.ref a), .val (.ref nb)] [(.ref b1), (.ref b1)]))
  refine OwnFin.step (fun tT kK => XS.aloadN X1.here hx rfl (hb hby d_prog_9_method_3_4) rfl rfl kK) ?_
  show OwnFin p e below _ (T1.setTop (mkF m 5 #[.val (.ref a), .val (.ref nb)] [(.ref a), (.ref b1), (.ref b1)]))
  have f11 : Fld Z h1 a "com/example/myna/myna/delivery/Attempt" "deliveryId" "Ljava/lang/String;" (.ref u0) := (hp0.ext E1)
  obtain ⟨T12, X12, e12, st12⟩ := getF X1 hx hZ hown (host := "") (Or.inl (hw _ (List.mem_of_getElem? (i := 58) rfl))) Via.refl e1 f11 (g := (mkF m 5 #[.val (.ref a), .val (.ref nb)] [(.ref a), (.ref b1), (.ref b1)])) rfl rfl (hb hby d_prog_9_method_3_5)
  refine OwnFin.step st12 ?_
  show OwnFin p e below _ (T12.setTop (mkF m 8 #[.val (.ref a), .val (.ref nb)] [(.ref u0), (.ref b1), (.ref b1)]))
  refine OwnFin.step (fun tT kK => XS.aloadN X12.here hx rfl (hb hby d_prog_9_method_3_8) rfl rfl kK) ?_
  show OwnFin p e below _ (T12.setTop (mkF m 9 #[.val (.ref a), .val (.ref nb)] [(.ref a), (.ref u0), (.ref b1), (.ref b1)]))
  have f13 : Fld Z h1 a "com/example/myna/myna/delivery/Attempt" "tenant" "Ljava/lang/String;" (.ref u1) := (hp1.ext E1)
  obtain ⟨T14, X14, e14, st14⟩ := getF X12 hx hZ hown (host := "") (Or.inl (hw _ (List.mem_of_getElem? (i := 60) rfl))) Via.refl e12 f13 (g := (mkF m 9 #[.val (.ref a), .val (.ref nb)] [(.ref a), (.ref u0), (.ref b1), (.ref b1)])) rfl rfl (hb hby d_prog_9_method_3_9)
  refine OwnFin.step st14 ?_
  show OwnFin p e below _ (T14.setTop (mkF m 12 #[.val (.ref a), .val (.ref nb)] [(.ref u1), (.ref u0), (.ref b1), (.ref b1)]))
  refine OwnFin.step (fun tT kK => XS.aloadN X14.here hx rfl (hb hby d_prog_9_method_3_12) rfl rfl kK) ?_
  show OwnFin p e below _ (T14.setTop (mkF m 13 #[.val (.ref a), .val (.ref nb)] [(.ref a), (.ref u1), (.ref u0), (.ref b1), (.ref b1)]))
  have f15 : Fld Z h1 a "com/example/myna/myna/delivery/Attempt" "eventId" "Ljava/lang/String;" (.ref u2) := (hp2.ext E1)
  obtain ⟨T16, X16, e16, st16⟩ := getF X14 hx hZ hown (host := "") (Or.inl (hw _ (List.mem_of_getElem? (i := 62) rfl))) Via.refl e14 f15 (g := (mkF m 13 #[.val (.ref a), .val (.ref nb)] [(.ref a), (.ref u1), (.ref u0), (.ref b1), (.ref b1)])) rfl rfl (hb hby d_prog_9_method_3_13)
  refine OwnFin.step st16 ?_
  show OwnFin p e below _ (T16.setTop (mkF m 16 #[.val (.ref a), .val (.ref nb)] [(.ref u2), (.ref u1), (.ref u0), (.ref b1), (.ref b1)]))
  refine OwnFin.step (fun tT kK => XS.aloadN X16.here hx rfl (hb hby d_prog_9_method_3_16) rfl rfl kK) ?_
  show OwnFin p e below _ (T16.setTop (mkF m 17 #[.val (.ref a), .val (.ref nb)] [(.ref a), (.ref u2), (.ref u1), (.ref u0), (.ref b1), (.ref b1)]))
  have f17 : Fld Z h1 a "com/example/myna/myna/delivery/Attempt" "endpointId" "Ljava/lang/String;" (.ref u3) := (hp3.ext E1)
  obtain ⟨T18, X18, e18, st18⟩ := getF X16 hx hZ hown (host := "") (Or.inl (hw _ (List.mem_of_getElem? (i := 64) rfl))) Via.refl e16 f17 (g := (mkF m 17 #[.val (.ref a), .val (.ref nb)] [(.ref a), (.ref u2), (.ref u1), (.ref u0), (.ref b1), (.ref b1)])) rfl rfl (hb hby d_prog_9_method_3_17)
  refine OwnFin.step st18 ?_
  show OwnFin p e below _ (T18.setTop (mkF m 20 #[.val (.ref a), .val (.ref nb)] [(.ref u3), (.ref u2), (.ref u1), (.ref u0), (.ref b1), (.ref b1)]))
  refine OwnFin.step (fun tT kK => XS.aloadN X18.here hx rfl (hb hby d_prog_9_method_3_20) rfl rfl kK) ?_
  show OwnFin p e below _ (T18.setTop (mkF m 21 #[.val (.ref a), .val (.ref nb)] [(.ref a), (.ref u3), (.ref u2), (.ref u1), (.ref u0), (.ref b1), (.ref b1)]))
  have f19 : Fld Z h1 a "com/example/myna/myna/delivery/Attempt" "number" "I" (.int u4) := (hp4.ext E1)
  obtain ⟨T20, X20, e20, st20⟩ := getF X18 hx hZ hown (host := "") (Or.inl (hw _ (List.mem_of_getElem? (i := 66) rfl))) Via.refl e18 f19 (g := (mkF m 21 #[.val (.ref a), .val (.ref nb)] [(.ref a), (.ref u3), (.ref u2), (.ref u1), (.ref u0), (.ref b1), (.ref b1)])) rfl rfl (hb hby d_prog_9_method_3_21)
  refine OwnFin.step st20 ?_
  show OwnFin p e below _ (T20.setTop (mkF m 24 #[.val (.ref a), .val (.ref nb)] [(.int u4), (.ref u3), (.ref u2), (.ref u1), (.ref u0), (.ref b1), (.ref b1)]))
  refine OwnFin.step (fun tT kK => XS.aloadN X20.here hx rfl (hb hby d_prog_9_method_3_24) rfl rfl kK) ?_
  show OwnFin p e below _ (T20.setTop (mkF m 25 #[.val (.ref a), .val (.ref nb)] [(.ref a), (.int u4), (.ref u3), (.ref u2), (.ref u1), (.ref u0), (.ref b1), (.ref b1)]))
  have f21 : Fld Z h1 a "com/example/myna/myna/delivery/Attempt" "status" "Lcom/example/myna/myna/delivery/Status;" (.ref u5) := (hp5.ext E1)
  obtain ⟨T22, X22, e22, st22⟩ := getF X20 hx hZ hown (host := "") (Or.inl (hw _ (List.mem_of_getElem? (i := 68) rfl))) Via.refl e20 f21 (g := (mkF m 25 #[.val (.ref a), .val (.ref nb)] [(.ref a), (.int u4), (.ref u3), (.ref u2), (.ref u1), (.ref u0), (.ref b1), (.ref b1)])) rfl rfl (hb hby d_prog_9_method_3_25)
  refine OwnFin.step st22 ?_
  show OwnFin p e below _ (T22.setTop (mkF m 28 #[.val (.ref a), .val (.ref nb)] [(.ref u5), (.int u4), (.ref u3), (.ref u2), (.ref u1), (.ref u0), (.ref b1), (.ref b1)]))
  refine OwnFin.step (fun tT kK => XS.aloadN X22.here hx rfl (hb hby d_prog_9_method_3_28) rfl rfl kK) ?_
  show OwnFin p e below _ (T22.setTop (mkF m 29 #[.val (.ref a), .val (.ref nb)] [(.ref a), (.ref u5), (.int u4), (.ref u3), (.ref u2), (.ref u1), (.ref u0), (.ref b1), (.ref b1)]))
  have f23 : Fld Z h1 a "com/example/myna/myna/delivery/Attempt" "url" "Ljava/lang/String;" (.ref u6) := (hp6.ext E1)
  obtain ⟨T24, X24, e24, st24⟩ := getF X22 hx hZ hown (host := "") (Or.inl (hw _ (List.mem_of_getElem? (i := 70) rfl))) Via.refl e22 f23 (g := (mkF m 29 #[.val (.ref a), .val (.ref nb)] [(.ref a), (.ref u5), (.int u4), (.ref u3), (.ref u2), (.ref u1), (.ref u0), (.ref b1), (.ref b1)])) rfl rfl (hb hby d_prog_9_method_3_29)
  refine OwnFin.step st24 ?_
  show OwnFin p e below _ (T24.setTop (mkF m 32 #[.val (.ref a), .val (.ref nb)] [(.ref u6), (.ref u5), (.int u4), (.ref u3), (.ref u2), (.ref u1), (.ref u0), (.ref b1), (.ref b1)]))
  refine OwnFin.step (fun tT kK => XS.aloadN X24.here hx rfl (hb hby d_prog_9_method_3_32) rfl rfl kK) ?_
  show OwnFin p e below _ (T24.setTop (mkF m 33 #[.val (.ref a), .val (.ref nb)] [(.ref a), (.ref u6), (.ref u5), (.int u4), (.ref u3), (.ref u2), (.ref u1), (.ref u0), (.ref b1), (.ref b1)]))
  have f25 : Fld Z h1 a "com/example/myna/myna/delivery/Attempt" "secret" "Ljava/lang/String;" (.ref u7) := (hp7.ext E1)
  obtain ⟨T26, X26, e26, st26⟩ := getF X24 hx hZ hown (host := "") (Or.inl (hw _ (List.mem_of_getElem? (i := 72) rfl))) Via.refl e24 f25 (g := (mkF m 33 #[.val (.ref a), .val (.ref nb)] [(.ref a), (.ref u6), (.ref u5), (.int u4), (.ref u3), (.ref u2), (.ref u1), (.ref u0), (.ref b1), (.ref b1)])) rfl rfl (hb hby d_prog_9_method_3_33)
  refine OwnFin.step st26 ?_
  show OwnFin p e below _ (T26.setTop (mkF m 36 #[.val (.ref a), .val (.ref nb)] [(.ref u7), (.ref u6), (.ref u5), (.int u4), (.ref u3), (.ref u2), (.ref u1), (.ref u0), (.ref b1), (.ref b1)]))
  refine OwnFin.step (fun tT kK => XS.aloadN X26.here hx rfl (hb hby d_prog_9_method_3_36) rfl rfl kK) ?_
  show OwnFin p e below _ (T26.setTop (mkF m 37 #[.val (.ref a), .val (.ref nb)] [(.ref nb), (.ref u7), (.ref u6), (.ref u5), (.int u4), (.ref u3), (.ref u2), (.ref u1), (.ref u0), (.ref b1), (.ref b1)]))
  obtain ⟨_, _, ⟨T27, L27, k27, n27⟩, -, X27, ⟨Lc27, hQ27, l27, y27, z27⟩, st27⟩ := X26.specialBack hx (y := (⟨"com/example/myna/myna/delivery/Attempt", "<init>", "(Ljava/lang/String;Ljava/lang/String;Ljava/lang/String;Ljava/lang/String;ILcom/example/myna/myna/delivery/Status;Ljava/lang/String;Ljava/lang/String;[B)V"⟩ : MethodName)) rfl hown (mvT hZ (hw _ (List.mem_of_getElem? (i := 82) rfl))) (mvT hZ (hw _ (List.mem_of_getElem? (i := 50) rfl))) (mvT hZ (hw _ (List.mem_of_getElem? (i := 51) rfl))) (by decide) (backOf (W := 1) (rm4 l Z a0 hw [] b1 u0 u1 u2 u3 u4 u5 u6 u7 nb h1 n0 (Nat.le_trans Z0 E1.1) A1 Fz2 Fz3 Fz4 Fz5 Fz6 Fz7 Fz8 Fz9 Fz10 (Nat.le_trans Z0 (Nat.le_of_eq g1.symm))) hZ (hw _ (List.mem_of_getElem? (i := 51) rfl)) (hw _ (List.mem_of_getElem? (i := 48) rfl)) (by decide) (by decide)) (g := (mkF m 37 #[.val (.ref a), .val (.ref nb)] [(.ref nb), (.ref u7), (.ref u6), (.ref u5), (.int u4), (.ref u3), (.ref u2), (.ref u1), (.ref u0), (.ref b1), (.ref b1)])) rfl (by rw [hml]; rfl) (Steps.refl _) (a := b1) (argsL := [(.ref u0), (.ref u1), (.ref u2), (.ref u3), (.int u4), (.ref u5), (.ref u6), (.ref u7), (.ref nb)]) (rest := [(.ref b1)]) (lenOf pd_156 rfl) rfl (by show 2 * 0 + _ ≤ _; exact Nat.le_of_eq rfl) (hb hby d_prog_9_method_3_37) (fun _ _ => ⟨rfl, e26, (by decide : 1 + 0 ≤ _), (by decide : 9 + 0 ≤ _)⟩)
  dsimp only [Pt.U, Pt.locs, Pt.cells, Pt.slots] at X27 l27 y27 z27 st27 hQ27
  subst l27 y27 z27
  obtain ⟨rfl, N27q, K27, P27_0, P27_1, P27_2, P27_3, P27_4, P27_5, P27_6, P27_7, P27_8, P27_9⟩ := hQ27
  have N27 := Fr.app N0 N27q
  refine OwnFin.step (fun tT kK => st27.trans kK) ?_
  show OwnFin p e below _ (T27.setTop (mkF m 40 #[.val (.ref a), .val (.ref nb)] [(.ref b1)]))
  obtain ⟨fs28, hr28, hrun28, hended28, hW28, hsame28⟩ := X27.leave (v := (some (.ref b1))) (fun h => by rw [Bd.returns] at h; cases h)
  refine ⟨_, _, retOut X27 hx Bd.returns rfl (Or.inr (Or.inr (Or.inr (Or.inr ⟨rfl, rfl, rfl⟩)))) (hb hby d_prog_9_method_3_40) hr28, hrun28, hended28, _, _, rfl, ?_, ⟨_, rfl⟩, hW28, hsame28.mono (by decide) (by decide)⟩
  show Q5 Z a nb u0 u1 u2 u3 u4 u5 u6 u7 h0 n0 _ T27.heap _
  exact ⟨b1, rfl, N27, (((Keep.refl h0 []).ext E1).trans K27 (allS (P := fun x => x ∈ [] ∨ h0.size ≤ x) (Or.inr (Nat.le_trans (Nat.le_refl _) (Nat.le_of_eq g1.symm))) all0)), (Nat.le_trans (Nat.le_refl _) (Nat.le_of_eq g1.symm)), P27_0, P27_1, P27_2, P27_3, P27_4, P27_5, P27_6, P27_7, P27_8, P27_9⟩
theorem d_prog_9_method_7_0 : decode prog_9_method_7_code 0 = .ok (.aload_n 0, 1) := by decide +kernel
theorem d_prog_9_method_7_1 : decode prog_9_method_7_code 1 = .ok (.getfield 7, 3) := by decide +kernel
theorem d_prog_9_method_7_4 : decode prog_9_method_7_code 4 = .ok (.areturn, 1) := by decide +kernel
theorem ef_60 (m : MethodId) (a : Addr) : entryFrame m #[(.ref a)] 1 = mkF m 0 #[.val (.ref a)] [] := by first | (simp [entryFrame, mkF, argsToLocals, Value.category]; done) | rfl
def Q60 (Z : State) (a : Addr) (u : Addr) (h0 : Heap) (n0 : Nat) (vV : Option Value) (hH : Heap) (LL : List Loc) : Prop := vV = some (.ref u) ∧ Fr n0 LL ∧ hH = h0
def R60 (Z : State) (a : Addr) (u : Addr) (h0 : Heap) (n0 : Nat) (U : State) (o : Outcome) (U' : State) : Prop := ∃ vV LL, o = .returned vV ∧ Q60 Z a u h0 n0 vV U'.heap LL ∧ FrameEnd U o U' LL ({ frames := 0, cells := 0, slots := 0, locals := 0 } : Room).cells ({ frames := 0, cells := 0, slots := 0, locals := 0 } : Room).slots
set_option maxRecDepth 65536 in
set_option maxHeartbeats 40000000 in
theorem rm60 (l : Launch) (Z : State) (a0 : Array Value) (hw : ∀ d ∈ tables_1, d.before a0 Z = true) (ws : List Jvm.Cond) (a : Addr) (u : Addr) (h0 : Heap) (n0 : Nat) (Z0 : n0 ≤ h0.size) (hp0 : Fld Z h0 a "com/example/myna/myna/delivery/Attempt" "deliveryId" "Ljava/lang/String;" (.ref u)) :
    MetFree l (⟨"com/example/myna/myna/delivery/Attempt", "deliveryId", "()Ljava/lang/String;"⟩ : MethodName) (head1 (Jvm.Cond.code (⟨"com/example/myna/myna/delivery/Attempt", "deliveryId", "()Ljava/lang/String;"⟩ : MethodName) prog_9_method_7_code 1 (some (.object "java/lang/String")) :: ws) ({ frames := 0, cells := 0, slots := 0, locals := 0 } : Room)) (fun aA U => aA = #[(.ref a)] ∧ Z.Warmed39 U.vm ∧ U.heap = h0) (fun _ _ _ _ _ => True) (fun _ U o U' => ∃ vV LL, o = .returned vV ∧ Q60 Z a u h0 n0 vV U'.heap LL ∧ FrameEnd U o U' LL ({ frames := 0, cells := 0, slots := 0, locals := 0 } : Room).cells ({ frames := 0, cells := 0, slots := 0, locals := 0 } : Room).slots) := by
  refine MetFree.of_bodySF (plainFor_of_name pn_104) hisR ?_
  intro p e s m args below meth cC s₁ Bd hml0 hP hK
  obtain ⟨rfl, hZ, hh⟩ := hP
  have hx := Bd.exec
  have hby := Bd.bytes
  have hml : cC.maxLocals = 1 := hml0
  have hown : s.vm.findClass "com/example/myna/myna/delivery/Attempt" = some m.cls := findClass_of_methodNamed Bd.named
  have hnm := (name_of_methodNamed Bd.named Bd.method).1
  have X0 : Stand p l e ({ frames := 0, cells := 0, slots := 0, locals := 0 } : Room) s m #[(.ref a)] below meth cC s₁ [] 0 0 := Stand.of_body Bd
  have e0 : s₁.heap = h0 := by rw [← hh, Bd.state]; rfl
  have N0 := Fr.nil n0
  show OwnFin p e below (R60 Z a u h0 n0 s) (s₁.setTop (entryFrame m #[(.ref a)] 1))
  rw [ef_60 m a]
  refine OwnFin.step (fun tT kK => XS.aloadN X0.here hx rfl (hb hby d_prog_9_method_7_0) rfl rfl kK) ?_
  show OwnFin p e below _ (s₁.setTop (mkF m 1 #[.val (.ref a)] [(.ref a)]))
  obtain ⟨T1, X1, e1, st1⟩ := getF X0 hx hZ hown (host := "") (Or.inl (hw _ (List.mem_of_getElem? (i := 58) rfl))) Via.refl e0 hp0 (g := (mkF m 1 #[.val (.ref a)] [(.ref a)])) rfl rfl (hb hby d_prog_9_method_7_1)
  refine OwnFin.step st1 ?_
  show OwnFin p e below _ (T1.setTop (mkF m 4 #[.val (.ref a)] [(.ref u)]))
  obtain ⟨fs2, hr2, hrun2, hended2, hW2, hsame2⟩ := X1.leave (v := (some (.ref u))) (fun h => by rw [Bd.returns] at h; cases h)
  refine ⟨_, _, retOut X1 hx Bd.returns rfl (Or.inr (Or.inr (Or.inr (Or.inr ⟨rfl, rfl, rfl⟩)))) (hb hby d_prog_9_method_7_4) hr2, hrun2, hended2, _, _, rfl, ?_, ⟨_, rfl⟩, hW2, hsame2.mono (by decide) (by decide)⟩
  show Q60 Z a u h0 n0 _ T1.heap _
  rw [e1]
  exact ⟨rfl, N0, rfl⟩
theorem d_prog_9_method_8_0 : decode prog_9_method_8_code 0 = .ok (.aload_n 0, 1) := by decide +kernel
theorem d_prog_9_method_8_1 : decode prog_9_method_8_code 1 = .ok (.getfield 13, 3) := by decide +kernel
theorem d_prog_9_method_8_4 : decode prog_9_method_8_code 4 = .ok (.areturn, 1) := by decide +kernel
theorem ef_61 (m : MethodId) (a : Addr) : entryFrame m #[(.ref a)] 1 = mkF m 0 #[.val (.ref a)] [] := by first | (simp [entryFrame, mkF, argsToLocals, Value.category]; done) | rfl
def Q61 (Z : State) (a : Addr) (u : Addr) (h0 : Heap) (n0 : Nat) (vV : Option Value) (hH : Heap) (LL : List Loc) : Prop := vV = some (.ref u) ∧ Fr n0 LL ∧ hH = h0
def R61 (Z : State) (a : Addr) (u : Addr) (h0 : Heap) (n0 : Nat) (U : State) (o : Outcome) (U' : State) : Prop := ∃ vV LL, o = .returned vV ∧ Q61 Z a u h0 n0 vV U'.heap LL ∧ FrameEnd U o U' LL ({ frames := 0, cells := 0, slots := 0, locals := 0 } : Room).cells ({ frames := 0, cells := 0, slots := 0, locals := 0 } : Room).slots
set_option maxRecDepth 65536 in
set_option maxHeartbeats 40000000 in
theorem rm61 (l : Launch) (Z : State) (a0 : Array Value) (hw : ∀ d ∈ tables_1, d.before a0 Z = true) (ws : List Jvm.Cond) (a : Addr) (u : Addr) (h0 : Heap) (n0 : Nat) (Z0 : n0 ≤ h0.size) (hp0 : Fld Z h0 a "com/example/myna/myna/delivery/Attempt" "tenant" "Ljava/lang/String;" (.ref u)) :
    MetFree l (⟨"com/example/myna/myna/delivery/Attempt", "tenant", "()Ljava/lang/String;"⟩ : MethodName) (head1 (Jvm.Cond.code (⟨"com/example/myna/myna/delivery/Attempt", "tenant", "()Ljava/lang/String;"⟩ : MethodName) prog_9_method_8_code 1 (some (.object "java/lang/String")) :: ws) ({ frames := 0, cells := 0, slots := 0, locals := 0 } : Room)) (fun aA U => aA = #[(.ref a)] ∧ Z.Warmed39 U.vm ∧ U.heap = h0) (fun _ _ _ _ _ => True) (fun _ U o U' => ∃ vV LL, o = .returned vV ∧ Q61 Z a u h0 n0 vV U'.heap LL ∧ FrameEnd U o U' LL ({ frames := 0, cells := 0, slots := 0, locals := 0 } : Room).cells ({ frames := 0, cells := 0, slots := 0, locals := 0 } : Room).slots) := by
  refine MetFree.of_bodySF (plainFor_of_name pn_104) hisR ?_
  intro p e s m args below meth cC s₁ Bd hml0 hP hK
  obtain ⟨rfl, hZ, hh⟩ := hP
  have hx := Bd.exec
  have hby := Bd.bytes
  have hml : cC.maxLocals = 1 := hml0
  have hown : s.vm.findClass "com/example/myna/myna/delivery/Attempt" = some m.cls := findClass_of_methodNamed Bd.named
  have hnm := (name_of_methodNamed Bd.named Bd.method).1
  have X0 : Stand p l e ({ frames := 0, cells := 0, slots := 0, locals := 0 } : Room) s m #[(.ref a)] below meth cC s₁ [] 0 0 := Stand.of_body Bd
  have e0 : s₁.heap = h0 := by rw [← hh, Bd.state]; rfl
  have N0 := Fr.nil n0
  show OwnFin p e below (R61 Z a u h0 n0 s) (s₁.setTop (entryFrame m #[(.ref a)] 1))
  rw [ef_61 m a]
  refine OwnFin.step (fun tT kK => XS.aloadN X0.here hx rfl (hb hby d_prog_9_method_8_0) rfl rfl kK) ?_
  show OwnFin p e below _ (s₁.setTop (mkF m 1 #[.val (.ref a)] [(.ref a)]))
  obtain ⟨T1, X1, e1, st1⟩ := getF X0 hx hZ hown (host := "") (Or.inl (hw _ (List.mem_of_getElem? (i := 60) rfl))) Via.refl e0 hp0 (g := (mkF m 1 #[.val (.ref a)] [(.ref a)])) rfl rfl (hb hby d_prog_9_method_8_1)
  refine OwnFin.step st1 ?_
  show OwnFin p e below _ (T1.setTop (mkF m 4 #[.val (.ref a)] [(.ref u)]))
  obtain ⟨fs2, hr2, hrun2, hended2, hW2, hsame2⟩ := X1.leave (v := (some (.ref u))) (fun h => by rw [Bd.returns] at h; cases h)
  refine ⟨_, _, retOut X1 hx Bd.returns rfl (Or.inr (Or.inr (Or.inr (Or.inr ⟨rfl, rfl, rfl⟩)))) (hb hby d_prog_9_method_8_4) hr2, hrun2, hended2, _, _, rfl, ?_, ⟨_, rfl⟩, hW2, hsame2.mono (by decide) (by decide)⟩
  show Q61 Z a u h0 n0 _ T1.heap _
  rw [e1]
  exact ⟨rfl, N0, rfl⟩
theorem d_prog_9_method_9_0 : decode prog_9_method_9_code 0 = .ok (.aload_n 0, 1) := by decide +kernel
theorem d_prog_9_method_9_1 : decode prog_9_method_9_code 1 = .ok (.getfield 16, 3) := by decide +kernel
theorem d_prog_9_method_9_4 : decode prog_9_method_9_code 4 = .ok (.areturn, 1) := by decide +kernel
theorem ef_62 (m : MethodId) (a : Addr) : entryFrame m #[(.ref a)] 1 = mkF m 0 #[.val (.ref a)] [] := by first | (simp [entryFrame, mkF, argsToLocals, Value.category]; done) | rfl
def Q62 (Z : State) (a : Addr) (u : Addr) (h0 : Heap) (n0 : Nat) (vV : Option Value) (hH : Heap) (LL : List Loc) : Prop := vV = some (.ref u) ∧ Fr n0 LL ∧ hH = h0
def R62 (Z : State) (a : Addr) (u : Addr) (h0 : Heap) (n0 : Nat) (U : State) (o : Outcome) (U' : State) : Prop := ∃ vV LL, o = .returned vV ∧ Q62 Z a u h0 n0 vV U'.heap LL ∧ FrameEnd U o U' LL ({ frames := 0, cells := 0, slots := 0, locals := 0 } : Room).cells ({ frames := 0, cells := 0, slots := 0, locals := 0 } : Room).slots
set_option maxRecDepth 65536 in
set_option maxHeartbeats 40000000 in
theorem rm62 (l : Launch) (Z : State) (a0 : Array Value) (hw : ∀ d ∈ tables_1, d.before a0 Z = true) (ws : List Jvm.Cond) (a : Addr) (u : Addr) (h0 : Heap) (n0 : Nat) (Z0 : n0 ≤ h0.size) (hp0 : Fld Z h0 a "com/example/myna/myna/delivery/Attempt" "eventId" "Ljava/lang/String;" (.ref u)) :
    MetFree l (⟨"com/example/myna/myna/delivery/Attempt", "eventId", "()Ljava/lang/String;"⟩ : MethodName) (head1 (Jvm.Cond.code (⟨"com/example/myna/myna/delivery/Attempt", "eventId", "()Ljava/lang/String;"⟩ : MethodName) prog_9_method_9_code 1 (some (.object "java/lang/String")) :: ws) ({ frames := 0, cells := 0, slots := 0, locals := 0 } : Room)) (fun aA U => aA = #[(.ref a)] ∧ Z.Warmed39 U.vm ∧ U.heap = h0) (fun _ _ _ _ _ => True) (fun _ U o U' => ∃ vV LL, o = .returned vV ∧ Q62 Z a u h0 n0 vV U'.heap LL ∧ FrameEnd U o U' LL ({ frames := 0, cells := 0, slots := 0, locals := 0 } : Room).cells ({ frames := 0, cells := 0, slots := 0, locals := 0 } : Room).slots) := by
  refine MetFree.of_bodySF (plainFor_of_name pn_104) hisR ?_
  intro p e s m args below meth cC s₁ Bd hml0 hP hK
  obtain ⟨rfl, hZ, hh⟩ := hP
  have hx := Bd.exec
  have hby := Bd.bytes
  have hml : cC.maxLocals = 1 := hml0
  have hown : s.vm.findClass "com/example/myna/myna/delivery/Attempt" = some m.cls := findClass_of_methodNamed Bd.named
  have hnm := (name_of_methodNamed Bd.named Bd.method).1
  have X0 : Stand p l e ({ frames := 0, cells := 0, slots := 0, locals := 0 } : Room) s m #[(.ref a)] below meth cC s₁ [] 0 0 := Stand.of_body Bd
  have e0 : s₁.heap = h0 := by rw [← hh, Bd.state]; rfl
  have N0 := Fr.nil n0
  show OwnFin p e below (R62 Z a u h0 n0 s) (s₁.setTop (entryFrame m #[(.ref a)] 1))
  rw [ef_62 m a]
  refine OwnFin.step (fun tT kK => XS.aloadN X0.here hx rfl (hb hby d_prog_9_method_9_0) rfl rfl kK) ?_
  show OwnFin p e below _ (s₁.setTop (mkF m 1 #[.val (.ref a)] [(.ref a)]))
  obtain ⟨T1, X1, e1, st1⟩ := getF X0 hx hZ hown (host := "") (Or.inl (hw _ (List.mem_of_getElem? (i := 62) rfl))) Via.refl e0 hp0 (g := (mkF m 1 #[.val (.ref a)] [(.ref a)])) rfl rfl (hb hby d_prog_9_method_9_1)
  refine OwnFin.step st1 ?_
  show OwnFin p e below _ (T1.setTop (mkF m 4 #[.val (.ref a)] [(.ref u)]))
  obtain ⟨fs2, hr2, hrun2, hended2, hW2, hsame2⟩ := X1.leave (v := (some (.ref u))) (fun h => by rw [Bd.returns] at h; cases h)
  refine ⟨_, _, retOut X1 hx Bd.returns rfl (Or.inr (Or.inr (Or.inr (Or.inr ⟨rfl, rfl, rfl⟩)))) (hb hby d_prog_9_method_9_4) hr2, hrun2, hended2, _, _, rfl, ?_, ⟨_, rfl⟩, hW2, hsame2.mono (by decide) (by decide)⟩
  show Q62 Z a u h0 n0 _ T1.heap _
  rw [e1]
  exact ⟨rfl, N0, rfl⟩
theorem d_prog_9_method_10_0 : decode prog_9_method_10_code 0 = .ok (.aload_n 0, 1) := by decide +kernel
theorem d_prog_9_method_10_1 : decode prog_9_method_10_code 1 = .ok (.getfield 19, 3) := by decide +kernel
theorem d_prog_9_method_10_4 : decode prog_9_method_10_code 4 = .ok (.areturn, 1) := by decide +kernel
theorem ef_63 (m : MethodId) (a : Addr) : entryFrame m #[(.ref a)] 1 = mkF m 0 #[.val (.ref a)] [] := by first | (simp [entryFrame, mkF, argsToLocals, Value.category]; done) | rfl
def Q63 (Z : State) (a : Addr) (u : Addr) (h0 : Heap) (n0 : Nat) (vV : Option Value) (hH : Heap) (LL : List Loc) : Prop := vV = some (.ref u) ∧ Fr n0 LL ∧ hH = h0
def R63 (Z : State) (a : Addr) (u : Addr) (h0 : Heap) (n0 : Nat) (U : State) (o : Outcome) (U' : State) : Prop := ∃ vV LL, o = .returned vV ∧ Q63 Z a u h0 n0 vV U'.heap LL ∧ FrameEnd U o U' LL ({ frames := 0, cells := 0, slots := 0, locals := 0 } : Room).cells ({ frames := 0, cells := 0, slots := 0, locals := 0 } : Room).slots
set_option maxRecDepth 65536 in
set_option maxHeartbeats 40000000 in
theorem rm63 (l : Launch) (Z : State) (a0 : Array Value) (hw : ∀ d ∈ tables_1, d.before a0 Z = true) (ws : List Jvm.Cond) (a : Addr) (u : Addr) (h0 : Heap) (n0 : Nat) (Z0 : n0 ≤ h0.size) (hp0 : Fld Z h0 a "com/example/myna/myna/delivery/Attempt" "endpointId" "Ljava/lang/String;" (.ref u)) :
    MetFree l (⟨"com/example/myna/myna/delivery/Attempt", "endpointId", "()Ljava/lang/String;"⟩ : MethodName) (head1 (Jvm.Cond.code (⟨"com/example/myna/myna/delivery/Attempt", "endpointId", "()Ljava/lang/String;"⟩ : MethodName) prog_9_method_10_code 1 (some (.object "java/lang/String")) :: ws) ({ frames := 0, cells := 0, slots := 0, locals := 0 } : Room)) (fun aA U => aA = #[(.ref a)] ∧ Z.Warmed39 U.vm ∧ U.heap = h0) (fun _ _ _ _ _ => True) (fun _ U o U' => ∃ vV LL, o = .returned vV ∧ Q63 Z a u h0 n0 vV U'.heap LL ∧ FrameEnd U o U' LL ({ frames := 0, cells := 0, slots := 0, locals := 0 } : Room).cells ({ frames := 0, cells := 0, slots := 0, locals := 0 } : Room).slots) := by
  refine MetFree.of_bodySF (plainFor_of_name pn_104) hisR ?_
  intro p e s m args below meth cC s₁ Bd hml0 hP hK
  obtain ⟨rfl, hZ, hh⟩ := hP
  have hx := Bd.exec
  have hby := Bd.bytes
  have hml : cC.maxLocals = 1 := hml0
  have hown : s.vm.findClass "com/example/myna/myna/delivery/Attempt" = some m.cls := findClass_of_methodNamed Bd.named
  have hnm := (name_of_methodNamed Bd.named Bd.method).1
  have X0 : Stand p l e ({ frames := 0, cells := 0, slots := 0, locals := 0 } : Room) s m #[(.ref a)] below meth cC s₁ [] 0 0 := Stand.of_body Bd
  have e0 : s₁.heap = h0 := by rw [← hh, Bd.state]; rfl
  have N0 := Fr.nil n0
  show OwnFin p e below (R63 Z a u h0 n0 s) (s₁.setTop (entryFrame m #[(.ref a)] 1))
  rw [ef_63 m a]
  refine OwnFin.step (fun tT kK => XS.aloadN X0.here hx rfl (hb hby d_prog_9_method_10_0) rfl rfl kK) ?_
  show OwnFin p e below _ (s₁.setTop (mkF m 1 #[.val (.ref a)] [(.ref a)]))
  obtain ⟨T1, X1, e1, st1⟩ := getF X0 hx hZ hown (host := "") (Or.inl (hw _ (List.mem_of_getElem? (i := 64) rfl))) Via.refl e0 hp0 (g := (mkF m 1 #[.val (.ref a)] [(.ref a)])) rfl rfl (hb hby d_prog_9_method_10_1)
  refine OwnFin.step st1 ?_
  show OwnFin p e below _ (T1.setTop (mkF m 4 #[.val (.ref a)] [(.ref u)]))
  obtain ⟨fs2, hr2, hrun2, hended2, hW2, hsame2⟩ := X1.leave (v := (some (.ref u))) (fun h => by rw [Bd.returns] at h; cases h)
  refine ⟨_, _, retOut X1 hx Bd.returns rfl (Or.inr (Or.inr (Or.inr (Or.inr ⟨rfl, rfl, rfl⟩)))) (hb hby d_prog_9_method_10_4) hr2, hrun2, hended2, _, _, rfl, ?_, ⟨_, rfl⟩, hW2, hsame2.mono (by decide) (by decide)⟩
  show Q63 Z a u h0 n0 _ T1.heap _
  rw [e1]
  exact ⟨rfl, N0, rfl⟩
theorem d_prog_9_method_11_0 : decode prog_9_method_11_code 0 = .ok (.aload_n 0, 1) := by decide +kernel
theorem d_prog_9_method_11_1 : decode prog_9_method_11_code 1 = .ok (.getfield 22, 3) := by decide +kernel
theorem d_prog_9_method_11_4 : decode prog_9_method_11_code 4 = .ok (.ireturn, 1) := by decide +kernel
theorem ef_64 (m : MethodId) (a : Addr) : entryFrame m #[(.ref a)] 1 = mkF m 0 #[.val (.ref a)] [] := by first | (simp [entryFrame, mkF, argsToLocals, Value.category]; done) | rfl
def Q64 (Z : State) (a : Addr) (u : Int32) (h0 : Heap) (n0 : Nat) (vV : Option Value) (hH : Heap) (LL : List Loc) : Prop := vV = some (.int u) ∧ Fr n0 LL ∧ hH = h0
def R64 (Z : State) (a : Addr) (u : Int32) (h0 : Heap) (n0 : Nat) (U : State) (o : Outcome) (U' : State) : Prop := ∃ vV LL, o = .returned vV ∧ Q64 Z a u h0 n0 vV U'.heap LL ∧ FrameEnd U o U' LL ({ frames := 0, cells := 0, slots := 0, locals := 0 } : Room).cells ({ frames := 0, cells := 0, slots := 0, locals := 0 } : Room).slots
set_option maxRecDepth 65536 in
set_option maxHeartbeats 40000000 in
theorem rm64 (l : Launch) (Z : State) (a0 : Array Value) (hw : ∀ d ∈ tables_1, d.before a0 Z = true) (ws : List Jvm.Cond) (a : Addr) (u : Int32) (h0 : Heap) (n0 : Nat) (Z0 : n0 ≤ h0.size) (hp0 : Fld Z h0 a "com/example/myna/myna/delivery/Attempt" "number" "I" (.int u)) :
    MetFree l (⟨"com/example/myna/myna/delivery/Attempt", "number", "()I"⟩ : MethodName) (head1 (Jvm.Cond.code (⟨"com/example/myna/myna/delivery/Attempt", "number", "()I"⟩ : MethodName) prog_9_method_11_code 1 (some .int) :: ws) ({ frames := 0, cells := 0, slots := 0, locals := 0 } : Room)) (fun aA U => aA = #[(.ref a)] ∧ Z.Warmed39 U.vm ∧ U.heap = h0) (fun _ _ _ _ _ => True) (fun _ U o U' => ∃ vV LL, o = .returned vV ∧ Q64 Z a u h0 n0 vV U'.heap LL ∧ FrameEnd U o U' LL ({ frames := 0, cells := 0, slots := 0, locals := 0 } : Room).cells ({ frames := 0, cells := 0, slots := 0, locals := 0 } : Room).slots) := by
  refine MetFree.of_bodySF (plainFor_of_name pn_104) hisR ?_
  intro p e s m args below meth cC s₁ Bd hml0 hP hK
  obtain ⟨rfl, hZ, hh⟩ := hP
  have hx := Bd.exec
  have hby := Bd.bytes
  have hml : cC.maxLocals = 1 := hml0
  have hown : s.vm.findClass "com/example/myna/myna/delivery/Attempt" = some m.cls := findClass_of_methodNamed Bd.named
  have hnm := (name_of_methodNamed Bd.named Bd.method).1
  have X0 : Stand p l e ({ frames := 0, cells := 0, slots := 0, locals := 0 } : Room) s m #[(.ref a)] below meth cC s₁ [] 0 0 := Stand.of_body Bd
  have e0 : s₁.heap = h0 := by rw [← hh, Bd.state]; rfl
  have N0 := Fr.nil n0
  show OwnFin p e below (R64 Z a u h0 n0 s) (s₁.setTop (entryFrame m #[(.ref a)] 1))
  rw [ef_64 m a]
  refine OwnFin.step (fun tT kK => XS.aloadN X0.here hx rfl (hb hby d_prog_9_method_11_0) rfl rfl kK) ?_
  show OwnFin p e below _ (s₁.setTop (mkF m 1 #[.val (.ref a)] [(.ref a)]))
  obtain ⟨T1, X1, e1, st1⟩ := getF X0 hx hZ hown (host := "") (Or.inl (hw _ (List.mem_of_getElem? (i := 66) rfl))) Via.refl e0 hp0 (g := (mkF m 1 #[.val (.ref a)] [(.ref a)])) rfl rfl (hb hby d_prog_9_method_11_1)
  refine OwnFin.step st1 ?_
  show OwnFin p e below _ (T1.setTop (mkF m 4 #[.val (.ref a)] [(.int u)]))
  obtain ⟨fs2, hr2, hrun2, hended2, hW2, hsame2⟩ := X1.leave (v := (some (.int u))) (fun h => by rw [Bd.returns] at h; cases h)
  refine ⟨_, _, retOut X1 hx Bd.returns rfl (Or.inl ⟨rfl, Or.inl rfl, _, rfl⟩) (hb hby d_prog_9_method_11_4) hr2, hrun2, hended2, _, _, rfl, ?_, ⟨_, rfl⟩, hW2, hsame2.mono (by decide) (by decide)⟩
  show Q64 Z a u h0 n0 _ T1.heap _
  rw [e1]
  exact ⟨rfl, N0, rfl⟩
theorem d_prog_9_method_12_0 : decode prog_9_method_12_code 0 = .ok (.aload_n 0, 1) := by decide +kernel
theorem d_prog_9_method_12_1 : decode prog_9_method_12_code 1 = .ok (.getfield 26, 3) := by decide +kernel
theorem d_prog_9_method_12_4 : decode prog_9_method_12_code 4 = .ok (.areturn, 1) := by decide +kernel
theorem ef_65 (m : MethodId) (a : Addr) : entryFrame m #[(.ref a)] 1 = mkF m 0 #[.val (.ref a)] [] := by first | (simp [entryFrame, mkF, argsToLocals, Value.category]; done) | rfl
def Q65 (Z : State) (a : Addr) (u : Addr) (h0 : Heap) (n0 : Nat) (vV : Option Value) (hH : Heap) (LL : List Loc) : Prop := vV = some (.ref u) ∧ Fr n0 LL ∧ hH = h0
def R65 (Z : State) (a : Addr) (u : Addr) (h0 : Heap) (n0 : Nat) (U : State) (o : Outcome) (U' : State) : Prop := ∃ vV LL, o = .returned vV ∧ Q65 Z a u h0 n0 vV U'.heap LL ∧ FrameEnd U o U' LL ({ frames := 0, cells := 0, slots := 0, locals := 0 } : Room).cells ({ frames := 0, cells := 0, slots := 0, locals := 0 } : Room).slots
set_option maxRecDepth 65536 in
set_option maxHeartbeats 40000000 in
theorem rm65 (l : Launch) (Z : State) (a0 : Array Value) (hw : ∀ d ∈ tables_1, d.before a0 Z = true) (ws : List Jvm.Cond) (a : Addr) (u : Addr) (h0 : Heap) (n0 : Nat) (Z0 : n0 ≤ h0.size) (hp0 : Fld Z h0 a "com/example/myna/myna/delivery/Attempt" "status" "Lcom/example/myna/myna/delivery/Status;" (.ref u)) :
    MetFree l (⟨"com/example/myna/myna/delivery/Attempt", "status", "()Lcom/example/myna/myna/delivery/Status;"⟩ : MethodName) (head1 (Jvm.Cond.code (⟨"com/example/myna/myna/delivery/Attempt", "status", "()Lcom/example/myna/myna/delivery/Status;"⟩ : MethodName) prog_9_method_12_code 1 (some (.object "com/example/myna/myna/delivery/Status")) :: ws) ({ frames := 0, cells := 0, slots := 0, locals := 0 } : Room)) (fun aA U => aA = #[(.ref a)] ∧ Z.Warmed39 U.vm ∧ U.heap = h0) (fun _ _ _ _ _ => True) (fun _ U o U' => ∃ vV LL, o = .returned vV ∧ Q65 Z a u h0 n0 vV U'.heap LL ∧ FrameEnd U o U' LL ({ frames := 0, cells := 0, slots := 0, locals := 0 } : Room).cells ({ frames := 0, cells := 0, slots := 0, locals := 0 } : Room).slots) := by
  refine MetFree.of_bodySF (plainFor_of_name pn_104) hisR ?_
  intro p e s m args below meth cC s₁ Bd hml0 hP hK
  obtain ⟨rfl, hZ, hh⟩ := hP
  have hx := Bd.exec
  have hby := Bd.bytes
  have hml : cC.maxLocals = 1 := hml0
  have hown : s.vm.findClass "com/example/myna/myna/delivery/Attempt" = some m.cls := findClass_of_methodNamed Bd.named
  have hnm := (name_of_methodNamed Bd.named Bd.method).1
  have X0 : Stand p l e ({ frames := 0, cells := 0, slots := 0, locals := 0 } : Room) s m #[(.ref a)] below meth cC s₁ [] 0 0 := Stand.of_body Bd
  have e0 : s₁.heap = h0 := by rw [← hh, Bd.state]; rfl
  have N0 := Fr.nil n0
  show OwnFin p e below (R65 Z a u h0 n0 s) (s₁.setTop (entryFrame m #[(.ref a)] 1))
  rw [ef_65 m a]
  refine OwnFin.step (fun tT kK => XS.aloadN X0.here hx rfl (hb hby d_prog_9_method_12_0) rfl rfl kK) ?_
  show OwnFin p e below _ (s₁.setTop (mkF m 1 #[.val (.ref a)] [(.ref a)]))
  obtain ⟨T1, X1, e1, st1⟩ := getF X0 hx hZ hown (host := "") (Or.inl (hw _ (List.mem_of_getElem? (i := 68) rfl))) Via.refl e0 hp0 (g := (mkF m 1 #[.val (.ref a)] [(.ref a)])) rfl rfl (hb hby d_prog_9_method_12_1)
  refine OwnFin.step st1 ?_
  show OwnFin p e below _ (T1.setTop (mkF m 4 #[.val (.ref a)] [(.ref u)]))
  obtain ⟨fs2, hr2, hrun2, hended2, hW2, hsame2⟩ := X1.leave (v := (some (.ref u))) (fun h => by rw [Bd.returns] at h; cases h)
  refine ⟨_, _, retOut X1 hx Bd.returns rfl (Or.inr (Or.inr (Or.inr (Or.inr ⟨rfl, rfl, rfl⟩)))) (hb hby d_prog_9_method_12_4) hr2, hrun2, hended2, _, _, rfl, ?_, ⟨_, rfl⟩, hW2, hsame2.mono (by decide) (by decide)⟩
  show Q65 Z a u h0 n0 _ T1.heap _
  rw [e1]
  exact ⟨rfl, N0, rfl⟩
theorem d_prog_9_method_13_0 : decode prog_9_method_13_code 0 = .ok (.aload_n 0, 1) := by decide +kernel
theorem d_prog_9_method_13_1 : decode prog_9_method_13_code 1 = .ok (.getfield 30, 3) := by decide +kernel
theorem d_prog_9_method_13_4 : decode prog_9_method_13_code 4 = .ok (.areturn, 1) := by decide +kernel
theorem ef_66 (m : MethodId) (a : Addr) : entryFrame m #[(.ref a)] 1 = mkF m 0 #[.val (.ref a)] [] := by first | (simp [entryFrame, mkF, argsToLocals, Value.category]; done) | rfl
def Q66 (Z : State) (a : Addr) (u : Addr) (h0 : Heap) (n0 : Nat) (vV : Option Value) (hH : Heap) (LL : List Loc) : Prop := vV = some (.ref u) ∧ Fr n0 LL ∧ hH = h0
def R66 (Z : State) (a : Addr) (u : Addr) (h0 : Heap) (n0 : Nat) (U : State) (o : Outcome) (U' : State) : Prop := ∃ vV LL, o = .returned vV ∧ Q66 Z a u h0 n0 vV U'.heap LL ∧ FrameEnd U o U' LL ({ frames := 0, cells := 0, slots := 0, locals := 0 } : Room).cells ({ frames := 0, cells := 0, slots := 0, locals := 0 } : Room).slots
set_option maxRecDepth 65536 in
set_option maxHeartbeats 40000000 in
theorem rm66 (l : Launch) (Z : State) (a0 : Array Value) (hw : ∀ d ∈ tables_1, d.before a0 Z = true) (ws : List Jvm.Cond) (a : Addr) (u : Addr) (h0 : Heap) (n0 : Nat) (Z0 : n0 ≤ h0.size) (hp0 : Fld Z h0 a "com/example/myna/myna/delivery/Attempt" "url" "Ljava/lang/String;" (.ref u)) :
    MetFree l (⟨"com/example/myna/myna/delivery/Attempt", "url", "()Ljava/lang/String;"⟩ : MethodName) (head1 (Jvm.Cond.code (⟨"com/example/myna/myna/delivery/Attempt", "url", "()Ljava/lang/String;"⟩ : MethodName) prog_9_method_13_code 1 (some (.object "java/lang/String")) :: ws) ({ frames := 0, cells := 0, slots := 0, locals := 0 } : Room)) (fun aA U => aA = #[(.ref a)] ∧ Z.Warmed39 U.vm ∧ U.heap = h0) (fun _ _ _ _ _ => True) (fun _ U o U' => ∃ vV LL, o = .returned vV ∧ Q66 Z a u h0 n0 vV U'.heap LL ∧ FrameEnd U o U' LL ({ frames := 0, cells := 0, slots := 0, locals := 0 } : Room).cells ({ frames := 0, cells := 0, slots := 0, locals := 0 } : Room).slots) := by
  refine MetFree.of_bodySF (plainFor_of_name pn_104) hisR ?_
  intro p e s m args below meth cC s₁ Bd hml0 hP hK
  obtain ⟨rfl, hZ, hh⟩ := hP
  have hx := Bd.exec
  have hby := Bd.bytes
  have hml : cC.maxLocals = 1 := hml0
  have hown : s.vm.findClass "com/example/myna/myna/delivery/Attempt" = some m.cls := findClass_of_methodNamed Bd.named
  have hnm := (name_of_methodNamed Bd.named Bd.method).1
  have X0 : Stand p l e ({ frames := 0, cells := 0, slots := 0, locals := 0 } : Room) s m #[(.ref a)] below meth cC s₁ [] 0 0 := Stand.of_body Bd
  have e0 : s₁.heap = h0 := by rw [← hh, Bd.state]; rfl
  have N0 := Fr.nil n0
  show OwnFin p e below (R66 Z a u h0 n0 s) (s₁.setTop (entryFrame m #[(.ref a)] 1))
  rw [ef_66 m a]
  refine OwnFin.step (fun tT kK => XS.aloadN X0.here hx rfl (hb hby d_prog_9_method_13_0) rfl rfl kK) ?_
  show OwnFin p e below _ (s₁.setTop (mkF m 1 #[.val (.ref a)] [(.ref a)]))
  obtain ⟨T1, X1, e1, st1⟩ := getF X0 hx hZ hown (host := "") (Or.inl (hw _ (List.mem_of_getElem? (i := 70) rfl))) Via.refl e0 hp0 (g := (mkF m 1 #[.val (.ref a)] [(.ref a)])) rfl rfl (hb hby d_prog_9_method_13_1)
  refine OwnFin.step st1 ?_
  show OwnFin p e below _ (T1.setTop (mkF m 4 #[.val (.ref a)] [(.ref u)]))
  obtain ⟨fs2, hr2, hrun2, hended2, hW2, hsame2⟩ := X1.leave (v := (some (.ref u))) (fun h => by rw [Bd.returns] at h; cases h)
  refine ⟨_, _, retOut X1 hx Bd.returns rfl (Or.inr (Or.inr (Or.inr (Or.inr ⟨rfl, rfl, rfl⟩)))) (hb hby d_prog_9_method_13_4) hr2, hrun2, hended2, _, _, rfl, ?_, ⟨_, rfl⟩, hW2, hsame2.mono (by decide) (by decide)⟩
  show Q66 Z a u h0 n0 _ T1.heap _
  rw [e1]
  exact ⟨rfl, N0, rfl⟩
theorem d_prog_9_method_14_0 : decode prog_9_method_14_code 0 = .ok (.aload_n 0, 1) := by decide +kernel
theorem d_prog_9_method_14_1 : decode prog_9_method_14_code 1 = .ok (.getfield 33, 3) := by decide +kernel
theorem d_prog_9_method_14_4 : decode prog_9_method_14_code 4 = .ok (.areturn, 1) := by decide +kernel
theorem ef_67 (m : MethodId) (a : Addr) : entryFrame m #[(.ref a)] 1 = mkF m 0 #[.val (.ref a)] [] := by first | (simp [entryFrame, mkF, argsToLocals, Value.category]; done) | rfl
def Q67 (Z : State) (a : Addr) (u : Addr) (h0 : Heap) (n0 : Nat) (vV : Option Value) (hH : Heap) (LL : List Loc) : Prop := vV = some (.ref u) ∧ Fr n0 LL ∧ hH = h0
def R67 (Z : State) (a : Addr) (u : Addr) (h0 : Heap) (n0 : Nat) (U : State) (o : Outcome) (U' : State) : Prop := ∃ vV LL, o = .returned vV ∧ Q67 Z a u h0 n0 vV U'.heap LL ∧ FrameEnd U o U' LL ({ frames := 0, cells := 0, slots := 0, locals := 0 } : Room).cells ({ frames := 0, cells := 0, slots := 0, locals := 0 } : Room).slots
set_option maxRecDepth 65536 in
set_option maxHeartbeats 40000000 in
theorem rm67 (l : Launch) (Z : State) (a0 : Array Value) (hw : ∀ d ∈ tables_1, d.before a0 Z = true) (ws : List Jvm.Cond) (a : Addr) (u : Addr) (h0 : Heap) (n0 : Nat) (Z0 : n0 ≤ h0.size) (hp0 : Fld Z h0 a "com/example/myna/myna/delivery/Attempt" "secret" "Ljava/lang/String;" (.ref u)) :
    MetFree l (⟨"com/example/myna/myna/delivery/Attempt", "secret", "()Ljava/lang/String;"⟩ : MethodName) (head1 (Jvm.Cond.code (⟨"com/example/myna/myna/delivery/Attempt", "secret", "()Ljava/lang/String;"⟩ : MethodName) prog_9_method_14_code 1 (some (.object "java/lang/String")) :: ws) ({ frames := 0, cells := 0, slots := 0, locals := 0 } : Room)) (fun aA U => aA = #[(.ref a)] ∧ Z.Warmed39 U.vm ∧ U.heap = h0) (fun _ _ _ _ _ => True) (fun _ U o U' => ∃ vV LL, o = .returned vV ∧ Q67 Z a u h0 n0 vV U'.heap LL ∧ FrameEnd U o U' LL ({ frames := 0, cells := 0, slots := 0, locals := 0 } : Room).cells ({ frames := 0, cells := 0, slots := 0, locals := 0 } : Room).slots) := by
  refine MetFree.of_bodySF (plainFor_of_name pn_104) hisR ?_
  intro p e s m args below meth cC s₁ Bd hml0 hP hK
  obtain ⟨rfl, hZ, hh⟩ := hP
  have hx := Bd.exec
  have hby := Bd.bytes
  have hml : cC.maxLocals = 1 := hml0
  have hown : s.vm.findClass "com/example/myna/myna/delivery/Attempt" = some m.cls := findClass_of_methodNamed Bd.named
  have hnm := (name_of_methodNamed Bd.named Bd.method).1
  have X0 : Stand p l e ({ frames := 0, cells := 0, slots := 0, locals := 0 } : Room) s m #[(.ref a)] below meth cC s₁ [] 0 0 := Stand.of_body Bd
  have e0 : s₁.heap = h0 := by rw [← hh, Bd.state]; rfl
  have N0 := Fr.nil n0
  show OwnFin p e below (R67 Z a u h0 n0 s) (s₁.setTop (entryFrame m #[(.ref a)] 1))
  rw [ef_67 m a]
  refine OwnFin.step (fun tT kK => XS.aloadN X0.here hx rfl (hb hby d_prog_9_method_14_0) rfl rfl kK) ?_
  show OwnFin p e below _ (s₁.setTop (mkF m 1 #[.val (.ref a)] [(.ref a)]))
  obtain ⟨T1, X1, e1, st1⟩ := getF X0 hx hZ hown (host := "") (Or.inl (hw _ (List.mem_of_getElem? (i := 72) rfl))) Via.refl e0 hp0 (g := (mkF m 1 #[.val (.ref a)] [(.ref a)])) rfl rfl (hb hby d_prog_9_method_14_1)
  refine OwnFin.step st1 ?_
  show OwnFin p e below _ (T1.setTop (mkF m 4 #[.val (.ref a)] [(.ref u)]))
  obtain ⟨fs2, hr2, hrun2, hended2, hW2, hsame2⟩ := X1.leave (v := (some (.ref u))) (fun h => by rw [Bd.returns] at h; cases h)
  refine ⟨_, _, retOut X1 hx Bd.returns rfl (Or.inr (Or.inr (Or.inr (Or.inr ⟨rfl, rfl, rfl⟩)))) (hb hby d_prog_9_method_14_4) hr2, hrun2, hended2, _, _, rfl, ?_, ⟨_, rfl⟩, hW2, hsame2.mono (by decide) (by decide)⟩
  show Q67 Z a u h0 n0 _ T1.heap _
  rw [e1]
  exact ⟨rfl, N0, rfl⟩
theorem d_prog_9_method_15_0 : decode prog_9_method_15_code 0 = .ok (.aload_n 0, 1) := by decide +kernel
theorem d_prog_9_method_15_1 : decode prog_9_method_15_code 1 = .ok (.getfield 36, 3) := by decide +kernel
theorem d_prog_9_method_15_4 : decode prog_9_method_15_code 4 = .ok (.areturn, 1) := by decide +kernel
theorem ef_68 (m : MethodId) (a : Addr) : entryFrame m #[(.ref a)] 1 = mkF m 0 #[.val (.ref a)] [] := by first | (simp [entryFrame, mkF, argsToLocals, Value.category]; done) | rfl
def Q68 (Z : State) (a : Addr) (u : Addr) (h0 : Heap) (n0 : Nat) (vV : Option Value) (hH : Heap) (LL : List Loc) : Prop := vV = some (.ref u) ∧ Fr n0 LL ∧ hH = h0
def R68 (Z : State) (a : Addr) (u : Addr) (h0 : Heap) (n0 : Nat) (U : State) (o : Outcome) (U' : State) : Prop := ∃ vV LL, o = .returned vV ∧ Q68 Z a u h0 n0 vV U'.heap LL ∧ FrameEnd U o U' LL ({ frames := 0, cells := 0, slots := 0, locals := 0 } : Room).cells ({ frames := 0, cells := 0, slots := 0, locals := 0 } : Room).slots
set_option maxRecDepth 65536 in
set_option maxHeartbeats 40000000 in
theorem rm68 (l : Launch) (Z : State) (a0 : Array Value) (hw : ∀ d ∈ tables_1, d.before a0 Z = true) (ws : List Jvm.Cond) (a : Addr) (u : Addr) (h0 : Heap) (n0 : Nat) (Z0 : n0 ≤ h0.size) (hp0 : Fld Z h0 a "com/example/myna/myna/delivery/Attempt" "body" "[B" (.ref u)) :
    MetFree l (⟨"com/example/myna/myna/delivery/Attempt", "body", "()[B"⟩ : MethodName) (head1 (Jvm.Cond.code (⟨"com/example/myna/myna/delivery/Attempt", "body", "()[B"⟩ : MethodName) prog_9_method_15_code 1 (some (.array .byte)) :: ws) ({ frames := 0, cells := 0, slots := 0, locals := 0 } : Room)) (fun aA U => aA = #[(.ref a)] ∧ Z.Warmed39 U.vm ∧ U.heap = h0) (fun _ _ _ _ _ => True) (fun _ U o U' => ∃ vV LL, o = .returned vV ∧ Q68 Z a u h0 n0 vV U'.heap LL ∧ FrameEnd U o U' LL ({ frames := 0, cells := 0, slots := 0, locals := 0 } : Room).cells ({ frames := 0, cells := 0, slots := 0, locals := 0 } : Room).slots) := by
  refine MetFree.of_bodySF (plainFor_of_name pn_104) hisR ?_
  intro p e s m args below meth cC s₁ Bd hml0 hP hK
  obtain ⟨rfl, hZ, hh⟩ := hP
  have hx := Bd.exec
  have hby := Bd.bytes
  have hml : cC.maxLocals = 1 := hml0
  have hown : s.vm.findClass "com/example/myna/myna/delivery/Attempt" = some m.cls := findClass_of_methodNamed Bd.named
  have hnm := (name_of_methodNamed Bd.named Bd.method).1
  have X0 : Stand p l e ({ frames := 0, cells := 0, slots := 0, locals := 0 } : Room) s m #[(.ref a)] below meth cC s₁ [] 0 0 := Stand.of_body Bd
  have e0 : s₁.heap = h0 := by rw [← hh, Bd.state]; rfl
  have N0 := Fr.nil n0
  show OwnFin p e below (R68 Z a u h0 n0 s) (s₁.setTop (entryFrame m #[(.ref a)] 1))
  rw [ef_68 m a]
  refine OwnFin.step (fun tT kK => XS.aloadN X0.here hx rfl (hb hby d_prog_9_method_15_0) rfl rfl kK) ?_
  show OwnFin p e below _ (s₁.setTop (mkF m 1 #[.val (.ref a)] [(.ref a)]))
  obtain ⟨T1, X1, e1, st1⟩ := getF X0 hx hZ hown (host := "") (Or.inl (hw _ (List.mem_of_getElem? (i := 74) rfl))) Via.refl e0 hp0 (g := (mkF m 1 #[.val (.ref a)] [(.ref a)])) rfl rfl (hb hby d_prog_9_method_15_1)
  refine OwnFin.step st1 ?_
  show OwnFin p e below _ (T1.setTop (mkF m 4 #[.val (.ref a)] [(.ref u)]))
  obtain ⟨fs2, hr2, hrun2, hended2, hW2, hsame2⟩ := X1.leave (v := (some (.ref u))) (fun h => by rw [Bd.returns] at h; cases h)
  refine ⟨_, _, retOut X1 hx Bd.returns rfl (Or.inr (Or.inr (Or.inr (Or.inr ⟨rfl, rfl, rfl⟩)))) (hb hby d_prog_9_method_15_4) hr2, hrun2, hended2, _, _, rfl, ?_, ⟨_, rfl⟩, hW2, hsame2.mono (by decide) (by decide)⟩
  show Q68 Z a u h0 n0 _ T1.heap _
  rw [e1]
  exact ⟨rfl, N0, rfl⟩
theorem own_m3 (x : Int32) : ¬ (x &&& (3 : Int32)) < 0 ∧ (x &&& (3 : Int32)).toNatClampNeg ≤ 3 := by
  have h := c_and x (3 : Int32) (by decide)
  have h3 : ((3 : Int32)).toInt = 3 := rfl
  have h0 : ((0 : Int32)).toInt = 0 := rfl
  rw [Int32.lt_iff_toInt_lt]
  simp only [Int32.toNatClampNeg]
  omega
theorem pd_185 : parseMethodDescriptor "(JI)Ljava/lang/String;" = some ⟨[.long, .int], some (.object "java/lang/String")⟩ := by decide +kernel
theorem pd_186 : parseMethodDescriptor "([B)Lcom/example/myna/myna/delivery/Attempt;" = some ⟨[(.array .byte)], some (.object "com/example/myna/myna/delivery/Attempt")⟩ := by decide +kernel
theorem pd_187 : parseMethodDescriptor "()Ljava/lang/String;" = some ⟨[], some (.object "java/lang/String")⟩ := by decide +kernel
theorem pd_188 : parseMethodDescriptor "()I" = some ⟨[], some .int⟩ := by decide +kernel
theorem pd_189 : parseMethodDescriptor "()Lcom/example/myna/myna/delivery/Status;" = some ⟨[], some (.object "com/example/myna/myna/delivery/Status")⟩ := by decide +kernel
theorem pd_190 : parseMethodDescriptor "()[B" = some ⟨[], some (.array .byte)⟩ := by decide +kernel
theorem ef_0 (m : MethodId) (nu : Int32) (se : Int32) (chs : Int64) (le : Int32) : entryFrame m #[(.int nu), (.int se), (.long chs), (.int le)] maxLocals = mkF m 0 #[.val (.int nu), .val (.int se), .val (.long chs), .second, .val (.int le), .unset, .unset, .unset, .unset, .unset, .unset, .unset, .unset, .unset, .unset, .unset, .unset] [] := by first | (simp [entryFrame, mkF, argsToLocals, Value.category, maxLocals]; done) | rfl
def Q0 (Z : State) (nu : Int32) (se : Int32) (chs : Int64) (le : Int32) (cs : Int32) (v0 : Addr) (v1 : Addr) (v2 : Addr) (h0 : Heap) (n0 : Nat) (vV : Option Value) (hH : Heap) (LL : List Loc) : Prop := vV = some (.int (1 : Int32)) ∧ Fr n0 LL ∧ Keep h0 hH []
def R0 (Z : State) (nu : Int32) (se : Int32) (chs : Int64) (le : Int32) (cs : Int32) (v0 : Addr) (v1 : Addr) (v2 : Addr) (h0 : Heap) (n0 : Nat) (U : State) (o : Outcome) (U' : State) : Prop := ∃ vV LL, o = .returned vV ∧ Q0 Z nu se chs le cs v0 v1 v2 h0 n0 vV U'.heap LL ∧ FrameEnd U o U' LL room_1.cells room_1.slots
set_option maxRecDepth 65536 in
set_option maxHeartbeats 40000000 in
theorem rm0 (l : Launch) (Z : State) (a0 : Array Value) (hw : ∀ d ∈ tables_1, d.before a0 Z = true) (ws : List Jvm.Cond) (nu : Int32) (se : Int32) (chs : Int64) (le : Int32) (cs : Int32) (v0 : Addr) (v1 : Addr) (v2 : Addr) (h0 : Heap) (n0 : Nat) (Z0 : n0 ≤ h0.size) (hp0 : Sta Z h0 "java/lang/String" "COMPACT_STRINGS" "Z" (.int cs)) (hp1 : ¬ cs = (0 : Int32)) (hp2 : Sta Z h0 "com/example/myna/myna/delivery/Status" "PENDING" "Lcom/example/myna/myna/delivery/Status;" (.ref v0)) (hp3 : Sta Z h0 "com/example/myna/myna/delivery/Status" "DELIVERED" "Lcom/example/myna/myna/delivery/Status;" (.ref v1)) (hp4 : Sta Z h0 "com/example/myna/myna/delivery/Status" "DEAD" "Lcom/example/myna/myna/delivery/Status;" (.ref v2)) (hp5 : Exa Z h0 v0 "com/example/myna/myna/delivery/Status") (hp6 : Exa Z h0 v1 "com/example/myna/myna/delivery/Status") (hp7 : Exa Z h0 v2 "com/example/myna/myna/delivery/Status") :
    MetFree l x (head1 (Jvm.Cond.code x code maxLocals ret :: ws) room_1) (fun aA U => aA = #[(.int nu), (.int se), (.long chs), (.int le)] ∧ Z.Warmed39 U.vm ∧ U.heap = h0) (fun _ _ _ _ _ => True) (fun _ U o U' => ∃ vV LL, o = .returned vV ∧ Q0 Z nu se chs le cs v0 v1 v2 h0 n0 vV U'.heap LL ∧ FrameEnd U o U' LL room_1.cells room_1.slots) := by
  refine MetFree.of_bodySF (plainFor_of_name pn_84) hisR ?_
  intro p e s m args below meth cC s₁ Bd hml0 hP hK
  obtain ⟨rfl, hZ, hh⟩ := hP
  have hx := Bd.exec
  have hby := Bd.bytes
  have hml : cC.maxLocals = 17 := hml0
  have hown : s.vm.findClass "com/example/myna/myna/delivery/AttemptWithBodyPinLaw" = some m.cls := findClass_of_methodNamed Bd.named
  have hnm := (name_of_methodNamed Bd.named Bd.method).1
  have X0 : Stand p l e room_1 s m #[(.int nu), (.int se), (.long chs), (.int le)] below meth cC s₁ [] 0 0 := Stand.of_body Bd
  have e0 : s₁.heap = h0 := by rw [← hh, Bd.state]; rfl
  have N0 := Fr.nil n0
  show OwnFin p e below (R0 Z nu se chs le cs v0 v1 v2 h0 n0 s) (s₁.setTop (entryFrame m #[(.int nu), (.int se), (.long chs), (.int le)] maxLocals))
  rw [ef_0 m nu se chs le]
  refine OwnFin.step (fun tT kK => XS.lloadN X0.here hx rfl (hb hby at_0) rfl kK) ?_
  show OwnFin p e below _ (s₁.setTop (mkF m 1 #[.val (.int nu), .val (.int se), .val (.long chs), .second, .val (.int le), .unset, .unset, .unset, .unset, .unset, .unset, .unset, .unset, .unset, .unset, .unset, .unset] [(.long chs)]))
  refine OwnFin.step (fun tT kK => XS.iconst X0.here hx rfl (hb hby at_1) kK) ?_
  show OwnFin p e below _ (s₁.setTop (mkF m 2 #[.val (.int nu), .val (.int se), .val (.long chs), .second, .val (.int le), .unset, .unset, .unset, .unset, .unset, .unset, .unset, .unset, .unset, .unset, .unset, .unset] [(.int (0 : Int32)), (.long chs)]))
  obtain ⟨_, _, ⟨T1, L1, k1, n1⟩, -, X1, ⟨Lc1, hQ1, l1, y1, z1⟩, st1⟩ := Jvm.LawKit.callS X0 hx (y := (⟨"com/example/myna/myna/delivery/AttemptWithBodyPinLaw", "str", "(JI)Ljava/lang/String;"⟩ : MethodName)) hown (mvT hZ (hw _ (List.mem_of_getElem? (i := 0) rfl))) (mvT hZ (hw _ (List.mem_of_getElem? (i := 1) rfl))) (mvT hZ (hw _ (List.mem_of_getElem? (i := 2) rfl))) (mvT hZ (hw _ (List.mem_of_getElem? (i := 3) rfl))) (by decide) (backOf (W := 0) (rm3 l Z a0 hw [] chs (0 : Int32) cs h0 n0 Z0 hp0 (hp1)) hZ (hw _ (List.mem_of_getElem? (i := 3) rfl)) (hw _ (List.mem_of_getElem? (i := 2) rfl)) (by decide) (by decide)) (g := (mkF m 2 #[.val (.int nu), .val (.int se), .val (.long chs), .second, .val (.int le), .unset, .unset, .unset, .unset, .unset, .unset, .unset, .unset, .unset, .unset, .unset, .unset] [(.int (0 : Int32)), (.long chs)])) rfl (by rw [hml]; rfl) (argsL := [(.long chs), (.int (0 : Int32))]) (rest := []) (lenOf pd_185 rfl) rfl (by show 2 * 0 + _ ≤ _; exact Nat.le_of_eq rfl) (hb hby at_2) (fun _ _ => ⟨rfl, e0, (by decide : 0 + 3 ≤ _), (by decide : 0 + 6 ≤ _)⟩)
  dsimp only [Pt.U, Pt.locs, Pt.cells, Pt.slots] at X1 l1 y1 z1 st1 hQ1
  subst l1 y1 z1
  obtain ⟨b2, ⟨rfl, N1q, K1, B1_0, P1_0⟩⟩ := hQ1
  have N1 := Fr.app N0 N1q
  refine OwnFin.step st1 ?_
  have E1 : Ext h0 T1.heap := ⟨K1.1, fun x c q => K1.2.1 x c q nin0⟩
  show OwnFin p e below _ (T1.setTop (mkF m 5 #[.val (.int nu), .val (.int se), .val (.long chs), .second, .val (.int le), .unset, .unset, .unset, .unset, .unset, .unset, .unset, .unset, .unset, .unset, .unset, .unset] [(.ref b2)]))
  refine OwnFin.step (fun tT kK => XS.astore X1.here hx rfl (hb hby at_5) rfl rfl (l' := #[.val (.int nu), .val (.int se), .val (.long chs), .second, .val (.int le), .val (.ref b2), .unset, .unset, .unset, .unset, .unset, .unset, .unset, .unset, .unset, .unset, .unset]) rfl kK) ?_
  show OwnFin p e below _ (T1.setTop (mkF m 7 #[.val (.int nu), .val (.int se), .val (.long chs), .second, .val (.int le), .val (.ref b2), .unset, .unset, .unset, .unset, .unset, .unset, .unset, .unset, .unset, .unset, .unset] []))
  refine OwnFin.step (fun tT kK => XS.lloadN X1.here hx rfl (hb hby at_7) rfl kK) ?_
  show OwnFin p e below _ (T1.setTop (mkF m 8 #[.val (.int nu), .val (.int se), .val (.long chs), .second, .val (.int le), .val (.ref b2), .unset, .unset, .unset, .unset, .unset, .unset, .unset, .unset, .unset, .unset, .unset] [(.long chs)]))
  refine OwnFin.step (fun tT kK => XS.bipush X1.here hx rfl (hb hby at_8) kK) ?_
  show OwnFin p e below _ (T1.setTop (mkF m 10 #[.val (.int nu), .val (.int se), .val (.long chs), .second, .val (.int le), .val (.ref b2), .unset, .unset, .unset, .unset, .unset, .unset, .unset, .unset, .unset, .unset, .unset] [(.int (8 : Int32)), (.long chs)]))
  have f3 : Sta Z T1.heap "java/lang/String" "COMPACT_STRINGS" "Z" (.int cs) := (hp0.ext E1)
  obtain ⟨_, _, ⟨T4, L4, k4, n4⟩, -, X4, ⟨Lc4, hQ4, l4, y4, z4⟩, st4⟩ := Jvm.LawKit.callS X1 hx (y := (⟨"com/example/myna/myna/delivery/AttemptWithBodyPinLaw", "str", "(JI)Ljava/lang/String;"⟩ : MethodName)) hown (mvT hZ (hw _ (List.mem_of_getElem? (i := 0) rfl))) (mvT hZ (hw _ (List.mem_of_getElem? (i := 1) rfl))) (mvT hZ (hw _ (List.mem_of_getElem? (i := 2) rfl))) (mvT hZ (hw _ (List.mem_of_getElem? (i := 3) rfl))) (by decide) (backOf (W := 0) (rm3 l Z a0 hw [] chs (8 : Int32) cs T1.heap n0 (Nat.le_trans Z0 E1.1) f3 (hp1)) hZ (hw _ (List.mem_of_getElem? (i := 3) rfl)) (hw _ (List.mem_of_getElem? (i := 2) rfl)) (by decide) (by decide)) (g := (mkF m 10 #[.val (.int nu), .val (.int se), .val (.long chs), .second, .val (.int le), .val (.ref b2), .unset, .unset, .unset, .unset, .unset, .unset, .unset, .unset, .unset, .unset, .unset] [(.int (8 : Int32)), (.long chs)])) rfl (by rw [hml]; rfl) (argsL := [(.long chs), (.int (8 : Int32))]) (rest := []) (lenOf pd_185 rfl) rfl (by show 2 * 0 + _ ≤ _; exact Nat.le_of_eq rfl) (hb hby at_10) (fun _ _ => ⟨rfl, rfl, (by decide : 3 + 3 ≤ _), (by decide : 6 + 6 ≤ _)⟩)
  dsimp only [Pt.U, Pt.locs, Pt.cells, Pt.slots] at X4 l4 y4 z4 st4 hQ4
  subst l4 y4 z4
  obtain ⟨b5, ⟨rfl, N4q, K4, B4_0, P4_0⟩⟩ := hQ4
  have N4 := Fr.app N1 N4q
  refine OwnFin.step st4 ?_
  have E4 : Ext T1.heap T4.heap := ⟨K4.1, fun x c q => K4.2.1 x c q nin0⟩
  show OwnFin p e below _ (T4.setTop (mkF m 13 #[.val (.int nu), .val (.int se), .val (.long chs), .second, .val (.int le), .val (.ref b2), .unset, .unset, .unset, .unset, .unset, .unset, .unset, .unset, .unset, .unset, .unset] [(.ref b5)]))
  refine OwnFin.step (fun tT kK => XS.astore X4.here hx rfl (hb hby at_13) rfl rfl (l' := #[.val (.int nu), .val (.int se), .val (.long chs), .second, .val (.int le), .val (.ref b2), .val (.ref b5), .unset, .unset, .unset, .unset, .unset, .unset, .unset, .unset, .unset, .unset]) rfl kK) ?_
  show OwnFin p e below _ (T4.setTop (mkF m 15 #[.val (.int nu), .val (.int se), .val (.long chs), .second, .val (.int le), .val (.ref b2), .val (.ref b5), .unset, .unset, .unset, .unset, .unset, .unset, .unset, .unset, .unset, .unset] []))
  refine OwnFin.step (fun tT kK => XS.lloadN X4.here hx rfl (hb hby at_15) rfl kK) ?_
  show OwnFin p e below _ (T4.setTop (mkF m 16 #[.val (.int nu), .val (.int se), .val (.long chs), .second, .val (.int le), .val (.ref b2), .val (.ref b5), .unset, .unset, .unset, .unset, .unset, .unset, .unset, .unset, .unset, .unset] [(.long chs)]))
  refine OwnFin.step (fun tT kK => XS.bipush X4.here hx rfl (hb hby at_16) kK) ?_
  show OwnFin p e below _ (T4.setTop (mkF m 18 #[.val (.int nu), .val (.int se), .val (.long chs), .second, .val (.int le), .val (.ref b2), .val (.ref b5), .unset, .unset, .unset, .unset, .unset, .unset, .unset, .unset, .unset, .unset] [(.int (16 : Int32)), (.long chs)]))
  have f6 : Sta Z T4.heap "java/lang/String" "COMPACT_STRINGS" "Z" (.int cs) := (f3.ext E4)
  obtain ⟨_, _, ⟨T7, L7, k7, n7⟩, -, X7, ⟨Lc7, hQ7, l7, y7, z7⟩, st7⟩ := Jvm.LawKit.callS X4 hx (y := (⟨"com/example/myna/myna/delivery/AttemptWithBodyPinLaw", "str", "(JI)Ljava/lang/String;"⟩ : MethodName)) hown (mvT hZ (hw _ (List.mem_of_getElem? (i := 0) rfl))) (mvT hZ (hw _ (List.mem_of_getElem? (i := 1) rfl))) (mvT hZ (hw _ (List.mem_of_getElem? (i := 2) rfl))) (mvT hZ (hw _ (List.mem_of_getElem? (i := 3) rfl))) (by decide) (backOf (W := 0) (rm3 l Z a0 hw [] chs (16 : Int32) cs T4.heap n0 (Nat.le_trans (Nat.le_trans Z0 E1.1) E4.1) f6 (hp1)) hZ (hw _ (List.mem_of_getElem? (i := 3) rfl)) (hw _ (List.mem_of_getElem? (i := 2) rfl)) (by decide) (by decide)) (g := (mkF m 18 #[.val (.int nu), .val (.int se), .val (.long chs), .second, .val (.int le), .val (.ref b2), .val (.ref b5), .unset, .unset, .unset, .unset, .unset, .unset, .unset, .unset, .unset, .unset] [(.int (16 : Int32)), (.long chs)])) rfl (by rw [hml]; rfl) (argsL := [(.long chs), (.int (16 : Int32))]) (rest := []) (lenOf pd_185 rfl) rfl (by show 2 * 0 + _ ≤ _; exact Nat.le_of_eq rfl) (hb hby at_18) (fun _ _ => ⟨rfl, rfl, (by decide : 6 + 3 ≤ _), (by decide : 12 + 6 ≤ _)⟩)
  dsimp only [Pt.U, Pt.locs, Pt.cells, Pt.slots] at X7 l7 y7 z7 st7 hQ7
  subst l7 y7 z7
  obtain ⟨b8, ⟨rfl, N7q, K7, B7_0, P7_0⟩⟩ := hQ7
  have N7 := Fr.app N4 N7q
  refine OwnFin.step st7 ?_
  have E7 : Ext T4.heap T7.heap := ⟨K7.1, fun x c q => K7.2.1 x c q nin0⟩
  show OwnFin p e below _ (T7.setTop (mkF m 21 #[.val (.int nu), .val (.int se), .val (.long chs), .second, .val (.int le), .val (.ref b2), .val (.ref b5), .unset, .unset, .unset, .unset, .unset, .unset, .unset, .unset, .unset, .unset] [(.ref b8)]))
  refine OwnFin.step (fun tT kK => XS.astore X7.here hx rfl (hb hby at_21) rfl rfl (l' := #[.val (.int nu), .val (.int se), .val (.long chs), .second, .val (.int le), .val (.ref b2), .val (.ref b5), .val (.ref b8), .unset, .unset, .unset, .unset, .unset, .unset, .unset, .unset, .unset]) rfl kK) ?_
  show OwnFin p e below _ (T7.setTop (mkF m 23 #[.val (.int nu), .val (.int se), .val (.long chs), .second, .val (.int le), .val (.ref b2), .val (.ref b5), .val (.ref b8), .unset, .unset, .unset, .unset, .unset, .unset, .unset, .unset, .unset] []))
  refine OwnFin.step (fun tT kK => XS.lloadN X7.here hx rfl (hb hby at_23) rfl kK) ?_
  show OwnFin p e below _ (T7.setTop (mkF m 24 #[.val (.int nu), .val (.int se), .val (.long chs), .second, .val (.int le), .val (.ref b2), .val (.ref b5), .val (.ref b8), .unset, .unset, .unset, .unset, .unset, .unset, .unset, .unset, .unset] [(.long chs)]))
  refine OwnFin.step (fun tT kK => XS.bipush X7.here hx rfl (hb hby at_24) kK) ?_
  show OwnFin p e below _ (T7.setTop (mkF m 26 #[.val (.int nu), .val (.int se), .val (.long chs), .second, .val (.int le), .val (.ref b2), .val (.ref b5), .val (.ref b8), .unset, .unset, .unset, .unset, .unset, .unset, .unset, .unset, .unset] [(.int (24 : Int32)), (.long chs)]))
  have f9 : Sta Z T7.heap "java/lang/String" "COMPACT_STRINGS" "Z" (.int cs) := (f6.ext E7)
  obtain ⟨_, _, ⟨T10, L10, k10, n10⟩, -, X10, ⟨Lc10, hQ10, l10, y10, z10⟩, st10⟩ := Jvm.LawKit.callS X7 hx (y := (⟨"com/example/myna/myna/delivery/AttemptWithBodyPinLaw", "str", "(JI)Ljava/lang/String;"⟩ : MethodName)) hown (mvT hZ (hw _ (List.mem_of_getElem? (i := 0) rfl))) (mvT hZ (hw _ (List.mem_of_getElem? (i := 1) rfl))) (mvT hZ (hw _ (List.mem_of_getElem? (i := 2) rfl))) (mvT hZ (hw _ (List.mem_of_getElem? (i := 3) rfl))) (by decide) (backOf (W := 0) (rm3 l Z a0 hw [] chs (24 : Int32) cs T7.heap n0 (Nat.le_trans (Nat.le_trans (Nat.le_trans Z0 E1.1) E4.1) E7.1) f9 (hp1)) hZ (hw _ (List.mem_of_getElem? (i := 3) rfl)) (hw _ (List.mem_of_getElem? (i := 2) rfl)) (by decide) (by decide)) (g := (mkF m 26 #[.val (.int nu), .val (.int se), .val (.long chs), .second, .val (.int le), .val (.ref b2), .val (.ref b5), .val (.ref b8), .unset, .unset, .unset, .unset, .unset, .unset, .unset, .unset, .unset] [(.int (24 : Int32)), (.long chs)])) rfl (by rw [hml]; rfl) (argsL := [(.long chs), (.int (24 : Int32))]) (rest := []) (lenOf pd_185 rfl) rfl (by show 2 * 0 + _ ≤ _; exact Nat.le_of_eq rfl) (hb hby at_26) (fun _ _ => ⟨rfl, rfl, (by decide : 9 + 3 ≤ _), (by decide : 18 + 6 ≤ _)⟩)
  dsimp only [Pt.U, Pt.locs, Pt.cells, Pt.slots] at X10 l10 y10 z10 st10 hQ10
  subst l10 y10 z10
  obtain ⟨b11, ⟨rfl, N10q, K10, B10_0, P10_0⟩⟩ := hQ10
  have N10 := Fr.app N7 N10q
  refine OwnFin.step st10 ?_
  have E10 : Ext T7.heap T10.heap := ⟨K10.1, fun x c q => K10.2.1 x c q nin0⟩
  show OwnFin p e below _ (T10.setTop (mkF m 29 #[.val (.int nu), .val (.int se), .val (.long chs), .second, .val (.int le), .val (.ref b2), .val (.ref b5), .val (.ref b8), .unset, .unset, .unset, .unset, .unset, .unset, .unset, .unset, .unset] [(.ref b11)]))
  refine OwnFin.step (fun tT kK => XS.astore X10.here hx rfl (hb hby at_29) rfl rfl (l' := #[.val (.int nu), .val (.int se), .val (.long chs), .second, .val (.int le), .val (.ref b2), .val (.ref b5), .val (.ref b8), .val (.ref b11), .unset, .unset, .unset, .unset, .unset, .unset, .unset, .unset]) rfl kK) ?_
  show OwnFin p e below _ (T10.setTop (mkF m 31 #[.val (.int nu), .val (.int se), .val (.long chs), .second, .val (.int le), .val (.ref b2), .val (.ref b5), .val (.ref b8), .val (.ref b11), .unset, .unset, .unset, .unset, .unset, .unset, .unset, .unset] []))
  refine OwnFin.step (fun tT kK => XS.lloadN X10.here hx rfl (hb hby at_31) rfl kK) ?_
  show OwnFin p e below _ (T10.setTop (mkF m 32 #[.val (.int nu), .val (.int se), .val (.long chs), .second, .val (.int le), .val (.ref b2), .val (.ref b5), .val (.ref b8), .val (.ref b11), .unset, .unset, .unset, .unset, .unset, .unset, .unset, .unset] [(.long chs)]))
  refine OwnFin.step (fun tT kK => XS.bipush X10.here hx rfl (hb hby at_32) kK) ?_
  show OwnFin p e below _ (T10.setTop (mkF m 34 #[.val (.int nu), .val (.int se), .val (.long chs), .second, .val (.int le), .val (.ref b2), .val (.ref b5), .val (.ref b8), .val (.ref b11), .unset, .unset, .unset, .unset, .unset, .unset, .unset, .unset] [(.int (32 : Int32)), (.long chs)]))
  have f12 : Sta Z T10.heap "java/lang/String" "COMPACT_STRINGS" "Z" (.int cs) := (f9.ext E10)
  obtain ⟨_, _, ⟨T13, L13, k13, n13⟩, -, X13, ⟨Lc13, hQ13, l13, y13, z13⟩, st13⟩ := Jvm.LawKit.callS X10 hx (y := (⟨"com/example/myna/myna/delivery/AttemptWithBodyPinLaw", "str", "(JI)Ljava/lang/String;"⟩ : MethodName)) hown (mvT hZ (hw _ (List.mem_of_getElem? (i := 0) rfl))) (mvT hZ (hw _ (List.mem_of_getElem? (i := 1) rfl))) (mvT hZ (hw _ (List.mem_of_getElem? (i := 2) rfl))) (mvT hZ (hw _ (List.mem_of_getElem? (i := 3) rfl))) (by decide) (backOf (W := 0) (rm3 l Z a0 hw [] chs (32 : Int32) cs T10.heap n0 (Nat.le_trans (Nat.le_trans (Nat.le_trans (Nat.le_trans Z0 E1.1) E4.1) E7.1) E10.1) f12 (hp1)) hZ (hw _ (List.mem_of_getElem? (i := 3) rfl)) (hw _ (List.mem_of_getElem? (i := 2) rfl)) (by decide) (by decide)) (g := (mkF m 34 #[.val (.int nu), .val (.int se), .val (.long chs), .second, .val (.int le), .val (.ref b2), .val (.ref b5), .val (.ref b8), .val (.ref b11), .unset, .unset, .unset, .unset, .unset, .unset, .unset, .unset] [(.int (32 : Int32)), (.long chs)])) rfl (by rw [hml]; rfl) (argsL := [(.long chs), (.int (32 : Int32))]) (rest := []) (lenOf pd_185 rfl) rfl (by show 2 * 0 + _ ≤ _; exact Nat.le_of_eq rfl) (hb hby at_34) (fun _ _ => ⟨rfl, rfl, (by decide : 12 + 3 ≤ _), (by decide : 24 + 6 ≤ _)⟩)
  dsimp only [Pt.U, Pt.locs, Pt.cells, Pt.slots] at X13 l13 y13 z13 st13 hQ13
  subst l13 y13 z13
  obtain ⟨b14, ⟨rfl, N13q, K13, B13_0, P13_0⟩⟩ := hQ13
  have N13 := Fr.app N10 N13q
  refine OwnFin.step st13 ?_
  have E13 : Ext T10.heap T13.heap := ⟨K13.1, fun x c q => K13.2.1 x c q nin0⟩
  show OwnFin p e below _ (T13.setTop (mkF m 37 #[.val (.int nu), .val (.int se), .val (.long chs), .second, .val (.int le), .val (.ref b2), .val (.ref b5), .val (.ref b8), .val (.ref b11), .unset, .unset, .unset, .unset, .unset, .unset, .unset, .unset] [(.ref b14)]))
  refine OwnFin.step (fun tT kK => XS.astore X13.here hx rfl (hb hby at_37) rfl rfl (l' := #[.val (.int nu), .val (.int se), .val (.long chs), .second, .val (.int le), .val (.ref b2), .val (.ref b5), .val (.ref b8), .val (.ref b11), .val (.ref b14), .unset, .unset, .unset, .unset, .unset, .unset, .unset]) rfl kK) ?_
  show OwnFin p e below _ (T13.setTop (mkF m 39 #[.val (.int nu), .val (.int se), .val (.long chs), .second, .val (.int le), .val (.ref b2), .val (.ref b5), .val (.ref b8), .val (.ref b11), .val (.ref b14), .unset, .unset, .unset, .unset, .unset, .unset, .unset] []))
  refine OwnFin.step (fun tT kK => XS.lloadN X13.here hx rfl (hb hby at_39) rfl kK) ?_
  show OwnFin p e below _ (T13.setTop (mkF m 40 #[.val (.int nu), .val (.int se), .val (.long chs), .second, .val (.int le), .val (.ref b2), .val (.ref b5), .val (.ref b8), .val (.ref b11), .val (.ref b14), .unset, .unset, .unset, .unset, .unset, .unset, .unset] [(.long chs)]))
  refine OwnFin.step (fun tT kK => XS.bipush X13.here hx rfl (hb hby at_40) kK) ?_
  show OwnFin p e below _ (T13.setTop (mkF m 42 #[.val (.int nu), .val (.int se), .val (.long chs), .second, .val (.int le), .val (.ref b2), .val (.ref b5), .val (.ref b8), .val (.ref b11), .val (.ref b14), .unset, .unset, .unset, .unset, .unset, .unset, .unset] [(.int (40 : Int32)), (.long chs)]))
  have f15 : Sta Z T13.heap "java/lang/String" "COMPACT_STRINGS" "Z" (.int cs) := (f12.ext E13)
  obtain ⟨_, _, ⟨T16, L16, k16, n16⟩, -, X16, ⟨Lc16, hQ16, l16, y16, z16⟩, st16⟩ := Jvm.LawKit.callS X13 hx (y := (⟨"com/example/myna/myna/delivery/AttemptWithBodyPinLaw", "str", "(JI)Ljava/lang/String;"⟩ : MethodName)) hown (mvT hZ (hw _ (List.mem_of_getElem? (i := 0) rfl))) (mvT hZ (hw _ (List.mem_of_getElem? (i := 1) rfl))) (mvT hZ (hw _ (List.mem_of_getElem? (i := 2) rfl))) (mvT hZ (hw _ (List.mem_of_getElem? (i := 3) rfl))) (by decide) (backOf (W := 0) (rm3 l Z a0 hw [] chs (40 : Int32) cs T13.heap n0 (Nat.le_trans (Nat.le_trans (Nat.le_trans (Nat.le_trans (Nat.le_trans Z0 E1.1) E4.1) E7.1) E10.1) E13.1) f15 (hp1)) hZ (hw _ (List.mem_of_getElem? (i := 3) rfl)) (hw _ (List.mem_of_getElem? (i := 2) rfl)) (by decide) (by decide)) (g := (mkF m 42 #[.val (.int nu), .val (.int se), .val (.long chs), .second, .val (.int le), .val (.ref b2), .val (.ref b5), .val (.ref b8), .val (.ref b11), .val (.ref b14), .unset, .unset, .unset, .unset, .unset, .unset, .unset] [(.int (40 : Int32)), (.long chs)])) rfl (by rw [hml]; rfl) (argsL := [(.long chs), (.int (40 : Int32))]) (rest := []) (lenOf pd_185 rfl) rfl (by show 2 * 0 + _ ≤ _; exact Nat.le_of_eq rfl) (hb hby at_42) (fun _ _ => ⟨rfl, rfl, (by decide : 15 + 3 ≤ _), (by decide : 30 + 6 ≤ _)⟩)
  dsimp only [Pt.U, Pt.locs, Pt.cells, Pt.slots] at X16 l16 y16 z16 st16 hQ16
  subst l16 y16 z16
  obtain ⟨b17, ⟨rfl, N16q, K16, B16_0, P16_0⟩⟩ := hQ16
  have N16 := Fr.app N13 N16q
  refine OwnFin.step st16 ?_
  have E16 : Ext T13.heap T16.heap := ⟨K16.1, fun x c q => K16.2.1 x c q nin0⟩
  show OwnFin p e below _ (T16.setTop (mkF m 45 #[.val (.int nu), .val (.int se), .val (.long chs), .second, .val (.int le), .val (.ref b2), .val (.ref b5), .val (.ref b8), .val (.ref b11), .val (.ref b14), .unset, .unset, .unset, .unset, .unset, .unset, .unset] [(.ref b17)]))
  refine OwnFin.step (fun tT kK => XS.astore X16.here hx rfl (hb hby at_45) rfl rfl (l' := #[.val (.int nu), .val (.int se), .val (.long chs), .second, .val (.int le), .val (.ref b2), .val (.ref b5), .val (.ref b8), .val (.ref b11), .val (.ref b14), .val (.ref b17), .unset, .unset, .unset, .unset, .unset, .unset]) rfl kK) ?_
  show OwnFin p e below _ (T16.setTop (mkF m 47 #[.val (.int nu), .val (.int se), .val (.long chs), .second, .val (.int le), .val (.ref b2), .val (.ref b5), .val (.ref b8), .val (.ref b11), .val (.ref b14), .val (.ref b17), .unset, .unset, .unset, .unset, .unset, .unset] []))
  refine OwnFin.step (fun tT kK => XS.iconst X16.here hx rfl (hb hby at_47) kK) ?_
  show OwnFin p e below _ (T16.setTop (mkF m 48 #[.val (.int nu), .val (.int se), .val (.long chs), .second, .val (.int le), .val (.ref b2), .val (.ref b5), .val (.ref b8), .val (.ref b11), .val (.ref b14), .val (.ref b17), .unset, .unset, .unset, .unset, .unset, .unset] [(.int (3 : Int32))]))
  obtain ⟨T18, h18, k18, X18, e18, E18, A18, O18, st18⟩ := newR X16 hx hZ hown (hw _ (List.mem_of_getElem? (i := 35) rfl)) (hw _ (List.mem_of_getElem? (i := 36) rfl)) rfl (g := (mkF m 48 #[.val (.int nu), .val (.int se), .val (.long chs), .second, .val (.int le), .val (.ref b2), .val (.ref b5), .val (.ref b8), .val (.ref b11), .val (.ref b14), .val (.ref b17), .unset, .unset, .unset, .unset, .unset, .unset] [(.int (3 : Int32))])) rfl (hb hby at_48) rfl (by decide) (cap := 3) (by decide) (by decide) (by decide) (by decide)
  obtain ⟨b18, g18⟩ : ∃ z, z = T16.heap.size := ⟨_, rfl⟩
  rw [← g18] at A18 st18
  refine OwnFin.step st18 ?_
  have V18 : Arv Z h18 b18 k18 (.object "com/example/myna/myna/delivery/Status") (3 : Int32) [.null, .null, .null] .null := (Arv.new A18 (by decide)).pad (pad_rep [] .null 3)
  show OwnFin p e below _ (T18.setTop (mkF m 51 #[.val (.int nu), .val (.int se), .val (.long chs), .second, .val (.int le), .val (.ref b2), .val (.ref b5), .val (.ref b8), .val (.ref b11), .val (.ref b14), .val (.ref b17), .unset, .unset, .unset, .unset, .unset, .unset] [(.ref b18)]))
  refine OwnFin.step (fun tT kK => XS.dup X18.here hx rfl (hb hby at_51) rfl rfl kK) ?_
  show OwnFin p e below _ (T18.setTop (mkF m 52 #[.val (.int nu), .val (.int se), .val (.long chs), .second, .val (.int le), .val (.ref b2), .val (.ref b5), .val (.ref b8), .val (.ref b11), .val (.ref b14), .val (.ref b17), .unset, .unset, .unset, .unset, .unset, .unset] [(.ref b18), (.ref b18)]))
  refine OwnFin.step (fun tT kK => XS.iconst X18.here hx rfl (hb hby at_52) kK) ?_
  show OwnFin p e below _ (T18.setTop (mkF m 53 #[.val (.int nu), .val (.int se), .val (.long chs), .second, .val (.int le), .val (.ref b2), .val (.ref b5), .val (.ref b8), .val (.ref b11), .val (.ref b14), .val (.ref b17), .unset, .unset, .unset, .unset, .unset, .unset] [(.int (0 : Int32)), (.ref b18), (.ref b18)]))
  have f19 : Sta Z h18 "com/example/myna/myna/delivery/Status" "PENDING" "Lcom/example/myna/myna/delivery/Status;" (.ref v0) := (((((((hp2.ext E1).ext E4).ext E7).ext E10).ext E13).ext E16).ext E18)
  obtain ⟨T20, X20, e20, st20⟩ := getS2 X18 hx hZ hown (host := "") (Or.inl (hw _ (List.mem_of_getElem? (i := 37) rfl))) Via.refl e18 f19 (g := (mkF m 53 #[.val (.int nu), .val (.int se), .val (.long chs), .second, .val (.int le), .val (.ref b2), .val (.ref b5), .val (.ref b8), .val (.ref b11), .val (.ref b14), .val (.ref b17), .unset, .unset, .unset, .unset, .unset, .unset] [(.int (0 : Int32)), (.ref b18), (.ref b18)])) rfl (hb hby at_53)
  refine OwnFin.step st20 ?_
  show OwnFin p e below _ (T20.setTop (mkF m 56 #[.val (.int nu), .val (.int se), .val (.long chs), .second, .val (.int le), .val (.ref b2), .val (.ref b5), .val (.ref b8), .val (.ref b11), .val (.ref b14), .val (.ref b17), .unset, .unset, .unset, .unset, .unset, .unset] [(.ref v0), (.int (0 : Int32)), (.ref b18), (.ref b18)]))
  have f21 : Exa Z h18 v0 "com/example/myna/myna/delivery/Status" := (((((((hp5.ext E1).ext E4).ext E7).ext E10).ext E13).ext E16).ext E18)
  obtain ⟨cl22, Ar22, q22, Sz22, Ng22, H22, G22⟩ := id V18
  have hin22 : ¬ ((0 : Int32) < 0 ∨ cl22.slots.size ≤ ((0 : Int32)).toNatClampNeg) := inb_of Sz22 ⟨by decide, by decide⟩
  obtain ⟨T23, h23, X23, e23, W23, st23⟩ := stR X20 hx hZ e20 Ar22 (j := (0 : Int32)) hin22 rfl (Sto.ofV Ar22 q22 O18 (Ins.self f21)) (g := (mkF m 56 #[.val (.int nu), .val (.int se), .val (.long chs), .second, .val (.int le), .val (.ref b2), .val (.ref b5), .val (.ref b8), .val (.ref b11), .val (.ref b14), .val (.ref b17), .unset, .unset, .unset, .unset, .unset, .unset] [(.ref v0), (.int (0 : Int32)), (.ref b18), (.ref b18)])) rfl rfl (hb hby at_56)
  refine OwnFin.step st23 ?_
  have N23 := Fr.snoc X23 N16 (Nat.le_trans (Nat.le_trans (Nat.le_trans (Nat.le_trans (Nat.le_trans (Nat.le_trans (Nat.le_trans Z0 E1.1) E4.1) E7.1) E10.1) E13.1) E16.1) (Nat.le_of_eq g18.symm))
  have V23 : Arv Z h23 b18 k18 (.object "com/example/myna/myna/delivery/Status") (3 : Int32) [(.ref v0), .null, .null] .null := Arv.set Ar22 q22 Sz22 Ng22 H22 G22 rfl W23 0 rfl (Nat.le_of_ble_eq_true rfl)
  show OwnFin p e below _ (T23.setTop (mkF m 57 #[.val (.int nu), .val (.int se), .val (.long chs), .second, .val (.int le), .val (.ref b2), .val (.ref b5), .val (.ref b8), .val (.ref b11), .val (.ref b14), .val (.ref b17), .unset, .unset, .unset, .unset, .unset, .unset] [(.ref b18)]))
  refine OwnFin.step (fun tT kK => XS.dup X23.here hx rfl (hb hby at_57) rfl rfl kK) ?_
  show OwnFin p e below _ (T23.setTop (mkF m 58 #[.val (.int nu), .val (.int se), .val (.long chs), .second, .val (.int le), .val (.ref b2), .val (.ref b5), .val (.ref b8), .val (.ref b11), .val (.ref b14), .val (.ref b17), .unset, .unset, .unset, .unset, .unset, .unset] [(.ref b18), (.ref b18)]))
  refine OwnFin.step (fun tT kK => XS.iconst X23.here hx rfl (hb hby at_58) kK) ?_
  show OwnFin p e below _ (T23.setTop (mkF m 59 #[.val (.int nu), .val (.int se), .val (.long chs), .second, .val (.int le), .val (.ref b2), .val (.ref b5), .val (.ref b8), .val (.ref b11), .val (.ref b14), .val (.ref b17), .unset, .unset, .unset, .unset, .unset, .unset] [(.int (1 : Int32)), (.ref b18), (.ref b18)]))
  have f24 : Sta Z h23 "com/example/myna/myna/delivery/Status" "DELIVERED" "Lcom/example/myna/myna/delivery/Status;" (.ref v1) := ((((((((hp3.ext E1).ext E4).ext E7).ext E10).ext E13).ext E16).ext E18).wr W23)
  obtain ⟨T25, X25, e25, st25⟩ := getS2 X23 hx hZ hown (host := "") (Or.inl (hw _ (List.mem_of_getElem? (i := 41) rfl))) Via.refl e23 f24 (g := (mkF m 59 #[.val (.int nu), .val (.int se), .val (.long chs), .second, .val (.int le), .val (.ref b2), .val (.ref b5), .val (.ref b8), .val (.ref b11), .val (.ref b14), .val (.ref b17), .unset, .unset, .unset, .unset, .unset, .unset] [(.int (1 : Int32)), (.ref b18), (.ref b18)])) rfl (hb hby at_59)
  refine OwnFin.step st25 ?_
  show OwnFin p e below _ (T25.setTop (mkF m 62 #[.val (.int nu), .val (.int se), .val (.long chs), .second, .val (.int le), .val (.ref b2), .val (.ref b5), .val (.ref b8), .val (.ref b11), .val (.ref b14), .val (.ref b17), .unset, .unset, .unset, .unset, .unset, .unset] [(.ref v1), (.int (1 : Int32)), (.ref b18), (.ref b18)]))
  have f26 : Exa Z h23 v1 "com/example/myna/myna/delivery/Status" := ((((((((hp6.ext E1).ext E4).ext E7).ext E10).ext E13).ext E16).ext E18).wr W23)
  obtain ⟨cl27, Ar27, q27, Sz27, Ng27, H27, G27⟩ := id V23
  have hin27 : ¬ ((1 : Int32) < 0 ∨ cl27.slots.size ≤ ((1 : Int32)).toNatClampNeg) := inb_of Sz27 ⟨by decide, by decide⟩
  obtain ⟨T28, h28, X28, e28, W28, st28⟩ := stR X25 hx hZ e25 Ar27 (j := (1 : Int32)) hin27 rfl (Sto.ofV Ar27 q27 O18 (Ins.self f26)) (g := (mkF m 62 #[.val (.int nu), .val (.int se), .val (.long chs), .second, .val (.int le), .val (.ref b2), .val (.ref b5), .val (.ref b8), .val (.ref b11), .val (.ref b14), .val (.ref b17), .unset, .unset, .unset, .unset, .unset, .unset] [(.ref v1), (.int (1 : Int32)), (.ref b18), (.ref b18)])) rfl rfl (hb hby at_62)
  refine OwnFin.step st28 ?_
  have N28 := Fr.snoc X28 N23 (Nat.le_trans (Nat.le_trans (Nat.le_trans (Nat.le_trans (Nat.le_trans (Nat.le_trans (Nat.le_trans Z0 E1.1) E4.1) E7.1) E10.1) E13.1) E16.1) (Nat.le_of_eq g18.symm))
  have V28 : Arv Z h28 b18 k18 (.object "com/example/myna/myna/delivery/Status") (3 : Int32) [(.ref v0), (.ref v1), .null] .null := Arv.set Ar27 q27 Sz27 Ng27 H27 G27 rfl W28 1 rfl (Nat.le_of_ble_eq_true rfl)
  show OwnFin p e below _ (T28.setTop (mkF m 63 #[.val (.int nu), .val (.int se), .val (.long chs), .second, .val (.int le), .val (.ref b2), .val (.ref b5), .val (.ref b8), .val (.ref b11), .val (.ref b14), .val (.ref b17), .unset, .unset, .unset, .unset, .unset, .unset] [(.ref b18)]))
  refine OwnFin.step (fun tT kK => XS.dup X28.here hx rfl (hb hby at_63) rfl rfl kK) ?_
  show OwnFin p e below _ (T28.setTop (mkF m 64 #[.val (.int nu), .val (.int se), .val (.long chs), .second, .val (.int le), .val (.ref b2), .val (.ref b5), .val (.ref b8), .val (.ref b11), .val (.ref b14), .val (.ref b17), .unset, .unset, .unset, .unset, .unset, .unset] [(.ref b18), (.ref b18)]))
  refine OwnFin.step (fun tT kK => XS.iconst X28.here hx rfl (hb hby at_64) kK) ?_
  show OwnFin p e below _ (T28.setTop (mkF m 65 #[.val (.int nu), .val (.int se), .val (.long chs), .second, .val (.int le), .val (.ref b2), .val (.ref b5), .val (.ref b8), .val (.ref b11), .val (.ref b14), .val (.ref b17), .unset, .unset, .unset, .unset, .unset, .unset] [(.int (2 : Int32)), (.ref b18), (.ref b18)]))
  have f29 : Sta Z h28 "com/example/myna/myna/delivery/Status" "DEAD" "Lcom/example/myna/myna/delivery/Status;" (.ref v2) := (((((((((hp4.ext E1).ext E4).ext E7).ext E10).ext E13).ext E16).ext E18).wr W23).wr W28)
  obtain ⟨T30, X30, e30, st30⟩ := getS2 X28 hx hZ hown (host := "") (Or.inl (hw _ (List.mem_of_getElem? (i := 43) rfl))) Via.refl e28 f29 (g := (mkF m 65 #[.val (.int nu), .val (.int se), .val (.long chs), .second, .val (.int le), .val (.ref b2), .val (.ref b5), .val (.ref b8), .val (.ref b11), .val (.ref b14), .val (.ref b17), .unset, .unset, .unset, .unset, .unset, .unset] [(.int (2 : Int32)), (.ref b18), (.ref b18)])) rfl (hb hby at_65)
  refine OwnFin.step st30 ?_
  show OwnFin p e below _ (T30.setTop (mkF m 68 #[.val (.int nu), .val (.int se), .val (.long chs), .second, .val (.int le), .val (.ref b2), .val (.ref b5), .val (.ref b8), .val (.ref b11), .val (.ref b14), .val (.ref b17), .unset, .unset, .unset, .unset, .unset, .unset] [(.ref v2), (.int (2 : Int32)), (.ref b18), (.ref b18)]))
  have f31 : Exa Z h28 v2 "com/example/myna/myna/delivery/Status" := (((((((((hp7.ext E1).ext E4).ext E7).ext E10).ext E13).ext E16).ext E18).wr W23).wr W28)
  obtain ⟨cl32, Ar32, q32, Sz32, Ng32, H32, G32⟩ := id V28
  have hin32 : ¬ ((2 : Int32) < 0 ∨ cl32.slots.size ≤ ((2 : Int32)).toNatClampNeg) := inb_of Sz32 ⟨by decide, by decide⟩
  obtain ⟨T33, h33, X33, e33, W33, st33⟩ := stR X30 hx hZ e30 Ar32 (j := (2 : Int32)) hin32 rfl (Sto.ofV Ar32 q32 O18 (Ins.self f31)) (g := (mkF m 68 #[.val (.int nu), .val (.int se), .val (.long chs), .second, .val (.int le), .val (.ref b2), .val (.ref b5), .val (.ref b8), .val (.ref b11), .val (.ref b14), .val (.ref b17), .unset, .unset, .unset, .unset, .unset, .unset] [(.ref v2), (.int (2 : Int32)), (.ref b18), (.ref b18)])) rfl rfl (hb hby at_68)
  refine OwnFin.step st33 ?_
  have N33 := Fr.snoc X33 N28 (Nat.le_trans (Nat.le_trans (Nat.le_trans (Nat.le_trans (Nat.le_trans (Nat.le_trans (Nat.le_trans Z0 E1.1) E4.1) E7.1) E10.1) E13.1) E16.1) (Nat.le_of_eq g18.symm))
  have V33 : Arv Z h33 b18 k18 (.object "com/example/myna/myna/delivery/Status") (3 : Int32) [(.ref v0), (.ref v1), (.ref v2)] .null := Arv.set Ar32 q32 Sz32 Ng32 H32 G32 rfl W33 2 rfl (Nat.le_of_ble_eq_true rfl)
  show OwnFin p e below _ (T33.setTop (mkF m 69 #[.val (.int nu), .val (.int se), .val (.long chs), .second, .val (.int le), .val (.ref b2), .val (.ref b5), .val (.ref b8), .val (.ref b11), .val (.ref b14), .val (.ref b17), .unset, .unset, .unset, .unset, .unset, .unset] [(.ref b18)]))
  refine OwnFin.step (fun tT kK => XS.astore X33.here hx rfl (hb hby at_69) rfl rfl (l' := #[.val (.int nu), .val (.int se), .val (.long chs), .second, .val (.int le), .val (.ref b2), .val (.ref b5), .val (.ref b8), .val (.ref b11), .val (.ref b14), .val (.ref b17), .val (.ref b18), .unset, .unset, .unset, .unset, .unset]) rfl kK) ?_
  show OwnFin p e below _ (T33.setTop (mkF m 71 #[.val (.int nu), .val (.int se), .val (.long chs), .second, .val (.int le), .val (.ref b2), .val (.ref b5), .val (.ref b8), .val (.ref b11), .val (.ref b14), .val (.ref b17), .val (.ref b18), .unset, .unset, .unset, .unset, .unset] []))
  refine OwnFin.step (fun tT kK => XS.aload X33.here hx rfl (hb hby at_71) rfl rfl kK) ?_
  show OwnFin p e below _ (T33.setTop (mkF m 73 #[.val (.int nu), .val (.int se), .val (.long chs), .second, .val (.int le), .val (.ref b2), .val (.ref b5), .val (.ref b8), .val (.ref b11), .val (.ref b14), .val (.ref b17), .val (.ref b18), .unset, .unset, .unset, .unset, .unset] [(.ref b18)]))
  refine OwnFin.step (fun tT kK => XS.iloadN X33.here hx rfl (hb hby at_73) rfl kK) ?_
  show OwnFin p e below _ (T33.setTop (mkF m 74 #[.val (.int nu), .val (.int se), .val (.long chs), .second, .val (.int le), .val (.ref b2), .val (.ref b5), .val (.ref b8), .val (.ref b11), .val (.ref b14), .val (.ref b17), .val (.ref b18), .unset, .unset, .unset, .unset, .unset] [(.int se), (.ref b18)]))
  refine OwnFin.step (fun tT kK => X33.ldcI hx hown (mvT hZ (hw _ (List.mem_of_getElem? (i := 45) rfl))) (g := (mkF m 74 #[.val (.int nu), .val (.int se), .val (.long chs), .second, .val (.int le), .val (.ref b2), .val (.ref b5), .val (.ref b8), .val (.ref b11), .val (.ref b14), .val (.ref b17), .val (.ref b18), .unset, .unset, .unset, .unset, .unset] [(.int se), (.ref b18)])) rfl (hb hby at_74) kK) ?_
  show OwnFin p e below _ (T33.setTop (mkF m 76 #[.val (.int nu), .val (.int se), .val (.long chs), .second, .val (.int le), .val (.ref b2), .val (.ref b5), .val (.ref b8), .val (.ref b11), .val (.ref b14), .val (.ref b17), .val (.ref b18), .unset, .unset, .unset, .unset, .unset] [(.int (2147483647 : Int32)), (.int se), (.ref b18)]))
  refine OwnFin.step (fun tT kK => XS.iand X33.here hx rfl (hb hby at_76) rfl kK) ?_
  show OwnFin p e below _ (T33.setTop (mkF m 77 #[.val (.int nu), .val (.int se), .val (.long chs), .second, .val (.int le), .val (.ref b2), .val (.ref b5), .val (.ref b8), .val (.ref b11), .val (.ref b14), .val (.ref b17), .val (.ref b18), .unset, .unset, .unset, .unset, .unset] [(.int (se &&& (2147483647 : Int32))), (.ref b18)]))
  refine OwnFin.step (fun tT kK => XS.iconst X33.here hx rfl (hb hby at_77) kK) ?_
  show OwnFin p e below _ (T33.setTop (mkF m 78 #[.val (.int nu), .val (.int se), .val (.long chs), .second, .val (.int le), .val (.ref b2), .val (.ref b5), .val (.ref b8), .val (.ref b11), .val (.ref b14), .val (.ref b17), .val (.ref b18), .unset, .unset, .unset, .unset, .unset] [(.int (3 : Int32)), (.int (se &&& (2147483647 : Int32))), (.ref b18)]))
  refine OwnFin.step (fun tT kK => iremM (g := (mkF m 78 #[.val (.int nu), .val (.int se), .val (.long chs), .second, .val (.int le), .val (.ref b2), .val (.ref b5), .val (.ref b8), .val (.ref b11), .val (.ref b14), .val (.ref b17), .val (.ref b18), .unset, .unset, .unset, .unset, .unset] [(.int (3 : Int32)), (.int (se &&& (2147483647 : Int32))), (.ref b18)])) X33 hx rfl (hb hby at_78) rfl (by decide) kK) ?_
  show OwnFin p e below _ (T33.setTop (mkF m 79 #[.val (.int nu), .val (.int se), .val (.long chs), .second, .val (.int le), .val (.ref b2), .val (.ref b5), .val (.ref b8), .val (.ref b11), .val (.ref b14), .val (.ref b17), .val (.ref b18), .unset, .unset, .unset, .unset, .unset] [(.int ((se &&& (2147483647 : Int32)) % (3 : Int32))), (.ref b18)]))
  obtain ⟨i, hi⟩ : ∃ z : Int32, z = ((se &&& (2147483647 : Int32)) % (3 : Int32)) := ⟨_, rfl⟩
  rw [← hi]
  show OwnFin p e below _ (T33.setTop (mkF m 79 #[.val (.int nu), .val (.int se), .val (.long chs), .second, .val (.int le), .val (.ref b2), .val (.ref b5), .val (.ref b8), .val (.ref b11), .val (.ref b14), .val (.ref b17), .val (.ref b18), .unset, .unset, .unset, .unset, .unset] [(.int i), (.ref b18)]))
  have hi3 := own_cases3 (hi ▸ own_mod se (3 : Int32) 3 rfl (by decide)).1 (hi ▸ own_mod se (3 : Int32) 3 rfl (by decide)).2
  obtain ⟨clq, Arq, -, Szq, Ngq, Hq, -⟩ := id V33
  have hinq : ¬ (i < 0 ∨ clq.slots.size ≤ i.toNatClampNeg) := by rcases hi3 with rfl | rfl | rfl <;> exact inb_of Szq ⟨by decide, by decide⟩
  obtain ⟨wq, hatq⟩ : ∃ wq : Addr, clq.slots[i.toNatClampNeg]? = some (.ref wq) := by rcases hi3 with rfl | rfl | rfl <;> exact ⟨_, Hq.at hinq rfl⟩
  refine OwnFin.step (fun tT kK => X33.aaload hx (j := i) (v := .ref wq) (by rw [e33]; exact Arq.1) (State.isArrayOf_alike hZ.alike Arq.2.1) rfl Arq.2.2 hinq hatq (g := (mkF m 79 #[.val (.int nu), .val (.int se), .val (.long chs), .second, .val (.int le), .val (.ref b2), .val (.ref b5), .val (.ref b8), .val (.ref b11), .val (.ref b14), .val (.ref b17), .val (.ref b18), .unset, .unset, .unset, .unset, .unset] [(.int i), (.ref b18)])) rfl rfl (hb hby at_79) _ kK) ?_
  show OwnFin p e below _ (T33.setTop (mkF m 80 #[.val (.int nu), .val (.int se), .val (.long chs), .second, .val (.int le), .val (.ref b2), .val (.ref b5), .val (.ref b8), .val (.ref b11), .val (.ref b14), .val (.ref b17), .val (.ref b18), .unset, .unset, .unset, .unset, .unset] [(.ref wq)]))
  refine OwnFin.step (fun tT kK => XS.astore X33.here hx rfl (hb hby at_80) rfl rfl (l' := #[.val (.int nu), .val (.int se), .val (.long chs), .second, .val (.int le), .val (.ref b2), .val (.ref b5), .val (.ref b8), .val (.ref b11), .val (.ref b14), .val (.ref b17), .val (.ref b18), .val (.ref wq), .unset, .unset, .unset, .unset]) rfl kK) ?_
  show OwnFin p e below _ (T33.setTop (mkF m 82 #[.val (.int nu), .val (.int se), .val (.long chs), .second, .val (.int le), .val (.ref b2), .val (.ref b5), .val (.ref b8), .val (.ref b11), .val (.ref b14), .val (.ref b17), .val (.ref b18), .val (.ref wq), .unset, .unset, .unset, .unset] []))
  refine OwnFin.step (fun tT kK => XS.iload X33.here hx rfl (hb hby at_82) rfl kK) ?_
  show OwnFin p e below _ (T33.setTop (mkF m 84 #[.val (.int nu), .val (.int se), .val (.long chs), .second, .val (.int le), .val (.ref b2), .val (.ref b5), .val (.ref b8), .val (.ref b11), .val (.ref b14), .val (.ref b17), .val (.ref b18), .val (.ref wq), .unset, .unset, .unset, .unset] [(.int le)]))
  refine OwnFin.step (fun tT kK => XS.iconst X33.here hx rfl (hb hby at_84) kK) ?_
  show OwnFin p e below _ (T33.setTop (mkF m 85 #[.val (.int nu), .val (.int se), .val (.long chs), .second, .val (.int le), .val (.ref b2), .val (.ref b5), .val (.ref b8), .val (.ref b11), .val (.ref b14), .val (.ref b17), .val (.ref b18), .val (.ref wq), .unset, .unset, .unset, .unset] [(.int (3 : Int32)), (.int le)]))
  refine OwnFin.step (fun tT kK => XS.iand X33.here hx rfl (hb hby at_85) rfl kK) ?_
  show OwnFin p e below _ (T33.setTop (mkF m 86 #[.val (.int nu), .val (.int se), .val (.long chs), .second, .val (.int le), .val (.ref b2), .val (.ref b5), .val (.ref b8), .val (.ref b11), .val (.ref b14), .val (.ref b17), .val (.ref b18), .val (.ref wq), .unset, .unset, .unset, .unset] [(.int (le &&& (3 : Int32)))]))
  obtain ⟨T34, h34, k34, X34, e34, E34, A34, st34⟩ := newP X33 hx hZ (hw _ (List.mem_of_getElem? (i := 24) rfl)) e33 (g := (mkF m 86 #[.val (.int nu), .val (.int se), .val (.long chs), .second, .val (.int le), .val (.ref b2), .val (.ref b5), .val (.ref b8), .val (.ref b11), .val (.ref b14), .val (.ref b17), .val (.ref b18), .val (.ref wq), .unset, .unset, .unset, .unset] [(.int (le &&& (3 : Int32)))])) rfl (hb hby at_86) rfl (own_m3 _).1 (cap := 3) (own_m3 _).2 (by decide) (by decide) (by decide)
  obtain ⟨b34, g34⟩ : ∃ z, z = h33.size := ⟨_, rfl⟩
  rw [← g34] at A34 st34
  refine OwnFin.step st34 ?_
  have V34 : Arv Z h34 b34 k34 .byte (le &&& (3 : Int32)) [] (.int (0 : Int32)) := (Arv.new A34 (own_m3 _).1).pad (pad_rep [] (.int (0 : Int32)) 0)
  show OwnFin p e below _ (T34.setTop (mkF m 88 #[.val (.int nu), .val (.int se), .val (.long chs), .second, .val (.int le), .val (.ref b2), .val (.ref b5), .val (.ref b8), .val (.ref b11), .val (.ref b14), .val (.ref b17), .val (.ref b18), .val (.ref wq), .unset, .unset, .unset, .unset] [(.ref b34)]))
  refine OwnFin.step (fun tT kK => XS.astore X34.here hx rfl (hb hby at_88) rfl rfl (l' := #[.val (.int nu), .val (.int se), .val (.long chs), .second, .val (.int le), .val (.ref b2), .val (.ref b5), .val (.ref b8), .val (.ref b11), .val (.ref b14), .val (.ref b17), .val (.ref b18), .val (.ref wq), .val (.ref b34), .unset, .unset, .unset]) rfl kK) ?_
  show OwnFin p e below _ (T34.setTop (mkF m 90 #[.val (.int nu), .val (.int se), .val (.long chs), .second, .val (.int le), .val (.ref b2), .val (.ref b5), .val (.ref b8), .val (.ref b11), .val (.ref b14), .val (.ref b17), .val (.ref b18), .val (.ref wq), .val (.ref b34), .unset, .unset, .unset] []))
  refine OwnFin.step (fun tT kK => XS.iload X34.here hx rfl (hb hby at_90) rfl kK) ?_
  show OwnFin p e below _ (T34.setTop (mkF m 92 #[.val (.int nu), .val (.int se), .val (.long chs), .second, .val (.int le), .val (.ref b2), .val (.ref b5), .val (.ref b8), .val (.ref b11), .val (.ref b14), .val (.ref b17), .val (.ref b18), .val (.ref wq), .val (.ref b34), .unset, .unset, .unset] [(.int le)]))
  refine OwnFin.step (fun tT kK => XS.iconst X34.here hx rfl (hb hby at_92) kK) ?_
  show OwnFin p e below _ (T34.setTop (mkF m 93 #[.val (.int nu), .val (.int se), .val (.long chs), .second, .val (.int le), .val (.ref b2), .val (.ref b5), .val (.ref b8), .val (.ref b11), .val (.ref b14), .val (.ref b17), .val (.ref b18), .val (.ref wq), .val (.ref b34), .unset, .unset, .unset] [(.int (2 : Int32)), (.int le)]))
  refine OwnFin.step (fun tT kK => XS.iushr X34.here hx rfl (hb hby at_93) rfl kK) ?_
  show OwnFin p e below _ (T34.setTop (mkF m 94 #[.val (.int nu), .val (.int se), .val (.long chs), .second, .val (.int le), .val (.ref b2), .val (.ref b5), .val (.ref b8), .val (.ref b11), .val (.ref b14), .val (.ref b17), .val (.ref b18), .val (.ref wq), .val (.ref b34), .unset, .unset, .unset] [(.int ((le.toUInt32 >>> ((2 : Int32) &&& 31).toUInt32).toInt32))]))
  refine OwnFin.step (fun tT kK => XS.iconst X34.here hx rfl (hb hby at_94) kK) ?_
  show OwnFin p e below _ (T34.setTop (mkF m 95 #[.val (.int nu), .val (.int se), .val (.long chs), .second, .val (.int le), .val (.ref b2), .val (.ref b5), .val (.ref b8), .val (.ref b11), .val (.ref b14), .val (.ref b17), .val (.ref b18), .val (.ref wq), .val (.ref b34), .unset, .unset, .unset] [(.int (3 : Int32)), (.int ((le.toUInt32 >>> ((2 : Int32) &&& 31).toUInt32).toInt32))]))
  refine OwnFin.step (fun tT kK => XS.iand X34.here hx rfl (hb hby at_95) rfl kK) ?_
  show OwnFin p e below _ (T34.setTop (mkF m 96 #[.val (.int nu), .val (.int se), .val (.long chs), .second, .val (.int le), .val (.ref b2), .val (.ref b5), .val (.ref b8), .val (.ref b11), .val (.ref b14), .val (.ref b17), .val (.ref b18), .val (.ref wq), .val (.ref b34), .unset, .unset, .unset] [(.int (((le.toUInt32 >>> ((2 : Int32) &&& 31).toUInt32).toInt32) &&& (3 : Int32)))]))
  obtain ⟨T35, h35, k35, X35, e35, E35, A35, st35⟩ := newP X34 hx hZ (hw _ (List.mem_of_getElem? (i := 24) rfl)) e34 (g := (mkF m 96 #[.val (.int nu), .val (.int se), .val (.long chs), .second, .val (.int le), .val (.ref b2), .val (.ref b5), .val (.ref b8), .val (.ref b11), .val (.ref b14), .val (.ref b17), .val (.ref b18), .val (.ref wq), .val (.ref b34), .unset, .unset, .unset] [(.int (((le.toUInt32 >>> ((2 : Int32) &&& 31).toUInt32).toInt32) &&& (3 : Int32)))])) rfl (hb hby at_96) rfl (own_m3 _).1 (cap := 3) (own_m3 _).2 (by decide) (by decide) (by decide)
  obtain ⟨b35, g35⟩ : ∃ z, z = h34.size := ⟨_, rfl⟩
  rw [← g35] at A35 st35
  refine OwnFin.step st35 ?_
  have V35 : Arv Z h35 b35 k35 .byte (((le.toUInt32 >>> ((2 : Int32) &&& 31).toUInt32).toInt32) &&& (3 : Int32)) [] (.int (0 : Int32)) := (Arv.new A35 (own_m3 _).1).pad (pad_rep [] (.int (0 : Int32)) 0)
  show OwnFin p e below _ (T35.setTop (mkF m 98 #[.val (.int nu), .val (.int se), .val (.long chs), .second, .val (.int le), .val (.ref b2), .val (.ref b5), .val (.ref b8), .val (.ref b11), .val (.ref b14), .val (.ref b17), .val (.ref b18), .val (.ref wq), .val (.ref b34), .unset, .unset, .unset] [(.ref b35)]))
  refine OwnFin.step (fun tT kK => XS.astore X35.here hx rfl (hb hby at_98) rfl rfl (l' := #[.val (.int nu), .val (.int se), .val (.long chs), .second, .val (.int le), .val (.ref b2), .val (.ref b5), .val (.ref b8), .val (.ref b11), .val (.ref b14), .val (.ref b17), .val (.ref b18), .val (.ref wq), .val (.ref b34), .val (.ref b35), .unset, .unset]) rfl kK) ?_
  show OwnFin p e below _ (T35.setTop (mkF m 100 #[.val (.int nu), .val (.int se), .val (.long chs), .second, .val (.int le), .val (.ref b2), .val (.ref b5), .val (.ref b8), .val (.ref b11), .val (.ref b14), .val (.ref b17), .val (.ref b18), .val (.ref wq), .val (.ref b34), .val (.ref b35), .unset, .unset] []))
  refine OwnFin.step (fun tT kK => XS.iloadN X35.here hx rfl (hb hby at_100) rfl kK) ?_
  show OwnFin p e below _ (T35.setTop (mkF m 101 #[.val (.int nu), .val (.int se), .val (.long chs), .second, .val (.int le), .val (.ref b2), .val (.ref b5), .val (.ref b8), .val (.ref b11), .val (.ref b14), .val (.ref b17), .val (.ref b18), .val (.ref wq), .val (.ref b34), .val (.ref b35), .unset, .unset] [(.int se)]))
  refine OwnFin.step (fun tT kK => XS.bipush X35.here hx rfl (hb hby at_101) kK) ?_
  show OwnFin p e below _ (T35.setTop (mkF m 103 #[.val (.int nu), .val (.int se), .val (.long chs), .second, .val (.int le), .val (.ref b2), .val (.ref b5), .val (.ref b8), .val (.ref b11), .val (.ref b14), .val (.ref b17), .val (.ref b18), .val (.ref wq), .val (.ref b34), .val (.ref b35), .unset, .unset] [(.int (8 : Int32)), (.int se)]))
  refine OwnFin.step (fun tT kK => XS.iushr X35.here hx rfl (hb hby at_103) rfl kK) ?_
  show OwnFin p e below _ (T35.setTop (mkF m 104 #[.val (.int nu), .val (.int se), .val (.long chs), .second, .val (.int le), .val (.ref b2), .val (.ref b5), .val (.ref b8), .val (.ref b11), .val (.ref b14), .val (.ref b17), .val (.ref b18), .val (.ref wq), .val (.ref b34), .val (.ref b35), .unset, .unset] [(.int ((se.toUInt32 >>> ((8 : Int32) &&& 31).toUInt32).toInt32))]))
  refine OwnFin.step (fun tT kK => XS.iconst X35.here hx rfl (hb hby at_104) kK) ?_
  show OwnFin p e below _ (T35.setTop (mkF m 105 #[.val (.int nu), .val (.int se), .val (.long chs), .second, .val (.int le), .val (.ref b2), .val (.ref b5), .val (.ref b8), .val (.ref b11), .val (.ref b14), .val (.ref b17), .val (.ref b18), .val (.ref wq), .val (.ref b34), .val (.ref b35), .unset, .unset] [(.int (1 : Int32)), (.int ((se.toUInt32 >>> ((8 : Int32) &&& 31).toUInt32).toInt32))]))
  refine OwnFin.step (fun tT kK => XS.iand X35.here hx rfl (hb hby at_105) rfl kK) ?_
  show OwnFin p e below _ (T35.setTop (mkF m 106 #[.val (.int nu), .val (.int se), .val (.long chs), .second, .val (.int le), .val (.ref b2), .val (.ref b5), .val (.ref b8), .val (.ref b11), .val (.ref b14), .val (.ref b17), .val (.ref b18), .val (.ref wq), .val (.ref b34), .val (.ref b35), .unset, .unset] [(.int (((se.toUInt32 >>> ((8 : Int32) &&& 31).toUInt32).toInt32) &&& (1 : Int32)))]))
  by_cases hc36 : (((se.toUInt32 >>> ((8 : Int32) &&& 31).toUInt32).toInt32) &&& (1 : Int32)) = (0 : Int32)
  · skip
    refine OwnFin.step (fun tT kK => XS.ifYes X35.here hx rfl (pc0 := 106) (pc' := 113) rfl (hb hby at_106) rfl ((if0 _ _).trans (teq (hc36 : (((se.toUInt32 >>> ((8 : Int32) &&& 31).toUInt32).toInt32) &&& (1 : Int32)) = (0 : Int32))).1) (by decide) (by decide) kK) ?_
    show OwnFin p e below _ (T35.setTop (mkF m 113 #[.val (.int nu), .val (.int se), .val (.long chs), .second, .val (.int le), .val (.ref b2), .val (.ref b5), .val (.ref b8), .val (.ref b11), .val (.ref b14), .val (.ref b17), .val (.ref b18), .val (.ref wq), .val (.ref b34), .val (.ref b35), .unset, .unset] []))
    obtain ⟨T37, h37, X37, e37, E37, A37, D37, -, st37⟩ := newO X35 hx hZ hown (hw _ (List.mem_of_getElem? (i := 46) rfl)) (hw _ (List.mem_of_getElem? (i := 47) rfl)) (hw _ (List.mem_of_getElem? (i := 48) rfl)) e35 (g := (mkF m 113 #[.val (.int nu), .val (.int se), .val (.long chs), .second, .val (.int le), .val (.ref b2), .val (.ref b5), .val (.ref b8), .val (.ref b11), .val (.ref b14), .val (.ref b17), .val (.ref b18), .val (.ref wq), .val (.ref b34), .val (.ref b35), .unset, .unset] [])) rfl (hb hby at_113) (by decide) (by decide)
    obtain ⟨b37, g37⟩ : ∃ z, z = h35.size := ⟨_, rfl⟩
    rw [← g37] at A37 D37 st37
    refine OwnFin.step st37 ?_
    have Fz38 : Fld Z h37 b37 "com/example/myna/myna/delivery/Attempt" "deliveryId" "Ljava/lang/String;" .null := D37 (Or.inr (hw _ (List.mem_of_getElem? (i := 59) rfl))) (ty := (.object "java/lang/String")) (by decide)
    have Fz39 : Fld Z h37 b37 "com/example/myna/myna/delivery/Attempt" "tenant" "Ljava/lang/String;" .null := D37 (Or.inr (hw _ (List.mem_of_getElem? (i := 61) rfl))) (ty := (.object "java/lang/String")) (by decide)
    have Fz40 : Fld Z h37 b37 "com/example/myna/myna/delivery/Attempt" "eventId" "Ljava/lang/String;" .null := D37 (Or.inr (hw _ (List.mem_of_getElem? (i := 63) rfl))) (ty := (.object "java/lang/String")) (by decide)
    have Fz41 : Fld Z h37 b37 "com/example/myna/myna/delivery/Attempt" "endpointId" "Ljava/lang/String;" .null := D37 (Or.inr (hw _ (List.mem_of_getElem? (i := 65) rfl))) (ty := (.object "java/lang/String")) (by decide)
    have Fz42 : Fld Z h37 b37 "com/example/myna/myna/delivery/Attempt" "number" "I" (.int (0 : Int32)) := D37 (Or.inr (hw _ (List.mem_of_getElem? (i := 67) rfl))) (ty := .int) (by decide)
    have Fz43 : Fld Z h37 b37 "com/example/myna/myna/delivery/Attempt" "status" "Lcom/example/myna/myna/delivery/Status;" .null := D37 (Or.inr (hw _ (List.mem_of_getElem? (i := 69) rfl))) (ty := (.object "com/example/myna/myna/delivery/Status")) (by decide)
    have Fz44 : Fld Z h37 b37 "com/example/myna/myna/delivery/Attempt" "url" "Ljava/lang/String;" .null := D37 (Or.inr (hw _ (List.mem_of_getElem? (i := 71) rfl))) (ty := (.object "java/lang/String")) (by decide)
    have Fz45 : Fld Z h37 b37 "com/example/myna/myna/delivery/Attempt" "secret" "Ljava/lang/String;" .null := D37 (Or.inr (hw _ (List.mem_of_getElem? (i := 73) rfl))) (ty := (.object "java/lang/String")) (by decide)
    have Fz46 : Fld Z h37 b37 "com/example/myna/myna/delivery/Attempt" "body" "[B" .null := D37 (Or.inr (hw _ (List.mem_of_getElem? (i := 75) rfl))) (ty := (.array .byte)) (by decide)
    show OwnFin p e below _ (T37.setTop (mkF m 116 #[.val (.int nu), .val (.int se), .val (.long chs), .second, .val (.int le), .val (.ref b2), .val (.ref b5), .val (.ref b8), .val (.ref b11), .val (.ref b14), .val (.ref b17), .val (.ref b18), .val (.ref wq), .val (.ref b34), .val (.ref b35), .unset, .unset] [(.ref b37)]))
    refine OwnFin.step (fun tT kK => XS.dup X37.here hx rfl (hb hby at_116) rfl rfl kK) ?_
    show OwnFin p e below _ (T37.setTop (mkF m 117 #[.val (.int nu), .val (.int se), .val (.long chs), .second, .val (.int le), .val (.ref b2), .val (.ref b5), .val (.ref b8), .val (.ref b11), .val (.ref b14), .val (.ref b17), .val (.ref b18), .val (.ref wq), .val (.ref b34), .val (.ref b35), .unset, .unset] [(.ref b37), (.ref b37)]))
    refine OwnFin.step (fun tT kK => XS.aload X37.here hx rfl (hb hby at_117) rfl rfl kK) ?_
    show OwnFin p e below _ (T37.setTop (mkF m 119 #[.val (.int nu), .val (.int se), .val (.long chs), .second, .val (.int le), .val (.ref b2), .val (.ref b5), .val (.ref b8), .val (.ref b11), .val (.ref b14), .val (.ref b17), .val (.ref b18), .val (.ref wq), .val (.ref b34), .val (.ref b35), .unset, .unset] [(.ref b2), (.ref b37), (.ref b37)]))
    refine OwnFin.step (fun tT kK => XS.aload X37.here hx rfl (hb hby at_119) rfl rfl kK) ?_
    show OwnFin p e below _ (T37.setTop (mkF m 121 #[.val (.int nu), .val (.int se), .val (.long chs), .second, .val (.int le), .val (.ref b2), .val (.ref b5), .val (.ref b8), .val (.ref b11), .val (.ref b14), .val (.ref b17), .val (.ref b18), .val (.ref wq), .val (.ref b34), .val (.ref b35), .unset, .unset] [(.ref b5), (.ref b2), (.ref b37), (.ref b37)]))
    refine OwnFin.step (fun tT kK => XS.aload X37.here hx rfl (hb hby at_121) rfl rfl kK) ?_
    show OwnFin p e below _ (T37.setTop (mkF m 123 #[.val (.int nu), .val (.int se), .val (.long chs), .second, .val (.int le), .val (.ref b2), .val (.ref b5), .val (.ref b8), .val (.ref b11), .val (.ref b14), .val (.ref b17), .val (.ref b18), .val (.ref wq), .val (.ref b34), .val (.ref b35), .unset, .unset] [(.ref b8), (.ref b5), (.ref b2), (.ref b37), (.ref b37)]))
    refine OwnFin.step (fun tT kK => XS.aload X37.here hx rfl (hb hby at_123) rfl rfl kK) ?_
    show OwnFin p e below _ (T37.setTop (mkF m 125 #[.val (.int nu), .val (.int se), .val (.long chs), .second, .val (.int le), .val (.ref b2), .val (.ref b5), .val (.ref b8), .val (.ref b11), .val (.ref b14), .val (.ref b17), .val (.ref b18), .val (.ref wq), .val (.ref b34), .val (.ref b35), .unset, .unset] [(.ref b11), (.ref b8), (.ref b5), (.ref b2), (.ref b37), (.ref b37)]))
    refine OwnFin.step (fun tT kK => XS.iloadN X37.here hx rfl (hb hby at_125) rfl kK) ?_
    show OwnFin p e below _ (T37.setTop (mkF m 126 #[.val (.int nu), .val (.int se), .val (.long chs), .second, .val (.int le), .val (.ref b2), .val (.ref b5), .val (.ref b8), .val (.ref b11), .val (.ref b14), .val (.ref b17), .val (.ref b18), .val (.ref wq), .val (.ref b34), .val (.ref b35), .unset, .unset] [(.int nu), (.ref b11), (.ref b8), (.ref b5), (.ref b2), (.ref b37), (.ref b37)]))
    refine OwnFin.step (fun tT kK => XS.aload X37.here hx rfl (hb hby at_126) rfl rfl kK) ?_
    show OwnFin p e below _ (T37.setTop (mkF m 128 #[.val (.int nu), .val (.int se), .val (.long chs), .second, .val (.int le), .val (.ref b2), .val (.ref b5), .val (.ref b8), .val (.ref b11), .val (.ref b14), .val (.ref b17), .val (.ref b18), .val (.ref wq), .val (.ref b34), .val (.ref b35), .unset, .unset] [(.ref wq), (.int nu), (.ref b11), (.ref b8), (.ref b5), (.ref b2), (.ref b37), (.ref b37)]))
    refine OwnFin.step (fun tT kK => XS.aload X37.here hx rfl (hb hby at_128) rfl rfl kK) ?_
    show OwnFin p e below _ (T37.setTop (mkF m 130 #[.val (.int nu), .val (.int se), .val (.long chs), .second, .val (.int le), .val (.ref b2), .val (.ref b5), .val (.ref b8), .val (.ref b11), .val (.ref b14), .val (.ref b17), .val (.ref b18), .val (.ref wq), .val (.ref b34), .val (.ref b35), .unset, .unset] [(.ref b14), (.ref wq), (.int nu), (.ref b11), (.ref b8), (.ref b5), (.ref b2), (.ref b37), (.ref b37)]))
    refine OwnFin.step (fun tT kK => XS.aload X37.here hx rfl (hb hby at_130) rfl rfl kK) ?_
    show OwnFin p e below _ (T37.setTop (mkF m 132 #[.val (.int nu), .val (.int se), .val (.long chs), .second, .val (.int le), .val (.ref b2), .val (.ref b5), .val (.ref b8), .val (.ref b11), .val (.ref b14), .val (.ref b17), .val (.ref b18), .val (.ref wq), .val (.ref b34), .val (.ref b35), .unset, .unset] [(.ref b17), (.ref b14), (.ref wq), (.int nu), (.ref b11), (.ref b8), (.ref b5), (.ref b2), (.ref b37), (.ref b37)]))
    refine OwnFin.step (fun tT kK => XS.aload X37.here hx rfl (hb hby at_132) rfl rfl kK) ?_
    show OwnFin p e below _ (T37.setTop (mkF m 134 #[.val (.int nu), .val (.int se), .val (.long chs), .second, .val (.int le), .val (.ref b2), .val (.ref b5), .val (.ref b8), .val (.ref b11), .val (.ref b14), .val (.ref b17), .val (.ref b18), .val (.ref wq), .val (.ref b34), .val (.ref b35), .unset, .unset] [(.ref b34), (.ref b17), (.ref b14), (.ref wq), (.int nu), (.ref b11), (.ref b8), (.ref b5), (.ref b2), (.ref b37), (.ref b37)]))
    obtain ⟨_, _, ⟨T47, L47, k47, n47⟩, -, X47, ⟨Lc47, hQ47, l47, y47, z47⟩, st47⟩ := X37.specialBack hx (y := (⟨"com/example/myna/myna/delivery/Attempt", "<init>", "(Ljava/lang/String;Ljava/lang/String;Ljava/lang/String;Ljava/lang/String;ILcom/example/myna/myna/delivery/Status;Ljava/lang/String;Ljava/lang/String;[B)V"⟩ : MethodName)) rfl hown (mvT hZ (hw _ (List.mem_of_getElem? (i := 49) rfl))) (mvT hZ (hw _ (List.mem_of_getElem? (i := 50) rfl))) (mvT hZ (hw _ (List.mem_of_getElem? (i := 51) rfl))) (by decide) (backOf (W := 1) (rm4 l Z a0 hw [] b37 b2 b5 b8 b11 nu wq b14 b17 b34 h37 n0 (Nat.le_trans (Nat.le_trans (Nat.le_trans (Nat.le_trans (Nat.le_trans (Nat.le_trans (Nat.le_trans (Nat.le_trans (Nat.le_trans (Nat.le_trans (Nat.le_trans (Nat.le_trans (Nat.le_trans Z0 E1.1) E4.1) E7.1) E10.1) E13.1) E16.1) E18.1) (Keep.of_wr W23).1) (Keep.of_wr W28).1) (Keep.of_wr W33).1) E34.1) E35.1) E37.1) A37 Fz38 Fz39 Fz40 Fz41 Fz42 Fz43 Fz44 Fz45 Fz46 (Nat.le_trans (Nat.le_trans (Nat.le_trans (Nat.le_trans (Nat.le_trans (Nat.le_trans (Nat.le_trans (Nat.le_trans (Nat.le_trans (Nat.le_trans (Nat.le_trans (Nat.le_trans (Nat.le_trans Z0 E1.1) E4.1) E7.1) E10.1) E13.1) E16.1) E18.1) (Keep.of_wr W23).1) (Keep.of_wr W28).1) (Keep.of_wr W33).1) E34.1) E35.1) (Nat.le_of_eq g37.symm))) hZ (hw _ (List.mem_of_getElem? (i := 51) rfl)) (hw _ (List.mem_of_getElem? (i := 48) rfl)) (by decide) (by decide)) (g := (mkF m 134 #[.val (.int nu), .val (.int se), .val (.long chs), .second, .val (.int le), .val (.ref b2), .val (.ref b5), .val (.ref b8), .val (.ref b11), .val (.ref b14), .val (.ref b17), .val (.ref b18), .val (.ref wq), .val (.ref b34), .val (.ref b35), .unset, .unset] [(.ref b34), (.ref b17), (.ref b14), (.ref wq), (.int nu), (.ref b11), (.ref b8), (.ref b5), (.ref b2), (.ref b37), (.ref b37)])) rfl (by rw [hml]; rfl) (Steps.refl _) (a := b37) (argsL := [(.ref b2), (.ref b5), (.ref b8), (.ref b11), (.int nu), (.ref wq), (.ref b14), (.ref b17), (.ref b34)]) (rest := [(.ref b37)]) (lenOf pd_156 rfl) rfl (by show 2 * 0 + _ ≤ _; exact Nat.le_of_eq rfl) (hb hby at_134) (fun _ _ => ⟨rfl, e37, (by decide : 22 + 0 ≤ _), (by decide : 54 + 0 ≤ _)⟩)
    dsimp only [Pt.U, Pt.locs, Pt.cells, Pt.slots] at X47 l47 y47 z47 st47 hQ47
    subst l47 y47 z47
    obtain ⟨rfl, N47q, K47, P47_0, P47_1, P47_2, P47_3, P47_4, P47_5, P47_6, P47_7, P47_8, P47_9⟩ := hQ47
    have N47 := Fr.app N33 N47q
    refine OwnFin.step (fun tT kK => st47.trans kK) ?_
    show OwnFin p e below _ (T47.setTop (mkF m 137 #[.val (.int nu), .val (.int se), .val (.long chs), .second, .val (.int le), .val (.ref b2), .val (.ref b5), .val (.ref b8), .val (.ref b11), .val (.ref b14), .val (.ref b17), .val (.ref b18), .val (.ref wq), .val (.ref b34), .val (.ref b35), .unset, .unset] [(.ref b37)]))
    refine OwnFin.step (fun tT kK => XS.astore X47.here hx rfl (hb hby at_137) rfl rfl (l' := #[.val (.int nu), .val (.int se), .val (.long chs), .second, .val (.int le), .val (.ref b2), .val (.ref b5), .val (.ref b8), .val (.ref b11), .val (.ref b14), .val (.ref b17), .val (.ref b18), .val (.ref wq), .val (.ref b34), .val (.ref b35), .val (.ref b37), .unset]) rfl kK) ?_
    show OwnFin p e below _ (T47.setTop (mkF m 139 #[.val (.int nu), .val (.int se), .val (.long chs), .second, .val (.int le), .val (.ref b2), .val (.ref b5), .val (.ref b8), .val (.ref b11), .val (.ref b14), .val (.ref b17), .val (.ref b18), .val (.ref wq), .val (.ref b34), .val (.ref b35), .val (.ref b37), .unset] []))
    refine OwnFin.step (fun tT kK => XS.aload X47.here hx rfl (hb hby at_139) rfl rfl kK) ?_
    show OwnFin p e below _ (T47.setTop (mkF m 141 #[.val (.int nu), .val (.int se), .val (.long chs), .second, .val (.int le), .val (.ref b2), .val (.ref b5), .val (.ref b8), .val (.ref b11), .val (.ref b14), .val (.ref b17), .val (.ref b18), .val (.ref wq), .val (.ref b34), .val (.ref b35), .val (.ref b37), .unset] [(.ref b37)]))
    refine OwnFin.step (fun tT kK => XS.aload X47.here hx rfl (hb hby at_141) rfl rfl kK) ?_
    show OwnFin p e below _ (T47.setTop (mkF m 143 #[.val (.int nu), .val (.int se), .val (.long chs), .second, .val (.int le), .val (.ref b2), .val (.ref b5), .val (.ref b8), .val (.ref b11), .val (.ref b14), .val (.ref b17), .val (.ref b18), .val (.ref wq), .val (.ref b34), .val (.ref b35), .val (.ref b37), .unset] [(.ref b35), (.ref b37)]))
    obtain ⟨cq48, kq48, q48a, q48b, q48c⟩ := isOf hZ rfl P47_0
    obtain ⟨_, _, ⟨T48, L48, k48, n48⟩, -, X48, ⟨Lc48, hQ48, l48, y48, z48⟩, st48⟩ := X47.virtualBack hx (y := (⟨"com/example/myna/myna/delivery/Attempt", "withBody", "([B)Lcom/example/myna/myna/delivery/Attempt;"⟩ : MethodName)) (z := (⟨"com/example/myna/myna/delivery/Attempt", "withBody", "([B)Lcom/example/myna/myna/delivery/Attempt;"⟩ : MethodName)) hown (mvT hZ (hw _ (List.mem_of_getElem? (i := 76) rfl))) (mvT hZ (hw _ (List.mem_of_getElem? (i := 77) rfl))) (notFace_of_selects (args := #[]) (mvT hZ (hw _ (List.mem_of_getElem? (i := 79) rfl)))) (mvT hZ (hw _ (List.mem_of_getElem? (i := 79) rfl))) (mvT hZ (hw _ (List.mem_of_getElem? (i := 78) rfl))) (by decide) (backOf (W := 0) (rm5 l Z a0 hw [] b37 b35 b2 b5 b8 b11 nu wq b14 b17 T47.heap n0 (Nat.le_trans (Nat.le_trans (Nat.le_trans (Nat.le_trans (Nat.le_trans (Nat.le_trans (Nat.le_trans (Nat.le_trans (Nat.le_trans (Nat.le_trans (Nat.le_trans (Nat.le_trans (Nat.le_trans (Nat.le_trans Z0 E1.1) E4.1) E7.1) E10.1) E13.1) E16.1) E18.1) (Keep.of_wr W23).1) (Keep.of_wr W28).1) (Keep.of_wr W33).1) E34.1) E35.1) E37.1) K47.1) P47_1 P47_2 P47_3 P47_4 P47_5 P47_6 P47_7 P47_8) hZ (hw _ (List.mem_of_getElem? (i := 80) rfl)) (hw _ (List.mem_of_getElem? (i := 48) rfl)) (by decide) (by decide)) q48a q48c (g := (mkF m 143 #[.val (.int nu), .val (.int se), .val (.long chs), .second, .val (.int le), .val (.ref b2), .val (.ref b5), .val (.ref b8), .val (.ref b11), .val (.ref b14), .val (.ref b17), .val (.ref b18), .val (.ref wq), .val (.ref b34), .val (.ref b35), .val (.ref b37), .unset] [(.ref b35), (.ref b37)])) rfl (by rw [hml]; rfl) (Steps.refl _) (argsL := [(.ref b35)]) (rest := []) (lenOf pd_186 rfl) rfl (by show 2 * 0 + _ ≤ _; exact Nat.le_of_eq rfl) (hb hby at_143) (fun _ _ => ⟨rfl, rfl, (by decide : 22 + 1 ≤ _), (by decide : 54 + 9 ≤ _)⟩)
    dsimp only [Pt.U, Pt.locs, Pt.cells, Pt.slots] at X48 l48 y48 z48 st48 hQ48
    subst l48 y48 z48
    obtain ⟨b49, ⟨rfl, N48q, K48, B48_0, P48_0, P48_1, P48_2, P48_3, P48_4, P48_5, P48_6, P48_7, P48_8, P48_9⟩⟩ := hQ48
    have N48 := Fr.app N47 N48q
    refine OwnFin.step (fun tT kK => st48.trans kK) ?_
    have E48 : Ext T47.heap T48.heap := ⟨K48.1, fun x c q => K48.2.1 x c q nin0⟩
    show OwnFin p e below _ (T48.setTop (mkF m 146 #[.val (.int nu), .val (.int se), .val (.long chs), .second, .val (.int le), .val (.ref b2), .val (.ref b5), .val (.ref b8), .val (.ref b11), .val (.ref b14), .val (.ref b17), .val (.ref b18), .val (.ref wq), .val (.ref b34), .val (.ref b35), .val (.ref b37), .unset] [(.ref b49)]))
    refine OwnFin.step (fun tT kK => XS.astore X48.here hx rfl (hb hby at_146) rfl rfl (l' := #[.val (.int nu), .val (.int se), .val (.long chs), .second, .val (.int le), .val (.ref b2), .val (.ref b5), .val (.ref b8), .val (.ref b11), .val (.ref b14), .val (.ref b17), .val (.ref b18), .val (.ref wq), .val (.ref b34), .val (.ref b35), .val (.ref b37), .val (.ref b49)]) rfl kK) ?_
    show OwnFin p e below _ (T48.setTop (mkF m 148 #[.val (.int nu), .val (.int se), .val (.long chs), .second, .val (.int le), .val (.ref b2), .val (.ref b5), .val (.ref b8), .val (.ref b11), .val (.ref b14), .val (.ref b17), .val (.ref b18), .val (.ref wq), .val (.ref b34), .val (.ref b35), .val (.ref b37), .val (.ref b49)] []))
    refine OwnFin.step (fun tT kK => XS.aload X48.here hx rfl (hb hby at_148) rfl rfl kK) ?_
    show OwnFin p e below _ (T48.setTop (mkF m 150 #[.val (.int nu), .val (.int se), .val (.long chs), .second, .val (.int le), .val (.ref b2), .val (.ref b5), .val (.ref b8), .val (.ref b11), .val (.ref b14), .val (.ref b17), .val (.ref b18), .val (.ref wq), .val (.ref b34), .val (.ref b35), .val (.ref b37), .val (.ref b49)] [(.ref b49)]))
    refine OwnFin.step (fun tT kK => XS.ifnullNo X48.here hx rfl (hb hby at_150) rfl kK) ?_
    show OwnFin p e below _ (T48.setTop (mkF m 153 #[.val (.int nu), .val (.int se), .val (.long chs), .second, .val (.int le), .val (.ref b2), .val (.ref b5), .val (.ref b8), .val (.ref b11), .val (.ref b14), .val (.ref b17), .val (.ref b18), .val (.ref wq), .val (.ref b34), .val (.ref b35), .val (.ref b37), .val (.ref b49)] []))
    refine OwnFin.step (fun tT kK => XS.aload X48.here hx rfl (hb hby at_153) rfl rfl kK) ?_
    show OwnFin p e below _ (T48.setTop (mkF m 155 #[.val (.int nu), .val (.int se), .val (.long chs), .second, .val (.int le), .val (.ref b2), .val (.ref b5), .val (.ref b8), .val (.ref b11), .val (.ref b14), .val (.ref b17), .val (.ref b18), .val (.ref wq), .val (.ref b34), .val (.ref b35), .val (.ref b37), .val (.ref b49)] [(.ref b49)]))
    obtain ⟨cq50, kq50, q50a, q50b, q50c⟩ := isOf hZ rfl P48_0
    obtain ⟨_, _, ⟨T50, L50, k50, n50⟩, -, X50, ⟨Lc50, hQ50, l50, y50, z50⟩, st50⟩ := X48.virtualBack hx (y := (⟨"com/example/myna/myna/delivery/Attempt", "deliveryId", "()Ljava/lang/String;"⟩ : MethodName)) (z := (⟨"com/example/myna/myna/delivery/Attempt", "deliveryId", "()Ljava/lang/String;"⟩ : MethodName)) hown (mvT hZ (hw _ (List.mem_of_getElem? (i := 83) rfl))) (mvT hZ (hw _ (List.mem_of_getElem? (i := 84) rfl))) (notFace_of_selects (args := #[]) (mvT hZ (hw _ (List.mem_of_getElem? (i := 86) rfl)))) (mvT hZ (hw _ (List.mem_of_getElem? (i := 86) rfl))) (mvT hZ (hw _ (List.mem_of_getElem? (i := 85) rfl))) (by decide) (backOf (W := 0) (rm60 l Z a0 hw [] b49 b2 T48.heap n0 (Nat.le_trans (Nat.le_trans (Nat.le_trans (Nat.le_trans (Nat.le_trans (Nat.le_trans (Nat.le_trans (Nat.le_trans (Nat.le_trans (Nat.le_trans (Nat.le_trans (Nat.le_trans (Nat.le_trans (Nat.le_trans (Nat.le_trans Z0 E1.1) E4.1) E7.1) E10.1) E13.1) E16.1) E18.1) (Keep.of_wr W23).1) (Keep.of_wr W28).1) (Keep.of_wr W33).1) E34.1) E35.1) E37.1) K47.1) E48.1) P48_1) hZ (hw _ (List.mem_of_getElem? (i := 87) rfl)) (hw _ (List.mem_of_getElem? (i := 48) rfl)) (by decide) (by decide)) q50a q50c (g := (mkF m 155 #[.val (.int nu), .val (.int se), .val (.long chs), .second, .val (.int le), .val (.ref b2), .val (.ref b5), .val (.ref b8), .val (.ref b11), .val (.ref b14), .val (.ref b17), .val (.ref b18), .val (.ref wq), .val (.ref b34), .val (.ref b35), .val (.ref b37), .val (.ref b49)] [(.ref b49)])) rfl (by rw [hml]; rfl) (Steps.refl _) (argsL := []) (rest := []) (lenOf pd_187 rfl) rfl (by show 2 * 0 + _ ≤ _; exact Nat.le_of_eq rfl) (hb hby at_155) (fun _ _ => ⟨rfl, rfl, (by decide : 23 + 0 ≤ _), (by decide : 63 + 0 ≤ _)⟩)
    dsimp only [Pt.U, Pt.locs, Pt.cells, Pt.slots] at X50 l50 y50 z50 st50 hQ50
    subst l50 y50 z50
    obtain ⟨rfl, N50q, e50⟩ := hQ50
    have N50 := Fr.app N48 N50q
    refine OwnFin.step (fun tT kK => st50.trans kK) ?_
    show OwnFin p e below _ (T50.setTop (mkF m 158 #[.val (.int nu), .val (.int se), .val (.long chs), .second, .val (.int le), .val (.ref b2), .val (.ref b5), .val (.ref b8), .val (.ref b11), .val (.ref b14), .val (.ref b17), .val (.ref b18), .val (.ref wq), .val (.ref b34), .val (.ref b35), .val (.ref b37), .val (.ref b49)] [(.ref b2)]))
    refine OwnFin.step (fun tT kK => XS.aload X50.here hx rfl (hb hby at_158) rfl rfl kK) ?_
    show OwnFin p e below _ (T50.setTop (mkF m 160 #[.val (.int nu), .val (.int se), .val (.long chs), .second, .val (.int le), .val (.ref b2), .val (.ref b5), .val (.ref b8), .val (.ref b11), .val (.ref b14), .val (.ref b17), .val (.ref b18), .val (.ref wq), .val (.ref b34), .val (.ref b35), .val (.ref b37), .val (.ref b49)] [(.ref b2), (.ref b2)]))
    refine OwnFin.step (fun tT kK => Jvm.RoadKit.acmp (g := (mkF m 160 #[.val (.int nu), .val (.int se), .val (.long chs), .second, .val (.int le), .val (.ref b2), .val (.ref b5), .val (.ref b8), .val (.ref b11), .val (.ref b14), .val (.ref b17), .val (.ref b18), .val (.ref wq), .val (.ref b34), .val (.ref b35), .val (.ref b37), .val (.ref b49)] [(.ref b2), (.ref b2)])) X50 hx rfl rfl rfl (pc0 := 160) (pc' := 163) (same := true) rfl (hb hby at_160) rfl (decide_eq_true rfl) (by decide) (by decide) kK) ?_
    show OwnFin p e below _ (T50.setTop (mkF m 163 #[.val (.int nu), .val (.int se), .val (.long chs), .second, .val (.int le), .val (.ref b2), .val (.ref b5), .val (.ref b8), .val (.ref b11), .val (.ref b14), .val (.ref b17), .val (.ref b18), .val (.ref wq), .val (.ref b34), .val (.ref b35), .val (.ref b37), .val (.ref b49)] []))
    refine OwnFin.step (fun tT kK => XS.aload X50.here hx rfl (hb hby at_163) rfl rfl kK) ?_
    show OwnFin p e below _ (T50.setTop (mkF m 165 #[.val (.int nu), .val (.int se), .val (.long chs), .second, .val (.int le), .val (.ref b2), .val (.ref b5), .val (.ref b8), .val (.ref b11), .val (.ref b14), .val (.ref b17), .val (.ref b18), .val (.ref wq), .val (.ref b34), .val (.ref b35), .val (.ref b37), .val (.ref b49)] [(.ref b49)]))
    obtain ⟨cq51, kq51, q51a, q51b, q51c⟩ := isOf hZ e50 P48_0
    obtain ⟨_, _, ⟨T51, L51, k51, n51⟩, -, X51, ⟨Lc51, hQ51, l51, y51, z51⟩, st51⟩ := X50.virtualBack hx (y := (⟨"com/example/myna/myna/delivery/Attempt", "tenant", "()Ljava/lang/String;"⟩ : MethodName)) (z := (⟨"com/example/myna/myna/delivery/Attempt", "tenant", "()Ljava/lang/String;"⟩ : MethodName)) hown (mvT hZ (hw _ (List.mem_of_getElem? (i := 88) rfl))) (mvT hZ (hw _ (List.mem_of_getElem? (i := 89) rfl))) (notFace_of_selects (args := #[]) (mvT hZ (hw _ (List.mem_of_getElem? (i := 91) rfl)))) (mvT hZ (hw _ (List.mem_of_getElem? (i := 91) rfl))) (mvT hZ (hw _ (List.mem_of_getElem? (i := 90) rfl))) (by decide) (backOf (W := 0) (rm61 l Z a0 hw [] b49 b5 T48.heap n0 (Nat.le_trans (Nat.le_trans (Nat.le_trans (Nat.le_trans (Nat.le_trans (Nat.le_trans (Nat.le_trans (Nat.le_trans (Nat.le_trans (Nat.le_trans (Nat.le_trans (Nat.le_trans (Nat.le_trans (Nat.le_trans (Nat.le_trans Z0 E1.1) E4.1) E7.1) E10.1) E13.1) E16.1) E18.1) (Keep.of_wr W23).1) (Keep.of_wr W28).1) (Keep.of_wr W33).1) E34.1) E35.1) E37.1) K47.1) E48.1) P48_2) hZ (hw _ (List.mem_of_getElem? (i := 92) rfl)) (hw _ (List.mem_of_getElem? (i := 48) rfl)) (by decide) (by decide)) q51a q51c (g := (mkF m 165 #[.val (.int nu), .val (.int se), .val (.long chs), .second, .val (.int le), .val (.ref b2), .val (.ref b5), .val (.ref b8), .val (.ref b11), .val (.ref b14), .val (.ref b17), .val (.ref b18), .val (.ref wq), .val (.ref b34), .val (.ref b35), .val (.ref b37), .val (.ref b49)] [(.ref b49)])) rfl (by rw [hml]; rfl) (Steps.refl _) (argsL := []) (rest := []) (lenOf pd_187 rfl) rfl (by show 2 * 0 + _ ≤ _; exact Nat.le_of_eq rfl) (hb hby at_165) (fun _ _ => ⟨rfl, e50, (by decide : 23 + 0 ≤ _), (by decide : 63 + 0 ≤ _)⟩)
    dsimp only [Pt.U, Pt.locs, Pt.cells, Pt.slots] at X51 l51 y51 z51 st51 hQ51
    subst l51 y51 z51
    obtain ⟨rfl, N51q, e51⟩ := hQ51
    have N51 := Fr.app N50 N51q
    refine OwnFin.step (fun tT kK => st51.trans kK) ?_
    show OwnFin p e below _ (T51.setTop (mkF m 168 #[.val (.int nu), .val (.int se), .val (.long chs), .second, .val (.int le), .val (.ref b2), .val (.ref b5), .val (.ref b8), .val (.ref b11), .val (.ref b14), .val (.ref b17), .val (.ref b18), .val (.ref wq), .val (.ref b34), .val (.ref b35), .val (.ref b37), .val (.ref b49)] [(.ref b5)]))
    refine OwnFin.step (fun tT kK => XS.aload X51.here hx rfl (hb hby at_168) rfl rfl kK) ?_
    show OwnFin p e below _ (T51.setTop (mkF m 170 #[.val (.int nu), .val (.int se), .val (.long chs), .second, .val (.int le), .val (.ref b2), .val (.ref b5), .val (.ref b8), .val (.ref b11), .val (.ref b14), .val (.ref b17), .val (.ref b18), .val (.ref wq), .val (.ref b34), .val (.ref b35), .val (.ref b37), .val (.ref b49)] [(.ref b5), (.ref b5)]))
    refine OwnFin.step (fun tT kK => Jvm.RoadKit.acmp (g := (mkF m 170 #[.val (.int nu), .val (.int se), .val (.long chs), .second, .val (.int le), .val (.ref b2), .val (.ref b5), .val (.ref b8), .val (.ref b11), .val (.ref b14), .val (.ref b17), .val (.ref b18), .val (.ref wq), .val (.ref b34), .val (.ref b35), .val (.ref b37), .val (.ref b49)] [(.ref b5), (.ref b5)])) X51 hx rfl rfl rfl (pc0 := 170) (pc' := 173) (same := true) rfl (hb hby at_170) rfl (decide_eq_true rfl) (by decide) (by decide) kK) ?_
    show OwnFin p e below _ (T51.setTop (mkF m 173 #[.val (.int nu), .val (.int se), .val (.long chs), .second, .val (.int le), .val (.ref b2), .val (.ref b5), .val (.ref b8), .val (.ref b11), .val (.ref b14), .val (.ref b17), .val (.ref b18), .val (.ref wq), .val (.ref b34), .val (.ref b35), .val (.ref b37), .val (.ref b49)] []))
    refine OwnFin.step (fun tT kK => XS.aload X51.here hx rfl (hb hby at_173) rfl rfl kK) ?_
    show OwnFin p e below _ (T51.setTop (mkF m 175 #[.val (.int nu), .val (.int se), .val (.long chs), .second, .val (.int le), .val (.ref b2), .val (.ref b5), .val (.ref b8), .val (.ref b11), .val (.ref b14), .val (.ref b17), .val (.ref b18), .val (.ref wq), .val (.ref b34), .val (.ref b35), .val (.ref b37), .val (.ref b49)] [(.ref b49)]))
    obtain ⟨cq52, kq52, q52a, q52b, q52c⟩ := isOf hZ e51 P48_0
    obtain ⟨_, _, ⟨T52, L52, k52, n52⟩, -, X52, ⟨Lc52, hQ52, l52, y52, z52⟩, st52⟩ := X51.virtualBack hx (y := (⟨"com/example/myna/myna/delivery/Attempt", "eventId", "()Ljava/lang/String;"⟩ : MethodName)) (z := (⟨"com/example/myna/myna/delivery/Attempt", "eventId", "()Ljava/lang/String;"⟩ : MethodName)) hown (mvT hZ (hw _ (List.mem_of_getElem? (i := 93) rfl))) (mvT hZ (hw _ (List.mem_of_getElem? (i := 94) rfl))) (notFace_of_selects (args := #[]) (mvT hZ (hw _ (List.mem_of_getElem? (i := 96) rfl)))) (mvT hZ (hw _ (List.mem_of_getElem? (i := 96) rfl))) (mvT hZ (hw _ (List.mem_of_getElem? (i := 95) rfl))) (by decide) (backOf (W := 0) (rm62 l Z a0 hw [] b49 b8 T48.heap n0 (Nat.le_trans (Nat.le_trans (Nat.le_trans (Nat.le_trans (Nat.le_trans (Nat.le_trans (Nat.le_trans (Nat.le_trans (Nat.le_trans (Nat.le_trans (Nat.le_trans (Nat.le_trans (Nat.le_trans (Nat.le_trans (Nat.le_trans Z0 E1.1) E4.1) E7.1) E10.1) E13.1) E16.1) E18.1) (Keep.of_wr W23).1) (Keep.of_wr W28).1) (Keep.of_wr W33).1) E34.1) E35.1) E37.1) K47.1) E48.1) P48_3) hZ (hw _ (List.mem_of_getElem? (i := 97) rfl)) (hw _ (List.mem_of_getElem? (i := 48) rfl)) (by decide) (by decide)) q52a q52c (g := (mkF m 175 #[.val (.int nu), .val (.int se), .val (.long chs), .second, .val (.int le), .val (.ref b2), .val (.ref b5), .val (.ref b8), .val (.ref b11), .val (.ref b14), .val (.ref b17), .val (.ref b18), .val (.ref wq), .val (.ref b34), .val (.ref b35), .val (.ref b37), .val (.ref b49)] [(.ref b49)])) rfl (by rw [hml]; rfl) (Steps.refl _) (argsL := []) (rest := []) (lenOf pd_187 rfl) rfl (by show 2 * 0 + _ ≤ _; exact Nat.le_of_eq rfl) (hb hby at_175) (fun _ _ => ⟨rfl, e51, (by decide : 23 + 0 ≤ _), (by decide : 63 + 0 ≤ _)⟩)
    dsimp only [Pt.U, Pt.locs, Pt.cells, Pt.slots] at X52 l52 y52 z52 st52 hQ52
    subst l52 y52 z52
    obtain ⟨rfl, N52q, e52⟩ := hQ52
    have N52 := Fr.app N51 N52q
    refine OwnFin.step (fun tT kK => st52.trans kK) ?_
    show OwnFin p e below _ (T52.setTop (mkF m 178 #[.val (.int nu), .val (.int se), .val (.long chs), .second, .val (.int le), .val (.ref b2), .val (.ref b5), .val (.ref b8), .val (.ref b11), .val (.ref b14), .val (.ref b17), .val (.ref b18), .val (.ref wq), .val (.ref b34), .val (.ref b35), .val (.ref b37), .val (.ref b49)] [(.ref b8)]))
    refine OwnFin.step (fun tT kK => XS.aload X52.here hx rfl (hb hby at_178) rfl rfl kK) ?_
    show OwnFin p e below _ (T52.setTop (mkF m 180 #[.val (.int nu), .val (.int se), .val (.long chs), .second, .val (.int le), .val (.ref b2), .val (.ref b5), .val (.ref b8), .val (.ref b11), .val (.ref b14), .val (.ref b17), .val (.ref b18), .val (.ref wq), .val (.ref b34), .val (.ref b35), .val (.ref b37), .val (.ref b49)] [(.ref b8), (.ref b8)]))
    refine OwnFin.step (fun tT kK => Jvm.RoadKit.acmp (g := (mkF m 180 #[.val (.int nu), .val (.int se), .val (.long chs), .second, .val (.int le), .val (.ref b2), .val (.ref b5), .val (.ref b8), .val (.ref b11), .val (.ref b14), .val (.ref b17), .val (.ref b18), .val (.ref wq), .val (.ref b34), .val (.ref b35), .val (.ref b37), .val (.ref b49)] [(.ref b8), (.ref b8)])) X52 hx rfl rfl rfl (pc0 := 180) (pc' := 183) (same := true) rfl (hb hby at_180) rfl (decide_eq_true rfl) (by decide) (by decide) kK) ?_
    show OwnFin p e below _ (T52.setTop (mkF m 183 #[.val (.int nu), .val (.int se), .val (.long chs), .second, .val (.int le), .val (.ref b2), .val (.ref b5), .val (.ref b8), .val (.ref b11), .val (.ref b14), .val (.ref b17), .val (.ref b18), .val (.ref wq), .val (.ref b34), .val (.ref b35), .val (.ref b37), .val (.ref b49)] []))
    refine OwnFin.step (fun tT kK => XS.aload X52.here hx rfl (hb hby at_183) rfl rfl kK) ?_
    show OwnFin p e below _ (T52.setTop (mkF m 185 #[.val (.int nu), .val (.int se), .val (.long chs), .second, .val (.int le), .val (.ref b2), .val (.ref b5), .val (.ref b8), .val (.ref b11), .val (.ref b14), .val (.ref b17), .val (.ref b18), .val (.ref wq), .val (.ref b34), .val (.ref b35), .val (.ref b37), .val (.ref b49)] [(.ref b49)]))
    obtain ⟨cq53, kq53, q53a, q53b, q53c⟩ := isOf hZ e52 P48_0
    obtain ⟨_, _, ⟨T53, L53, k53, n53⟩, -, X53, ⟨Lc53, hQ53, l53, y53, z53⟩, st53⟩ := X52.virtualBack hx (y := (⟨"com/example/myna/myna/delivery/Attempt", "endpointId", "()Ljava/lang/String;"⟩ : MethodName)) (z := (⟨"com/example/myna/myna/delivery/Attempt", "endpointId", "()Ljava/lang/String;"⟩ : MethodName)) hown (mvT hZ (hw _ (List.mem_of_getElem? (i := 98) rfl))) (mvT hZ (hw _ (List.mem_of_getElem? (i := 99) rfl))) (notFace_of_selects (args := #[]) (mvT hZ (hw _ (List.mem_of_getElem? (i := 101) rfl)))) (mvT hZ (hw _ (List.mem_of_getElem? (i := 101) rfl))) (mvT hZ (hw _ (List.mem_of_getElem? (i := 100) rfl))) (by decide) (backOf (W := 0) (rm63 l Z a0 hw [] b49 b11 T48.heap n0 (Nat.le_trans (Nat.le_trans (Nat.le_trans (Nat.le_trans (Nat.le_trans (Nat.le_trans (Nat.le_trans (Nat.le_trans (Nat.le_trans (Nat.le_trans (Nat.le_trans (Nat.le_trans (Nat.le_trans (Nat.le_trans (Nat.le_trans Z0 E1.1) E4.1) E7.1) E10.1) E13.1) E16.1) E18.1) (Keep.of_wr W23).1) (Keep.of_wr W28).1) (Keep.of_wr W33).1) E34.1) E35.1) E37.1) K47.1) E48.1) P48_4) hZ (hw _ (List.mem_of_getElem? (i := 102) rfl)) (hw _ (List.mem_of_getElem? (i := 48) rfl)) (by decide) (by decide)) q53a q53c (g := (mkF m 185 #[.val (.int nu), .val (.int se), .val (.long chs), .second, .val (.int le), .val (.ref b2), .val (.ref b5), .val (.ref b8), .val (.ref b11), .val (.ref b14), .val (.ref b17), .val (.ref b18), .val (.ref wq), .val (.ref b34), .val (.ref b35), .val (.ref b37), .val (.ref b49)] [(.ref b49)])) rfl (by rw [hml]; rfl) (Steps.refl _) (argsL := []) (rest := []) (lenOf pd_187 rfl) rfl (by show 2 * 0 + _ ≤ _; exact Nat.le_of_eq rfl) (hb hby at_185) (fun _ _ => ⟨rfl, e52, (by decide : 23 + 0 ≤ _), (by decide : 63 + 0 ≤ _)⟩)
    dsimp only [Pt.U, Pt.locs, Pt.cells, Pt.slots] at X53 l53 y53 z53 st53 hQ53
    subst l53 y53 z53
    obtain ⟨rfl, N53q, e53⟩ := hQ53
    have N53 := Fr.app N52 N53q
    refine OwnFin.step (fun tT kK => st53.trans kK) ?_
    show OwnFin p e below _ (T53.setTop (mkF m 188 #[.val (.int nu), .val (.int se), .val (.long chs), .second, .val (.int le), .val (.ref b2), .val (.ref b5), .val (.ref b8), .val (.ref b11), .val (.ref b14), .val (.ref b17), .val (.ref b18), .val (.ref wq), .val (.ref b34), .val (.ref b35), .val (.ref b37), .val (.ref b49)] [(.ref b11)]))
    refine OwnFin.step (fun tT kK => XS.aload X53.here hx rfl (hb hby at_188) rfl rfl kK) ?_
    show OwnFin p e below _ (T53.setTop (mkF m 190 #[.val (.int nu), .val (.int se), .val (.long chs), .second, .val (.int le), .val (.ref b2), .val (.ref b5), .val (.ref b8), .val (.ref b11), .val (.ref b14), .val (.ref b17), .val (.ref b18), .val (.ref wq), .val (.ref b34), .val (.ref b35), .val (.ref b37), .val (.ref b49)] [(.ref b11), (.ref b11)]))
    refine OwnFin.step (fun tT kK => Jvm.RoadKit.acmp (g := (mkF m 190 #[.val (.int nu), .val (.int se), .val (.long chs), .second, .val (.int le), .val (.ref b2), .val (.ref b5), .val (.ref b8), .val (.ref b11), .val (.ref b14), .val (.ref b17), .val (.ref b18), .val (.ref wq), .val (.ref b34), .val (.ref b35), .val (.ref b37), .val (.ref b49)] [(.ref b11), (.ref b11)])) X53 hx rfl rfl rfl (pc0 := 190) (pc' := 193) (same := true) rfl (hb hby at_190) rfl (decide_eq_true rfl) (by decide) (by decide) kK) ?_
    show OwnFin p e below _ (T53.setTop (mkF m 193 #[.val (.int nu), .val (.int se), .val (.long chs), .second, .val (.int le), .val (.ref b2), .val (.ref b5), .val (.ref b8), .val (.ref b11), .val (.ref b14), .val (.ref b17), .val (.ref b18), .val (.ref wq), .val (.ref b34), .val (.ref b35), .val (.ref b37), .val (.ref b49)] []))
    refine OwnFin.step (fun tT kK => XS.aload X53.here hx rfl (hb hby at_193) rfl rfl kK) ?_
    show OwnFin p e below _ (T53.setTop (mkF m 195 #[.val (.int nu), .val (.int se), .val (.long chs), .second, .val (.int le), .val (.ref b2), .val (.ref b5), .val (.ref b8), .val (.ref b11), .val (.ref b14), .val (.ref b17), .val (.ref b18), .val (.ref wq), .val (.ref b34), .val (.ref b35), .val (.ref b37), .val (.ref b49)] [(.ref b49)]))
    obtain ⟨cq54, kq54, q54a, q54b, q54c⟩ := isOf hZ e53 P48_0
    obtain ⟨_, _, ⟨T54, L54, k54, n54⟩, -, X54, ⟨Lc54, hQ54, l54, y54, z54⟩, st54⟩ := X53.virtualBack hx (y := (⟨"com/example/myna/myna/delivery/Attempt", "number", "()I"⟩ : MethodName)) (z := (⟨"com/example/myna/myna/delivery/Attempt", "number", "()I"⟩ : MethodName)) hown (mvT hZ (hw _ (List.mem_of_getElem? (i := 103) rfl))) (mvT hZ (hw _ (List.mem_of_getElem? (i := 104) rfl))) (notFace_of_selects (args := #[]) (mvT hZ (hw _ (List.mem_of_getElem? (i := 106) rfl)))) (mvT hZ (hw _ (List.mem_of_getElem? (i := 106) rfl))) (mvT hZ (hw _ (List.mem_of_getElem? (i := 105) rfl))) (by decide) (backOf (W := 0) (rm64 l Z a0 hw [] b49 nu T48.heap n0 (Nat.le_trans (Nat.le_trans (Nat.le_trans (Nat.le_trans (Nat.le_trans (Nat.le_trans (Nat.le_trans (Nat.le_trans (Nat.le_trans (Nat.le_trans (Nat.le_trans (Nat.le_trans (Nat.le_trans (Nat.le_trans (Nat.le_trans Z0 E1.1) E4.1) E7.1) E10.1) E13.1) E16.1) E18.1) (Keep.of_wr W23).1) (Keep.of_wr W28).1) (Keep.of_wr W33).1) E34.1) E35.1) E37.1) K47.1) E48.1) P48_5) hZ (hw _ (List.mem_of_getElem? (i := 107) rfl)) (hw _ (List.mem_of_getElem? (i := 48) rfl)) (by decide) (by decide)) q54a q54c (g := (mkF m 195 #[.val (.int nu), .val (.int se), .val (.long chs), .second, .val (.int le), .val (.ref b2), .val (.ref b5), .val (.ref b8), .val (.ref b11), .val (.ref b14), .val (.ref b17), .val (.ref b18), .val (.ref wq), .val (.ref b34), .val (.ref b35), .val (.ref b37), .val (.ref b49)] [(.ref b49)])) rfl (by rw [hml]; rfl) (Steps.refl _) (argsL := []) (rest := []) (lenOf pd_188 rfl) rfl (by show 2 * 0 + _ ≤ _; exact Nat.le_of_eq rfl) (hb hby at_195) (fun _ _ => ⟨rfl, e53, (by decide : 23 + 0 ≤ _), (by decide : 63 + 0 ≤ _)⟩)
    dsimp only [Pt.U, Pt.locs, Pt.cells, Pt.slots] at X54 l54 y54 z54 st54 hQ54
    subst l54 y54 z54
    obtain ⟨rfl, N54q, e54⟩ := hQ54
    have N54 := Fr.app N53 N54q
    refine OwnFin.step (fun tT kK => st54.trans kK) ?_
    show OwnFin p e below _ (T54.setTop (mkF m 198 #[.val (.int nu), .val (.int se), .val (.long chs), .second, .val (.int le), .val (.ref b2), .val (.ref b5), .val (.ref b8), .val (.ref b11), .val (.ref b14), .val (.ref b17), .val (.ref b18), .val (.ref wq), .val (.ref b34), .val (.ref b35), .val (.ref b37), .val (.ref b49)] [(.int nu)]))
    refine OwnFin.step (fun tT kK => XS.iloadN X54.here hx rfl (hb hby at_198) rfl kK) ?_
    show OwnFin p e below _ (T54.setTop (mkF m 199 #[.val (.int nu), .val (.int se), .val (.long chs), .second, .val (.int le), .val (.ref b2), .val (.ref b5), .val (.ref b8), .val (.ref b11), .val (.ref b14), .val (.ref b17), .val (.ref b18), .val (.ref wq), .val (.ref b34), .val (.ref b35), .val (.ref b37), .val (.ref b49)] [(.int nu), (.int nu)]))
    refine OwnFin.step (fun tT kK => XS.icmpNo X54.here hx rfl (hb hby at_199) rfl (teq (rfl : nu = nu)).2 kK) ?_
    show OwnFin p e below _ (T54.setTop (mkF m 202 #[.val (.int nu), .val (.int se), .val (.long chs), .second, .val (.int le), .val (.ref b2), .val (.ref b5), .val (.ref b8), .val (.ref b11), .val (.ref b14), .val (.ref b17), .val (.ref b18), .val (.ref wq), .val (.ref b34), .val (.ref b35), .val (.ref b37), .val (.ref b49)] []))
    refine OwnFin.step (fun tT kK => XS.aload X54.here hx rfl (hb hby at_202) rfl rfl kK) ?_
    show OwnFin p e below _ (T54.setTop (mkF m 204 #[.val (.int nu), .val (.int se), .val (.long chs), .second, .val (.int le), .val (.ref b2), .val (.ref b5), .val (.ref b8), .val (.ref b11), .val (.ref b14), .val (.ref b17), .val (.ref b18), .val (.ref wq), .val (.ref b34), .val (.ref b35), .val (.ref b37), .val (.ref b49)] [(.ref b49)]))
    obtain ⟨cq55, kq55, q55a, q55b, q55c⟩ := isOf hZ e54 P48_0
    obtain ⟨_, _, ⟨T55, L55, k55, n55⟩, -, X55, ⟨Lc55, hQ55, l55, y55, z55⟩, st55⟩ := X54.virtualBack hx (y := (⟨"com/example/myna/myna/delivery/Attempt", "status", "()Lcom/example/myna/myna/delivery/Status;"⟩ : MethodName)) (z := (⟨"com/example/myna/myna/delivery/Attempt", "status", "()Lcom/example/myna/myna/delivery/Status;"⟩ : MethodName)) hown (mvT hZ (hw _ (List.mem_of_getElem? (i := 108) rfl))) (mvT hZ (hw _ (List.mem_of_getElem? (i := 109) rfl))) (notFace_of_selects (args := #[]) (mvT hZ (hw _ (List.mem_of_getElem? (i := 111) rfl)))) (mvT hZ (hw _ (List.mem_of_getElem? (i := 111) rfl))) (mvT hZ (hw _ (List.mem_of_getElem? (i := 110) rfl))) (by decide) (backOf (W := 0) (rm65 l Z a0 hw [] b49 wq T48.heap n0 (Nat.le_trans (Nat.le_trans (Nat.le_trans (Nat.le_trans (Nat.le_trans (Nat.le_trans (Nat.le_trans (Nat.le_trans (Nat.le_trans (Nat.le_trans (Nat.le_trans (Nat.le_trans (Nat.le_trans (Nat.le_trans (Nat.le_trans Z0 E1.1) E4.1) E7.1) E10.1) E13.1) E16.1) E18.1) (Keep.of_wr W23).1) (Keep.of_wr W28).1) (Keep.of_wr W33).1) E34.1) E35.1) E37.1) K47.1) E48.1) P48_6) hZ (hw _ (List.mem_of_getElem? (i := 112) rfl)) (hw _ (List.mem_of_getElem? (i := 48) rfl)) (by decide) (by decide)) q55a q55c (g := (mkF m 204 #[.val (.int nu), .val (.int se), .val (.long chs), .second, .val (.int le), .val (.ref b2), .val (.ref b5), .val (.ref b8), .val (.ref b11), .val (.ref b14), .val (.ref b17), .val (.ref b18), .val (.ref wq), .val (.ref b34), .val (.ref b35), .val (.ref b37), .val (.ref b49)] [(.ref b49)])) rfl (by rw [hml]; rfl) (Steps.refl _) (argsL := []) (rest := []) (lenOf pd_189 rfl) rfl (by show 2 * 0 + _ ≤ _; exact Nat.le_of_eq rfl) (hb hby at_204) (fun _ _ => ⟨rfl, e54, (by decide : 23 + 0 ≤ _), (by decide : 63 + 0 ≤ _)⟩)
    dsimp only [Pt.U, Pt.locs, Pt.cells, Pt.slots] at X55 l55 y55 z55 st55 hQ55
    subst l55 y55 z55
    obtain ⟨rfl, N55q, e55⟩ := hQ55
    have N55 := Fr.app N54 N55q
    refine OwnFin.step (fun tT kK => st55.trans kK) ?_
    show OwnFin p e below _ (T55.setTop (mkF m 207 #[.val (.int nu), .val (.int se), .val (.long chs), .second, .val (.int le), .val (.ref b2), .val (.ref b5), .val (.ref b8), .val (.ref b11), .val (.ref b14), .val (.ref b17), .val (.ref b18), .val (.ref wq), .val (.ref b34), .val (.ref b35), .val (.ref b37), .val (.ref b49)] [(.ref wq)]))
    refine OwnFin.step (fun tT kK => XS.aload X55.here hx rfl (hb hby at_207) rfl rfl kK) ?_
    show OwnFin p e below _ (T55.setTop (mkF m 209 #[.val (.int nu), .val (.int se), .val (.long chs), .second, .val (.int le), .val (.ref b2), .val (.ref b5), .val (.ref b8), .val (.ref b11), .val (.ref b14), .val (.ref b17), .val (.ref b18), .val (.ref wq), .val (.ref b34), .val (.ref b35), .val (.ref b37), .val (.ref b49)] [(.ref wq), (.ref wq)]))
    refine OwnFin.step (fun tT kK => Jvm.RoadKit.acmp (g := (mkF m 209 #[.val (.int nu), .val (.int se), .val (.long chs), .second, .val (.int le), .val (.ref b2), .val (.ref b5), .val (.ref b8), .val (.ref b11), .val (.ref b14), .val (.ref b17), .val (.ref b18), .val (.ref wq), .val (.ref b34), .val (.ref b35), .val (.ref b37), .val (.ref b49)] [(.ref wq), (.ref wq)])) X55 hx rfl rfl rfl (pc0 := 209) (pc' := 212) (same := true) rfl (hb hby at_209) rfl (decide_eq_true rfl) (by decide) (by decide) kK) ?_
    show OwnFin p e below _ (T55.setTop (mkF m 212 #[.val (.int nu), .val (.int se), .val (.long chs), .second, .val (.int le), .val (.ref b2), .val (.ref b5), .val (.ref b8), .val (.ref b11), .val (.ref b14), .val (.ref b17), .val (.ref b18), .val (.ref wq), .val (.ref b34), .val (.ref b35), .val (.ref b37), .val (.ref b49)] []))
    refine OwnFin.step (fun tT kK => XS.aload X55.here hx rfl (hb hby at_212) rfl rfl kK) ?_
    show OwnFin p e below _ (T55.setTop (mkF m 214 #[.val (.int nu), .val (.int se), .val (.long chs), .second, .val (.int le), .val (.ref b2), .val (.ref b5), .val (.ref b8), .val (.ref b11), .val (.ref b14), .val (.ref b17), .val (.ref b18), .val (.ref wq), .val (.ref b34), .val (.ref b35), .val (.ref b37), .val (.ref b49)] [(.ref b49)]))
    obtain ⟨cq56, kq56, q56a, q56b, q56c⟩ := isOf hZ e55 P48_0
    obtain ⟨_, _, ⟨T56, L56, k56, n56⟩, -, X56, ⟨Lc56, hQ56, l56, y56, z56⟩, st56⟩ := X55.virtualBack hx (y := (⟨"com/example/myna/myna/delivery/Attempt", "url", "()Ljava/lang/String;"⟩ : MethodName)) (z := (⟨"com/example/myna/myna/delivery/Attempt", "url", "()Ljava/lang/String;"⟩ : MethodName)) hown (mvT hZ (hw _ (List.mem_of_getElem? (i := 113) rfl))) (mvT hZ (hw _ (List.mem_of_getElem? (i := 114) rfl))) (notFace_of_selects (args := #[]) (mvT hZ (hw _ (List.mem_of_getElem? (i := 116) rfl)))) (mvT hZ (hw _ (List.mem_of_getElem? (i := 116) rfl))) (mvT hZ (hw _ (List.mem_of_getElem? (i := 115) rfl))) (by decide) (backOf (W := 0) (rm66 l Z a0 hw [] b49 b14 T48.heap n0 (Nat.le_trans (Nat.le_trans (Nat.le_trans (Nat.le_trans (Nat.le_trans (Nat.le_trans (Nat.le_trans (Nat.le_trans (Nat.le_trans (Nat.le_trans (Nat.le_trans (Nat.le_trans (Nat.le_trans (Nat.le_trans (Nat.le_trans Z0 E1.1) E4.1) E7.1) E10.1) E13.1) E16.1) E18.1) (Keep.of_wr W23).1) (Keep.of_wr W28).1) (Keep.of_wr W33).1) E34.1) E35.1) E37.1) K47.1) E48.1) P48_7) hZ (hw _ (List.mem_of_getElem? (i := 117) rfl)) (hw _ (List.mem_of_getElem? (i := 48) rfl)) (by decide) (by decide)) q56a q56c (g := (mkF m 214 #[.val (.int nu), .val (.int se), .val (.long chs), .second, .val (.int le), .val (.ref b2), .val (.ref b5), .val (.ref b8), .val (.ref b11), .val (.ref b14), .val (.ref b17), .val (.ref b18), .val (.ref wq), .val (.ref b34), .val (.ref b35), .val (.ref b37), .val (.ref b49)] [(.ref b49)])) rfl (by rw [hml]; rfl) (Steps.refl _) (argsL := []) (rest := []) (lenOf pd_187 rfl) rfl (by show 2 * 0 + _ ≤ _; exact Nat.le_of_eq rfl) (hb hby at_214) (fun _ _ => ⟨rfl, e55, (by decide : 23 + 0 ≤ _), (by decide : 63 + 0 ≤ _)⟩)
    dsimp only [Pt.U, Pt.locs, Pt.cells, Pt.slots] at X56 l56 y56 z56 st56 hQ56
    subst l56 y56 z56
    obtain ⟨rfl, N56q, e56⟩ := hQ56
    have N56 := Fr.app N55 N56q
    refine OwnFin.step (fun tT kK => st56.trans kK) ?_
    show OwnFin p e below _ (T56.setTop (mkF m 217 #[.val (.int nu), .val (.int se), .val (.long chs), .second, .val (.int le), .val (.ref b2), .val (.ref b5), .val (.ref b8), .val (.ref b11), .val (.ref b14), .val (.ref b17), .val (.ref b18), .val (.ref wq), .val (.ref b34), .val (.ref b35), .val (.ref b37), .val (.ref b49)] [(.ref b14)]))
    refine OwnFin.step (fun tT kK => XS.aload X56.here hx rfl (hb hby at_217) rfl rfl kK) ?_
    show OwnFin p e below _ (T56.setTop (mkF m 219 #[.val (.int nu), .val (.int se), .val (.long chs), .second, .val (.int le), .val (.ref b2), .val (.ref b5), .val (.ref b8), .val (.ref b11), .val (.ref b14), .val (.ref b17), .val (.ref b18), .val (.ref wq), .val (.ref b34), .val (.ref b35), .val (.ref b37), .val (.ref b49)] [(.ref b14), (.ref b14)]))
    refine OwnFin.step (fun tT kK => Jvm.RoadKit.acmp (g := (mkF m 219 #[.val (.int nu), .val (.int se), .val (.long chs), .second, .val (.int le), .val (.ref b2), .val (.ref b5), .val (.ref b8), .val (.ref b11), .val (.ref b14), .val (.ref b17), .val (.ref b18), .val (.ref wq), .val (.ref b34), .val (.ref b35), .val (.ref b37), .val (.ref b49)] [(.ref b14), (.ref b14)])) X56 hx rfl rfl rfl (pc0 := 219) (pc' := 222) (same := true) rfl (hb hby at_219) rfl (decide_eq_true rfl) (by decide) (by decide) kK) ?_
    show OwnFin p e below _ (T56.setTop (mkF m 222 #[.val (.int nu), .val (.int se), .val (.long chs), .second, .val (.int le), .val (.ref b2), .val (.ref b5), .val (.ref b8), .val (.ref b11), .val (.ref b14), .val (.ref b17), .val (.ref b18), .val (.ref wq), .val (.ref b34), .val (.ref b35), .val (.ref b37), .val (.ref b49)] []))
    refine OwnFin.step (fun tT kK => XS.aload X56.here hx rfl (hb hby at_222) rfl rfl kK) ?_
    show OwnFin p e below _ (T56.setTop (mkF m 224 #[.val (.int nu), .val (.int se), .val (.long chs), .second, .val (.int le), .val (.ref b2), .val (.ref b5), .val (.ref b8), .val (.ref b11), .val (.ref b14), .val (.ref b17), .val (.ref b18), .val (.ref wq), .val (.ref b34), .val (.ref b35), .val (.ref b37), .val (.ref b49)] [(.ref b49)]))
    obtain ⟨cq57, kq57, q57a, q57b, q57c⟩ := isOf hZ e56 P48_0
    obtain ⟨_, _, ⟨T57, L57, k57, n57⟩, -, X57, ⟨Lc57, hQ57, l57, y57, z57⟩, st57⟩ := X56.virtualBack hx (y := (⟨"com/example/myna/myna/delivery/Attempt", "secret", "()Ljava/lang/String;"⟩ : MethodName)) (z := (⟨"com/example/myna/myna/delivery/Attempt", "secret", "()Ljava/lang/String;"⟩ : MethodName)) hown (mvT hZ (hw _ (List.mem_of_getElem? (i := 118) rfl))) (mvT hZ (hw _ (List.mem_of_getElem? (i := 119) rfl))) (notFace_of_selects (args := #[]) (mvT hZ (hw _ (List.mem_of_getElem? (i := 121) rfl)))) (mvT hZ (hw _ (List.mem_of_getElem? (i := 121) rfl))) (mvT hZ (hw _ (List.mem_of_getElem? (i := 120) rfl))) (by decide) (backOf (W := 0) (rm67 l Z a0 hw [] b49 b17 T48.heap n0 (Nat.le_trans (Nat.le_trans (Nat.le_trans (Nat.le_trans (Nat.le_trans (Nat.le_trans (Nat.le_trans (Nat.le_trans (Nat.le_trans (Nat.le_trans (Nat.le_trans (Nat.le_trans (Nat.le_trans (Nat.le_trans (Nat.le_trans Z0 E1.1) E4.1) E7.1) E10.1) E13.1) E16.1) E18.1) (Keep.of_wr W23).1) (Keep.of_wr W28).1) (Keep.of_wr W33).1) E34.1) E35.1) E37.1) K47.1) E48.1) P48_8) hZ (hw _ (List.mem_of_getElem? (i := 122) rfl)) (hw _ (List.mem_of_getElem? (i := 48) rfl)) (by decide) (by decide)) q57a q57c (g := (mkF m 224 #[.val (.int nu), .val (.int se), .val (.long chs), .second, .val (.int le), .val (.ref b2), .val (.ref b5), .val (.ref b8), .val (.ref b11), .val (.ref b14), .val (.ref b17), .val (.ref b18), .val (.ref wq), .val (.ref b34), .val (.ref b35), .val (.ref b37), .val (.ref b49)] [(.ref b49)])) rfl (by rw [hml]; rfl) (Steps.refl _) (argsL := []) (rest := []) (lenOf pd_187 rfl) rfl (by show 2 * 0 + _ ≤ _; exact Nat.le_of_eq rfl) (hb hby at_224) (fun _ _ => ⟨rfl, e56, (by decide : 23 + 0 ≤ _), (by decide : 63 + 0 ≤ _)⟩)
    dsimp only [Pt.U, Pt.locs, Pt.cells, Pt.slots] at X57 l57 y57 z57 st57 hQ57
    subst l57 y57 z57
    obtain ⟨rfl, N57q, e57⟩ := hQ57
    have N57 := Fr.app N56 N57q
    refine OwnFin.step (fun tT kK => st57.trans kK) ?_
    show OwnFin p e below _ (T57.setTop (mkF m 227 #[.val (.int nu), .val (.int se), .val (.long chs), .second, .val (.int le), .val (.ref b2), .val (.ref b5), .val (.ref b8), .val (.ref b11), .val (.ref b14), .val (.ref b17), .val (.ref b18), .val (.ref wq), .val (.ref b34), .val (.ref b35), .val (.ref b37), .val (.ref b49)] [(.ref b17)]))
    refine OwnFin.step (fun tT kK => XS.aload X57.here hx rfl (hb hby at_227) rfl rfl kK) ?_
    show OwnFin p e below _ (T57.setTop (mkF m 229 #[.val (.int nu), .val (.int se), .val (.long chs), .second, .val (.int le), .val (.ref b2), .val (.ref b5), .val (.ref b8), .val (.ref b11), .val (.ref b14), .val (.ref b17), .val (.ref b18), .val (.ref wq), .val (.ref b34), .val (.ref b35), .val (.ref b37), .val (.ref b49)] [(.ref b17), (.ref b17)]))
    refine OwnFin.step (fun tT kK => Jvm.RoadKit.acmp (g := (mkF m 229 #[.val (.int nu), .val (.int se), .val (.long chs), .second, .val (.int le), .val (.ref b2), .val (.ref b5), .val (.ref b8), .val (.ref b11), .val (.ref b14), .val (.ref b17), .val (.ref b18), .val (.ref wq), .val (.ref b34), .val (.ref b35), .val (.ref b37), .val (.ref b49)] [(.ref b17), (.ref b17)])) X57 hx rfl rfl rfl (pc0 := 229) (pc' := 232) (same := true) rfl (hb hby at_229) rfl (decide_eq_true rfl) (by decide) (by decide) kK) ?_
    show OwnFin p e below _ (T57.setTop (mkF m 232 #[.val (.int nu), .val (.int se), .val (.long chs), .second, .val (.int le), .val (.ref b2), .val (.ref b5), .val (.ref b8), .val (.ref b11), .val (.ref b14), .val (.ref b17), .val (.ref b18), .val (.ref wq), .val (.ref b34), .val (.ref b35), .val (.ref b37), .val (.ref b49)] []))
    refine OwnFin.step (fun tT kK => XS.aload X57.here hx rfl (hb hby at_232) rfl rfl kK) ?_
    show OwnFin p e below _ (T57.setTop (mkF m 234 #[.val (.int nu), .val (.int se), .val (.long chs), .second, .val (.int le), .val (.ref b2), .val (.ref b5), .val (.ref b8), .val (.ref b11), .val (.ref b14), .val (.ref b17), .val (.ref b18), .val (.ref wq), .val (.ref b34), .val (.ref b35), .val (.ref b37), .val (.ref b49)] [(.ref b49)]))
    obtain ⟨cq58, kq58, q58a, q58b, q58c⟩ := isOf hZ e57 P48_0
    obtain ⟨_, _, ⟨T58, L58, k58, n58⟩, -, X58, ⟨Lc58, hQ58, l58, y58, z58⟩, st58⟩ := X57.virtualBack hx (y := (⟨"com/example/myna/myna/delivery/Attempt", "body", "()[B"⟩ : MethodName)) (z := (⟨"com/example/myna/myna/delivery/Attempt", "body", "()[B"⟩ : MethodName)) hown (mvT hZ (hw _ (List.mem_of_getElem? (i := 123) rfl))) (mvT hZ (hw _ (List.mem_of_getElem? (i := 124) rfl))) (notFace_of_selects (args := #[]) (mvT hZ (hw _ (List.mem_of_getElem? (i := 126) rfl)))) (mvT hZ (hw _ (List.mem_of_getElem? (i := 126) rfl))) (mvT hZ (hw _ (List.mem_of_getElem? (i := 125) rfl))) (by decide) (backOf (W := 0) (rm68 l Z a0 hw [] b49 b35 T48.heap n0 (Nat.le_trans (Nat.le_trans (Nat.le_trans (Nat.le_trans (Nat.le_trans (Nat.le_trans (Nat.le_trans (Nat.le_trans (Nat.le_trans (Nat.le_trans (Nat.le_trans (Nat.le_trans (Nat.le_trans (Nat.le_trans (Nat.le_trans Z0 E1.1) E4.1) E7.1) E10.1) E13.1) E16.1) E18.1) (Keep.of_wr W23).1) (Keep.of_wr W28).1) (Keep.of_wr W33).1) E34.1) E35.1) E37.1) K47.1) E48.1) P48_9) hZ (hw _ (List.mem_of_getElem? (i := 127) rfl)) (hw _ (List.mem_of_getElem? (i := 48) rfl)) (by decide) (by decide)) q58a q58c (g := (mkF m 234 #[.val (.int nu), .val (.int se), .val (.long chs), .second, .val (.int le), .val (.ref b2), .val (.ref b5), .val (.ref b8), .val (.ref b11), .val (.ref b14), .val (.ref b17), .val (.ref b18), .val (.ref wq), .val (.ref b34), .val (.ref b35), .val (.ref b37), .val (.ref b49)] [(.ref b49)])) rfl (by rw [hml]; rfl) (Steps.refl _) (argsL := []) (rest := []) (lenOf pd_190 rfl) rfl (by show 2 * 0 + _ ≤ _; exact Nat.le_of_eq rfl) (hb hby at_234) (fun _ _ => ⟨rfl, e57, (by decide : 23 + 0 ≤ _), (by decide : 63 + 0 ≤ _)⟩)
    dsimp only [Pt.U, Pt.locs, Pt.cells, Pt.slots] at X58 l58 y58 z58 st58 hQ58
    subst l58 y58 z58
    obtain ⟨rfl, N58q, e58⟩ := hQ58
    have N58 := Fr.app N57 N58q
    refine OwnFin.step (fun tT kK => st58.trans kK) ?_
    show OwnFin p e below _ (T58.setTop (mkF m 237 #[.val (.int nu), .val (.int se), .val (.long chs), .second, .val (.int le), .val (.ref b2), .val (.ref b5), .val (.ref b8), .val (.ref b11), .val (.ref b14), .val (.ref b17), .val (.ref b18), .val (.ref wq), .val (.ref b34), .val (.ref b35), .val (.ref b37), .val (.ref b49)] [(.ref b35)]))
    refine OwnFin.step (fun tT kK => XS.aload X58.here hx rfl (hb hby at_237) rfl rfl kK) ?_
    show OwnFin p e below _ (T58.setTop (mkF m 239 #[.val (.int nu), .val (.int se), .val (.long chs), .second, .val (.int le), .val (.ref b2), .val (.ref b5), .val (.ref b8), .val (.ref b11), .val (.ref b14), .val (.ref b17), .val (.ref b18), .val (.ref wq), .val (.ref b34), .val (.ref b35), .val (.ref b37), .val (.ref b49)] [(.ref b35), (.ref b35)]))
    refine OwnFin.step (fun tT kK => Jvm.RoadKit.acmp (g := (mkF m 239 #[.val (.int nu), .val (.int se), .val (.long chs), .second, .val (.int le), .val (.ref b2), .val (.ref b5), .val (.ref b8), .val (.ref b11), .val (.ref b14), .val (.ref b17), .val (.ref b18), .val (.ref wq), .val (.ref b34), .val (.ref b35), .val (.ref b37), .val (.ref b49)] [(.ref b35), (.ref b35)])) X58 hx rfl rfl rfl (pc0 := 239) (pc' := 242) (same := true) rfl (hb hby at_239) rfl (decide_eq_true rfl) (by decide) (by decide) kK) ?_
    show OwnFin p e below _ (T58.setTop (mkF m 242 #[.val (.int nu), .val (.int se), .val (.long chs), .second, .val (.int le), .val (.ref b2), .val (.ref b5), .val (.ref b8), .val (.ref b11), .val (.ref b14), .val (.ref b17), .val (.ref b18), .val (.ref wq), .val (.ref b34), .val (.ref b35), .val (.ref b37), .val (.ref b49)] []))
    refine OwnFin.step (fun tT kK => XS.iconst X58.here hx rfl (hb hby at_242) kK) ?_
    show OwnFin p e below _ (T58.setTop (mkF m 243 #[.val (.int nu), .val (.int se), .val (.long chs), .second, .val (.int le), .val (.ref b2), .val (.ref b5), .val (.ref b8), .val (.ref b11), .val (.ref b14), .val (.ref b17), .val (.ref b18), .val (.ref wq), .val (.ref b34), .val (.ref b35), .val (.ref b37), .val (.ref b49)] [(.int (1 : Int32))]))
    refine OwnFin.step (fun tT kK => XS.goto X58.here hx rfl (pc0 := 243) (pc' := 247) rfl (hb hby at_243) (by decide) (by decide) kK) ?_
    show OwnFin p e below _ (T58.setTop (mkF m 247 #[.val (.int nu), .val (.int se), .val (.long chs), .second, .val (.int le), .val (.ref b2), .val (.ref b5), .val (.ref b8), .val (.ref b11), .val (.ref b14), .val (.ref b17), .val (.ref b18), .val (.ref wq), .val (.ref b34), .val (.ref b35), .val (.ref b37), .val (.ref b49)] [(.int (1 : Int32))]))
    obtain ⟨fs59, hr59, hrun59, hended59, hW59, hsame59⟩ := X58.leave (v := (some (.int (1 : Int32)))) (fun h => by rw [Bd.returns] at h; cases h)
    refine ⟨_, _, retN X58 hx (t := .boolean) Bd.returns (by simp) (hb hby at_247) hr59, hrun59, hended59, _, _, rfl, ?_, ⟨_, rfl⟩, hW59, hsame59.mono (by decide) (by decide)⟩
    show Q0 Z nu se chs le cs v0 v1 v2 h0 n0 _ T58.heap _
    rw [e58]
    exact ⟨rfl, N58, ((((((((((((((((Keep.refl h0 []).ext E1).ext E4).ext E7).ext E10).ext E13).ext E16).ext E18).wr W23 (Or.inr (Nat.le_trans (Nat.le_trans (Nat.le_trans (Nat.le_trans (Nat.le_trans (Nat.le_trans (Nat.le_trans (Nat.le_refl _) E1.1) E4.1) E7.1) E10.1) E13.1) E16.1) (Nat.le_of_eq g18.symm)))).wr W28 (Or.inr (Nat.le_trans (Nat.le_trans (Nat.le_trans (Nat.le_trans (Nat.le_trans (Nat.le_trans (Nat.le_trans (Nat.le_refl _) E1.1) E4.1) E7.1) E10.1) E13.1) E16.1) (Nat.le_of_eq g18.symm)))).wr W33 (Or.inr (Nat.le_trans (Nat.le_trans (Nat.le_trans (Nat.le_trans (Nat.le_trans (Nat.le_trans (Nat.le_trans (Nat.le_refl _) E1.1) E4.1) E7.1) E10.1) E13.1) E16.1) (Nat.le_of_eq g18.symm)))).ext E34).ext E35).ext E37).trans K47 (allS (P := fun x => x ∈ [] ∨ h0.size ≤ x) (Or.inr (Nat.le_trans (Nat.le_trans (Nat.le_trans (Nat.le_trans (Nat.le_trans (Nat.le_trans (Nat.le_trans (Nat.le_trans (Nat.le_trans (Nat.le_trans (Nat.le_trans (Nat.le_trans (Nat.le_trans (Nat.le_refl _) E1.1) E4.1) E7.1) E10.1) E13.1) E16.1) E18.1) (Keep.of_wr W23).1) (Keep.of_wr W28).1) (Keep.of_wr W33).1) E34.1) E35.1) (Nat.le_of_eq g37.symm))) all0)).ext E48)⟩
  · skip
    refine OwnFin.step (fun tT kK => XS.ifNo X35.here hx rfl (hb hby at_106) rfl ((if0 _ _).trans (feq (hc36 : ¬ ((((se.toUInt32 >>> ((8 : Int32) &&& 31).toUInt32).toInt32) &&& (1 : Int32)) = (0 : Int32)))).1) kK) ?_
    show OwnFin p e below _ (T35.setTop (mkF m 109 #[.val (.int nu), .val (.int se), .val (.long chs), .second, .val (.int le), .val (.ref b2), .val (.ref b5), .val (.ref b8), .val (.ref b11), .val (.ref b14), .val (.ref b17), .val (.ref b18), .val (.ref wq), .val (.ref b34), .val (.ref b35), .unset, .unset] []))
    refine OwnFin.step (fun tT kK => XS.aload X35.here hx rfl (hb hby at_109) rfl rfl kK) ?_
    show OwnFin p e below _ (T35.setTop (mkF m 111 #[.val (.int nu), .val (.int se), .val (.long chs), .second, .val (.int le), .val (.ref b2), .val (.ref b5), .val (.ref b8), .val (.ref b11), .val (.ref b14), .val (.ref b17), .val (.ref b18), .val (.ref wq), .val (.ref b34), .val (.ref b35), .unset, .unset] [(.ref b34)]))
    refine OwnFin.step (fun tT kK => XS.astore X35.here hx rfl (hb hby at_111) rfl rfl (l' := #[.val (.int nu), .val (.int se), .val (.long chs), .second, .val (.int le), .val (.ref b2), .val (.ref b5), .val (.ref b8), .val (.ref b11), .val (.ref b14), .val (.ref b17), .val (.ref b18), .val (.ref wq), .val (.ref b34), .val (.ref b34), .unset, .unset]) rfl kK) ?_
    show OwnFin p e below _ (T35.setTop (mkF m 113 #[.val (.int nu), .val (.int se), .val (.long chs), .second, .val (.int le), .val (.ref b2), .val (.ref b5), .val (.ref b8), .val (.ref b11), .val (.ref b14), .val (.ref b17), .val (.ref b18), .val (.ref wq), .val (.ref b34), .val (.ref b34), .unset, .unset] []))
    obtain ⟨T60, h60, X60, e60, E60, A60, D60, -, st60⟩ := newO X35 hx hZ hown (hw _ (List.mem_of_getElem? (i := 46) rfl)) (hw _ (List.mem_of_getElem? (i := 47) rfl)) (hw _ (List.mem_of_getElem? (i := 48) rfl)) e35 (g := (mkF m 113 #[.val (.int nu), .val (.int se), .val (.long chs), .second, .val (.int le), .val (.ref b2), .val (.ref b5), .val (.ref b8), .val (.ref b11), .val (.ref b14), .val (.ref b17), .val (.ref b18), .val (.ref wq), .val (.ref b34), .val (.ref b34), .unset, .unset] [])) rfl (hb hby at_113) (by decide) (by decide)
    obtain ⟨b60, g60⟩ : ∃ z, z = h35.size := ⟨_, rfl⟩
    rw [← g60] at A60 D60 st60
    refine OwnFin.step st60 ?_
    have Fz61 : Fld Z h60 b60 "com/example/myna/myna/delivery/Attempt" "deliveryId" "Ljava/lang/String;" .null := D60 (Or.inr (hw _ (List.mem_of_getElem? (i := 59) rfl))) (ty := (.object "java/lang/String")) (by decide)
    have Fz62 : Fld Z h60 b60 "com/example/myna/myna/delivery/Attempt" "tenant" "Ljava/lang/String;" .null := D60 (Or.inr (hw _ (List.mem_of_getElem? (i := 61) rfl))) (ty := (.object "java/lang/String")) (by decide)
    have Fz63 : Fld Z h60 b60 "com/example/myna/myna/delivery/Attempt" "eventId" "Ljava/lang/String;" .null := D60 (Or.inr (hw _ (List.mem_of_getElem? (i := 63) rfl))) (ty := (.object "java/lang/String")) (by decide)
    have Fz64 : Fld Z h60 b60 "com/example/myna/myna/delivery/Attempt" "endpointId" "Ljava/lang/String;" .null := D60 (Or.inr (hw _ (List.mem_of_getElem? (i := 65) rfl))) (ty := (.object "java/lang/String")) (by decide)
    have Fz65 : Fld Z h60 b60 "com/example/myna/myna/delivery/Attempt" "number" "I" (.int (0 : Int32)) := D60 (Or.inr (hw _ (List.mem_of_getElem? (i := 67) rfl))) (ty := .int) (by decide)
    have Fz66 : Fld Z h60 b60 "com/example/myna/myna/delivery/Attempt" "status" "Lcom/example/myna/myna/delivery/Status;" .null := D60 (Or.inr (hw _ (List.mem_of_getElem? (i := 69) rfl))) (ty := (.object "com/example/myna/myna/delivery/Status")) (by decide)
    have Fz67 : Fld Z h60 b60 "com/example/myna/myna/delivery/Attempt" "url" "Ljava/lang/String;" .null := D60 (Or.inr (hw _ (List.mem_of_getElem? (i := 71) rfl))) (ty := (.object "java/lang/String")) (by decide)
    have Fz68 : Fld Z h60 b60 "com/example/myna/myna/delivery/Attempt" "secret" "Ljava/lang/String;" .null := D60 (Or.inr (hw _ (List.mem_of_getElem? (i := 73) rfl))) (ty := (.object "java/lang/String")) (by decide)
    have Fz69 : Fld Z h60 b60 "com/example/myna/myna/delivery/Attempt" "body" "[B" .null := D60 (Or.inr (hw _ (List.mem_of_getElem? (i := 75) rfl))) (ty := (.array .byte)) (by decide)
    show OwnFin p e below _ (T60.setTop (mkF m 116 #[.val (.int nu), .val (.int se), .val (.long chs), .second, .val (.int le), .val (.ref b2), .val (.ref b5), .val (.ref b8), .val (.ref b11), .val (.ref b14), .val (.ref b17), .val (.ref b18), .val (.ref wq), .val (.ref b34), .val (.ref b34), .unset, .unset] [(.ref b60)]))
    refine OwnFin.step (fun tT kK => XS.dup X60.here hx rfl (hb hby at_116) rfl rfl kK) ?_
    show OwnFin p e below _ (T60.setTop (mkF m 117 #[.val (.int nu), .val (.int se), .val (.long chs), .second, .val (.int le), .val (.ref b2), .val (.ref b5), .val (.ref b8), .val (.ref b11), .val (.ref b14), .val (.ref b17), .val (.ref b18), .val (.ref wq), .val (.ref b34), .val (.ref b34), .unset, .unset] [(.ref b60), (.ref b60)]))
    refine OwnFin.step (fun tT kK => XS.aload X60.here hx rfl (hb hby at_117) rfl rfl kK) ?_
    show OwnFin p e below _ (T60.setTop (mkF m 119 #[.val (.int nu), .val (.int se), .val (.long chs), .second, .val (.int le), .val (.ref b2), .val (.ref b5), .val (.ref b8), .val (.ref b11), .val (.ref b14), .val (.ref b17), .val (.ref b18), .val (.ref wq), .val (.ref b34), .val (.ref b34), .unset, .unset] [(.ref b2), (.ref b60), (.ref b60)]))
    refine OwnFin.step (fun tT kK => XS.aload X60.here hx rfl (hb hby at_119) rfl rfl kK) ?_
    show OwnFin p e below _ (T60.setTop (mkF m 121 #[.val (.int nu), .val (.int se), .val (.long chs), .second, .val (.int le), .val (.ref b2), .val (.ref b5), .val (.ref b8), .val (.ref b11), .val (.ref b14), .val (.ref b17), .val (.ref b18), .val (.ref wq), .val (.ref b34), .val (.ref b34), .unset, .unset] [(.ref b5), (.ref b2), (.ref b60), (.ref b60)]))
    refine OwnFin.step (fun tT kK => XS.aload X60.here hx rfl (hb hby at_121) rfl rfl kK) ?_
    show OwnFin p e below _ (T60.setTop (mkF m 123 #[.val (.int nu), .val (.int se), .val (.long chs), .second, .val (.int le), .val (.ref b2), .val (.ref b5), .val (.ref b8), .val (.ref b11), .val (.ref b14), .val (.ref b17), .val (.ref b18), .val (.ref wq), .val (.ref b34), .val (.ref b34), .unset, .unset] [(.ref b8), (.ref b5), (.ref b2), (.ref b60), (.ref b60)]))
    refine OwnFin.step (fun tT kK => XS.aload X60.here hx rfl (hb hby at_123) rfl rfl kK) ?_
    show OwnFin p e below _ (T60.setTop (mkF m 125 #[.val (.int nu), .val (.int se), .val (.long chs), .second, .val (.int le), .val (.ref b2), .val (.ref b5), .val (.ref b8), .val (.ref b11), .val (.ref b14), .val (.ref b17), .val (.ref b18), .val (.ref wq), .val (.ref b34), .val (.ref b34), .unset, .unset] [(.ref b11), (.ref b8), (.ref b5), (.ref b2), (.ref b60), (.ref b60)]))
    refine OwnFin.step (fun tT kK => XS.iloadN X60.here hx rfl (hb hby at_125) rfl kK) ?_
    show OwnFin p e below _ (T60.setTop (mkF m 126 #[.val (.int nu), .val (.int se), .val (.long chs), .second, .val (.int le), .val (.ref b2), .val (.ref b5), .val (.ref b8), .val (.ref b11), .val (.ref b14), .val (.ref b17), .val (.ref b18), .val (.ref wq), .val (.ref b34), .val (.ref b34), .unset, .unset] [(.int nu), (.ref b11), (.ref b8), (.ref b5), (.ref b2), (.ref b60), (.ref b60)]))
    refine OwnFin.step (fun tT kK => XS.aload X60.here hx rfl (hb hby at_126) rfl rfl kK) ?_
    show OwnFin p e below _ (T60.setTop (mkF m 128 #[.val (.int nu), .val (.int se), .val (.long chs), .second, .val (.int le), .val (.ref b2), .val (.ref b5), .val (.ref b8), .val (.ref b11), .val (.ref b14), .val (.ref b17), .val (.ref b18), .val (.ref wq), .val (.ref b34), .val (.ref b34), .unset, .unset] [(.ref wq), (.int nu), (.ref b11), (.ref b8), (.ref b5), (.ref b2), (.ref b60), (.ref b60)]))
    refine OwnFin.step (fun tT kK => XS.aload X60.here hx rfl (hb hby at_128) rfl rfl kK) ?_
    show OwnFin p e below _ (T60.setTop (mkF m 130 #[.val (.int nu), .val (.int se), .val (.long chs), .second, .val (.int le), .val (.ref b2), .val (.ref b5), .val (.ref b8), .val (.ref b11), .val (.ref b14), .val (.ref b17), .val (.ref b18), .val (.ref wq), .val (.ref b34), .val (.ref b34), .unset, .unset] [(.ref b14), (.ref wq), (.int nu), (.ref b11), (.ref b8), (.ref b5), (.ref b2), (.ref b60), (.ref b60)]))
    refine OwnFin.step (fun tT kK => XS.aload X60.here hx rfl (hb hby at_130) rfl rfl kK) ?_
    show OwnFin p e below _ (T60.setTop (mkF m 132 #[.val (.int nu), .val (.int se), .val (.long chs), .second, .val (.int le), .val (.ref b2), .val (.ref b5), .val (.ref b8), .val (.ref b11), .val (.ref b14), .val (.ref b17), .val (.ref b18), .val (.ref wq), .val (.ref b34), .val (.ref b34), .unset, .unset] [(.ref b17), (.ref b14), (.ref wq), (.int nu), (.ref b11), (.ref b8), (.ref b5), (.ref b2), (.ref b60), (.ref b60)]))
    refine OwnFin.step (fun tT kK => XS.aload X60.here hx rfl (hb hby at_132) rfl rfl kK) ?_
    show OwnFin p e below _ (T60.setTop (mkF m 134 #[.val (.int nu), .val (.int se), .val (.long chs), .second, .val (.int le), .val (.ref b2), .val (.ref b5), .val (.ref b8), .val (.ref b11), .val (.ref b14), .val (.ref b17), .val (.ref b18), .val (.ref wq), .val (.ref b34), .val (.ref b34), .unset, .unset] [(.ref b34), (.ref b17), (.ref b14), (.ref wq), (.int nu), (.ref b11), (.ref b8), (.ref b5), (.ref b2), (.ref b60), (.ref b60)]))
    obtain ⟨_, _, ⟨T70, L70, k70, n70⟩, -, X70, ⟨Lc70, hQ70, l70, y70, z70⟩, st70⟩ := X60.specialBack hx (y := (⟨"com/example/myna/myna/delivery/Attempt", "<init>", "(Ljava/lang/String;Ljava/lang/String;Ljava/lang/String;Ljava/lang/String;ILcom/example/myna/myna/delivery/Status;Ljava/lang/String;Ljava/lang/String;[B)V"⟩ : MethodName)) rfl hown (mvT hZ (hw _ (List.mem_of_getElem? (i := 49) rfl))) (mvT hZ (hw _ (List.mem_of_getElem? (i := 50) rfl))) (mvT hZ (hw _ (List.mem_of_getElem? (i := 51) rfl))) (by decide) (backOf (W := 1) (rm4 l Z a0 hw [] b60 b2 b5 b8 b11 nu wq b14 b17 b34 h60 n0 (Nat.le_trans (Nat.le_trans (Nat.le_trans (Nat.le_trans (Nat.le_trans (Nat.le_trans (Nat.le_trans (Nat.le_trans (Nat.le_trans (Nat.le_trans (Nat.le_trans (Nat.le_trans (Nat.le_trans Z0 E1.1) E4.1) E7.1) E10.1) E13.1) E16.1) E18.1) (Keep.of_wr W23).1) (Keep.of_wr W28).1) (Keep.of_wr W33).1) E34.1) E35.1) E60.1) A60 Fz61 Fz62 Fz63 Fz64 Fz65 Fz66 Fz67 Fz68 Fz69 (Nat.le_trans (Nat.le_trans (Nat.le_trans (Nat.le_trans (Nat.le_trans (Nat.le_trans (Nat.le_trans (Nat.le_trans (Nat.le_trans (Nat.le_trans (Nat.le_trans (Nat.le_trans (Nat.le_trans Z0 E1.1) E4.1) E7.1) E10.1) E13.1) E16.1) E18.1) (Keep.of_wr W23).1) (Keep.of_wr W28).1) (Keep.of_wr W33).1) E34.1) E35.1) (Nat.le_of_eq g60.symm))) hZ (hw _ (List.mem_of_getElem? (i := 51) rfl)) (hw _ (List.mem_of_getElem? (i := 48) rfl)) (by decide) (by decide)) (g := (mkF m 134 #[.val (.int nu), .val (.int se), .val (.long chs), .second, .val (.int le), .val (.ref b2), .val (.ref b5), .val (.ref b8), .val (.ref b11), .val (.ref b14), .val (.ref b17), .val (.ref b18), .val (.ref wq), .val (.ref b34), .val (.ref b34), .unset, .unset] [(.ref b34), (.ref b17), (.ref b14), (.ref wq), (.int nu), (.ref b11), (.ref b8), (.ref b5), (.ref b2), (.ref b60), (.ref b60)])) rfl (by rw [hml]; rfl) (Steps.refl _) (a := b60) (argsL := [(.ref b2), (.ref b5), (.ref b8), (.ref b11), (.int nu), (.ref wq), (.ref b14), (.ref b17), (.ref b34)]) (rest := [(.ref b60)]) (lenOf pd_156 rfl) rfl (by show 2 * 0 + _ ≤ _; exact Nat.le_of_eq rfl) (hb hby at_134) (fun _ _ => ⟨rfl, e60, (by decide : 22 + 0 ≤ _), (by decide : 54 + 0 ≤ _)⟩)
    dsimp only [Pt.U, Pt.locs, Pt.cells, Pt.slots] at X70 l70 y70 z70 st70 hQ70
    subst l70 y70 z70
    obtain ⟨rfl, N70q, K70, P70_0, P70_1, P70_2, P70_3, P70_4, P70_5, P70_6, P70_7, P70_8, P70_9⟩ := hQ70
    have N70 := Fr.app N33 N70q
    refine OwnFin.step (fun tT kK => st70.trans kK) ?_
    show OwnFin p e below _ (T70.setTop (mkF m 137 #[.val (.int nu), .val (.int se), .val (.long chs), .second, .val (.int le), .val (.ref b2), .val (.ref b5), .val (.ref b8), .val (.ref b11), .val (.ref b14), .val (.ref b17), .val (.ref b18), .val (.ref wq), .val (.ref b34), .val (.ref b34), .unset, .unset] [(.ref b60)]))
    refine OwnFin.step (fun tT kK => XS.astore X70.here hx rfl (hb hby at_137) rfl rfl (l' := #[.val (.int nu), .val (.int se), .val (.long chs), .second, .val (.int le), .val (.ref b2), .val (.ref b5), .val (.ref b8), .val (.ref b11), .val (.ref b14), .val (.ref b17), .val (.ref b18), .val (.ref wq), .val (.ref b34), .val (.ref b34), .val (.ref b60), .unset]) rfl kK) ?_
    show OwnFin p e below _ (T70.setTop (mkF m 139 #[.val (.int nu), .val (.int se), .val (.long chs), .second, .val (.int le), .val (.ref b2), .val (.ref b5), .val (.ref b8), .val (.ref b11), .val (.ref b14), .val (.ref b17), .val (.ref b18), .val (.ref wq), .val (.ref b34), .val (.ref b34), .val (.ref b60), .unset] []))
    refine OwnFin.step (fun tT kK => XS.aload X70.here hx rfl (hb hby at_139) rfl rfl kK) ?_
    show OwnFin p e below _ (T70.setTop (mkF m 141 #[.val (.int nu), .val (.int se), .val (.long chs), .second, .val (.int le), .val (.ref b2), .val (.ref b5), .val (.ref b8), .val (.ref b11), .val (.ref b14), .val (.ref b17), .val (.ref b18), .val (.ref wq), .val (.ref b34), .val (.ref b34), .val (.ref b60), .unset] [(.ref b60)]))
    refine OwnFin.step (fun tT kK => XS.aload X70.here hx rfl (hb hby at_141) rfl rfl kK) ?_
    show OwnFin p e below _ (T70.setTop (mkF m 143 #[.val (.int nu), .val (.int se), .val (.long chs), .second, .val (.int le), .val (.ref b2), .val (.ref b5), .val (.ref b8), .val (.ref b11), .val (.ref b14), .val (.ref b17), .val (.ref b18), .val (.ref wq), .val (.ref b34), .val (.ref b34), .val (.ref b60), .unset] [(.ref b34), (.ref b60)]))
    obtain ⟨cq71, kq71, q71a, q71b, q71c⟩ := isOf hZ rfl P70_0
    obtain ⟨_, _, ⟨T71, L71, k71, n71⟩, -, X71, ⟨Lc71, hQ71, l71, y71, z71⟩, st71⟩ := X70.virtualBack hx (y := (⟨"com/example/myna/myna/delivery/Attempt", "withBody", "([B)Lcom/example/myna/myna/delivery/Attempt;"⟩ : MethodName)) (z := (⟨"com/example/myna/myna/delivery/Attempt", "withBody", "([B)Lcom/example/myna/myna/delivery/Attempt;"⟩ : MethodName)) hown (mvT hZ (hw _ (List.mem_of_getElem? (i := 76) rfl))) (mvT hZ (hw _ (List.mem_of_getElem? (i := 77) rfl))) (notFace_of_selects (args := #[]) (mvT hZ (hw _ (List.mem_of_getElem? (i := 79) rfl)))) (mvT hZ (hw _ (List.mem_of_getElem? (i := 79) rfl))) (mvT hZ (hw _ (List.mem_of_getElem? (i := 78) rfl))) (by decide) (backOf (W := 0) (rm5 l Z a0 hw [] b60 b34 b2 b5 b8 b11 nu wq b14 b17 T70.heap n0 (Nat.le_trans (Nat.le_trans (Nat.le_trans (Nat.le_trans (Nat.le_trans (Nat.le_trans (Nat.le_trans (Nat.le_trans (Nat.le_trans (Nat.le_trans (Nat.le_trans (Nat.le_trans (Nat.le_trans (Nat.le_trans Z0 E1.1) E4.1) E7.1) E10.1) E13.1) E16.1) E18.1) (Keep.of_wr W23).1) (Keep.of_wr W28).1) (Keep.of_wr W33).1) E34.1) E35.1) E60.1) K70.1) P70_1 P70_2 P70_3 P70_4 P70_5 P70_6 P70_7 P70_8) hZ (hw _ (List.mem_of_getElem? (i := 80) rfl)) (hw _ (List.mem_of_getElem? (i := 48) rfl)) (by decide) (by decide)) q71a q71c (g := (mkF m 143 #[.val (.int nu), .val (.int se), .val (.long chs), .second, .val (.int le), .val (.ref b2), .val (.ref b5), .val (.ref b8), .val (.ref b11), .val (.ref b14), .val (.ref b17), .val (.ref b18), .val (.ref wq), .val (.ref b34), .val (.ref b34), .val (.ref b60), .unset] [(.ref b34), (.ref b60)])) rfl (by rw [hml]; rfl) (Steps.refl _) (argsL := [(.ref b34)]) (rest := []) (lenOf pd_186 rfl) rfl (by show 2 * 0 + _ ≤ _; exact Nat.le_of_eq rfl) (hb hby at_143) (fun _ _ => ⟨rfl, rfl, (by decide : 22 + 1 ≤ _), (by decide : 54 + 9 ≤ _)⟩)
    dsimp only [Pt.U, Pt.locs, Pt.cells, Pt.slots] at X71 l71 y71 z71 st71 hQ71
    subst l71 y71 z71
    obtain ⟨b72, ⟨rfl, N71q, K71, B71_0, P71_0, P71_1, P71_2, P71_3, P71_4, P71_5, P71_6, P71_7, P71_8, P71_9⟩⟩ := hQ71
    have N71 := Fr.app N70 N71q
    refine OwnFin.step (fun tT kK => st71.trans kK) ?_
    have E71 : Ext T70.heap T71.heap := ⟨K71.1, fun x c q => K71.2.1 x c q nin0⟩
    show OwnFin p e below _ (T71.setTop (mkF m 146 #[.val (.int nu), .val (.int se), .val (.long chs), .second, .val (.int le), .val (.ref b2), .val (.ref b5), .val (.ref b8), .val (.ref b11), .val (.ref b14), .val (.ref b17), .val (.ref b18), .val (.ref wq), .val (.ref b34), .val (.ref b34), .val (.ref b60), .unset] [(.ref b72)]))
    refine OwnFin.step (fun tT kK => XS.astore X71.here hx rfl (hb hby at_146) rfl rfl (l' := #[.val (.int nu), .val (.int se), .val (.long chs), .second, .val (.int le), .val (.ref b2), .val (.ref b5), .val (.ref b8), .val (.ref b11), .val (.ref b14), .val (.ref b17), .val (.ref b18), .val (.ref wq), .val (.ref b34), .val (.ref b34), .val (.ref b60), .val (.ref b72)]) rfl kK) ?_
    show OwnFin p e below _ (T71.setTop (mkF m 148 #[.val (.int nu), .val (.int se), .val (.long chs), .second, .val (.int le), .val (.ref b2), .val (.ref b5), .val (.ref b8), .val (.ref b11), .val (.ref b14), .val (.ref b17), .val (.ref b18), .val (.ref wq), .val (.ref b34), .val (.ref b34), .val (.ref b60), .val (.ref b72)] []))
    refine OwnFin.step (fun tT kK => XS.aload X71.here hx rfl (hb hby at_148) rfl rfl kK) ?_
    show OwnFin p e below _ (T71.setTop (mkF m 150 #[.val (.int nu), .val (.int se), .val (.long chs), .second, .val (.int le), .val (.ref b2), .val (.ref b5), .val (.ref b8), .val (.ref b11), .val (.ref b14), .val (.ref b17), .val (.ref b18), .val (.ref wq), .val (.ref b34), .val (.ref b34), .val (.ref b60), .val (.ref b72)] [(.ref b72)]))
    refine OwnFin.step (fun tT kK => XS.ifnullNo X71.here hx rfl (hb hby at_150) rfl kK) ?_
    show OwnFin p e below _ (T71.setTop (mkF m 153 #[.val (.int nu), .val (.int se), .val (.long chs), .second, .val (.int le), .val (.ref b2), .val (.ref b5), .val (.ref b8), .val (.ref b11), .val (.ref b14), .val (.ref b17), .val (.ref b18), .val (.ref wq), .val (.ref b34), .val (.ref b34), .val (.ref b60), .val (.ref b72)] []))
    refine OwnFin.step (fun tT kK => XS.aload X71.here hx rfl (hb hby at_153) rfl rfl kK) ?_
    show OwnFin p e below _ (T71.setTop (mkF m 155 #[.val (.int nu), .val (.int se), .val (.long chs), .second, .val (.int le), .val (.ref b2), .val (.ref b5), .val (.ref b8), .val (.ref b11), .val (.ref b14), .val (.ref b17), .val (.ref b18), .val (.ref wq), .val (.ref b34), .val (.ref b34), .val (.ref b60), .val (.ref b72)] [(.ref b72)]))
    obtain ⟨cq73, kq73, q73a, q73b, q73c⟩ := isOf hZ rfl P71_0
    obtain ⟨_, _, ⟨T73, L73, k73, n73⟩, -, X73, ⟨Lc73, hQ73, l73, y73, z73⟩, st73⟩ := X71.virtualBack hx (y := (⟨"com/example/myna/myna/delivery/Attempt", "deliveryId", "()Ljava/lang/String;"⟩ : MethodName)) (z := (⟨"com/example/myna/myna/delivery/Attempt", "deliveryId", "()Ljava/lang/String;"⟩ : MethodName)) hown (mvT hZ (hw _ (List.mem_of_getElem? (i := 83) rfl))) (mvT hZ (hw _ (List.mem_of_getElem? (i := 84) rfl))) (notFace_of_selects (args := #[]) (mvT hZ (hw _ (List.mem_of_getElem? (i := 86) rfl)))) (mvT hZ (hw _ (List.mem_of_getElem? (i := 86) rfl))) (mvT hZ (hw _ (List.mem_of_getElem? (i := 85) rfl))) (by decide) (backOf (W := 0) (rm60 l Z a0 hw [] b72 b2 T71.heap n0 (Nat.le_trans (Nat.le_trans (Nat.le_trans (Nat.le_trans (Nat.le_trans (Nat.le_trans (Nat.le_trans (Nat.le_trans (Nat.le_trans (Nat.le_trans (Nat.le_trans (Nat.le_trans (Nat.le_trans (Nat.le_trans (Nat.le_trans Z0 E1.1) E4.1) E7.1) E10.1) E13.1) E16.1) E18.1) (Keep.of_wr W23).1) (Keep.of_wr W28).1) (Keep.of_wr W33).1) E34.1) E35.1) E60.1) K70.1) E71.1) P71_1) hZ (hw _ (List.mem_of_getElem? (i := 87) rfl)) (hw _ (List.mem_of_getElem? (i := 48) rfl)) (by decide) (by decide)) q73a q73c (g := (mkF m 155 #[.val (.int nu), .val (.int se), .val (.long chs), .second, .val (.int le), .val (.ref b2), .val (.ref b5), .val (.ref b8), .val (.ref b11), .val (.ref b14), .val (.ref b17), .val (.ref b18), .val (.ref wq), .val (.ref b34), .val (.ref b34), .val (.ref b60), .val (.ref b72)] [(.ref b72)])) rfl (by rw [hml]; rfl) (Steps.refl _) (argsL := []) (rest := []) (lenOf pd_187 rfl) rfl (by show 2 * 0 + _ ≤ _; exact Nat.le_of_eq rfl) (hb hby at_155) (fun _ _ => ⟨rfl, rfl, (by decide : 23 + 0 ≤ _), (by decide : 63 + 0 ≤ _)⟩)
    dsimp only [Pt.U, Pt.locs, Pt.cells, Pt.slots] at X73 l73 y73 z73 st73 hQ73
    subst l73 y73 z73
    obtain ⟨rfl, N73q, e73⟩ := hQ73
    have N73 := Fr.app N71 N73q
    refine OwnFin.step (fun tT kK => st73.trans kK) ?_
    show OwnFin p e below _ (T73.setTop (mkF m 158 #[.val (.int nu), .val (.int se), .val (.long chs), .second, .val (.int le), .val (.ref b2), .val (.ref b5), .val (.ref b8), .val (.ref b11), .val (.ref b14), .val (.ref b17), .val (.ref b18), .val (.ref wq), .val (.ref b34), .val (.ref b34), .val (.ref b60), .val (.ref b72)] [(.ref b2)]))
    refine OwnFin.step (fun tT kK => XS.aload X73.here hx rfl (hb hby at_158) rfl rfl kK) ?_
    show OwnFin p e below _ (T73.setTop (mkF m 160 #[.val (.int nu), .val (.int se), .val (.long chs), .second, .val (.int le), .val (.ref b2), .val (.ref b5), .val (.ref b8), .val (.ref b11), .val (.ref b14), .val (.ref b17), .val (.ref b18), .val (.ref wq), .val (.ref b34), .val (.ref b34), .val (.ref b60), .val (.ref b72)] [(.ref b2), (.ref b2)]))
    refine OwnFin.step (fun tT kK => Jvm.RoadKit.acmp (g := (mkF m 160 #[.val (.int nu), .val (.int se), .val (.long chs), .second, .val (.int le), .val (.ref b2), .val (.ref b5), .val (.ref b8), .val (.ref b11), .val (.ref b14), .val (.ref b17), .val (.ref b18), .val (.ref wq), .val (.ref b34), .val (.ref b34), .val (.ref b60), .val (.ref b72)] [(.ref b2), (.ref b2)])) X73 hx rfl rfl rfl (pc0 := 160) (pc' := 163) (same := true) rfl (hb hby at_160) rfl (decide_eq_true rfl) (by decide) (by decide) kK) ?_
    show OwnFin p e below _ (T73.setTop (mkF m 163 #[.val (.int nu), .val (.int se), .val (.long chs), .second, .val (.int le), .val (.ref b2), .val (.ref b5), .val (.ref b8), .val (.ref b11), .val (.ref b14), .val (.ref b17), .val (.ref b18), .val (.ref wq), .val (.ref b34), .val (.ref b34), .val (.ref b60), .val (.ref b72)] []))
    refine OwnFin.step (fun tT kK => XS.aload X73.here hx rfl (hb hby at_163) rfl rfl kK) ?_
    show OwnFin p e below _ (T73.setTop (mkF m 165 #[.val (.int nu), .val (.int se), .val (.long chs), .second, .val (.int le), .val (.ref b2), .val (.ref b5), .val (.ref b8), .val (.ref b11), .val (.ref b14), .val (.ref b17), .val (.ref b18), .val (.ref wq), .val (.ref b34), .val (.ref b34), .val (.ref b60), .val (.ref b72)] [(.ref b72)]))
    obtain ⟨cq74, kq74, q74a, q74b, q74c⟩ := isOf hZ e73 P71_0
    obtain ⟨_, _, ⟨T74, L74, k74, n74⟩, -, X74, ⟨Lc74, hQ74, l74, y74, z74⟩, st74⟩ := X73.virtualBack hx (y := (⟨"com/example/myna/myna/delivery/Attempt", "tenant", "()Ljava/lang/String;"⟩ : MethodName)) (z := (⟨"com/example/myna/myna/delivery/Attempt", "tenant", "()Ljava/lang/String;"⟩ : MethodName)) hown (mvT hZ (hw _ (List.mem_of_getElem? (i := 88) rfl))) (mvT hZ (hw _ (List.mem_of_getElem? (i := 89) rfl))) (notFace_of_selects (args := #[]) (mvT hZ (hw _ (List.mem_of_getElem? (i := 91) rfl)))) (mvT hZ (hw _ (List.mem_of_getElem? (i := 91) rfl))) (mvT hZ (hw _ (List.mem_of_getElem? (i := 90) rfl))) (by decide) (backOf (W := 0) (rm61 l Z a0 hw [] b72 b5 T71.heap n0 (Nat.le_trans (Nat.le_trans (Nat.le_trans (Nat.le_trans (Nat.le_trans (Nat.le_trans (Nat.le_trans (Nat.le_trans (Nat.le_trans (Nat.le_trans (Nat.le_trans (Nat.le_trans (Nat.le_trans (Nat.le_trans (Nat.le_trans Z0 E1.1) E4.1) E7.1) E10.1) E13.1) E16.1) E18.1) (Keep.of_wr W23).1) (Keep.of_wr W28).1) (Keep.of_wr W33).1) E34.1) E35.1) E60.1) K70.1) E71.1) P71_2) hZ (hw _ (List.mem_of_getElem? (i := 92) rfl)) (hw _ (List.mem_of_getElem? (i := 48) rfl)) (by decide) (by decide)) q74a q74c (g := (mkF m 165 #[.val (.int nu), .val (.int se), .val (.long chs), .second, .val (.int le), .val (.ref b2), .val (.ref b5), .val (.ref b8), .val (.ref b11), .val (.ref b14), .val (.ref b17), .val (.ref b18), .val (.ref wq), .val (.ref b34), .val (.ref b34), .val (.ref b60), .val (.ref b72)] [(.ref b72)])) rfl (by rw [hml]; rfl) (Steps.refl _) (argsL := []) (rest := []) (lenOf pd_187 rfl) rfl (by show 2 * 0 + _ ≤ _; exact Nat.le_of_eq rfl) (hb hby at_165) (fun _ _ => ⟨rfl, e73, (by decide : 23 + 0 ≤ _), (by decide : 63 + 0 ≤ _)⟩)
    dsimp only [Pt.U, Pt.locs, Pt.cells, Pt.slots] at X74 l74 y74 z74 st74 hQ74
    subst l74 y74 z74
    obtain ⟨rfl, N74q, e74⟩ := hQ74
    have N74 := Fr.app N73 N74q
    refine OwnFin.step (fun tT kK => st74.trans kK) ?_
    show OwnFin p e below _ (T74.setTop (mkF m 168 #[.val (.int nu), .val (.int se), .val (.long chs), .second, .val (.int le), .val (.ref b2), .val (.ref b5), .val (.ref b8), .val (.ref b11), .val (.ref b14), .val (.ref b17), .val (.ref b18), .val (.ref wq), .val (.ref b34), .val (.ref b34), .val (.ref b60), .val (.ref b72)] [(.ref b5)]))
    refine OwnFin.step (fun tT kK => XS.aload X74.here hx rfl (hb hby at_168) rfl rfl kK) ?_
    show OwnFin p e below _ (T74.setTop (mkF m 170 #[.val (.int nu), .val (.int se), .val (.long chs), .second, .val (.int le), .val (.ref b2), .val (.ref b5), .val (.ref b8), .val (.ref b11), .val (.ref b14), .val (.ref b17), .val (.ref b18), .val (.ref wq), .val (.ref b34), .val (.ref b34), .val (.ref b60), .val (.ref b72)] [(.ref b5), (.ref b5)]))
    refine OwnFin.step (fun tT kK => Jvm.RoadKit.acmp (g := (mkF m 170 #[.val (.int nu), .val (.int se), .val (.long chs), .second, .val (.int le), .val (.ref b2), .val (.ref b5), .val (.ref b8), .val (.ref b11), .val (.ref b14), .val (.ref b17), .val (.ref b18), .val (.ref wq), .val (.ref b34), .val (.ref b34), .val (.ref b60), .val (.ref b72)] [(.ref b5), (.ref b5)])) X74 hx rfl rfl rfl (pc0 := 170) (pc' := 173) (same := true) rfl (hb hby at_170) rfl (decide_eq_true rfl) (by decide) (by decide) kK) ?_
    show OwnFin p e below _ (T74.setTop (mkF m 173 #[.val (.int nu), .val (.int se), .val (.long chs), .second, .val (.int le), .val (.ref b2), .val (.ref b5), .val (.ref b8), .val (.ref b11), .val (.ref b14), .val (.ref b17), .val (.ref b18), .val (.ref wq), .val (.ref b34), .val (.ref b34), .val (.ref b60), .val (.ref b72)] []))
    refine OwnFin.step (fun tT kK => XS.aload X74.here hx rfl (hb hby at_173) rfl rfl kK) ?_
    show OwnFin p e below _ (T74.setTop (mkF m 175 #[.val (.int nu), .val (.int se), .val (.long chs), .second, .val (.int le), .val (.ref b2), .val (.ref b5), .val (.ref b8), .val (.ref b11), .val (.ref b14), .val (.ref b17), .val (.ref b18), .val (.ref wq), .val (.ref b34), .val (.ref b34), .val (.ref b60), .val (.ref b72)] [(.ref b72)]))
    obtain ⟨cq75, kq75, q75a, q75b, q75c⟩ := isOf hZ e74 P71_0
    obtain ⟨_, _, ⟨T75, L75, k75, n75⟩, -, X75, ⟨Lc75, hQ75, l75, y75, z75⟩, st75⟩ := X74.virtualBack hx (y := (⟨"com/example/myna/myna/delivery/Attempt", "eventId", "()Ljava/lang/String;"⟩ : MethodName)) (z := (⟨"com/example/myna/myna/delivery/Attempt", "eventId", "()Ljava/lang/String;"⟩ : MethodName)) hown (mvT hZ (hw _ (List.mem_of_getElem? (i := 93) rfl))) (mvT hZ (hw _ (List.mem_of_getElem? (i := 94) rfl))) (notFace_of_selects (args := #[]) (mvT hZ (hw _ (List.mem_of_getElem? (i := 96) rfl)))) (mvT hZ (hw _ (List.mem_of_getElem? (i := 96) rfl))) (mvT hZ (hw _ (List.mem_of_getElem? (i := 95) rfl))) (by decide) (backOf (W := 0) (rm62 l Z a0 hw [] b72 b8 T71.heap n0 (Nat.le_trans (Nat.le_trans (Nat.le_trans (Nat.le_trans (Nat.le_trans (Nat.le_trans (Nat.le_trans (Nat.le_trans (Nat.le_trans (Nat.le_trans (Nat.le_trans (Nat.le_trans (Nat.le_trans (Nat.le_trans (Nat.le_trans Z0 E1.1) E4.1) E7.1) E10.1) E13.1) E16.1) E18.1) (Keep.of_wr W23).1) (Keep.of_wr W28).1) (Keep.of_wr W33).1) E34.1) E35.1) E60.1) K70.1) E71.1) P71_3) hZ (hw _ (List.mem_of_getElem? (i := 97) rfl)) (hw _ (List.mem_of_getElem? (i := 48) rfl)) (by decide) (by decide)) q75a q75c (g := (mkF m 175 #[.val (.int nu), .val (.int se), .val (.long chs), .second, .val (.int le), .val (.ref b2), .val (.ref b5), .val (.ref b8), .val (.ref b11), .val (.ref b14), .val (.ref b17), .val (.ref b18), .val (.ref wq), .val (.ref b34), .val (.ref b34), .val (.ref b60), .val (.ref b72)] [(.ref b72)])) rfl (by rw [hml]; rfl) (Steps.refl _) (argsL := []) (rest := []) (lenOf pd_187 rfl) rfl (by show 2 * 0 + _ ≤ _; exact Nat.le_of_eq rfl) (hb hby at_175) (fun _ _ => ⟨rfl, e74, (by decide : 23 + 0 ≤ _), (by decide : 63 + 0 ≤ _)⟩)
    dsimp only [Pt.U, Pt.locs, Pt.cells, Pt.slots] at X75 l75 y75 z75 st75 hQ75
    subst l75 y75 z75
    obtain ⟨rfl, N75q, e75⟩ := hQ75
    have N75 := Fr.app N74 N75q
    refine OwnFin.step (fun tT kK => st75.trans kK) ?_
    show OwnFin p e below _ (T75.setTop (mkF m 178 #[.val (.int nu), .val (.int se), .val (.long chs), .second, .val (.int le), .val (.ref b2), .val (.ref b5), .val (.ref b8), .val (.ref b11), .val (.ref b14), .val (.ref b17), .val (.ref b18), .val (.ref wq), .val (.ref b34), .val (.ref b34), .val (.ref b60), .val (.ref b72)] [(.ref b8)]))
    refine OwnFin.step (fun tT kK => XS.aload X75.here hx rfl (hb hby at_178) rfl rfl kK) ?_
    show OwnFin p e below _ (T75.setTop (mkF m 180 #[.val (.int nu), .val (.int se), .val (.long chs), .second, .val (.int le), .val (.ref b2), .val (.ref b5), .val (.ref b8), .val (.ref b11), .val (.ref b14), .val (.ref b17), .val (.ref b18), .val (.ref wq), .val (.ref b34), .val (.ref b34), .val (.ref b60), .val (.ref b72)] [(.ref b8), (.ref b8)]))
    refine OwnFin.step (fun tT kK => Jvm.RoadKit.acmp (g := (mkF m 180 #[.val (.int nu), .val (.int se), .val (.long chs), .second, .val (.int le), .val (.ref b2), .val (.ref b5), .val (.ref b8), .val (.ref b11), .val (.ref b14), .val (.ref b17), .val (.ref b18), .val (.ref wq), .val (.ref b34), .val (.ref b34), .val (.ref b60), .val (.ref b72)] [(.ref b8), (.ref b8)])) X75 hx rfl rfl rfl (pc0 := 180) (pc' := 183) (same := true) rfl (hb hby at_180) rfl (decide_eq_true rfl) (by decide) (by decide) kK) ?_
    show OwnFin p e below _ (T75.setTop (mkF m 183 #[.val (.int nu), .val (.int se), .val (.long chs), .second, .val (.int le), .val (.ref b2), .val (.ref b5), .val (.ref b8), .val (.ref b11), .val (.ref b14), .val (.ref b17), .val (.ref b18), .val (.ref wq), .val (.ref b34), .val (.ref b34), .val (.ref b60), .val (.ref b72)] []))
    refine OwnFin.step (fun tT kK => XS.aload X75.here hx rfl (hb hby at_183) rfl rfl kK) ?_
    show OwnFin p e below _ (T75.setTop (mkF m 185 #[.val (.int nu), .val (.int se), .val (.long chs), .second, .val (.int le), .val (.ref b2), .val (.ref b5), .val (.ref b8), .val (.ref b11), .val (.ref b14), .val (.ref b17), .val (.ref b18), .val (.ref wq), .val (.ref b34), .val (.ref b34), .val (.ref b60), .val (.ref b72)] [(.ref b72)]))
    obtain ⟨cq76, kq76, q76a, q76b, q76c⟩ := isOf hZ e75 P71_0
    obtain ⟨_, _, ⟨T76, L76, k76, n76⟩, -, X76, ⟨Lc76, hQ76, l76, y76, z76⟩, st76⟩ := X75.virtualBack hx (y := (⟨"com/example/myna/myna/delivery/Attempt", "endpointId", "()Ljava/lang/String;"⟩ : MethodName)) (z := (⟨"com/example/myna/myna/delivery/Attempt", "endpointId", "()Ljava/lang/String;"⟩ : MethodName)) hown (mvT hZ (hw _ (List.mem_of_getElem? (i := 98) rfl))) (mvT hZ (hw _ (List.mem_of_getElem? (i := 99) rfl))) (notFace_of_selects (args := #[]) (mvT hZ (hw _ (List.mem_of_getElem? (i := 101) rfl)))) (mvT hZ (hw _ (List.mem_of_getElem? (i := 101) rfl))) (mvT hZ (hw _ (List.mem_of_getElem? (i := 100) rfl))) (by decide) (backOf (W := 0) (rm63 l Z a0 hw [] b72 b11 T71.heap n0 (Nat.le_trans (Nat.le_trans (Nat.le_trans (Nat.le_trans (Nat.le_trans (Nat.le_trans (Nat.le_trans (Nat.le_trans (Nat.le_trans (Nat.le_trans (Nat.le_trans (Nat.le_trans (Nat.le_trans (Nat.le_trans (Nat.le_trans Z0 E1.1) E4.1) E7.1) E10.1) E13.1) E16.1) E18.1) (Keep.of_wr W23).1) (Keep.of_wr W28).1) (Keep.of_wr W33).1) E34.1) E35.1) E60.1) K70.1) E71.1) P71_4) hZ (hw _ (List.mem_of_getElem? (i := 102) rfl)) (hw _ (List.mem_of_getElem? (i := 48) rfl)) (by decide) (by decide)) q76a q76c (g := (mkF m 185 #[.val (.int nu), .val (.int se), .val (.long chs), .second, .val (.int le), .val (.ref b2), .val (.ref b5), .val (.ref b8), .val (.ref b11), .val (.ref b14), .val (.ref b17), .val (.ref b18), .val (.ref wq), .val (.ref b34), .val (.ref b34), .val (.ref b60), .val (.ref b72)] [(.ref b72)])) rfl (by rw [hml]; rfl) (Steps.refl _) (argsL := []) (rest := []) (lenOf pd_187 rfl) rfl (by show 2 * 0 + _ ≤ _; exact Nat.le_of_eq rfl) (hb hby at_185) (fun _ _ => ⟨rfl, e75, (by decide : 23 + 0 ≤ _), (by decide : 63 + 0 ≤ _)⟩)
    dsimp only [Pt.U, Pt.locs, Pt.cells, Pt.slots] at X76 l76 y76 z76 st76 hQ76
    subst l76 y76 z76
    obtain ⟨rfl, N76q, e76⟩ := hQ76
    have N76 := Fr.app N75 N76q
    refine OwnFin.step (fun tT kK => st76.trans kK) ?_
    show OwnFin p e below _ (T76.setTop (mkF m 188 #[.val (.int nu), .val (.int se), .val (.long chs), .second, .val (.int le), .val (.ref b2), .val (.ref b5), .val (.ref b8), .val (.ref b11), .val (.ref b14), .val (.ref b17), .val (.ref b18), .val (.ref wq), .val (.ref b34), .val (.ref b34), .val (.ref b60), .val (.ref b72)] [(.ref b11)]))
    refine OwnFin.step (fun tT kK => XS.aload X76.here hx rfl (hb hby at_188) rfl rfl kK) ?_
    show OwnFin p e below _ (T76.setTop (mkF m 190 #[.val (.int nu), .val (.int se), .val (.long chs), .second, .val (.int le), .val (.ref b2), .val (.ref b5), .val (.ref b8), .val (.ref b11), .val (.ref b14), .val (.ref b17), .val (.ref b18), .val (.ref wq), .val (.ref b34), .val (.ref b34), .val (.ref b60), .val (.ref b72)] [(.ref b11), (.ref b11)]))
    refine OwnFin.step (fun tT kK => Jvm.RoadKit.acmp (g := (mkF m 190 #[.val (.int nu), .val (.int se), .val (.long chs), .second, .val (.int le), .val (.ref b2), .val (.ref b5), .val (.ref b8), .val (.ref b11), .val (.ref b14), .val (.ref b17), .val (.ref b18), .val (.ref wq), .val (.ref b34), .val (.ref b34), .val (.ref b60), .val (.ref b72)] [(.ref b11), (.ref b11)])) X76 hx rfl rfl rfl (pc0 := 190) (pc' := 193) (same := true) rfl (hb hby at_190) rfl (decide_eq_true rfl) (by decide) (by decide) kK) ?_
    show OwnFin p e below _ (T76.setTop (mkF m 193 #[.val (.int nu), .val (.int se), .val (.long chs), .second, .val (.int le), .val (.ref b2), .val (.ref b5), .val (.ref b8), .val (.ref b11), .val (.ref b14), .val (.ref b17), .val (.ref b18), .val (.ref wq), .val (.ref b34), .val (.ref b34), .val (.ref b60), .val (.ref b72)] []))
    refine OwnFin.step (fun tT kK => XS.aload X76.here hx rfl (hb hby at_193) rfl rfl kK) ?_
    show OwnFin p e below _ (T76.setTop (mkF m 195 #[.val (.int nu), .val (.int se), .val (.long chs), .second, .val (.int le), .val (.ref b2), .val (.ref b5), .val (.ref b8), .val (.ref b11), .val (.ref b14), .val (.ref b17), .val (.ref b18), .val (.ref wq), .val (.ref b34), .val (.ref b34), .val (.ref b60), .val (.ref b72)] [(.ref b72)]))
    obtain ⟨cq77, kq77, q77a, q77b, q77c⟩ := isOf hZ e76 P71_0
    obtain ⟨_, _, ⟨T77, L77, k77, n77⟩, -, X77, ⟨Lc77, hQ77, l77, y77, z77⟩, st77⟩ := X76.virtualBack hx (y := (⟨"com/example/myna/myna/delivery/Attempt", "number", "()I"⟩ : MethodName)) (z := (⟨"com/example/myna/myna/delivery/Attempt", "number", "()I"⟩ : MethodName)) hown (mvT hZ (hw _ (List.mem_of_getElem? (i := 103) rfl))) (mvT hZ (hw _ (List.mem_of_getElem? (i := 104) rfl))) (notFace_of_selects (args := #[]) (mvT hZ (hw _ (List.mem_of_getElem? (i := 106) rfl)))) (mvT hZ (hw _ (List.mem_of_getElem? (i := 106) rfl))) (mvT hZ (hw _ (List.mem_of_getElem? (i := 105) rfl))) (by decide) (backOf (W := 0) (rm64 l Z a0 hw [] b72 nu T71.heap n0 (Nat.le_trans (Nat.le_trans (Nat.le_trans (Nat.le_trans (Nat.le_trans (Nat.le_trans (Nat.le_trans (Nat.le_trans (Nat.le_trans (Nat.le_trans (Nat.le_trans (Nat.le_trans (Nat.le_trans (Nat.le_trans (Nat.le_trans Z0 E1.1) E4.1) E7.1) E10.1) E13.1) E16.1) E18.1) (Keep.of_wr W23).1) (Keep.of_wr W28).1) (Keep.of_wr W33).1) E34.1) E35.1) E60.1) K70.1) E71.1) P71_5) hZ (hw _ (List.mem_of_getElem? (i := 107) rfl)) (hw _ (List.mem_of_getElem? (i := 48) rfl)) (by decide) (by decide)) q77a q77c (g := (mkF m 195 #[.val (.int nu), .val (.int se), .val (.long chs), .second, .val (.int le), .val (.ref b2), .val (.ref b5), .val (.ref b8), .val (.ref b11), .val (.ref b14), .val (.ref b17), .val (.ref b18), .val (.ref wq), .val (.ref b34), .val (.ref b34), .val (.ref b60), .val (.ref b72)] [(.ref b72)])) rfl (by rw [hml]; rfl) (Steps.refl _) (argsL := []) (rest := []) (lenOf pd_188 rfl) rfl (by show 2 * 0 + _ ≤ _; exact Nat.le_of_eq rfl) (hb hby at_195) (fun _ _ => ⟨rfl, e76, (by decide : 23 + 0 ≤ _), (by decide : 63 + 0 ≤ _)⟩)
    dsimp only [Pt.U, Pt.locs, Pt.cells, Pt.slots] at X77 l77 y77 z77 st77 hQ77
    subst l77 y77 z77
    obtain ⟨rfl, N77q, e77⟩ := hQ77
    have N77 := Fr.app N76 N77q
    refine OwnFin.step (fun tT kK => st77.trans kK) ?_
    show OwnFin p e below _ (T77.setTop (mkF m 198 #[.val (.int nu), .val (.int se), .val (.long chs), .second, .val (.int le), .val (.ref b2), .val (.ref b5), .val (.ref b8), .val (.ref b11), .val (.ref b14), .val (.ref b17), .val (.ref b18), .val (.ref wq), .val (.ref b34), .val (.ref b34), .val (.ref b60), .val (.ref b72)] [(.int nu)]))
    refine OwnFin.step (fun tT kK => XS.iloadN X77.here hx rfl (hb hby at_198) rfl kK) ?_
    show OwnFin p e below _ (T77.setTop (mkF m 199 #[.val (.int nu), .val (.int se), .val (.long chs), .second, .val (.int le), .val (.ref b2), .val (.ref b5), .val (.ref b8), .val (.ref b11), .val (.ref b14), .val (.ref b17), .val (.ref b18), .val (.ref wq), .val (.ref b34), .val (.ref b34), .val (.ref b60), .val (.ref b72)] [(.int nu), (.int nu)]))
    refine OwnFin.step (fun tT kK => XS.icmpNo X77.here hx rfl (hb hby at_199) rfl (teq (rfl : nu = nu)).2 kK) ?_
    show OwnFin p e below _ (T77.setTop (mkF m 202 #[.val (.int nu), .val (.int se), .val (.long chs), .second, .val (.int le), .val (.ref b2), .val (.ref b5), .val (.ref b8), .val (.ref b11), .val (.ref b14), .val (.ref b17), .val (.ref b18), .val (.ref wq), .val (.ref b34), .val (.ref b34), .val (.ref b60), .val (.ref b72)] []))
    refine OwnFin.step (fun tT kK => XS.aload X77.here hx rfl (hb hby at_202) rfl rfl kK) ?_
    show OwnFin p e below _ (T77.setTop (mkF m 204 #[.val (.int nu), .val (.int se), .val (.long chs), .second, .val (.int le), .val (.ref b2), .val (.ref b5), .val (.ref b8), .val (.ref b11), .val (.ref b14), .val (.ref b17), .val (.ref b18), .val (.ref wq), .val (.ref b34), .val (.ref b34), .val (.ref b60), .val (.ref b72)] [(.ref b72)]))
    obtain ⟨cq78, kq78, q78a, q78b, q78c⟩ := isOf hZ e77 P71_0
    obtain ⟨_, _, ⟨T78, L78, k78, n78⟩, -, X78, ⟨Lc78, hQ78, l78, y78, z78⟩, st78⟩ := X77.virtualBack hx (y := (⟨"com/example/myna/myna/delivery/Attempt", "status", "()Lcom/example/myna/myna/delivery/Status;"⟩ : MethodName)) (z := (⟨"com/example/myna/myna/delivery/Attempt", "status", "()Lcom/example/myna/myna/delivery/Status;"⟩ : MethodName)) hown (mvT hZ (hw _ (List.mem_of_getElem? (i := 108) rfl))) (mvT hZ (hw _ (List.mem_of_getElem? (i := 109) rfl))) (notFace_of_selects (args := #[]) (mvT hZ (hw _ (List.mem_of_getElem? (i := 111) rfl)))) (mvT hZ (hw _ (List.mem_of_getElem? (i := 111) rfl))) (mvT hZ (hw _ (List.mem_of_getElem? (i := 110) rfl))) (by decide) (backOf (W := 0) (rm65 l Z a0 hw [] b72 wq T71.heap n0 (Nat.le_trans (Nat.le_trans (Nat.le_trans (Nat.le_trans (Nat.le_trans (Nat.le_trans (Nat.le_trans (Nat.le_trans (Nat.le_trans (Nat.le_trans (Nat.le_trans (Nat.le_trans (Nat.le_trans (Nat.le_trans (Nat.le_trans Z0 E1.1) E4.1) E7.1) E10.1) E13.1) E16.1) E18.1) (Keep.of_wr W23).1) (Keep.of_wr W28).1) (Keep.of_wr W33).1) E34.1) E35.1) E60.1) K70.1) E71.1) P71_6) hZ (hw _ (List.mem_of_getElem? (i := 112) rfl)) (hw _ (List.mem_of_getElem? (i := 48) rfl)) (by decide) (by decide)) q78a q78c (g := (mkF m 204 #[.val (.int nu), .val (.int se), .val (.long chs), .second, .val (.int le), .val (.ref b2), .val (.ref b5), .val (.ref b8), .val (.ref b11), .val (.ref b14), .val (.ref b17), .val (.ref b18), .val (.ref wq), .val (.ref b34), .val (.ref b34), .val (.ref b60), .val (.ref b72)] [(.ref b72)])) rfl (by rw [hml]; rfl) (Steps.refl _) (argsL := []) (rest := []) (lenOf pd_189 rfl) rfl (by show 2 * 0 + _ ≤ _; exact Nat.le_of_eq rfl) (hb hby at_204) (fun _ _ => ⟨rfl, e77, (by decide : 23 + 0 ≤ _), (by decide : 63 + 0 ≤ _)⟩)
    dsimp only [Pt.U, Pt.locs, Pt.cells, Pt.slots] at X78 l78 y78 z78 st78 hQ78
    subst l78 y78 z78
    obtain ⟨rfl, N78q, e78⟩ := hQ78
    have N78 := Fr.app N77 N78q
    refine OwnFin.step (fun tT kK => st78.trans kK) ?_
    show OwnFin p e below _ (T78.setTop (mkF m 207 #[.val (.int nu), .val (.int se), .val (.long chs), .second, .val (.int le), .val (.ref b2), .val (.ref b5), .val (.ref b8), .val (.ref b11), .val (.ref b14), .val (.ref b17), .val (.ref b18), .val (.ref wq), .val (.ref b34), .val (.ref b34), .val (.ref b60), .val (.ref b72)] [(.ref wq)]))
    refine OwnFin.step (fun tT kK => XS.aload X78.here hx rfl (hb hby at_207) rfl rfl kK) ?_
    show OwnFin p e below _ (T78.setTop (mkF m 209 #[.val (.int nu), .val (.int se), .val (.long chs), .second, .val (.int le), .val (.ref b2), .val (.ref b5), .val (.ref b8), .val (.ref b11), .val (.ref b14), .val (.ref b17), .val (.ref b18), .val (.ref wq), .val (.ref b34), .val (.ref b34), .val (.ref b60), .val (.ref b72)] [(.ref wq), (.ref wq)]))
    refine OwnFin.step (fun tT kK => Jvm.RoadKit.acmp (g := (mkF m 209 #[.val (.int nu), .val (.int se), .val (.long chs), .second, .val (.int le), .val (.ref b2), .val (.ref b5), .val (.ref b8), .val (.ref b11), .val (.ref b14), .val (.ref b17), .val (.ref b18), .val (.ref wq), .val (.ref b34), .val (.ref b34), .val (.ref b60), .val (.ref b72)] [(.ref wq), (.ref wq)])) X78 hx rfl rfl rfl (pc0 := 209) (pc' := 212) (same := true) rfl (hb hby at_209) rfl (decide_eq_true rfl) (by decide) (by decide) kK) ?_
    show OwnFin p e below _ (T78.setTop (mkF m 212 #[.val (.int nu), .val (.int se), .val (.long chs), .second, .val (.int le), .val (.ref b2), .val (.ref b5), .val (.ref b8), .val (.ref b11), .val (.ref b14), .val (.ref b17), .val (.ref b18), .val (.ref wq), .val (.ref b34), .val (.ref b34), .val (.ref b60), .val (.ref b72)] []))
    refine OwnFin.step (fun tT kK => XS.aload X78.here hx rfl (hb hby at_212) rfl rfl kK) ?_
    show OwnFin p e below _ (T78.setTop (mkF m 214 #[.val (.int nu), .val (.int se), .val (.long chs), .second, .val (.int le), .val (.ref b2), .val (.ref b5), .val (.ref b8), .val (.ref b11), .val (.ref b14), .val (.ref b17), .val (.ref b18), .val (.ref wq), .val (.ref b34), .val (.ref b34), .val (.ref b60), .val (.ref b72)] [(.ref b72)]))
    obtain ⟨cq79, kq79, q79a, q79b, q79c⟩ := isOf hZ e78 P71_0
    obtain ⟨_, _, ⟨T79, L79, k79, n79⟩, -, X79, ⟨Lc79, hQ79, l79, y79, z79⟩, st79⟩ := X78.virtualBack hx (y := (⟨"com/example/myna/myna/delivery/Attempt", "url", "()Ljava/lang/String;"⟩ : MethodName)) (z := (⟨"com/example/myna/myna/delivery/Attempt", "url", "()Ljava/lang/String;"⟩ : MethodName)) hown (mvT hZ (hw _ (List.mem_of_getElem? (i := 113) rfl))) (mvT hZ (hw _ (List.mem_of_getElem? (i := 114) rfl))) (notFace_of_selects (args := #[]) (mvT hZ (hw _ (List.mem_of_getElem? (i := 116) rfl)))) (mvT hZ (hw _ (List.mem_of_getElem? (i := 116) rfl))) (mvT hZ (hw _ (List.mem_of_getElem? (i := 115) rfl))) (by decide) (backOf (W := 0) (rm66 l Z a0 hw [] b72 b14 T71.heap n0 (Nat.le_trans (Nat.le_trans (Nat.le_trans (Nat.le_trans (Nat.le_trans (Nat.le_trans (Nat.le_trans (Nat.le_trans (Nat.le_trans (Nat.le_trans (Nat.le_trans (Nat.le_trans (Nat.le_trans (Nat.le_trans (Nat.le_trans Z0 E1.1) E4.1) E7.1) E10.1) E13.1) E16.1) E18.1) (Keep.of_wr W23).1) (Keep.of_wr W28).1) (Keep.of_wr W33).1) E34.1) E35.1) E60.1) K70.1) E71.1) P71_7) hZ (hw _ (List.mem_of_getElem? (i := 117) rfl)) (hw _ (List.mem_of_getElem? (i := 48) rfl)) (by decide) (by decide)) q79a q79c (g := (mkF m 214 #[.val (.int nu), .val (.int se), .val (.long chs), .second, .val (.int le), .val (.ref b2), .val (.ref b5), .val (.ref b8), .val (.ref b11), .val (.ref b14), .val (.ref b17), .val (.ref b18), .val (.ref wq), .val (.ref b34), .val (.ref b34), .val (.ref b60), .val (.ref b72)] [(.ref b72)])) rfl (by rw [hml]; rfl) (Steps.refl _) (argsL := []) (rest := []) (lenOf pd_187 rfl) rfl (by show 2 * 0 + _ ≤ _; exact Nat.le_of_eq rfl) (hb hby at_214) (fun _ _ => ⟨rfl, e78, (by decide : 23 + 0 ≤ _), (by decide : 63 + 0 ≤ _)⟩)
    dsimp only [Pt.U, Pt.locs, Pt.cells, Pt.slots] at X79 l79 y79 z79 st79 hQ79
    subst l79 y79 z79
    obtain ⟨rfl, N79q, e79⟩ := hQ79
    have N79 := Fr.app N78 N79q
    refine OwnFin.step (fun tT kK => st79.trans kK) ?_
    show OwnFin p e below _ (T79.setTop (mkF m 217 #[.val (.int nu), .val (.int se), .val (.long chs), .second, .val (.int le), .val (.ref b2), .val (.ref b5), .val (.ref b8), .val (.ref b11), .val (.ref b14), .val (.ref b17), .val (.ref b18), .val (.ref wq), .val (.ref b34), .val (.ref b34), .val (.ref b60), .val (.ref b72)] [(.ref b14)]))
    refine OwnFin.step (fun tT kK => XS.aload X79.here hx rfl (hb hby at_217) rfl rfl kK) ?_
    show OwnFin p e below _ (T79.setTop (mkF m 219 #[.val (.int nu), .val (.int se), .val (.long chs), .second, .val (.int le), .val (.ref b2), .val (.ref b5), .val (.ref b8), .val (.ref b11), .val (.ref b14), .val (.ref b17), .val (.ref b18), .val (.ref wq), .val (.ref b34), .val (.ref b34), .val (.ref b60), .val (.ref b72)] [(.ref b14), (.ref b14)]))
    refine OwnFin.step (fun tT kK => Jvm.RoadKit.acmp (g := (mkF m 219 #[.val (.int nu), .val (.int se), .val (.long chs), .second, .val (.int le), .val (.ref b2), .val (.ref b5), .val (.ref b8), .val (.ref b11), .val (.ref b14), .val (.ref b17), .val (.ref b18), .val (.ref wq), .val (.ref b34), .val (.ref b34), .val (.ref b60), .val (.ref b72)] [(.ref b14), (.ref b14)])) X79 hx rfl rfl rfl (pc0 := 219) (pc' := 222) (same := true) rfl (hb hby at_219) rfl (decide_eq_true rfl) (by decide) (by decide) kK) ?_
    show OwnFin p e below _ (T79.setTop (mkF m 222 #[.val (.int nu), .val (.int se), .val (.long chs), .second, .val (.int le), .val (.ref b2), .val (.ref b5), .val (.ref b8), .val (.ref b11), .val (.ref b14), .val (.ref b17), .val (.ref b18), .val (.ref wq), .val (.ref b34), .val (.ref b34), .val (.ref b60), .val (.ref b72)] []))
    refine OwnFin.step (fun tT kK => XS.aload X79.here hx rfl (hb hby at_222) rfl rfl kK) ?_
    show OwnFin p e below _ (T79.setTop (mkF m 224 #[.val (.int nu), .val (.int se), .val (.long chs), .second, .val (.int le), .val (.ref b2), .val (.ref b5), .val (.ref b8), .val (.ref b11), .val (.ref b14), .val (.ref b17), .val (.ref b18), .val (.ref wq), .val (.ref b34), .val (.ref b34), .val (.ref b60), .val (.ref b72)] [(.ref b72)]))
    obtain ⟨cq80, kq80, q80a, q80b, q80c⟩ := isOf hZ e79 P71_0
    obtain ⟨_, _, ⟨T80, L80, k80, n80⟩, -, X80, ⟨Lc80, hQ80, l80, y80, z80⟩, st80⟩ := X79.virtualBack hx (y := (⟨"com/example/myna/myna/delivery/Attempt", "secret", "()Ljava/lang/String;"⟩ : MethodName)) (z := (⟨"com/example/myna/myna/delivery/Attempt", "secret", "()Ljava/lang/String;"⟩ : MethodName)) hown (mvT hZ (hw _ (List.mem_of_getElem? (i := 118) rfl))) (mvT hZ (hw _ (List.mem_of_getElem? (i := 119) rfl))) (notFace_of_selects (args := #[]) (mvT hZ (hw _ (List.mem_of_getElem? (i := 121) rfl)))) (mvT hZ (hw _ (List.mem_of_getElem? (i := 121) rfl))) (mvT hZ (hw _ (List.mem_of_getElem? (i := 120) rfl))) (by decide) (backOf (W := 0) (rm67 l Z a0 hw [] b72 b17 T71.heap n0 (Nat.le_trans (Nat.le_trans (Nat.le_trans (Nat.le_trans (Nat.le_trans (Nat.le_trans (Nat.le_trans (Nat.le_trans (Nat.le_trans (Nat.le_trans (Nat.le_trans (Nat.le_trans (Nat.le_trans (Nat.le_trans (Nat.le_trans Z0 E1.1) E4.1) E7.1) E10.1) E13.1) E16.1) E18.1) (Keep.of_wr W23).1) (Keep.of_wr W28).1) (Keep.of_wr W33).1) E34.1) E35.1) E60.1) K70.1) E71.1) P71_8) hZ (hw _ (List.mem_of_getElem? (i := 122) rfl)) (hw _ (List.mem_of_getElem? (i := 48) rfl)) (by decide) (by decide)) q80a q80c (g := (mkF m 224 #[.val (.int nu), .val (.int se), .val (.long chs), .second, .val (.int le), .val (.ref b2), .val (.ref b5), .val (.ref b8), .val (.ref b11), .val (.ref b14), .val (.ref b17), .val (.ref b18), .val (.ref wq), .val (.ref b34), .val (.ref b34), .val (.ref b60), .val (.ref b72)] [(.ref b72)])) rfl (by rw [hml]; rfl) (Steps.refl _) (argsL := []) (rest := []) (lenOf pd_187 rfl) rfl (by show 2 * 0 + _ ≤ _; exact Nat.le_of_eq rfl) (hb hby at_224) (fun _ _ => ⟨rfl, e79, (by decide : 23 + 0 ≤ _), (by decide : 63 + 0 ≤ _)⟩)
    dsimp only [Pt.U, Pt.locs, Pt.cells, Pt.slots] at X80 l80 y80 z80 st80 hQ80
    subst l80 y80 z80
    obtain ⟨rfl, N80q, e80⟩ := hQ80
    have N80 := Fr.app N79 N80q
    refine OwnFin.step (fun tT kK => st80.trans kK) ?_
    show OwnFin p e below _ (T80.setTop (mkF m 227 #[.val (.int nu), .val (.int se), .val (.long chs), .second, .val (.int le), .val (.ref b2), .val (.ref b5), .val (.ref b8), .val (.ref b11), .val (.ref b14), .val (.ref b17), .val (.ref b18), .val (.ref wq), .val (.ref b34), .val (.ref b34), .val (.ref b60), .val (.ref b72)] [(.ref b17)]))
    refine OwnFin.step (fun tT kK => XS.aload X80.here hx rfl (hb hby at_227) rfl rfl kK) ?_
    show OwnFin p e below _ (T80.setTop (mkF m 229 #[.val (.int nu), .val (.int se), .val (.long chs), .second, .val (.int le), .val (.ref b2), .val (.ref b5), .val (.ref b8), .val (.ref b11), .val (.ref b14), .val (.ref b17), .val (.ref b18), .val (.ref wq), .val (.ref b34), .val (.ref b34), .val (.ref b60), .val (.ref b72)] [(.ref b17), (.ref b17)]))
    refine OwnFin.step (fun tT kK => Jvm.RoadKit.acmp (g := (mkF m 229 #[.val (.int nu), .val (.int se), .val (.long chs), .second, .val (.int le), .val (.ref b2), .val (.ref b5), .val (.ref b8), .val (.ref b11), .val (.ref b14), .val (.ref b17), .val (.ref b18), .val (.ref wq), .val (.ref b34), .val (.ref b34), .val (.ref b60), .val (.ref b72)] [(.ref b17), (.ref b17)])) X80 hx rfl rfl rfl (pc0 := 229) (pc' := 232) (same := true) rfl (hb hby at_229) rfl (decide_eq_true rfl) (by decide) (by decide) kK) ?_
    show OwnFin p e below _ (T80.setTop (mkF m 232 #[.val (.int nu), .val (.int se), .val (.long chs), .second, .val (.int le), .val (.ref b2), .val (.ref b5), .val (.ref b8), .val (.ref b11), .val (.ref b14), .val (.ref b17), .val (.ref b18), .val (.ref wq), .val (.ref b34), .val (.ref b34), .val (.ref b60), .val (.ref b72)] []))
    refine OwnFin.step (fun tT kK => XS.aload X80.here hx rfl (hb hby at_232) rfl rfl kK) ?_
    show OwnFin p e below _ (T80.setTop (mkF m 234 #[.val (.int nu), .val (.int se), .val (.long chs), .second, .val (.int le), .val (.ref b2), .val (.ref b5), .val (.ref b8), .val (.ref b11), .val (.ref b14), .val (.ref b17), .val (.ref b18), .val (.ref wq), .val (.ref b34), .val (.ref b34), .val (.ref b60), .val (.ref b72)] [(.ref b72)]))
    obtain ⟨cq81, kq81, q81a, q81b, q81c⟩ := isOf hZ e80 P71_0
    obtain ⟨_, _, ⟨T81, L81, k81, n81⟩, -, X81, ⟨Lc81, hQ81, l81, y81, z81⟩, st81⟩ := X80.virtualBack hx (y := (⟨"com/example/myna/myna/delivery/Attempt", "body", "()[B"⟩ : MethodName)) (z := (⟨"com/example/myna/myna/delivery/Attempt", "body", "()[B"⟩ : MethodName)) hown (mvT hZ (hw _ (List.mem_of_getElem? (i := 123) rfl))) (mvT hZ (hw _ (List.mem_of_getElem? (i := 124) rfl))) (notFace_of_selects (args := #[]) (mvT hZ (hw _ (List.mem_of_getElem? (i := 126) rfl)))) (mvT hZ (hw _ (List.mem_of_getElem? (i := 126) rfl))) (mvT hZ (hw _ (List.mem_of_getElem? (i := 125) rfl))) (by decide) (backOf (W := 0) (rm68 l Z a0 hw [] b72 b34 T71.heap n0 (Nat.le_trans (Nat.le_trans (Nat.le_trans (Nat.le_trans (Nat.le_trans (Nat.le_trans (Nat.le_trans (Nat.le_trans (Nat.le_trans (Nat.le_trans (Nat.le_trans (Nat.le_trans (Nat.le_trans (Nat.le_trans (Nat.le_trans Z0 E1.1) E4.1) E7.1) E10.1) E13.1) E16.1) E18.1) (Keep.of_wr W23).1) (Keep.of_wr W28).1) (Keep.of_wr W33).1) E34.1) E35.1) E60.1) K70.1) E71.1) P71_9) hZ (hw _ (List.mem_of_getElem? (i := 127) rfl)) (hw _ (List.mem_of_getElem? (i := 48) rfl)) (by decide) (by decide)) q81a q81c (g := (mkF m 234 #[.val (.int nu), .val (.int se), .val (.long chs), .second, .val (.int le), .val (.ref b2), .val (.ref b5), .val (.ref b8), .val (.ref b11), .val (.ref b14), .val (.ref b17), .val (.ref b18), .val (.ref wq), .val (.ref b34), .val (.ref b34), .val (.ref b60), .val (.ref b72)] [(.ref b72)])) rfl (by rw [hml]; rfl) (Steps.refl _) (argsL := []) (rest := []) (lenOf pd_190 rfl) rfl (by show 2 * 0 + _ ≤ _; exact Nat.le_of_eq rfl) (hb hby at_234) (fun _ _ => ⟨rfl, e80, (by decide : 23 + 0 ≤ _), (by decide : 63 + 0 ≤ _)⟩)
    dsimp only [Pt.U, Pt.locs, Pt.cells, Pt.slots] at X81 l81 y81 z81 st81 hQ81
    subst l81 y81 z81
    obtain ⟨rfl, N81q, e81⟩ := hQ81
    have N81 := Fr.app N80 N81q
    refine OwnFin.step (fun tT kK => st81.trans kK) ?_
    show OwnFin p e below _ (T81.setTop (mkF m 237 #[.val (.int nu), .val (.int se), .val (.long chs), .second, .val (.int le), .val (.ref b2), .val (.ref b5), .val (.ref b8), .val (.ref b11), .val (.ref b14), .val (.ref b17), .val (.ref b18), .val (.ref wq), .val (.ref b34), .val (.ref b34), .val (.ref b60), .val (.ref b72)] [(.ref b34)]))
    refine OwnFin.step (fun tT kK => XS.aload X81.here hx rfl (hb hby at_237) rfl rfl kK) ?_
    show OwnFin p e below _ (T81.setTop (mkF m 239 #[.val (.int nu), .val (.int se), .val (.long chs), .second, .val (.int le), .val (.ref b2), .val (.ref b5), .val (.ref b8), .val (.ref b11), .val (.ref b14), .val (.ref b17), .val (.ref b18), .val (.ref wq), .val (.ref b34), .val (.ref b34), .val (.ref b60), .val (.ref b72)] [(.ref b34), (.ref b34)]))
    refine OwnFin.step (fun tT kK => Jvm.RoadKit.acmp (g := (mkF m 239 #[.val (.int nu), .val (.int se), .val (.long chs), .second, .val (.int le), .val (.ref b2), .val (.ref b5), .val (.ref b8), .val (.ref b11), .val (.ref b14), .val (.ref b17), .val (.ref b18), .val (.ref wq), .val (.ref b34), .val (.ref b34), .val (.ref b60), .val (.ref b72)] [(.ref b34), (.ref b34)])) X81 hx rfl rfl rfl (pc0 := 239) (pc' := 242) (same := true) rfl (hb hby at_239) rfl (decide_eq_true rfl) (by decide) (by decide) kK) ?_
    show OwnFin p e below _ (T81.setTop (mkF m 242 #[.val (.int nu), .val (.int se), .val (.long chs), .second, .val (.int le), .val (.ref b2), .val (.ref b5), .val (.ref b8), .val (.ref b11), .val (.ref b14), .val (.ref b17), .val (.ref b18), .val (.ref wq), .val (.ref b34), .val (.ref b34), .val (.ref b60), .val (.ref b72)] []))
    refine OwnFin.step (fun tT kK => XS.iconst X81.here hx rfl (hb hby at_242) kK) ?_
    show OwnFin p e below _ (T81.setTop (mkF m 243 #[.val (.int nu), .val (.int se), .val (.long chs), .second, .val (.int le), .val (.ref b2), .val (.ref b5), .val (.ref b8), .val (.ref b11), .val (.ref b14), .val (.ref b17), .val (.ref b18), .val (.ref wq), .val (.ref b34), .val (.ref b34), .val (.ref b60), .val (.ref b72)] [(.int (1 : Int32))]))
    refine OwnFin.step (fun tT kK => XS.goto X81.here hx rfl (pc0 := 243) (pc' := 247) rfl (hb hby at_243) (by decide) (by decide) kK) ?_
    show OwnFin p e below _ (T81.setTop (mkF m 247 #[.val (.int nu), .val (.int se), .val (.long chs), .second, .val (.int le), .val (.ref b2), .val (.ref b5), .val (.ref b8), .val (.ref b11), .val (.ref b14), .val (.ref b17), .val (.ref b18), .val (.ref wq), .val (.ref b34), .val (.ref b34), .val (.ref b60), .val (.ref b72)] [(.int (1 : Int32))]))
    obtain ⟨fs82, hr82, hrun82, hended82, hW82, hsame82⟩ := X81.leave (v := (some (.int (1 : Int32)))) (fun h => by rw [Bd.returns] at h; cases h)
    refine ⟨_, _, retN X81 hx (t := .boolean) Bd.returns (by simp) (hb hby at_247) hr82, hrun82, hended82, _, _, rfl, ?_, ⟨_, rfl⟩, hW82, hsame82.mono (by decide) (by decide)⟩
    show Q0 Z nu se chs le cs v0 v1 v2 h0 n0 _ T81.heap _
    rw [e81]
    exact ⟨rfl, N81, ((((((((((((((((Keep.refl h0 []).ext E1).ext E4).ext E7).ext E10).ext E13).ext E16).ext E18).wr W23 (Or.inr (Nat.le_trans (Nat.le_trans (Nat.le_trans (Nat.le_trans (Nat.le_trans (Nat.le_trans (Nat.le_trans (Nat.le_refl _) E1.1) E4.1) E7.1) E10.1) E13.1) E16.1) (Nat.le_of_eq g18.symm)))).wr W28 (Or.inr (Nat.le_trans (Nat.le_trans (Nat.le_trans (Nat.le_trans (Nat.le_trans (Nat.le_trans (Nat.le_trans (Nat.le_refl _) E1.1) E4.1) E7.1) E10.1) E13.1) E16.1) (Nat.le_of_eq g18.symm)))).wr W33 (Or.inr (Nat.le_trans (Nat.le_trans (Nat.le_trans (Nat.le_trans (Nat.le_trans (Nat.le_trans (Nat.le_trans (Nat.le_refl _) E1.1) E4.1) E7.1) E10.1) E13.1) E16.1) (Nat.le_of_eq g18.symm)))).ext E34).ext E35).ext E60).trans K70 (allS (P := fun x => x ∈ [] ∨ h0.size ≤ x) (Or.inr (Nat.le_trans (Nat.le_trans (Nat.le_trans (Nat.le_trans (Nat.le_trans (Nat.le_trans (Nat.le_trans (Nat.le_trans (Nat.le_trans (Nat.le_trans (Nat.le_trans (Nat.le_trans (Nat.le_trans (Nat.le_refl _) E1.1) E4.1) E7.1) E10.1) E13.1) E16.1) E18.1) (Keep.of_wr W23).1) (Keep.of_wr W28).1) (Keep.of_wr W33).1) E34.1) E35.1) (Nat.le_of_eq g60.symm))) all0)).ext E71)⟩
set_option maxRecDepth 65536 in
set_option maxHeartbeats 40000000 in
theorem comes_1 {Post : Tables → Env → Array Value → State → Outcome → State → Prop} (hpost : ∀ tb e args s v u, (limb_1_1.after args s (.returned v) u = true ∧ limb_1_2.after args s (.returned v) u = true ∧ True) → FrameEnd s (.returned v) u (Jvm.fieldLocs frame_1_writes args s ++ Jvm.arrayLocs frame_1_arrays args s ++ Jvm.staticLocs frame_1_statics s) 56 192 → Post tb e args s (.returned v) u) :
    ArmFor flags0 classFile x code maxLocals ret World_1 tables_1 room_1 Calls_1 rest_1 Pre_1 Post := by
  intro l hfl _ _ p e ha hc hk s m args below hf hA hF happ hP
  obtain ⟨hcalls, hrest, hpre⟩ := hP
  obtain ⟨-, -, -, hnamed, -, -, -, hat⟩ := (Spec.applies_iff hf).mp happ
  obtain ⟨hg, hn⟩ := and_e (Cond.before_iff.mp (show (Jvm.Cond.and given_1 narrow_1).before args s = true from hpre))
  obtain ⟨g1, g2⟩ := and_e hg
  obtain ⟨g3, g4⟩ := and_e g2
  obtain ⟨g5, g6⟩ := and_e g4
  obtain ⟨g7, g8⟩ := and_e g6
  obtain ⟨w_0, w_1, w_2, w_3, rfl⟩ : ∃ w_0 w_1 w_2 w_3 : Value, args = #[w_0, w_1, w_2, w_3] := by
    have hs : args.size = 4 := by simpa [Cond.value, given_1] using g1
    obtain ⟨L⟩ := args
    match L, hs with
    | [w_0, w_1, w_2, w_3], _ => exact ⟨w_0, w_1, w_2, w_3, rfl⟩
  have hw := fun d (hd : d ∈ tables_1) => atoms_spec (ws := Jvm.Cond.code x code maxLocals ret :: tables_1) hat d (List.mem_cons_of_mem _ hd)
  have hfit : Fit s := fun {y c} hc i hi => by
    obtain ⟨ha, rfl⟩ := Array.getElem?_eq_some_iff.mp hc
    have q := List.all_eq_true.mp ((Array.all_eq_true_iff_forall_mem.mp hF) _ (Array.getElem_mem ha)) i (List.mem_range.mpr hi)
    simpa [Array.getElem?_eq_getElem hi] using q
  obtain ⟨hsets, hown0⟩ := atoms_of _ (rest_1_c_eq ▸ (show rest_1_c.before _ s = true from hrest))
  have hr0 := Cond.before_iff.mp hown0
  obtain ⟨nu, ei0⟩ := is_v g3
  obtain rfl : w_0 = (.int nu) := Option.some.inj ei0
  obtain ⟨se, ei1⟩ := is_v g5
  obtain rfl : w_1 = (.int se) := Option.some.inj ei1
  obtain ⟨chs, ei2⟩ := isL_v g7
  obtain rfl : w_2 = (.long chs) := Option.some.inj ei2
  obtain ⟨le, ei3⟩ := is_v g8
  obtain rfl : w_3 = (.int le) := Option.some.inj ei3
  obtain ⟨g9, g10⟩ := and_e hn
  obtain ⟨w11, ev_w11⟩ := exa_v g9
  have S_w11 := Sta.start ev_w11 (Or.inr ⟨(hw _ (List.mem_of_getElem? (i := 38) rfl)), (hw _ (List.mem_of_getElem? (i := 39) rfl))⟩)
  have E_w11_g9 := Exa.start ev_w11 g9
  obtain ⟨g12, g13⟩ := and_e g10
  obtain ⟨w14, ev_w14⟩ := exa_v g12
  have S_w14 := Sta.start ev_w14 (Or.inr ⟨(hw _ (List.mem_of_getElem? (i := 38) rfl)), (hw _ (List.mem_of_getElem? (i := 42) rfl))⟩)
  have E_w14_g12 := Exa.start ev_w14 g12
  obtain ⟨w15, ev_w15⟩ := exa_v g13
  have S_w15 := Sta.start ev_w15 (Or.inr ⟨(hw _ (List.mem_of_getElem? (i := 38) rfl)), (hw _ (List.mem_of_getElem? (i := 44) rfl))⟩)
  have E_w15_g13 := Exa.start ev_w15 g13
  obtain ⟨cs, ev_cs⟩ := is_v (Cond.before_iff.mp (hsets _ (List.mem_of_getElem? (i := 1) rfl)))
  have S_cs := Sta.start ev_cs (Or.inl (hsets _ (List.mem_of_getElem? (i := 0) rfl)))
  have hcs : ¬ cs = (0 : Int32) := own_neI ev_cs (Cond.before_iff.mp (hsets _ (List.mem_of_getElem? (i := 2) rfl)))
  obtain ⟨n, o, h1, h2, h3, _, L, rfl, ⟨rfl, N, -⟩, hq⟩ := rm0 l s _ hw tables_1 nu se chs le cs w11 w14 w15 s.heap s.heap.size (Nat.le_refl _) S_cs hcs S_w11 S_w14 S_w15 E_w11_g9 E_w14_g12 E_w15_g13 p e ha hc hk s m _ below hf ((Spec.applies_iff_loose hf).mp happ).1 ⟨rfl, State.Warmed39.refl s, rfl⟩ trivial
  refine ⟨n, _, h1, h2, h3, hpost _ _ _ _ _ _ ⟨Cond.after_iff.mpr rfl, Cond.after_iff.mpr (eq_i res_at (Term.int_eval (1)) rfl), trivial⟩ ⟨hq.1, hq.2.1, (hq.2.2.sift fun y hy => Or.inr (N y hy)).mono (by decide) (by decide)⟩⟩
theorem main_1_1 : Claimed_1_1 := comes_1 fun _ _ _ _ _ _ h hF => ⟨h.1, hF⟩
theorem main_1_2 : Claimed_1_2 := comes_1 fun _ _ _ _ _ _ h hF => ⟨h.2.1, hF⟩
end Jvm.Pilot.@@N@@
namespace Jvm.Pilot.@@N@@
open Jvm Jvm.ClassFile Sem Op Lib Jvm.Free Jvm.Stand Jvm.Pilot.@@N@@.Jvm.D
/-! MADE BY PROGRAM (witnessworld.py) out of the Statement's table words and the real class files: 24 classes; the members and pool entries that the words name. The judged class is class 1, her method 2. -/
namespace start1
open Jvm.ClassFile
def u (s : String) : CpInfo := .utf8 (stringToUtf16 s)
/-- a pool by its gaps: so many unusable entries, then the entry; so many at the end -/
def gap : Nat → List CpInfo → List CpInfo
  | 0, r => r
  | n + 1, r => .unusable :: gap n r
def poolList (es : List (Nat × CpInfo)) (last : Nat) : List CpInfo := es.foldr (fun e r => gap e.1 (e.2 :: r)) (gap last [])
def pool (es : List (Nat × CpInfo)) (last : Nat) : Array CpInfo := ⟨poolList es last⟩
def fileOf (pool : Array CpInfo) (this : Nat) (attrs : Array Attribute := #[]) (ms : Array MethodInfo := #[]) (fl : Nat := 33) (sup : Nat := 0) (ifs : Array Nat := #[]) (fds : Array FieldInfo := #[]) : ClassFile where
  minorVersion := 0
  majorVersion := 65
  constantPool := pool
  accessFlags := fl
  thisClass := this
  superClass := sup
  interfaces := ifs
  fields := fds
  methods := ms
  attributes := attrs
def plain (name : String) (sup : Option ClassId) : Class where
  name := name
  kind := .ordinary
  loader := none
  accessFlags := 33
  super := sup
  interfaces := #[]
  cf := none
  fields := #[]
  methods := #[]
  instanceTypes := #[]
  staticTypes := #[]
  resolved := #[]
  callSites := []
  init := .initialized
  statics := none
  mirror := none

def pool0 : Array CpInfo := pool [(5, u "<init>"), (0, u "()V"), (1, .class_ 10), (1, u "java/lang/Object")] 113

def k0c0 : Code := { maxStack := 0, maxLocals := 1, code := object_method_1_code, exceptionTable := #[], attributes := #[] }
def k0m0 : Method := { name := "<init>", desc := "()V", sig := { parameters := [], returnType := none }, accessFlags := 1, code := some k0c0 }
/-- java/lang/Object -/
def k0 : Class := { plain "java/lang/Object" none with
  accessFlags := 33
  interfaces := #[]
  cf := some (fileOf pool0 8 #[] #[{ accessFlags := 1, nameIndex := 5, descriptorIndex := 6, attributes := #[] }] 33 0 #[] #[])
  fields := #[]
  methods := #[k0m0]
  instanceTypes := #[]
  staticTypes := #[]
  resolved := Array.replicate 124 none
  statics := none }

def pool1 : Array CpInfo := pool [(2, .class_ 4), (1, u "java/lang/Object"), (0, u "<init>"), (0, u "()V"), (0, .long 255), (1, .class_ 10), (0, u "java/lang/String"), (0, .methodref 9 12), (0, .nameAndType 5 13), (0, u "([C)V"), (0, .methodref 15 16), (0, .class_ 17), (0, .nameAndType 18 19), (0, u "com/example/myna/myna/delivery/AttemptWithBodyPinLaw"), (0, u "str"), (0, u "(JI)Ljava/lang/String;"), (0, .class_ 21), (0, u "com/example/myna/myna/delivery/Status"), (0, .fieldref 20 23), (0, .nameAndType 24 25), (0, u "PENDING"), (0, u "Lcom/example/myna/myna/delivery/Status;"), (0, .fieldref 20 27), (0, .nameAndType 28 25), (0, u "DELIVERED"), (0, .fieldref 20 30), (0, .nameAndType 31 25), (0, u "DEAD"), (0, .integer 2147483647), (0, .class_ 34), (0, u "com/example/myna/myna/delivery/Attempt"), (0, .methodref 33 36), (0, .nameAndType 5 37), (0, u "(Ljava/lang/String;Ljava/lang/String;Ljava/lang/String;Ljava/lang/String;ILcom/example/myna/myna/delivery/Status;Ljava/lang/String;Ljava/lang/String;[B)V"), (0, .methodref 33 39), (0, .nameAndType 40 41), (0, u "withBody"), (0, u "([B)Lcom/example/myna/myna/delivery/Attempt;"), (0, .methodref 33 43), (0, .nameAndType 44 45), (0, u "deliveryId"), (0, u "()Ljava/lang/String;"), (0, .methodref 33 47), (0, .nameAndType 48 45), (0, u "tenant"), (0, .methodref 33 50), (0, .nameAndType 51 45), (0, u "eventId"), (0, .methodref 33 53), (0, .nameAndType 54 45), (0, u "endpointId"), (0, .methodref 33 56), (0, .nameAndType 57 58), (0, u "number"), (0, u "()I"), (0, .methodref 33 60), (0, .nameAndType 61 62), (0, u "status"), (0, u "()Lcom/example/myna/myna/delivery/Status;"), (0, .methodref 33 64), (0, .nameAndType 65 45), (0, u "url"), (0, .methodref 33 67), (0, .nameAndType 68 45), (0, u "secret"), (0, .methodref 33 70), (0, .nameAndType 71 72), (0, u "body"), (0, u "()[B"), (2, u "law"), (0, u "(IIJI)Z")] 7

def k1m0 : Method := { name := "<init>", desc := "()V", sig := { parameters := [], returnType := none }, accessFlags := 1, code := none }
def k1c1 : Code := { maxStack := 6, maxLocals := 4, code := method_2_code, exceptionTable := #[], attributes := #[] }
def k1m1 : Method := { name := "str", desc := "(JI)Ljava/lang/String;", sig := { parameters := [.long, .int], returnType := some (.object "java/lang/String") }, accessFlags := 10, code := some k1c1 }
def k1c2 : Code := { maxStack := 11, maxLocals := 17, code := code, exceptionTable := #[], attributes := #[] }
def k1m2 : Method := { name := "law", desc := "(IIJI)Z", sig := { parameters := [.int, .int, .long, .int], returnType := some .boolean }, accessFlags := 9, code := some k1c2 }
/-- com/example/myna/myna/delivery/AttemptWithBodyPinLaw -/
def k1 : Class := { plain "com/example/myna/myna/delivery/AttemptWithBodyPinLaw" (some 0) with
  accessFlags := 49
  interfaces := #[]
  cf := some (fileOf pool1 15 #[] #[{ accessFlags := 1, nameIndex := 5, descriptorIndex := 6, attributes := #[] }, { accessFlags := 10, nameIndex := 18, descriptorIndex := 19, attributes := #[] }, { accessFlags := 9, nameIndex := 75, descriptorIndex := 76, attributes := #[] }] 49 2 #[] #[])
  fields := #[]
  methods := #[k1m0, k1m1, k1m2]
  instanceTypes := #[]
  staticTypes := #[]
  resolved := Array.replicate 84 none
  statics := none }

def pool2 : Array CpInfo := pool [(1, .class_ 2), (0, u "java/io/Serializable"), (0, .class_ 4), (0, u "java/lang/Object")] 2

/-- java/io/Serializable -/
def k2 : Class := { plain "java/io/Serializable" (some 0) with
  accessFlags := 1537
  interfaces := #[]
  cf := some (fileOf pool2 1 #[] #[] 1537 3 #[] #[])
  fields := #[]
  methods := #[]
  instanceTypes := #[]
  staticTypes := #[]
  resolved := Array.replicate 7 none
  statics := none }

def pool3 : Array CpInfo := pool [(1, .class_ 2), (0, u "java/lang/Comparable"), (0, .class_ 4), (0, u "java/lang/Object")] 7

/-- java/lang/Comparable -/
def k3 : Class := { plain "java/lang/Comparable" (some 0) with
  accessFlags := 1537
  interfaces := #[]
  cf := some (fileOf pool3 1 #[] #[] 1537 3 #[] #[])
  fields := #[]
  methods := #[]
  instanceTypes := #[]
  staticTypes := #[]
  resolved := Array.replicate 12 none
  statics := none }

def pool4 : Array CpInfo := pool [(2, .class_ 4), (1, u "java/lang/CharSequence"), (42, .class_ 48), (0, u "java/lang/CharSequence$1CodePointIterator"), (10, .class_ 60), (0, u "java/lang/CharSequence$1CharIterator"), (5, .class_ 67), (0, u "java/lang/Object")] 63

/-- java/lang/CharSequence -/
def k4 : Class := { plain "java/lang/CharSequence" (some 0) with
  accessFlags := 1537
  interfaces := #[]
  cf := some (fileOf pool4 2 #[.nestMembers #[47, 59]] #[] 1537 66 #[] #[])
  fields := #[]
  methods := #[]
  instanceTypes := #[]
  staticTypes := #[]
  resolved := Array.replicate 131 none
  statics := none }

def pool5 : Array CpInfo := pool [(1, .class_ 2), (0, u "java/lang/constant/Constable"), (0, .class_ 4), (0, u "java/lang/Object")] 6

/-- java/lang/constant/Constable -/
def k5 : Class := { plain "java/lang/constant/Constable" (some 0) with
  accessFlags := 1537
  interfaces := #[]
  cf := some (fileOf pool5 1 #[] #[] 1537 3 #[] #[])
  fields := #[]
  methods := #[]
  instanceTypes := #[]
  staticTypes := #[]
  resolved := Array.replicate 11 none
  statics := none }

def pool6 : Array CpInfo := pool [(1, .class_ 2), (0, u "java/lang/constant/ConstantDesc"), (0, .class_ 4), (0, u "java/lang/Object")] 32

/-- java/lang/constant/ConstantDesc -/
def k6 : Class := { plain "java/lang/constant/ConstantDesc" (some 0) with
  accessFlags := 1537
  interfaces := #[]
  cf := some (fileOf pool6 1 #[] #[] 1537 3 #[] #[])
  fields := #[]
  methods := #[]
  instanceTypes := #[]
  staticTypes := #[]
  resolved := Array.replicate 37 none
  statics := none }

def pool7 : Array CpInfo := pool [(1, .methodref 2 3), (0, .class_ 4), (0, .nameAndType 5 6), (0, u "java/lang/Object"), (0, u "<init>"), (0, u "()V"), (2, .fieldref 10 11), (0, .class_ 12), (0, .nameAndType 13 14), (0, u "java/lang/String"), (0, u "value"), (0, u "[B"), (0, .fieldref 10 16), (0, .nameAndType 17 18), (0, u "coder"), (0, u "B"), (2, u "hash"), (0, u "I"), (2, u "hashIsZero"), (0, u "Z"), (0, .methodref 10 28), (0, .nameAndType 5 29), (0, u "([CIILjava/lang/Void;)V"), (8, .fieldref 10 39), (0, .nameAndType 40 26), (0, u "COMPACT_STRINGS"), (1, .class_ 44), (1, u "java/lang/StringUTF16"), (0, u "compress"), (1, .methodref 42 48), (0, .nameAndType 49 50), (0, u "coderFromArrayLen"), (0, u "([BI)B"), (126, .methodref 42 178), (0, .nameAndType 45 179), (0, u "([CII)[B"), (395, .class_ 576), (0, u "java/lang/CharSequence"), (22, u "CASE_INSENSITIVE_ORDER"), (0, u "Ljava/util/Comparator;"), (409, u "([C)V"), (90, u "serialPersistentFields"), (0, u "[Ljava/io/ObjectStreamField;"), (0, .class_ 1104), (0, u "java/lang/String$CaseInsensitiveComparator"), (1, .class_ 1107), (0, u "java/io/Serializable"), (0, .class_ 1109), (0, u "java/lang/Comparable"), (0, .class_ 1111), (0, u "java/lang/constant/Constable"), (0, .class_ 1113), (0, u "java/lang/constant/ConstantDesc"), (2, u "serialVersionUID"), (0, u "J"), (3, u "REPL"), (0, u "C"), (2, u "LATIN1"), (1, u "UTF16")] 323

def k7m0 : Method := { name := "<init>", desc := "()V", sig := { parameters := [], returnType := none }, accessFlags := 1, code := none }
def k7c1 : Code := { maxStack := 5, maxLocals := 2, code := jdk_42_method_3_code, exceptionTable := #[], attributes := #[] }
def k7m1 : Method := { name := "<init>", desc := "([C)V", sig := { parameters := [(.array .char)], returnType := none }, accessFlags := 1, code := some k7c1 }
def k7c2 : Code := { maxStack := 4, maxLocals := 6, code := jdk_42_method_149_code, exceptionTable := #[], attributes := #[] }
def k7m2 : Method := { name := "<init>", desc := "([CIILjava/lang/Void;)V", sig := { parameters := [(.array .char), .int, .int, (.object "java/lang/Void")], returnType := none }, accessFlags := 2, code := some k7c2 }
/-- java/lang/String -/
def k7 : Class := { plain "java/lang/String" (some 0) with
  accessFlags := 49
  interfaces := #[2, 3, 4, 5, 6]
  cf := some (fileOf pool7 10 #[.nestMembers #[1103]] #[{ accessFlags := 1, nameIndex := 5, descriptorIndex := 6, attributes := #[] }, { accessFlags := 1, nameIndex := 5, descriptorIndex := 1010, attributes := #[] }, { accessFlags := 2, nameIndex := 5, descriptorIndex := 29, attributes := #[] }] 49 2 #[1106, 1108, 575, 1110, 1112] #[{ accessFlags := 18, nameIndex := 13, descriptorIndex := 14, attributes := #[] }, { accessFlags := 18, nameIndex := 17, descriptorIndex := 18, attributes := #[] }, { accessFlags := 2, nameIndex := 21, descriptorIndex := 22, attributes := #[] }, { accessFlags := 2, nameIndex := 25, descriptorIndex := 26, attributes := #[] }, { accessFlags := 26, nameIndex := 1116, descriptorIndex := 1117, attributes := #[] }, { accessFlags := 24, nameIndex := 40, descriptorIndex := 26, attributes := #[] }, { accessFlags := 26, nameIndex := 1101, descriptorIndex := 1102, attributes := #[] }, { accessFlags := 26, nameIndex := 1121, descriptorIndex := 1122, attributes := #[] }, { accessFlags := 25, nameIndex := 599, descriptorIndex := 600, attributes := #[] }, { accessFlags := 24, nameIndex := 1125, descriptorIndex := 18, attributes := #[] }, { accessFlags := 24, nameIndex := 1127, descriptorIndex := 18, attributes := #[] }])
  fields := #[{ name := "value", type := (.array .byte), accessFlags := 18, slot := 0, constantValue := 0 }, { name := "coder", type := .byte, accessFlags := 18, slot := 1, constantValue := 0 }, { name := "hash", type := .int, accessFlags := 2, slot := 2, constantValue := 0 }, { name := "hashIsZero", type := .boolean, accessFlags := 2, slot := 3, constantValue := 0 }, { name := "serialVersionUID", type := .long, accessFlags := 26, slot := 0, constantValue := 0 }, { name := "COMPACT_STRINGS", type := .boolean, accessFlags := 24, slot := 1, constantValue := 0 }, { name := "serialPersistentFields", type := (.array (.object "java/io/ObjectStreamField")), accessFlags := 26, slot := 2, constantValue := 0 }, { name := "REPL", type := .char, accessFlags := 26, slot := 3, constantValue := 0 }, { name := "CASE_INSENSITIVE_ORDER", type := (.object "java/util/Comparator"), accessFlags := 25, slot := 4, constantValue := 0 }, { name := "LATIN1", type := .byte, accessFlags := 24, slot := 5, constantValue := 0 }, { name := "UTF16", type := .byte, accessFlags := 24, slot := 6, constantValue := 0 }]
  methods := #[k7m0, k7m1, k7m2]
  instanceTypes := #[(.array .byte), .byte, .int, .boolean]
  staticTypes := #[.long, .boolean, (.array (.object "java/io/ObjectStreamField")), .char, (.object "java/util/Comparator"), .byte, .byte]
  resolved := Array.replicate 1451 none
  statics := some 0 }

def pool8 : Array CpInfo := pool [(6, .class_ 8), (1, u "java/lang/Object"), (0, u "<init>"), (0, u "()V"), (1, .class_ 14), (1, u "java/lang/StringUTF16"), (31, u "$assertionsDisabled"), (0, u "Z"), (13, u "HI_BYTE_SHIFT"), (0, u "I"), (2, u "LO_BYTE_SHIFT"), (49, .methodref 12 116), (0, .nameAndType 117 118), (0, u "compress"), (0, u "([CI[BII)I"), (3, u "([CII)[B"), (138, u "coderFromArrayLen"), (0, u "([BI)B"), (106, .class_ 371), (1, u "java/lang/StringUTF16$LinesSpliterator"), (58, u "MAX_LENGTH"), (196, .class_ 628), (0, u "java/lang/StringUTF16$CodePointsSpliterator"), (0, .class_ 630), (0, u "java/lang/StringUTF16$CharsSpliterator")] 4

def k8m0 : Method := { name := "<init>", desc := "()V", sig := { parameters := [], returnType := none }, accessFlags := 0, code := none }
def k8c1 : Code := { maxStack := 2, maxLocals := 2, code := jdk_52_method_15_code, exceptionTable := #[], attributes := #[] }
def k8m1 : Method := { name := "coderFromArrayLen", desc := "([BI)B", sig := { parameters := [(.array .byte), .int], returnType := some .byte }, accessFlags := 8, code := some k8c1 }
def k8c2 : Code := { maxStack := 5, maxLocals := 6, code := jdk_52_method_16_code, exceptionTable := #[], attributes := #[] }
def k8m2 : Method := { name := "compress", desc := "([CII)[B", sig := { parameters := [(.array .char), .int, .int], returnType := some (.array .byte) }, accessFlags := 9, code := some k8c2 }
def k8c3 : Code := { maxStack := 3, maxLocals := 7, code := jdk_52_method_21_code, exceptionTable := #[], attributes := #[] }
def k8m3 : Method := { name := "compress", desc := "([CI[BII)I", sig := { parameters := [(.array .char), .int, (.array .byte), .int, .int], returnType := some .int }, accessFlags := 9, code := some k8c3 }
/-- java/lang/StringUTF16 -/
def k8 : Class := { plain "java/lang/StringUTF16" (some 0) with
  accessFlags := 48
  interfaces := #[]
  cf := some (fileOf pool8 12 #[.nestMembers #[627, 629, 369]] #[{ accessFlags := 0, nameIndex := 9, descriptorIndex := 10, attributes := #[] }, { accessFlags := 8, nameIndex := 261, descriptorIndex := 262, attributes := #[] }, { accessFlags := 9, nameIndex := 117, descriptorIndex := 122, attributes := #[] }, { accessFlags := 9, nameIndex := 117, descriptorIndex := 118, attributes := #[] }] 48 6 #[] #[{ accessFlags := 26, nameIndex := 61, descriptorIndex := 62, attributes := #[] }, { accessFlags := 26, nameIndex := 65, descriptorIndex := 62, attributes := #[] }, { accessFlags := 24, nameIndex := 430, descriptorIndex := 62, attributes := #[] }, { accessFlags := 4120, nameIndex := 46, descriptorIndex := 47, attributes := #[] }])
  fields := #[{ name := "HI_BYTE_SHIFT", type := .int, accessFlags := 26, slot := 0, constantValue := 0 }, { name := "LO_BYTE_SHIFT", type := .int, accessFlags := 26, slot := 1, constantValue := 0 }, { name := "MAX_LENGTH", type := .int, accessFlags := 24, slot := 2, constantValue := 0 }, { name := "$assertionsDisabled", type := .boolean, accessFlags := 4120, slot := 3, constantValue := 0 }]
  methods := #[k8m0, k8m1, k8m2, k8m3]
  instanceTypes := #[]
  staticTypes := #[.int, .int, .int, .boolean]
  resolved := Array.replicate 635 none
  statics := none }

def pool9 : Array CpInfo := pool [(2, .class_ 4), (1, u "java/lang/Enum"), (0, u "name"), (0, u "Ljava/lang/String;"), (2, u "ordinal"), (0, u "I"), (1, .class_ 14), (1, u "java/lang/Object"), (4, u "hash"), (86, .class_ 108), (1, u "java/lang/Enum$EnumDesc"), (2, .class_ 112), (0, u "java/lang/constant/Constable"), (0, .class_ 114), (0, u "java/lang/Comparable"), (0, .class_ 116), (0, u "java/io/Serializable")] 87

/-- java/lang/Enum -/
def k9 : Class := { plain "java/lang/Enum" (some 0) with
  accessFlags := 1057
  interfaces := #[5, 3, 2]
  cf := some (fileOf pool9 2 #[.nestMembers #[106]] #[] 1057 12 #[111, 113, 115] #[{ accessFlags := 18, nameIndex := 5, descriptorIndex := 6, attributes := #[] }, { accessFlags := 18, nameIndex := 9, descriptorIndex := 10, attributes := #[] }, { accessFlags := 2, nameIndex := 19, descriptorIndex := 10, attributes := #[] }])
  fields := #[{ name := "name", type := (.object "java/lang/String"), accessFlags := 18, slot := 0, constantValue := 0 }, { name := "ordinal", type := .int, accessFlags := 18, slot := 1, constantValue := 0 }, { name := "hash", type := .int, accessFlags := 2, slot := 2, constantValue := 0 }]
  methods := #[]
  instanceTypes := #[(.object "java/lang/String"), .int, .int]
  staticTypes := #[]
  resolved := Array.replicate 204 none
  statics := none }

def pool10 : Array CpInfo := pool [(1, .class_ 2), (0, u "com/example/myna/myna/delivery/Status"), (2, u "PENDING"), (0, u "Lcom/example/myna/myna/delivery/Status;"), (2, u "DELIVERED"), (2, u "DEAD"), (2, u "$VALUES"), (0, u "[Lcom/example/myna/myna/delivery/Status;"), (6, .class_ 25), (1, u "java/lang/Enum")] 48

/-- com/example/myna/myna/delivery/Status -/
def k10 : Class := { plain "com/example/myna/myna/delivery/Status" (some 9) with
  accessFlags := 16433
  interfaces := #[]
  cf := some (fileOf pool10 1 #[] #[] 16433 23 #[] #[{ accessFlags := 16409, nameIndex := 5, descriptorIndex := 6, attributes := #[] }, { accessFlags := 16409, nameIndex := 9, descriptorIndex := 6, attributes := #[] }, { accessFlags := 16409, nameIndex := 12, descriptorIndex := 6, attributes := #[] }, { accessFlags := 4122, nameIndex := 15, descriptorIndex := 16, attributes := #[] }])
  fields := #[{ name := "PENDING", type := (.object "com/example/myna/myna/delivery/Status"), accessFlags := 16409, slot := 0, constantValue := 0 }, { name := "DELIVERED", type := (.object "com/example/myna/myna/delivery/Status"), accessFlags := 16409, slot := 1, constantValue := 0 }, { name := "DEAD", type := (.object "com/example/myna/myna/delivery/Status"), accessFlags := 16409, slot := 2, constantValue := 0 }, { name := "$VALUES", type := (.array (.object "com/example/myna/myna/delivery/Status")), accessFlags := 4122, slot := 3, constantValue := 0 }]
  methods := #[]
  instanceTypes := #[(.object "java/lang/String"), .int, .int]
  staticTypes := #[(.object "com/example/myna/myna/delivery/Status"), (.object "com/example/myna/myna/delivery/Status"), (.object "com/example/myna/myna/delivery/Status"), (.array (.object "com/example/myna/myna/delivery/Status"))]
  resolved := Array.replicate 74 none
  statics := some 1 }

def pool11 : Array CpInfo := pool [(1, .methodref 2 3), (0, .class_ 4), (0, .nameAndType 5 6), (0, u "java/lang/Object"), (0, u "<init>"), (0, u "()V"), (0, .class_ 8), (0, u "java/lang/Record")] 13

def k11c0 : Code := { maxStack := 1, maxLocals := 1, code := jdk_30_method_1_code, exceptionTable := #[], attributes := #[] }
def k11m0 : Method := { name := "<init>", desc := "()V", sig := { parameters := [], returnType := none }, accessFlags := 4, code := some k11c0 }
/-- java/lang/Record -/
def k11 : Class := { plain "java/lang/Record" (some 0) with
  accessFlags := 1057
  interfaces := #[]
  cf := some (fileOf pool11 7 #[] #[{ accessFlags := 4, nameIndex := 5, descriptorIndex := 6, attributes := #[] }] 1057 2 #[] #[])
  fields := #[]
  methods := #[k11m0]
  instanceTypes := #[]
  staticTypes := #[]
  resolved := Array.replicate 22 none
  statics := none }

def pool12 : Array CpInfo := pool [(1, .methodref 2 3), (0, .class_ 4), (0, .nameAndType 5 6), (0, u "java/lang/Record"), (0, u "<init>"), (0, u "()V"), (0, .fieldref 8 9), (0, .class_ 10), (0, .nameAndType 11 12), (0, u "com/example/myna/myna/delivery/Attempt"), (0, u "deliveryId"), (0, u "Ljava/lang/String;"), (0, .fieldref 8 14), (0, .nameAndType 15 12), (0, u "tenant"), (0, .fieldref 8 17), (0, .nameAndType 18 12), (0, u "eventId"), (0, .fieldref 8 20), (0, .nameAndType 21 12), (0, u "endpointId"), (0, .fieldref 8 23), (0, .nameAndType 24 25), (0, u "number"), (0, u "I"), (0, .fieldref 8 27), (0, .nameAndType 28 29), (0, u "status"), (0, u "Lcom/example/myna/myna/delivery/Status;"), (0, .fieldref 8 31), (0, .nameAndType 32 12), (0, u "url"), (0, .fieldref 8 34), (0, .nameAndType 35 12), (0, u "secret"), (0, .fieldref 8 37), (0, .nameAndType 38 39), (0, u "body"), (0, u "[B"), (5, .methodref 8 46), (0, .nameAndType 5 47), (0, u "(Ljava/lang/String;Ljava/lang/String;Ljava/lang/String;Ljava/lang/String;ILcom/example/myna/myna/delivery/Status;Ljava/lang/String;Ljava/lang/String;[B)V"), (17, u "withBody"), (0, u "([B)Lcom/example/myna/myna/delivery/Attempt;"), (1, u "()Ljava/lang/String;"), (0, u "()I"), (1, u "()Lcom/example/myna/myna/delivery/Status;"), (0, u "()[B")] 36

def k12c0 : Code := { maxStack := 2, maxLocals := 10, code := prog_9_method_1_code, exceptionTable := #[], attributes := #[] }
def k12m0 : Method := { name := "<init>", desc := "(Ljava/lang/String;Ljava/lang/String;Ljava/lang/String;Ljava/lang/String;ILcom/example/myna/myna/delivery/Status;Ljava/lang/String;Ljava/lang/String;[B)V", sig := { parameters := [(.object "java/lang/String"), (.object "java/lang/String"), (.object "java/lang/String"), (.object "java/lang/String"), .int, (.object "com/example/myna/myna/delivery/Status"), (.object "java/lang/String"), (.object "java/lang/String"), (.array .byte)], returnType := none }, accessFlags := 0, code := some k12c0 }
def k12c1 : Code := { maxStack := 11, maxLocals := 2, code := prog_9_method_3_code, exceptionTable := #[], attributes := #[] }
def k12m1 : Method := { name := "withBody", desc := "([B)Lcom/example/myna/myna/delivery/Attempt;", sig := { parameters := [(.array .byte)], returnType := some (.object "com/example/myna/myna/delivery/Attempt") }, accessFlags := 0, code := some k12c1 }
def k12c2 : Code := { maxStack := 1, maxLocals := 1, code := prog_9_method_7_code, exceptionTable := #[], attributes := #[] }
def k12m2 : Method := { name := "deliveryId", desc := "()Ljava/lang/String;", sig := { parameters := [], returnType := some (.object "java/lang/String") }, accessFlags := 1, code := some k12c2 }
def k12c3 : Code := { maxStack := 1, maxLocals := 1, code := prog_9_method_8_code, exceptionTable := #[], attributes := #[] }
def k12m3 : Method := { name := "tenant", desc := "()Ljava/lang/String;", sig := { parameters := [], returnType := some (.object "java/lang/String") }, accessFlags := 1, code := some k12c3 }
def k12c4 : Code := { maxStack := 1, maxLocals := 1, code := prog_9_method_9_code, exceptionTable := #[], attributes := #[] }
def k12m4 : Method := { name := "eventId", desc := "()Ljava/lang/String;", sig := { parameters := [], returnType := some (.object "java/lang/String") }, accessFlags := 1, code := some k12c4 }
def k12c5 : Code := { maxStack := 1, maxLocals := 1, code := prog_9_method_10_code, exceptionTable := #[], attributes := #[] }
def k12m5 : Method := { name := "endpointId", desc := "()Ljava/lang/String;", sig := { parameters := [], returnType := some (.object "java/lang/String") }, accessFlags := 1, code := some k12c5 }
def k12c6 : Code := { maxStack := 1, maxLocals := 1, code := prog_9_method_11_code, exceptionTable := #[], attributes := #[] }
def k12m6 : Method := { name := "number", desc := "()I", sig := { parameters := [], returnType := some .int }, accessFlags := 1, code := some k12c6 }
def k12c7 : Code := { maxStack := 1, maxLocals := 1, code := prog_9_method_12_code, exceptionTable := #[], attributes := #[] }
def k12m7 : Method := { name := "status", desc := "()Lcom/example/myna/myna/delivery/Status;", sig := { parameters := [], returnType := some (.object "com/example/myna/myna/delivery/Status") }, accessFlags := 1, code := some k12c7 }
def k12c8 : Code := { maxStack := 1, maxLocals := 1, code := prog_9_method_13_code, exceptionTable := #[], attributes := #[] }
def k12m8 : Method := { name := "url", desc := "()Ljava/lang/String;", sig := { parameters := [], returnType := some (.object "java/lang/String") }, accessFlags := 1, code := some k12c8 }
def k12c9 : Code := { maxStack := 1, maxLocals := 1, code := prog_9_method_14_code, exceptionTable := #[], attributes := #[] }
def k12m9 : Method := { name := "secret", desc := "()Ljava/lang/String;", sig := { parameters := [], returnType := some (.object "java/lang/String") }, accessFlags := 1, code := some k12c9 }
def k12c10 : Code := { maxStack := 1, maxLocals := 1, code := prog_9_method_15_code, exceptionTable := #[], attributes := #[] }
def k12m10 : Method := { name := "body", desc := "()[B", sig := { parameters := [], returnType := some (.array .byte) }, accessFlags := 1, code := some k12c10 }
/-- com/example/myna/myna/delivery/Attempt -/
def k12 : Class := { plain "com/example/myna/myna/delivery/Attempt" (some 11) with
  accessFlags := 48
  interfaces := #[]
  cf := some (fileOf pool12 8 #[] #[{ accessFlags := 0, nameIndex := 5, descriptorIndex := 47, attributes := #[] }, { accessFlags := 0, nameIndex := 65, descriptorIndex := 66, attributes := #[] }, { accessFlags := 1, nameIndex := 11, descriptorIndex := 68, attributes := #[] }, { accessFlags := 1, nameIndex := 15, descriptorIndex := 68, attributes := #[] }, { accessFlags := 1, nameIndex := 18, descriptorIndex := 68, attributes := #[] }, { accessFlags := 1, nameIndex := 21, descriptorIndex := 68, attributes := #[] }, { accessFlags := 1, nameIndex := 24, descriptorIndex := 69, attributes := #[] }, { accessFlags := 1, nameIndex := 28, descriptorIndex := 71, attributes := #[] }, { accessFlags := 1, nameIndex := 32, descriptorIndex := 68, attributes := #[] }, { accessFlags := 1, nameIndex := 35, descriptorIndex := 68, attributes := #[] }, { accessFlags := 1, nameIndex := 38, descriptorIndex := 72, attributes := #[] }] 48 2 #[] #[{ accessFlags := 18, nameIndex := 11, descriptorIndex := 12, attributes := #[] }, { accessFlags := 18, nameIndex := 15, descriptorIndex := 12, attributes := #[] }, { accessFlags := 18, nameIndex := 18, descriptorIndex := 12, attributes := #[] }, { accessFlags := 18, nameIndex := 21, descriptorIndex := 12, attributes := #[] }, { accessFlags := 18, nameIndex := 24, descriptorIndex := 25, attributes := #[] }, { accessFlags := 18, nameIndex := 28, descriptorIndex := 29, attributes := #[] }, { accessFlags := 18, nameIndex := 32, descriptorIndex := 12, attributes := #[] }, { accessFlags := 18, nameIndex := 35, descriptorIndex := 12, attributes := #[] }, { accessFlags := 18, nameIndex := 38, descriptorIndex := 39, attributes := #[] }])
  fields := #[{ name := "deliveryId", type := (.object "java/lang/String"), accessFlags := 18, slot := 0, constantValue := 0 }, { name := "tenant", type := (.object "java/lang/String"), accessFlags := 18, slot := 1, constantValue := 0 }, { name := "eventId", type := (.object "java/lang/String"), accessFlags := 18, slot := 2, constantValue := 0 }, { name := "endpointId", type := (.object "java/lang/String"), accessFlags := 18, slot := 3, constantValue := 0 }, { name := "number", type := .int, accessFlags := 18, slot := 4, constantValue := 0 }, { name := "status", type := (.object "com/example/myna/myna/delivery/Status"), accessFlags := 18, slot := 5, constantValue := 0 }, { name := "url", type := (.object "java/lang/String"), accessFlags := 18, slot := 6, constantValue := 0 }, { name := "secret", type := (.object "java/lang/String"), accessFlags := 18, slot := 7, constantValue := 0 }, { name := "body", type := (.array .byte), accessFlags := 18, slot := 8, constantValue := 0 }]
  methods := #[k12m0, k12m1, k12m2, k12m3, k12m4, k12m5, k12m6, k12m7, k12m8, k12m9, k12m10]
  instanceTypes := #[(.object "java/lang/String"), (.object "java/lang/String"), (.object "java/lang/String"), (.object "java/lang/String"), .int, (.object "com/example/myna/myna/delivery/Status"), (.object "java/lang/String"), (.object "java/lang/String"), (.array .byte)]
  staticTypes := #[]
  resolved := Array.replicate 109 none
  statics := none }

def pool13 : Array CpInfo := pool [(4, .class_ 6), (1, u "java/lang/Object"), (0, u "<init>"), (0, u "()V"), (5, .class_ 16), (1, u "java/lang/StringLatin1"), (104, u "$assertionsDisabled"), (0, u "Z"), (98, .class_ 223), (1, u "java/lang/StringLatin1$LinesSpliterator"), (166, .class_ 391), (0, u "java/lang/StringLatin1$CharsSpliterator")] 3

def k13m0 : Method := { name := "<init>", desc := "()V", sig := { parameters := [], returnType := none }, accessFlags := 0, code := none }
/-- java/lang/StringLatin1 -/
def k13 : Class := { plain "java/lang/StringLatin1" (some 0) with
  accessFlags := 48
  interfaces := #[]
  cf := some (fileOf pool13 14 #[.nestMembers #[390, 221]] #[{ accessFlags := 0, nameIndex := 7, descriptorIndex := 8, attributes := #[] }] 48 4 #[] #[{ accessFlags := 4120, nameIndex := 121, descriptorIndex := 122, attributes := #[] }])
  fields := #[{ name := "$assertionsDisabled", type := .boolean, accessFlags := 4120, slot := 0, constantValue := 0 }]
  methods := #[k13m0]
  instanceTypes := #[]
  staticTypes := #[.boolean]
  resolved := Array.replicate 395 none
  statics := none }

def pool14 : Array CpInfo := pool [(2, .class_ 4), (1, u "java/lang/Object"), (0, u "<init>"), (0, u "()V"), (17, .class_ 26), (1, u "jdk/internal/util/Preconditions"), (28, .class_ 56), (0, u "jdk/internal/util/Preconditions$4"), (57, .class_ 115), (0, u "jdk/internal/util/Preconditions$1"), (7, u "SIOOBE_FORMATTER"), (0, u "Ljava/util/function/BiFunction;"), (0, .class_ 126), (0, u "jdk/internal/util/Preconditions$2"), (3, u "AIOOBE_FORMATTER"), (0, .class_ 132), (0, u "jdk/internal/util/Preconditions$3"), (3, u "IOOBE_FORMATTER")] 57

def k14m0 : Method := { name := "<init>", desc := "()V", sig := { parameters := [], returnType := none }, accessFlags := 1, code := none }
/-- jdk/internal/util/Preconditions -/
def k14 : Class := { plain "jdk/internal/util/Preconditions" (some 0) with
  accessFlags := 33
  interfaces := #[]
  cf := some (fileOf pool14 24 #[.nestMembers #[55, 131, 125, 114]] #[{ accessFlags := 1, nameIndex := 5, descriptorIndex := 6, attributes := #[] }] 33 2 #[] #[{ accessFlags := 25, nameIndex := 123, descriptorIndex := 124, attributes := #[] }, { accessFlags := 25, nameIndex := 130, descriptorIndex := 124, attributes := #[] }, { accessFlags := 25, nameIndex := 136, descriptorIndex := 124, attributes := #[] }])
  fields := #[{ name := "SIOOBE_FORMATTER", type := (.object "java/util/function/BiFunction"), accessFlags := 25, slot := 0, constantValue := 0 }, { name := "AIOOBE_FORMATTER", type := (.object "java/util/function/BiFunction"), accessFlags := 25, slot := 1, constantValue := 0 }, { name := "IOOBE_FORMATTER", type := (.object "java/util/function/BiFunction"), accessFlags := 25, slot := 2, constantValue := 0 }]
  methods := #[k14m0]
  instanceTypes := #[]
  staticTypes := #[(.object "java/util/function/BiFunction"), (.object "java/util/function/BiFunction"), (.object "java/util/function/BiFunction")]
  resolved := Array.replicate 194 none
  statics := some 2 }

def pool15 : Array CpInfo := pool [(9, u "<init>"), (6, .class_ 18), (1, u "java/lang/Object"), (0, u "()V"), (1, .class_ 23), (1, u "jdk/internal/util/ArraysSupport"), (0, u "LOG2_ARRAY_LONG_INDEX_SCALE"), (0, u "I"), (2, u "U"), (0, u "Ljdk/internal/misc/Unsafe;"), (8, u "BIG_ENDIAN"), (0, u "Z"), (8, u "LOG2_BYTE_BIT_SIZE"), (4, u "LOG2_ARRAY_INT_INDEX_SCALE"), (54, u "JLA"), (0, u "Ljdk/internal/access/JavaLangAccess;"), (11, u "LOG2_ARRAY_BOOLEAN_INDEX_SCALE"), (9, u "LOG2_ARRAY_BYTE_INDEX_SCALE"), (5, u "LOG2_ARRAY_CHAR_INDEX_SCALE"), (5, u "LOG2_ARRAY_SHORT_INDEX_SCALE"), (18, u "LOG2_ARRAY_FLOAT_INDEX_SCALE"), (24, u "LOG2_ARRAY_DOUBLE_INDEX_SCALE"), (89, u "T_BOOLEAN"), (2, u "T_CHAR"), (1, u "T_FLOAT"), (1, u "T_DOUBLE"), (1, u "T_BYTE"), (1, u "T_SHORT"), (1, u "T_INT"), (1, u "T_LONG"), (1, u "SOFT_MAX_ARRAY_LENGTH")] 83

def k15m0 : Method := { name := "<init>", desc := "()V", sig := { parameters := [], returnType := none }, accessFlags := 2, code := none }
/-- jdk/internal/util/ArraysSupport -/
def k15 : Class := { plain "jdk/internal/util/ArraysSupport" (some 0) with
  accessFlags := 33
  interfaces := #[]
  cf := some (fileOf pool15 21 #[] #[{ accessFlags := 2, nameIndex := 9, descriptorIndex := 19, attributes := #[] }] 33 16 #[] #[{ accessFlags := 24, nameIndex := 28, descriptorIndex := 29, attributes := #[] }, { accessFlags := 26, nameIndex := 38, descriptorIndex := 39, attributes := #[] }, { accessFlags := 25, nameIndex := 121, descriptorIndex := 25, attributes := #[] }, { accessFlags := 25, nameIndex := 131, descriptorIndex := 25, attributes := #[] }, { accessFlags := 25, nameIndex := 137, descriptorIndex := 25, attributes := #[] }, { accessFlags := 25, nameIndex := 143, descriptorIndex := 25, attributes := #[] }, { accessFlags := 25, nameIndex := 53, descriptorIndex := 25, attributes := #[] }, { accessFlags := 25, nameIndex := 24, descriptorIndex := 25, attributes := #[] }, { accessFlags := 25, nameIndex := 162, descriptorIndex := 25, attributes := #[] }, { accessFlags := 25, nameIndex := 187, descriptorIndex := 25, attributes := #[] }, { accessFlags := 26, nameIndex := 48, descriptorIndex := 25, attributes := #[] }, { accessFlags := 25, nameIndex := 277, descriptorIndex := 25, attributes := #[] }, { accessFlags := 25, nameIndex := 280, descriptorIndex := 25, attributes := #[] }, { accessFlags := 25, nameIndex := 282, descriptorIndex := 25, attributes := #[] }, { accessFlags := 25, nameIndex := 284, descriptorIndex := 25, attributes := #[] }, { accessFlags := 25, nameIndex := 286, descriptorIndex := 25, attributes := #[] }, { accessFlags := 25, nameIndex := 288, descriptorIndex := 25, attributes := #[] }, { accessFlags := 25, nameIndex := 290, descriptorIndex := 25, attributes := #[] }, { accessFlags := 25, nameIndex := 292, descriptorIndex := 25, attributes := #[] }, { accessFlags := 26, nameIndex := 108, descriptorIndex := 109, attributes := #[] }, { accessFlags := 25, nameIndex := 294, descriptorIndex := 25, attributes := #[] }])
  fields := #[{ name := "U", type := (.object "jdk/internal/misc/Unsafe"), accessFlags := 24, slot := 0, constantValue := 0 }, { name := "BIG_ENDIAN", type := .boolean, accessFlags := 26, slot := 1, constantValue := 0 }, { name := "LOG2_ARRAY_BOOLEAN_INDEX_SCALE", type := .int, accessFlags := 25, slot := 2, constantValue := 0 }, { name := "LOG2_ARRAY_BYTE_INDEX_SCALE", type := .int, accessFlags := 25, slot := 3, constantValue := 0 }, { name := "LOG2_ARRAY_CHAR_INDEX_SCALE", type := .int, accessFlags := 25, slot := 4, constantValue := 0 }, { name := "LOG2_ARRAY_SHORT_INDEX_SCALE", type := .int, accessFlags := 25, slot := 5, constantValue := 0 }, { name := "LOG2_ARRAY_INT_INDEX_SCALE", type := .int, accessFlags := 25, slot := 6, constantValue := 0 }, { name := "LOG2_ARRAY_LONG_INDEX_SCALE", type := .int, accessFlags := 25, slot := 7, constantValue := 0 }, { name := "LOG2_ARRAY_FLOAT_INDEX_SCALE", type := .int, accessFlags := 25, slot := 8, constantValue := 0 }, { name := "LOG2_ARRAY_DOUBLE_INDEX_SCALE", type := .int, accessFlags := 25, slot := 9, constantValue := 0 }, { name := "LOG2_BYTE_BIT_SIZE", type := .int, accessFlags := 26, slot := 10, constantValue := 0 }, { name := "T_BOOLEAN", type := .int, accessFlags := 25, slot := 11, constantValue := 0 }, { name := "T_CHAR", type := .int, accessFlags := 25, slot := 12, constantValue := 0 }, { name := "T_FLOAT", type := .int, accessFlags := 25, slot := 13, constantValue := 0 }, { name := "T_DOUBLE", type := .int, accessFlags := 25, slot := 14, constantValue := 0 }, { name := "T_BYTE", type := .int, accessFlags := 25, slot := 15, constantValue := 0 }, { name := "T_SHORT", type := .int, accessFlags := 25, slot := 16, constantValue := 0 }, { name := "T_INT", type := .int, accessFlags := 25, slot := 17, constantValue := 0 }, { name := "T_LONG", type := .int, accessFlags := 25, slot := 18, constantValue := 0 }, { name := "JLA", type := (.object "jdk/internal/access/JavaLangAccess"), accessFlags := 26, slot := 19, constantValue := 0 }, { name := "SOFT_MAX_ARRAY_LENGTH", type := .int, accessFlags := 25, slot := 20, constantValue := 0 }]
  methods := #[k15m0]
  instanceTypes := #[]
  staticTypes := #[(.object "jdk/internal/misc/Unsafe"), .boolean, .int, .int, .int, .int, .int, .int, .int, .int, .int, .int, .int, .int, .int, .int, .int, .int, .int, (.object "jdk/internal/access/JavaLangAccess"), .int]
  resolved := Array.replicate 378 none
  statics := none }

def pool16 : Array CpInfo := pool [(1, u "java/lang/Cloneable"), (0, .class_ 1), (0, u "java/lang/Object"), (0, .class_ 3)] 3

/-- java/lang/Cloneable -/
def k16 : Class := { plain "java/lang/Cloneable" (some 0) with
  accessFlags := 1537
  interfaces := #[]
  cf := some (fileOf pool16 2 #[] #[] 1537 4 #[] #[])
  fields := #[]
  methods := #[]
  instanceTypes := #[]
  staticTypes := #[]
  resolved := Array.replicate 8 none
  statics := none }

/-- the primitive byte -/
def k17 : Class := { plain "byte" none with kind := .primitive 'B', accessFlags := 0x411 }
/-- [B -/
def k18 : Class := { plain "[B" (some 0) with kind := .array 17 .byte, interfaces := #[16, 2], accessFlags := 1041 }

/-- the primitive char -/
def k19 : Class := { plain "char" none with kind := .primitive 'C', accessFlags := 0x411 }
/-- [C -/
def k20 : Class := { plain "[C" (some 0) with kind := .array 19 .char, interfaces := #[16, 2], accessFlags := 1041 }

/-- the primitive int -/
def k21 : Class := { plain "int" none with kind := .primitive 'I', accessFlags := 0x411 }
/-- [I -/
def k22 : Class := { plain "[I" (some 0) with kind := .array 21 .int, interfaces := #[16, 2], accessFlags := 1041 }

/-- [Lcom/example/myna/myna/delivery/Status; -/
def k23 : Class := { plain "[Lcom/example/myna/myna/delivery/Status;" (some 0) with kind := .array 10 (.object "com/example/myna/myna/delivery/Status"), interfaces := #[16, 2], accessFlags := 1041 }

def heap : Heap := #[{ cls := 7, slots := #[.long 0, .int 1, .null, .int 0, .null, .int 0, .int 0], vm := .statics 7 },
  { cls := 10, slots := #[.ref 3, .ref 4, .ref 5, .null], vm := .statics 10 },
  { cls := 14, slots := #[.null, .null, .null], vm := .statics 14 },
  { cls := 10, slots := #[.null, .int 0, .int 0], vm := .none },
  { cls := 10, slots := #[.null, .int 1, .int 0], vm := .none },
  { cls := 10, slots := #[.null, .int 2, .int 0], vm := .none }]
def classes : Array Class := #[k0, k1, k2, k3, k4, k5, k6, k7, k8, k9, k10, k11, k12, k13, k14, k15, k16, k17, k18, k19, k20, k21, k22, k23]
def interned : List (Array UInt16 × Addr) := []
def slotsUsed : Nat := 23
def theMethod : MethodId := ⟨1, 2⟩
def args0 : Array Value := #[.int 1, .int 2, .long 3, .int 4]
def aboutOver (below : List Frame) : State where
  vm := { classes := classes, interned := interned.toArray }
  heap := heap
  slotsUsed := slotsUsed
  threads := #[{ frames := .invoking theMethod args0 :: below }]
def below0 : List Frame := [.native { method := ⟨0, 0⟩, args := #[] }]
def about1 : State := aboutOver below0
def p0 : Program := .bare "" "" ""
def e0 : Env := launch0.env 0 0 0
theorem w_frames : about1.frames = Frame.invoking theMethod args0 :: below0 := rfl
set_option maxRecDepth 65536 in
theorem w_args : argsFit about1.vm theMethod args0 = true := by decide +kernel
set_option maxRecDepth 65536 in
theorem w_heap : heapFits about1 = true := by decide +kernel
set_option maxRecDepth 65536 in
theorem w_runnable : about1.curStatus? = some .runnable := by decide +kernel
set_option maxRecDepth 65536 in
theorem w_alone : about1.alone = true := by decide +kernel
set_option maxRecDepth 65536 in
theorem w_named : about1.methodNamed? x = some theMethod := by decide +kernel
set_option maxRecDepth 65536 in
theorem w_hears : about1.hears theMethod below0 = true := by decide +kernel
set_option maxRecDepth 65536 in
theorem w_ripe : about1.ripe theMethod args0 below0 = true := by decide +kernel
theorem w_running : about1.status = .running := rfl
set_option maxRecDepth 65536 in
theorem w_room : about1.hasRoom e0.platform room_1 = true :=
  launch0.hasRoom_least _ room_1 (by decide +kernel) (by decide +kernel) (by decide +kernel) (by decide +kernel) (by decide +kernel) (by decide +kernel)
theorem allAtoms_all (ts : List Jvm.Cond) (a : Array Jvm.Value) (st : Jvm.State) : (allAtoms ts).before a st = ts.all (fun c => c.before a st) := by
  induction ts with
  | nil => rfl
  | cons c t ih =>
    show (Jvm.Cond.and c (allAtoms t)).before a st = _
    rw [Jvm.Cond.before_and, ih, List.all_cons]
def words1 : List Jvm.Cond := Jvm.Cond.code x code maxLocals ret :: tables_1
/-- a 'code' word, met by the world's own term for the bytes: nothing is compared byte by byte -/
theorem code_word {y : MethodName} {bytes : ByteArray} {mx : Nat} {rt : Option FieldType} {a : Array Value} {s : State} {m : MethodId} {meth : Method} {c : Code} (h1 : s.methodNamed? y = some m) (h2 : s.vm.method? m = some meth) (h3 : meth.code = some c) (h4 : c.code = bytes)
    (h5 : (c.maxLocals == mx && c.exceptionTable.isEmpty && decide (c.maxStack ≤ mostOperands) && decide (meth.sig.returnType = rt) && !meth.locks && decide (parseMethodDescriptor y.desc = some meth.sig)) = true) : (Jvm.Cond.code y bytes mx rt).before a s = true := by
  simp only [Bool.and_eq_true, beq_iff_eq, Bool.not_eq_true', decide_eq_true_eq] at h5
  obtain ⟨⟨⟨⟨⟨g1, g2⟩, g3⟩, g4⟩, g5⟩, g6⟩ := h5
  simp [Cond.before, Cond.holds, Cond.value, h1, h2, h3, h4, g1, g2, g3, g4, g5, g6]
def isCode : Jvm.Cond → Bool
  | .code _ _ _ _ => true
  | _ => false
theorem all_split {L : List Jvm.Cond} {P : Jvm.Cond → Bool} (h1 : L.all (fun c => isCode c || P c) = true) (h2 : ∀ c ∈ L.filter isCode, P c = true) : L.all P = true := by
  refine List.all_eq_true.mpr fun c hc => ?_
  have h := List.all_eq_true.mp h1 c hc
  rcases Bool.eq_false_or_eq_true (isCode c) with hi | hi
  · exact h2 c (List.mem_filter.mpr ⟨hc, hi⟩)
  · simpa [hi] using h
set_option maxRecDepth 65536 in
theorem w_c0 : (Jvm.Cond.code x code maxLocals ret).before args0 about1 = true := code_word (m := ⟨1, 2⟩) (meth := k1m2) (c := k1c2) (by decide +kernel) rfl rfl rfl (by decide +kernel)
set_option maxRecDepth 65536 in
theorem w_c1 : (Jvm.Cond.code ({ cls := "com/example/myna/myna/delivery/AttemptWithBodyPinLaw", name := "str", desc := "(JI)Ljava/lang/String;" } : Jvm.MethodName) method_2_code (4 : Nat) (Option.some (Jvm.ClassFile.FieldType.object "java/lang/String"))).before args0 about1 = true := code_word (m := ⟨1, 1⟩) (meth := k1m1) (c := k1c1) (by decide +kernel) rfl rfl rfl (by decide +kernel)
set_option maxRecDepth 65536 in
theorem w_c2 : (Jvm.Cond.code ({ cls := "java/lang/String", name := "<init>", desc := "([C)V" } : Jvm.MethodName) jdk_42_method_3_code (2 : Nat) (Option.none : Option Jvm.ClassFile.FieldType)).before args0 about1 = true := code_word (m := ⟨7, 1⟩) (meth := k7m1) (c := k7c1) (by decide +kernel) rfl rfl rfl (by decide +kernel)
set_option maxRecDepth 65536 in
theorem w_c3 : (Jvm.Cond.code ({ cls := "java/lang/String", name := "<init>", desc := "([CIILjava/lang/Void;)V" } : Jvm.MethodName) jdk_42_method_149_code (6 : Nat) (Option.none : Option Jvm.ClassFile.FieldType)).before args0 about1 = true := code_word (m := ⟨7, 2⟩) (meth := k7m2) (c := k7c2) (by decide +kernel) rfl rfl rfl (by decide +kernel)
set_option maxRecDepth 65536 in
theorem w_c4 : (Jvm.Cond.code ({ cls := "java/lang/Object", name := "<init>", desc := "()V" } : Jvm.MethodName) object_method_1_code (1 : Nat) (Option.none : Option Jvm.ClassFile.FieldType)).before args0 about1 = true := code_word (m := ⟨0, 0⟩) (meth := k0m0) (c := k0c0) (by decide +kernel) rfl rfl rfl (by decide +kernel)
set_option maxRecDepth 65536 in
theorem w_c5 : (Jvm.Cond.code ({ cls := "java/lang/StringUTF16", name := "compress", desc := "([CII)[B" } : Jvm.MethodName) jdk_52_method_16_code (6 : Nat) (Option.some (Jvm.ClassFile.FieldType.array Jvm.ClassFile.FieldType.byte))).before args0 about1 = true := code_word (m := ⟨8, 2⟩) (meth := k8m2) (c := k8c2) (by decide +kernel) rfl rfl rfl (by decide +kernel)
set_option maxRecDepth 65536 in
theorem w_c6 : (Jvm.Cond.code ({ cls := "java/lang/StringUTF16", name := "compress", desc := "([CI[BII)I" } : Jvm.MethodName) jdk_52_method_21_code (7 : Nat) (Option.some Jvm.ClassFile.FieldType.int)).before args0 about1 = true := code_word (m := ⟨8, 3⟩) (meth := k8m3) (c := k8c3) (by decide +kernel) rfl rfl rfl (by decide +kernel)
set_option maxRecDepth 65536 in
theorem w_c7 : (Jvm.Cond.code ({ cls := "java/lang/StringUTF16", name := "coderFromArrayLen", desc := "([BI)B" } : Jvm.MethodName) jdk_52_method_15_code (2 : Nat) (Option.some Jvm.ClassFile.FieldType.byte)).before args0 about1 = true := code_word (m := ⟨8, 1⟩) (meth := k8m1) (c := k8c1) (by decide +kernel) rfl rfl rfl (by decide +kernel)
set_option maxRecDepth 65536 in
theorem w_c8 : (Jvm.Cond.code ({ cls := "com/example/myna/myna/delivery/Attempt", name := "<init>", desc := "(Ljava/lang/String;Ljava/lang/String;Ljava/lang/String;Ljava/lang/String;ILcom/example/myna/myna/delivery/Status;Ljava/lang/String;Ljava/lang/String;[B)V" } : Jvm.MethodName) prog_9_method_1_code (10 : Nat) (Option.none : Option Jvm.ClassFile.FieldType)).before args0 about1 = true := code_word (m := ⟨12, 0⟩) (meth := k12m0) (c := k12c0) (by decide +kernel) rfl rfl rfl (by decide +kernel)
set_option maxRecDepth 65536 in
theorem w_c9 : (Jvm.Cond.code ({ cls := "java/lang/Record", name := "<init>", desc := "()V" } : Jvm.MethodName) jdk_30_method_1_code (1 : Nat) (Option.none : Option Jvm.ClassFile.FieldType)).before args0 about1 = true := code_word (m := ⟨11, 0⟩) (meth := k11m0) (c := k11c0) (by decide +kernel) rfl rfl rfl (by decide +kernel)
set_option maxRecDepth 65536 in
theorem w_c10 : (Jvm.Cond.code ({ cls := "com/example/myna/myna/delivery/Attempt", name := "withBody", desc := "([B)Lcom/example/myna/myna/delivery/Attempt;" } : Jvm.MethodName) prog_9_method_3_code (2 : Nat) (Option.some (Jvm.ClassFile.FieldType.object "com/example/myna/myna/delivery/Attempt"))).before args0 about1 = true := code_word (m := ⟨12, 1⟩) (meth := k12m1) (c := k12c1) (by decide +kernel) rfl rfl rfl (by decide +kernel)
set_option maxRecDepth 65536 in
theorem w_c11 : (Jvm.Cond.code ({ cls := "com/example/myna/myna/delivery/Attempt", name := "deliveryId", desc := "()Ljava/lang/String;" } : Jvm.MethodName) prog_9_method_7_code (1 : Nat) (Option.some (Jvm.ClassFile.FieldType.object "java/lang/String"))).before args0 about1 = true := code_word (m := ⟨12, 2⟩) (meth := k12m2) (c := k12c2) (by decide +kernel) rfl rfl rfl (by decide +kernel)
set_option maxRecDepth 65536 in
theorem w_c12 : (Jvm.Cond.code ({ cls := "com/example/myna/myna/delivery/Attempt", name := "tenant", desc := "()Ljava/lang/String;" } : Jvm.MethodName) prog_9_method_8_code (1 : Nat) (Option.some (Jvm.ClassFile.FieldType.object "java/lang/String"))).before args0 about1 = true := code_word (m := ⟨12, 3⟩) (meth := k12m3) (c := k12c3) (by decide +kernel) rfl rfl rfl (by decide +kernel)
set_option maxRecDepth 65536 in
theorem w_c13 : (Jvm.Cond.code ({ cls := "com/example/myna/myna/delivery/Attempt", name := "eventId", desc := "()Ljava/lang/String;" } : Jvm.MethodName) prog_9_method_9_code (1 : Nat) (Option.some (Jvm.ClassFile.FieldType.object "java/lang/String"))).before args0 about1 = true := code_word (m := ⟨12, 4⟩) (meth := k12m4) (c := k12c4) (by decide +kernel) rfl rfl rfl (by decide +kernel)
set_option maxRecDepth 65536 in
theorem w_c14 : (Jvm.Cond.code ({ cls := "com/example/myna/myna/delivery/Attempt", name := "endpointId", desc := "()Ljava/lang/String;" } : Jvm.MethodName) prog_9_method_10_code (1 : Nat) (Option.some (Jvm.ClassFile.FieldType.object "java/lang/String"))).before args0 about1 = true := code_word (m := ⟨12, 5⟩) (meth := k12m5) (c := k12c5) (by decide +kernel) rfl rfl rfl (by decide +kernel)
set_option maxRecDepth 65536 in
theorem w_c15 : (Jvm.Cond.code ({ cls := "com/example/myna/myna/delivery/Attempt", name := "number", desc := "()I" } : Jvm.MethodName) prog_9_method_11_code (1 : Nat) (Option.some Jvm.ClassFile.FieldType.int)).before args0 about1 = true := code_word (m := ⟨12, 6⟩) (meth := k12m6) (c := k12c6) (by decide +kernel) rfl rfl rfl (by decide +kernel)
set_option maxRecDepth 65536 in
theorem w_c16 : (Jvm.Cond.code ({ cls := "com/example/myna/myna/delivery/Attempt", name := "status", desc := "()Lcom/example/myna/myna/delivery/Status;" } : Jvm.MethodName) prog_9_method_12_code (1 : Nat) (Option.some (Jvm.ClassFile.FieldType.object "com/example/myna/myna/delivery/Status"))).before args0 about1 = true := code_word (m := ⟨12, 7⟩) (meth := k12m7) (c := k12c7) (by decide +kernel) rfl rfl rfl (by decide +kernel)
set_option maxRecDepth 65536 in
theorem w_c17 : (Jvm.Cond.code ({ cls := "com/example/myna/myna/delivery/Attempt", name := "url", desc := "()Ljava/lang/String;" } : Jvm.MethodName) prog_9_method_13_code (1 : Nat) (Option.some (Jvm.ClassFile.FieldType.object "java/lang/String"))).before args0 about1 = true := code_word (m := ⟨12, 8⟩) (meth := k12m8) (c := k12c8) (by decide +kernel) rfl rfl rfl (by decide +kernel)
set_option maxRecDepth 65536 in
theorem w_c18 : (Jvm.Cond.code ({ cls := "com/example/myna/myna/delivery/Attempt", name := "secret", desc := "()Ljava/lang/String;" } : Jvm.MethodName) prog_9_method_14_code (1 : Nat) (Option.some (Jvm.ClassFile.FieldType.object "java/lang/String"))).before args0 about1 = true := code_word (m := ⟨12, 9⟩) (meth := k12m9) (c := k12c9) (by decide +kernel) rfl rfl rfl (by decide +kernel)
set_option maxRecDepth 65536 in
theorem w_c19 : (Jvm.Cond.code ({ cls := "com/example/myna/myna/delivery/Attempt", name := "body", desc := "()[B" } : Jvm.MethodName) prog_9_method_15_code (1 : Nat) (Option.some (Jvm.ClassFile.FieldType.array Jvm.ClassFile.FieldType.byte))).before args0 about1 = true := code_word (m := ⟨12, 10⟩) (meth := k12m10) (c := k12c10) (by decide +kernel) rfl rfl rfl (by decide +kernel)
def codes1 : List Jvm.Cond := [Jvm.Cond.code x code maxLocals ret, Jvm.Cond.code ({ cls := "com/example/myna/myna/delivery/AttemptWithBodyPinLaw", name := "str", desc := "(JI)Ljava/lang/String;" } : Jvm.MethodName) method_2_code (4 : Nat) (Option.some (Jvm.ClassFile.FieldType.object "java/lang/String")), Jvm.Cond.code ({ cls := "java/lang/String", name := "<init>", desc := "([C)V" } : Jvm.MethodName) jdk_42_method_3_code (2 : Nat) (Option.none : Option Jvm.ClassFile.FieldType), Jvm.Cond.code ({ cls := "java/lang/String", name := "<init>", desc := "([CIILjava/lang/Void;)V" } : Jvm.MethodName) jdk_42_method_149_code (6 : Nat) (Option.none : Option Jvm.ClassFile.FieldType), Jvm.Cond.code ({ cls := "java/lang/Object", name := "<init>", desc := "()V" } : Jvm.MethodName) object_method_1_code (1 : Nat) (Option.none : Option Jvm.ClassFile.FieldType), Jvm.Cond.code ({ cls := "java/lang/StringUTF16", name := "compress", desc := "([CII)[B" } : Jvm.MethodName) jdk_52_method_16_code (6 : Nat) (Option.some (Jvm.ClassFile.FieldType.array Jvm.ClassFile.FieldType.byte)), Jvm.Cond.code ({ cls := "java/lang/StringUTF16", name := "compress", desc := "([CI[BII)I" } : Jvm.MethodName) jdk_52_method_21_code (7 : Nat) (Option.some Jvm.ClassFile.FieldType.int), Jvm.Cond.code ({ cls := "java/lang/StringUTF16", name := "coderFromArrayLen", desc := "([BI)B" } : Jvm.MethodName) jdk_52_method_15_code (2 : Nat) (Option.some Jvm.ClassFile.FieldType.byte), Jvm.Cond.code ({ cls := "com/example/myna/myna/delivery/Attempt", name := "<init>", desc := "(Ljava/lang/String;Ljava/lang/String;Ljava/lang/String;Ljava/lang/String;ILcom/example/myna/myna/delivery/Status;Ljava/lang/String;Ljava/lang/String;[B)V" } : Jvm.MethodName) prog_9_method_1_code (10 : Nat) (Option.none : Option Jvm.ClassFile.FieldType), Jvm.Cond.code ({ cls := "java/lang/Record", name := "<init>", desc := "()V" } : Jvm.MethodName) jdk_30_method_1_code (1 : Nat) (Option.none : Option Jvm.ClassFile.FieldType), Jvm.Cond.code ({ cls := "com/example/myna/myna/delivery/Attempt", name := "withBody", desc := "([B)Lcom/example/myna/myna/delivery/Attempt;" } : Jvm.MethodName) prog_9_method_3_code (2 : Nat) (Option.some (Jvm.ClassFile.FieldType.object "com/example/myna/myna/delivery/Attempt")), Jvm.Cond.code ({ cls := "com/example/myna/myna/delivery/Attempt", name := "deliveryId", desc := "()Ljava/lang/String;" } : Jvm.MethodName) prog_9_method_7_code (1 : Nat) (Option.some (Jvm.ClassFile.FieldType.object "java/lang/String")), Jvm.Cond.code ({ cls := "com/example/myna/myna/delivery/Attempt", name := "tenant", desc := "()Ljava/lang/String;" } : Jvm.MethodName) prog_9_method_8_code (1 : Nat) (Option.some (Jvm.ClassFile.FieldType.object "java/lang/String")), Jvm.Cond.code ({ cls := "com/example/myna/myna/delivery/Attempt", name := "eventId", desc := "()Ljava/lang/String;" } : Jvm.MethodName) prog_9_method_9_code (1 : Nat) (Option.some (Jvm.ClassFile.FieldType.object "java/lang/String")), Jvm.Cond.code ({ cls := "com/example/myna/myna/delivery/Attempt", name := "endpointId", desc := "()Ljava/lang/String;" } : Jvm.MethodName) prog_9_method_10_code (1 : Nat) (Option.some (Jvm.ClassFile.FieldType.object "java/lang/String")), Jvm.Cond.code ({ cls := "com/example/myna/myna/delivery/Attempt", name := "number", desc := "()I" } : Jvm.MethodName) prog_9_method_11_code (1 : Nat) (Option.some Jvm.ClassFile.FieldType.int), Jvm.Cond.code ({ cls := "com/example/myna/myna/delivery/Attempt", name := "status", desc := "()Lcom/example/myna/myna/delivery/Status;" } : Jvm.MethodName) prog_9_method_12_code (1 : Nat) (Option.some (Jvm.ClassFile.FieldType.object "com/example/myna/myna/delivery/Status")), Jvm.Cond.code ({ cls := "com/example/myna/myna/delivery/Attempt", name := "url", desc := "()Ljava/lang/String;" } : Jvm.MethodName) prog_9_method_13_code (1 : Nat) (Option.some (Jvm.ClassFile.FieldType.object "java/lang/String")), Jvm.Cond.code ({ cls := "com/example/myna/myna/delivery/Attempt", name := "secret", desc := "()Ljava/lang/String;" } : Jvm.MethodName) prog_9_method_14_code (1 : Nat) (Option.some (Jvm.ClassFile.FieldType.object "java/lang/String")), Jvm.Cond.code ({ cls := "com/example/myna/myna/delivery/Attempt", name := "body", desc := "()[B" } : Jvm.MethodName) prog_9_method_15_code (1 : Nat) (Option.some (Jvm.ClassFile.FieldType.array Jvm.ClassFile.FieldType.byte))]
set_option maxRecDepth 65536 in
theorem codes_eq : words1.filter isCode = codes1 := rfl
theorem w_codes : ∀ c ∈ words1.filter isCode, c.before args0 about1 = true := by
  rw [codes_eq]
  intro c hc
  simp only [codes1, List.mem_cons, List.not_mem_nil, or_false] at hc
  rcases hc with rfl | rfl | rfl | rfl | rfl | rfl | rfl | rfl | rfl | rfl | rfl | rfl | rfl | rfl | rfl | rfl | rfl | rfl | rfl | rfl
  · exact w_c0
  · exact w_c1
  · exact w_c2
  · exact w_c3
  · exact w_c4
  · exact w_c5
  · exact w_c6
  · exact w_c7
  · exact w_c8
  · exact w_c9
  · exact w_c10
  · exact w_c11
  · exact w_c12
  · exact w_c13
  · exact w_c14
  · exact w_c15
  · exact w_c16
  · exact w_c17
  · exact w_c18
  · exact w_c19
set_option maxRecDepth 65536 in
theorem w_t1 : (words1.take 24).all (fun c => isCode c || c.before args0 about1) = true := by decide +kernel
set_option maxRecDepth 65536 in
theorem w_t2 : ((words1.drop 24).take 24).all (fun c => isCode c || c.before args0 about1) = true := by decide +kernel
set_option maxRecDepth 65536 in
theorem w_t3 : (((words1.drop 24).drop 24).take 24).all (fun c => isCode c || c.before args0 about1) = true := by decide +kernel
set_option maxRecDepth 65536 in
theorem w_t4 : ((((words1.drop 24).drop 24).drop 24).take 24).all (fun c => isCode c || c.before args0 about1) = true := by decide +kernel
set_option maxRecDepth 65536 in
theorem w_t5 : (((((words1.drop 24).drop 24).drop 24).drop 24).take 24).all (fun c => isCode c || c.before args0 about1) = true := by decide +kernel
set_option maxRecDepth 65536 in
theorem w_t6 : (((((words1.drop 24).drop 24).drop 24).drop 24).drop 24).all (fun c => isCode c || c.before args0 about1) = true := by decide +kernel
theorem w_tables : (allAtoms (Jvm.Cond.code x code maxLocals ret :: tables_1)).before args0 about1 = true := by
  rw [allAtoms_all]
  show words1.all (fun c => c.before args0 about1) = true
  refine all_split ?_ w_codes
  rw [← List.take_append_drop 24 words1, List.all_append, w_t1, ← List.take_append_drop 24 (words1.drop 24), List.all_append, w_t2, ← List.take_append_drop 24 ((words1.drop 24).drop 24), List.all_append, w_t3, ← List.take_append_drop 24 (((words1.drop 24).drop 24).drop 24), List.all_append, w_t4, ← List.take_append_drop 24 ((((words1.drop 24).drop 24).drop 24).drop 24), List.all_append, w_t5, w_t6]
  rfl
set_option maxRecDepth 65536 in
theorem w_rest : rest_1_c.before args0 about1 = true := by decide +kernel
set_option maxRecDepth 65536 in
theorem w_case : (Jvm.Cond.and given_1 narrow_1).before args0 about1 = true := by decide +kernel
theorem w_applies : (headSpec (Jvm.Cond.code x code maxLocals ret :: tables_1) room_1).applies x e0.platform about1 = true :=
  (Spec.applies_iff w_frames).mpr ⟨w_running, w_runnable, w_alone, w_named, w_hears, w_ripe, w_room, w_tables⟩
theorem atStart : AtStart classFile x code maxLocals ret World_1 tables_1 room_1 Calls_1 rest_1 Pre_1 launch0 p0 e0 about1 theMethod args0 below0 :=
  ⟨lists_1, trivial, launch0.admits_env _ _ _, launch0.least_env, fairChoices_fair.cas, fairChoices_fair.clock, w_frames, w_args, w_heap, w_applies, trivial, w_rest, w_case⟩
end start1
theorem witness_1 : WitnessClaimed_1 := ⟨start1.p0, start1.e0, start1.about1, start1.theMethod, start1.args0, start1.below0, start1.atStart⟩
end Jvm.Pilot.@@N@@
