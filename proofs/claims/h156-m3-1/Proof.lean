import JvmDerived
import JvmDerived.Pilot.@@N@@Statement
import JvmDerived.Pilot.@@N@@Code
set_option linter.unusedVariables false
set_option linter.unusedSimpArgs false

namespace Jvm.Pilot.@@N@@
open Jvm Jvm.ClassFile Sem Op Lib Jvm.Free Jvm.Stand Jvm.LawKit Jvm.RoadKit Bundle Jvm.Pilot.@@N@@.Jvm.D
def OwnFin (p : Program) (e : Env) (below : List Frame) (Q : Outcome → State → Prop) (T : State) : Prop := ∃ s₂ o, Steps p.tables e below T s₂ ∧ s₂.status = .running ∧ Ended s₂ below o ∧ Q o s₂
theorem OwnFin.step {p : Program} {e : Env} {below : List Frame} {Q : Outcome → State → Prop} {A B : State} (h : ∀ t, Steps p.tables e below A t → Steps p.tables e below B t) (k : OwnFin p e below Q A) : OwnFin p e below Q B := by
  obtain ⟨s₂, o, h1, h2⟩ := k
  exact ⟨s₂, o, h _ h1, h2⟩
theorem own_safe_nil {Z : State} {vm : Vm} {h : Heap} {x : Addr} : Safe Z [] vm h x := fun ⟨_, hp, _⟩ => nomatch hp
theorem own_safe_str {Z : State} {EL : List (String × Nat)} {vm : Vm} {h : Heap} {x : Addr} (hal : Z.vm.Alike vm) (E : Exa Z h x "java/lang/String") (F : Fld Z h x "java/lang/String" "value" "[B" .null) : Safe Z EL vm h x := fun B => by
  obtain ⟨p, -, u, a, -, q, -, G, rfl | rfl⟩ := B
  · obtain ⟨cell, cf, k, i, f, h1, h2, h3, h4, h5, h6, h7⟩ := F
    cases (show h[q.sa]? = some q.sC from G.ha).symm.trans h1
    obtain ⟨cS, ⟨⟨-, -, -, ⟨c1, k1, i1, f1, -⟩, -, -, -, v1, -⟩, -⟩, -⟩ := G
    obtain ⟨k3, e3, -⟩ := State.fieldFound?_setVm (s := Z) hal h2
    have e4 := (show (Wst Z vm h).fieldFound? _ _ _ = _ from e3).symm.trans f1
    simp only [Option.some.injEq, Prod.mk.injEq] at e4
    rw [← e4.2.2.2, h7] at v1
    simp at v1
  · obtain ⟨cell, k, e1, e2, e3, -, -⟩ := E
    cases (show h[q.sd]? = some q.SA from G.hd).symm.trans e1
    obtain ⟨cS, -, -, f, -⟩ := G
    have f : vm.findClass "[B" = some q.SA.cls := f
    rw [hal.findClass] at f
    obtain ⟨k1, q1, q2⟩ := Vm.findClass_spec f
    obtain ⟨k2, q3, q4⟩ := Vm.findClass_spec e2
    cases q1.symm.trans q3
    exact absurd (q2.symm.trans q4) (by decide)
section OwnNo
variable {Z : State} {a0 : Array Value}
theorem own_ns_root {O K : String} {n : Nat} (w : (Jvm.Cond.noSuperclass O).before a0 Z = true) (wk : (Jvm.Cond.instantiable K n).before a0 Z = true) (hn : O ≠ K) : NS Z O K := by
  obtain ⟨c, k, h1, h2, h3, -, -⟩ := Cond.noSuperclass_spec w
  obtain ⟨t, kt, g1, -⟩ := Cond.instantiable_spec wk
  have ne := ids_ne h1 g1 hn
  refine ⟨c, t, h1, g1, fun fuel => ?_⟩
  cases fuel with
  | zero => rfl
  | succ f => simp [Vm.isSubclassAux, ne, h2, h3]
theorem own_ns_no {C S K : String} {n : Nat} (w : (Jvm.Cond.superclass C S).before a0 Z = true) (wk : (Jvm.Cond.instantiable K n).before a0 Z = true) (m : NS Z C K) (hn : C ≠ K) : ∃ c t, Z.vm.findClass C = some c ∧ Z.vm.findClass K = some t ∧ Z.vm.assignable c t = false := by
  obtain ⟨c, t, h0, g0, n3⟩ := m
  obtain ⟨p, k, kp, h1, h2, h3, h4, h5, -, h7⟩ := Cond.superclass_spec h0 w
  obtain ⟨t', k', g1, g2, g5, g7, -⟩ := Cond.instantiable_spec wk
  cases g0.symm.trans g1
  have g8 : k'.isInterface = false := (Bool.or_eq_false_iff.mp g7).1
  have ne := ids_ne h0 g0 hn
  refine ⟨c, t, h0, g0, ?_⟩
  show Z.vm.assignableAux (255 + 1) c t = false
  simp [Vm.assignableAux, ne, h2, g2, h5, g5, g8, Vm.isSubclass, n3]
end OwnNo
theorem own_fits {C : String} {v : Value} (h : v.isRef = true) : fits (.object C) v = true := by cases v <;> simp_all [Value.isRef, fits]
theorem own_cat {v : Value} (h : v.isRef = true) : v.category = 1 := by cases v <;> simp_all [Value.isRef, Value.category]
theorem own_nonsta {Z : State} {h : Heap} {a : Addr} {C : String} (E : Exa Z h a C) : ∃ cell : Cell, h[a]? = some cell ∧ cell.vm.isStatics = false := by
  obtain ⟨cell, k, h1, -, -, h2, -⟩ := E
  exact ⟨cell, h1, h2⟩
theorem own_sta_keep {Z : State} {h h' : Heap} {ws : List Addr} {C n d : String} {v : Value} (F : Sta Z h C n d v) (K : Keep h h' ws) (q : ∀ x ∈ ws, ∃ cell : Cell, h[x]? = some cell ∧ cell.vm.isStatics = false) : Sta Z h' C n d v := by
  obtain ⟨cf, i, k, f, st, cell, h1, h2, h3, h4, h5, h6, h7⟩ := F
  refine ⟨cf, i, k, f, st, cell, h1, h2, h3, h4, K.2.1 _ _ h5 fun z => ?_, h6, h7⟩
  obtain ⟨c2, e1, e2⟩ := q st z
  rw [h5] at e1
  cases e1
  rw [h6] at e2
  cases e2
theorem own_arr_keep {Z : State} {h h' : Heap} {ws : List Addr} {a : Addr} {c : Cell} {ty : FieldType} (A : Arr Z h a c ty) (K : Keep h h' ws) (q : a ∉ ws) : Arr Z h' a c ty := ⟨K.2.1 a c A.1 q, A.2⟩
section OwnLen
variable {p : Program} {l : Launch} {e : Env} {R : Room} {s : State} {m : MethodId} {args : Array Value} {below : List Frame} {meth : Method} {c : Code} {T : State} {locs : List Loc} {cells slots : Nat} {Z : State} {h : Heap}
theorem own_len (X : Stand p l e R s m args below meth c T locs cells slots) (hx : p.tables.exec = Jvm.exec) (hZ : Z.Warmed39 s.vm) (eT : T.heap = h) {a : Addr} {cl : Cell} {ty : FieldType} (A : Arr Z h a cl ty) {z : Int32} (Sz : cl.slots.size = z.toNatClampNeg) (Ng : ¬ z < 0) {g : JFrame} (hg : g.method = m) {rest : List Value} (hs : g.stack = .ref a :: rest) (hd : decode c.code g.pc = .ok (.arraylength, 1)) {t : State}
    (k : Steps p.tables e below (T.setTop { g with pc := g.pc + 1, stack := .int z :: rest }) t) : Steps p.tables e below (T.setTop g) t := by
  refine X.arraylength hx (by rw [eT]; exact A.1) (State.isArrayOf_alike hZ.alike A.2.1) hg hs hd _ ?_
  rw [len_of Sz Ng]
  exact k
end OwnLen

section OwnStart
variable {args : Array Value} {s : State} {t : Term} {x : Addr}
theorem own_eqI {a : Term} {k : Int32} (h : (Jvm.Cond.eq a (Term.int k)).value args s none s [] = some true) : a.eval args s none [] s = some (.int k) := by
  obtain ⟨v, y, e1, e2, k1, k2⟩ := cmp_v (Or.inl h)
  have e3 : (Term.int k).eval args s none [] s = some (.int k) := Term.int_eval k
  rw [e3] at e2
  cases e2
  obtain ⟨z, rfl⟩ := k2
  simp [Cond.value, e1, e3] at h
  subst h
  exact e1
theorem own_fldI {C n d : String} {k : Int32} (ht : t.eval args s none [] s = some (.ref x)) (h : (Jvm.Cond.eq (Term.field t C n d) (Term.int k)).value args s none s [] = some true) : Fld s s.heap x C n d (.int k) := Fld.start (by rw [← fld_at ht (args := args) (first := s) (o := none) (idx := [])]; exact own_eqI h)
theorem own_neI {a : Term} {z k : Int32} (e1 : a.eval args s none [] s = some (.int z)) (h : (Jvm.Cond.not (Jvm.Cond.eq a (Term.int k))).value args s none s [] = some true) : ¬ z = k := by
  have h2 := not_v h
  have e3 : (Term.int k).eval args s none [] s = some (.int k) := Term.int_eval k
  intro e
  subst e
  simp [Cond.value, e1, e3] at h2
theorem own_eqR {a b : Term} {y : Addr} (hb : b.eval args s none [] s = some (.ref y)) (h : (Jvm.Cond.eq a b).value args s none s [] = some true) : a.eval args s none [] s = some (.ref y) := by
  obtain ⟨v, z, e1, e2, k1, k2⟩ := cmp_v (Or.inl h)
  rw [hb] at e2
  cases e2
  have hv : v.isRef = true := k2.2
  rw [eq_R e1 hb hv rfl] at h
  have := of_decide_eq_true (Option.some.inj h)
  subst this
  exact e1
theorem own_arv {t : Term} {a : Addr} {cl : Cell} {ty : FieldType} {z : Int32} {vs : List Value} {dv : Value} (hf : Fit s) (A : Arr s s.heap a cl ty) (ev : t.eval args s none [] s = some (.ref a)) (hl : (Term.length t).eval args s none [] s = some (.int z)) (hz : ¬ z < 0) (hn : z.toNatClampNeg = vs.length) (H : HasL cl 0 vs) : Arv s s.heap a cl.cls ty z vs dv := by
  obtain ⟨b, cell, h1, h2, h3⟩ := Term.length_spec hl
  cases ev.symm.trans h1
  obtain ⟨hcell, -⟩ := State.arrayAt?_spec h2
  cases A.1.symm.trans hcell
  have hsz : cl.slots.size < 2 ^ 31 := by
    simp only [Term.eval, ev, h2, Option.bind_eq_bind, Option.bind_some] at hl
    by_cases hlt : cl.slots.size < 2147483648
    · exact hlt
    · simp [hlt] at hl
  exact Arv.start hf A hsz (Value.int.inj h3).symm hz hn H
theorem own_elem {t : Term} {a : Addr} {cl : Cell} {ty : FieldType} {j : Int32} {v : Value} (A : Arr s s.heap a cl ty) (ev : t.eval args s none [] s = some (.ref a)) (h : (Term.elem t (Term.int j)).eval args s none [] s = some v) : cl.slots[j.toNatClampNeg]? = some v := (elem_in h ev (Term.int_eval j) A.1).2
end OwnStart

theorem own_mod (k : Int32) (d : Int32) (D : Int) (hd : d.toInt = D) (hD : 0 < D) : 0 ≤ ((k &&& (2147483647 : Int32)) % d).toInt ∧ ((k &&& (2147483647 : Int32)) % d).toInt < D := by
  have h1 := c_mask k (2147483647 : Int32) 31 (by decide) (by decide)
  have h2 := (c_irem (k &&& (2147483647 : Int32)) d D hd).1 (by rw [h1]; exact Int.emod_nonneg _ (by decide))
  rw [h2]
  exact ⟨Int.emod_nonneg _ (by omega), Int.emod_lt_of_pos _ hD⟩

def OwnEL : List (String × Nat) := [("java/lang/String", 7)]

theorem own_nar255 {c : Int32} (h : ¬ (255 : Int32) < c) (h0 : 0 ≤ c.toInt) : ¬ (255 : Int32) < nar .char c := by
  have h2 := c_i2c c
  show ¬ (255 : Int32) < c.toUInt32.toUInt16.toUInt32.toInt32
  rw [Int32.lt_iff_toInt_lt] at h ⊢
  have h3 : ((255 : Int32)).toInt = 255 := rfl
  omega
theorem own_c8 (x : Int32) : ¬ (255 : Int32) < (x &&& (255 : Int32)).toUInt32.toUInt16.toUInt32.toInt32 ∧ 0 ≤ (x &&& (255 : Int32)).toUInt32.toUInt16.toUInt32.toInt32.toInt := by
  have h1 := c_mask x (255 : Int32) 8 (by decide) (by decide)
  have h3 := c_i2c (x &&& (255 : Int32))
  rw [Int32.lt_iff_toInt_lt]
  have h4 : ((255 : Int32)).toInt = 255 := rfl
  omega
def OwnB (n : Int32) (vs : List Value) : Prop := (n = 0 ∧ vs = []) ∨ (∃ x, n = 1 ∧ vs = [.int x]) ∨ (∃ x y, n = 2 ∧ vs = [.int x, .int y])
def BB (m : Int32) : Value := .int (nar .byte ((nar .char (m.toUInt32.toUInt16.toUInt32.toInt32)).toInt8.toInt32))
def OwnL (x : Int32) : Int32 := ((((x.toUInt32 >>> ((16 : Int32) &&& 31).toUInt32).toInt32) &&& (3 : Int32)) % (3 : Int32))
def OwnM1 (x : Int32) : Int32 := (x &&& (255 : Int32))
def OwnM2 (x : Int32) : Int32 := (((x.toUInt32 >>> ((8 : Int32) &&& 31).toUInt32).toInt32) &&& (255 : Int32))
def OwnV (x : Int32) : List Value := if OwnL x = 0 then [] else if OwnL x = 1 then [BB (OwnM1 x)] else [BB (OwnM1 x), BB (OwnM2 x)]
theorem own_len3 (x : Int32) : OwnL x = (0 : Int32) ∨ OwnL x = (1 : Int32) ∨ OwnL x = (2 : Int32) := by
  have h := c_and ((x.toUInt32 >>> ((16 : Int32) &&& 31).toUInt32).toInt32) (3 : Int32) (by decide)
  have h2 := (c_irem ((((x.toUInt32 >>> ((16 : Int32) &&& 31).toUInt32).toInt32) &&& (3 : Int32))) (3 : Int32) 3 rfl).1 h.1
  have h3 : (OwnL x).toInt = _ := h2
  simp only [← Int32.toInt_inj]
  simp
  omega
theorem own_bb {m m' : Int32} (h0 : 0 ≤ m.toInt) (h1 : m.toInt ≤ 255) (g0 : 0 ≤ m'.toInt) (g1 : m'.toInt ≤ 255) : BB m = BB m' ↔ m = m' := by
  constructor
  · intro e
    have e2 : (((m.toUInt32.toUInt16.toUInt32.toInt32).toUInt32.toUInt16.toUInt32.toInt32).toInt8.toInt32).toInt8.toInt32 = (((m'.toUInt32.toUInt16.toUInt32.toInt32).toUInt32.toUInt16.toUInt32.toInt32).toInt8.toInt32).toInt8.toInt32 := Value.int.inj e
    have e3 := congrArg Int32.toInt e2
    have a1 := c_i2c m
    have a2 := c_i2c (m.toUInt32.toUInt16.toUInt32.toInt32)
    have a3 := c_i2b ((m.toUInt32.toUInt16.toUInt32.toInt32).toUInt32.toUInt16.toUInt32.toInt32)
    have a4 := c_i2b (((m.toUInt32.toUInt16.toUInt32.toInt32).toUInt32.toUInt16.toUInt32.toInt32).toInt8.toInt32)
    have b1 := c_i2c m'
    have b2 := c_i2c (m'.toUInt32.toUInt16.toUInt32.toInt32)
    have b3 := c_i2b ((m'.toUInt32.toUInt16.toUInt32.toInt32).toUInt32.toUInt16.toUInt32.toInt32)
    have b4 := c_i2b (((m'.toUInt32.toUInt16.toUInt32.toInt32).toUInt32.toUInt16.toUInt32.toInt32).toInt8.toInt32)
    apply Int32.toInt_inj.mp
    omega
  · rintro rfl
    rfl
theorem own_b1 (x y : Int32) : BB (OwnM1 x) = BB (OwnM1 y) ↔ OwnM1 x = OwnM1 y := own_bb (c_and x (255 : Int32) (by decide)).1 (c_and x (255 : Int32) (by decide)).2 (c_and y (255 : Int32) (by decide)).1 (c_and y (255 : Int32) (by decide)).2
theorem own_b2 (x y : Int32) : BB (OwnM2 x) = BB (OwnM2 y) ↔ OwnM2 x = OwnM2 y := own_bb (c_and _ (255 : Int32) (by decide)).1 (c_and _ (255 : Int32) (by decide)).2 (c_and _ (255 : Int32) (by decide)).1 (c_and _ (255 : Int32) (by decide)).2
theorem own_obv (x : Int32) : OwnB (OwnL x) (OwnV x) := by
  rcases own_len3 x with h | h | h
  · exact Or.inl ⟨h, by simp [OwnV, h]⟩
  · exact Or.inr (Or.inl ⟨_, h, by simp [OwnV, h]; rfl⟩)
  · exact Or.inr (Or.inr ⟨_, _, h, by simp [OwnV, h]; exact ⟨rfl, rfl⟩⟩)
theorem own_same {Z : State} {h : Heap} {a o b1 b2 : Addr} {C f d : String} {k1 k2 : ClassId} {n1 n2 : Int32} {vs1 vs2 : List Value} {dv : Value} (F : Fld Z h a C f d (.ref b1)) (G : Fld Z h o C f d (.ref b2)) (A1 : Arv Z h b1 k1 .byte n1 vs1 dv) (A2 : Arv Z h b2 k2 .byte n2 vs2 dv) (B1 : OwnB n1 vs1) (B2 : OwnB n2 vs2) (e : a = o) : vs1 = vs2 := by
  subst e
  have hb : b1 = b2 := Decidable.byContradiction fun q => Fld.ne F G (fun e => q (Value.ref.inj e)) rfl
  subst hb
  obtain ⟨c1, a1, -, s1, -, h1, -⟩ := A1
  obtain ⟨c2, a2, -, s2, -, h2, -⟩ := A2
  cases a1.1.symm.trans a2.1
  have ss := s1.symm.trans s2
  rcases B1 with ⟨rfl, rfl⟩ | ⟨x, rfl, rfl⟩ | ⟨x, y, rfl, rfl⟩ <;> rcases B2 with ⟨rfl, rfl⟩ | ⟨x', rfl, rfl⟩ | ⟨x', y', rfl, rfl⟩ <;> first | rfl | (exact absurd ss (by decide)) | skip
  · have e0 := (h1 0 (by rw [s1]; decide)).symm.trans (h2 0 (by rw [s2]; decide))
    simp at e0
    simp [e0]
  · have e0 := (h1 0 (by rw [s1]; decide)).symm.trans (h2 0 (by rw [s2]; decide))
    have e1 := (h1 1 (by rw [s1]; decide)).symm.trans (h2 1 (by rw [s2]; decide))
    simp at e0 e1
    simp [e0, e1]
theorem pn_0 : plainName "java/lang/Record" = true := by first | (simp [plainName, overriddenIn]; done) | decide +kernel
theorem d_jdk_30_method_1_0 : decode jdk_30_method_1_code 0 = .ok (.aload_n 0, 1) := by decide +kernel
theorem d_jdk_30_method_1_1 : decode jdk_30_method_1_code 1 = .ok (.invokespecial 1, 3) := by decide +kernel
theorem d_jdk_30_method_1_4 : decode jdk_30_method_1_code 4 = .ok (.return_, 1) := by decide +kernel
theorem ef_1 (m : MethodId) (a : Addr) : entryFrame m #[(.ref a)] 1 = mkF m 0 #[.val (.ref a)] [] := by first | (simp [entryFrame, mkF, argsToLocals, Value.category]; done) | rfl
def Q1 (Z : State) (a : Addr) (h0 : Heap) (n0 : Nat) (vV : Option Value) (hH : Heap) (LL : List Loc) : Prop := vV = none ∧ Fr n0 LL ∧ hH = h0
def R1 (Z : State) (a : Addr) (h0 : Heap) (n0 : Nat) (U : State) (oO : Outcome) (U' : State) : Prop := ∃ vV LL, oO = .returned vV ∧ Q1 Z a h0 n0 vV U'.heap LL ∧ FrameEnd U oO U' LL ({ frames := 1, cells := 0, slots := 0, locals := 12 } : Room).cells ({ frames := 1, cells := 0, slots := 0, locals := 12 } : Room).slots
set_option maxRecDepth 65536 in
set_option maxHeartbeats 40000000 in
theorem rm1 (l : Launch) (Z : State) (a0 : Array Value) (hw : ∀ d ∈ tables_1, d.before a0 Z = true) (hEL : EW Z a0 OwnEL) (wS : ∀ a ∈ Bundle.stringAtoms, a.before a0 Z = true) (ws : List Jvm.Cond) (a : Addr) (h0 : Heap) (n0 : Nat) (Z0 : n0 ≤ h0.size) :
    MetFree l (⟨"java/lang/Record", "<init>", "()V"⟩ : MethodName) (head1 (Jvm.Cond.code (⟨"java/lang/Record", "<init>", "()V"⟩ : MethodName) jdk_30_method_1_code 1 none :: ws) ({ frames := 1, cells := 0, slots := 0, locals := 12 } : Room)) (fun aA U => aA = #[(.ref a)] ∧ Z.Warmed39 U.vm ∧ U.heap = h0) (fun _ _ _ _ _ => True) (fun _ U oO U' => ∃ vV LL, oO = .returned vV ∧ Q1 Z a h0 n0 vV U'.heap LL ∧ FrameEnd U oO U' LL ({ frames := 1, cells := 0, slots := 0, locals := 12 } : Room).cells ({ frames := 1, cells := 0, slots := 0, locals := 12 } : Room).slots) := by
  refine MetFree.of_bodySF (plainFor_of_name pn_0) hisR ?_
  intro p e s m args below meth cC s₁ Bd hml0 hP hK
  obtain ⟨rfl, hZ, hh⟩ := hP
  have hx := Bd.exec
  have hby := Bd.bytes
  have hml : cC.maxLocals = 1 := hml0
  have hown : s.vm.findClass "java/lang/Record" = some m.cls := findClass_of_methodNamed Bd.named
  have hnm := (name_of_methodNamed Bd.named Bd.method).1
  have X0 : Stand p l e ({ frames := 1, cells := 0, slots := 0, locals := 12 } : Room) s m #[(.ref a)] below meth cC s₁ [] 0 0 := Stand.of_body Bd
  have e0 : s₁.heap = h0 := by rw [← hh, Bd.state]; rfl
  have N0 := Fr.nil n0
  have Kp0 := Keep.refl h0 []
  show OwnFin p e below (R1 Z a h0 n0 s) (s₁.setTop (entryFrame m #[(.ref a)] 1))
  rw [ef_1 m a]
  refine OwnFin.step (fun tT kK => XS.aloadN X0.here hx rfl (hb hby d_jdk_30_method_1_0) rfl rfl kK) ?_
  show OwnFin p e below _ (s₁.setTop (mkF m 1 #[.val (.ref a)] [(.ref a)]))
  obtain ⟨T1, X1, e1, st1⟩ := initO X0 hx hZ hown (hw _ (List.mem_of_getElem? (i := 40) rfl)) (hw _ (List.mem_of_getElem? (i := 19) rfl)) (hw _ (List.mem_of_getElem? (i := 20) rfl)) e0 (g := (mkF m 1 #[.val (.ref a)] [(.ref a)])) rfl (by rw [hml]; rfl) rfl (hb hby d_jdk_30_method_1_1) (by decide) (W := 0) (by show 2 * 0 + _ ≤ _; exact Nat.le_of_eq rfl) (by decide)
  refine OwnFin.step st1 ?_
  show OwnFin p e below _ (T1.setTop (mkF m 4 #[.val (.ref a)] []))
  obtain ⟨fs2, hr2, hrun2, hended2, hW2, hsame2⟩ := X1.leave (v := none) (fun _ => rfl)
  refine ⟨_, _, X1.returnOut hx Bd.returns (hb hby d_jdk_30_method_1_4) hr2, hrun2, hended2, _, _, rfl, ?_, ⟨_, rfl⟩, hW2, hsame2.mono (by decide) (by decide)⟩
  show Q1 Z a h0 n0 _ T1.heap _
  rw [e1]
  exact ⟨rfl, N0, rfl⟩
theorem pn_4 : plainName "java/lang/StringLatin1" = true := by first | (simp [plainName, overriddenIn]; done) | decide +kernel
theorem d_jdk_43_method_13_0 : decode jdk_43_method_13_code 0 = .ok (.aload_n 0, 1) := by decide +kernel
theorem d_jdk_43_method_13_1 : decode jdk_43_method_13_code 1 = .ok (.arraylength, 1) := by decide +kernel
theorem d_jdk_43_method_13_2 : decode jdk_43_method_13_code 2 = .ok (.aload_n 1, 1) := by decide +kernel
theorem d_jdk_43_method_13_3 : decode jdk_43_method_13_code 3 = .ok (.arraylength, 1) := by decide +kernel
theorem d_jdk_43_method_13_4 : decode jdk_43_method_13_code 4 = .ok (.if_icmp .ne 30, 3) := by decide +kernel
theorem d_jdk_43_method_13_7 : decode jdk_43_method_13_code 7 = .ok (.iconst 0, 1) := by decide +kernel
theorem d_jdk_43_method_13_8 : decode jdk_43_method_13_code 8 = .ok (.istore_n 2, 1) := by decide +kernel
theorem d_jdk_43_method_13_9 : decode jdk_43_method_13_code 9 = .ok (.iload_n 2, 1) := by decide +kernel
theorem d_jdk_43_method_13_10 : decode jdk_43_method_13_code 10 = .ok (.aload_n 0, 1) := by decide +kernel
theorem d_jdk_43_method_13_11 : decode jdk_43_method_13_code 11 = .ok (.arraylength, 1) := by decide +kernel
theorem d_jdk_43_method_13_12 : decode jdk_43_method_13_code 12 = .ok (.if_icmp .ge 20, 3) := by decide +kernel
theorem d_jdk_43_method_13_32 : decode jdk_43_method_13_code 32 = .ok (.iconst 1, 1) := by decide +kernel
theorem d_jdk_43_method_13_33 : decode jdk_43_method_13_code 33 = .ok (.ireturn, 1) := by decide +kernel
theorem d_jdk_43_method_13_34 : decode jdk_43_method_13_code 34 = .ok (.iconst 0, 1) := by decide +kernel
theorem d_jdk_43_method_13_35 : decode jdk_43_method_13_code 35 = .ok (.ireturn, 1) := by decide +kernel
theorem d_jdk_43_method_13_15 : decode jdk_43_method_13_code 15 = .ok (.aload_n 0, 1) := by decide +kernel
theorem d_jdk_43_method_13_16 : decode jdk_43_method_13_code 16 = .ok (.iload_n 2, 1) := by decide +kernel
theorem d_jdk_43_method_13_17 : decode jdk_43_method_13_code 17 = .ok (.baload, 1) := by decide +kernel
theorem d_jdk_43_method_13_18 : decode jdk_43_method_13_code 18 = .ok (.aload_n 1, 1) := by decide +kernel
theorem d_jdk_43_method_13_19 : decode jdk_43_method_13_code 19 = .ok (.iload_n 2, 1) := by decide +kernel
theorem d_jdk_43_method_13_20 : decode jdk_43_method_13_code 20 = .ok (.baload, 1) := by decide +kernel
theorem d_jdk_43_method_13_21 : decode jdk_43_method_13_code 21 = .ok (.if_icmp .eq 5, 3) := by decide +kernel
theorem d_jdk_43_method_13_24 : decode jdk_43_method_13_code 24 = .ok (.iconst 0, 1) := by decide +kernel
theorem d_jdk_43_method_13_25 : decode jdk_43_method_13_code 25 = .ok (.ireturn, 1) := by decide +kernel
theorem d_jdk_43_method_13_26 : decode jdk_43_method_13_code 26 = .ok (.iinc 2 1, 3) := by decide +kernel
theorem d_jdk_43_method_13_29 : decode jdk_43_method_13_code 29 = .ok (.goto (-20), 3) := by decide +kernel
theorem ef_2 (m : MethodId) (a : Addr) (b : Addr) : entryFrame m #[(.ref a), (.ref b)] 3 = mkF m 0 #[.val (.ref a), .val (.ref b), .unset] [] := by first | (simp [entryFrame, mkF, argsToLocals, Value.category]; done) | rfl
def Q2 (Z : State) (a : Addr) (b : Addr) (ka : ClassId) (kb : ClassId) (n1 : Int32) (n2 : Int32) (vs1 : List Value) (vs2 : List Value) (h0 : Heap) (n0 : Nat) (vV : Option Value) (hH : Heap) (LL : List Loc) : Prop := vV = some (.int (if vs1 = vs2 then 1 else 0)) ∧ Fr n0 LL ∧ hH = h0
def R2 (Z : State) (a : Addr) (b : Addr) (ka : ClassId) (kb : ClassId) (n1 : Int32) (n2 : Int32) (vs1 : List Value) (vs2 : List Value) (h0 : Heap) (n0 : Nat) (U : State) (oO : Outcome) (U' : State) : Prop := ∃ vV LL, oO = .returned vV ∧ Q2 Z a b ka kb n1 n2 vs1 vs2 h0 n0 vV U'.heap LL ∧ FrameEnd U oO U' LL ({ frames := 0, cells := 0, slots := 0, locals := 0 } : Room).cells ({ frames := 0, cells := 0, slots := 0, locals := 0 } : Room).slots
set_option maxRecDepth 65536 in
set_option maxHeartbeats 40000000 in
theorem rm2 (l : Launch) (Z : State) (a0 : Array Value) (hw : ∀ d ∈ tables_1, d.before a0 Z = true) (hEL : EW Z a0 OwnEL) (wS : ∀ a ∈ Bundle.stringAtoms, a.before a0 Z = true) (ws : List Jvm.Cond) (a : Addr) (b : Addr) (ka : ClassId) (kb : ClassId) (n1 : Int32) (n2 : Int32) (vs1 : List Value) (vs2 : List Value) (h0 : Heap) (n0 : Nat) (Z0 : n0 ≤ h0.size) (hp0 : Arv Z h0 a ka .byte n1 vs1 (.int (0 : Int32))) (hp1 : Arv Z h0 b kb .byte n2 vs2 (.int (0 : Int32))) (hp2 : OwnB n1 vs1) (hp3 : OwnB n2 vs2) :
    MetFree l (⟨"java/lang/StringLatin1", "equals", "([B[B)Z"⟩ : MethodName) (head1 (Jvm.Cond.code (⟨"java/lang/StringLatin1", "equals", "([B[B)Z"⟩ : MethodName) jdk_43_method_13_code 3 (some .boolean) :: ws) ({ frames := 0, cells := 0, slots := 0, locals := 0 } : Room)) (fun aA U => aA = #[(.ref a), (.ref b)] ∧ Z.Warmed39 U.vm ∧ U.heap = h0) (fun _ _ _ _ _ => True) (fun _ U oO U' => ∃ vV LL, oO = .returned vV ∧ Q2 Z a b ka kb n1 n2 vs1 vs2 h0 n0 vV U'.heap LL ∧ FrameEnd U oO U' LL ({ frames := 0, cells := 0, slots := 0, locals := 0 } : Room).cells ({ frames := 0, cells := 0, slots := 0, locals := 0 } : Room).slots) := by
  refine MetFree.of_bodySF (plainFor_of_name pn_4) hisR ?_
  intro p e s m args below meth cC s₁ Bd hml0 hP hK
  obtain ⟨rfl, hZ, hh⟩ := hP
  have hx := Bd.exec
  have hby := Bd.bytes
  have hml : cC.maxLocals = 3 := hml0
  have hown : s.vm.findClass "java/lang/StringLatin1" = some m.cls := findClass_of_methodNamed Bd.named
  have hnm := (name_of_methodNamed Bd.named Bd.method).1
  have X0 : Stand p l e ({ frames := 0, cells := 0, slots := 0, locals := 0 } : Room) s m #[(.ref a), (.ref b)] below meth cC s₁ [] 0 0 := Stand.of_body Bd
  have e0 : s₁.heap = h0 := by rw [← hh, Bd.state]; rfl
  have N0 := Fr.nil n0
  have Kp0 := Keep.refl h0 []
  show OwnFin p e below (R2 Z a b ka kb n1 n2 vs1 vs2 h0 n0 s) (s₁.setTop (entryFrame m #[(.ref a), (.ref b)] 3))
  rw [ef_2 m a b]
  rcases hp2 with ⟨rfl, rfl⟩ | ⟨x1, rfl, rfl⟩ | ⟨x1, y1, rfl, rfl⟩
  · skip
    show OwnFin p e below _ (s₁.setTop (mkF m 0 #[.val (.ref a), .val (.ref b), .unset] []))
    rcases hp3 with ⟨rfl, rfl⟩ | ⟨x2, rfl, rfl⟩ | ⟨x2, y2, rfl, rfl⟩
    · skip
      show OwnFin p e below _ (s₁.setTop (mkF m 0 #[.val (.ref a), .val (.ref b), .unset] []))
      refine OwnFin.step (fun tT kK => XS.aloadN X0.here hx rfl (hb hby d_jdk_43_method_13_0) rfl rfl kK) ?_
      show OwnFin p e below _ (s₁.setTop (mkF m 1 #[.val (.ref a), .val (.ref b), .unset] [(.ref a)]))
      obtain ⟨cl1, Ar1, -, Sz1, Ng1, -, -⟩ := id hp0
      refine OwnFin.step (fun tT kK => own_len X0 hx hZ e0 Ar1 Sz1 Ng1 (g := (mkF m 1 #[.val (.ref a), .val (.ref b), .unset] [(.ref a)])) rfl rfl (hb hby d_jdk_43_method_13_1) kK) ?_
      show OwnFin p e below _ (s₁.setTop (mkF m 2 #[.val (.ref a), .val (.ref b), .unset] [(.int (0 : Int32))]))
      refine OwnFin.step (fun tT kK => XS.aloadN X0.here hx rfl (hb hby d_jdk_43_method_13_2) rfl rfl kK) ?_
      show OwnFin p e below _ (s₁.setTop (mkF m 3 #[.val (.ref a), .val (.ref b), .unset] [(.ref b), (.int (0 : Int32))]))
      obtain ⟨cl2, Ar2, -, Sz2, Ng2, -, -⟩ := id hp1
      refine OwnFin.step (fun tT kK => own_len X0 hx hZ e0 Ar2 Sz2 Ng2 (g := (mkF m 3 #[.val (.ref a), .val (.ref b), .unset] [(.ref b), (.int (0 : Int32))])) rfl rfl (hb hby d_jdk_43_method_13_3) kK) ?_
      show OwnFin p e below _ (s₁.setTop (mkF m 4 #[.val (.ref a), .val (.ref b), .unset] [(.int (0 : Int32)), (.int (0 : Int32))]))
      refine OwnFin.step (fun tT kK => XS.icmpNo X0.here hx rfl (hb hby d_jdk_43_method_13_4) rfl (teq (rfl : (0 : Int32) = (0 : Int32))).2 kK) ?_
      show OwnFin p e below _ (s₁.setTop (mkF m 7 #[.val (.ref a), .val (.ref b), .unset] []))
      refine OwnFin.step (fun tT kK => XS.iconst X0.here hx rfl (hb hby d_jdk_43_method_13_7) kK) ?_
      show OwnFin p e below _ (s₁.setTop (mkF m 8 #[.val (.ref a), .val (.ref b), .unset] [(.int (0 : Int32))]))
      refine OwnFin.step (fun tT kK => XS.istoreN X0.here hx rfl (hb hby d_jdk_43_method_13_8) rfl (l' := #[.val (.ref a), .val (.ref b), .val (.int (0 : Int32))]) rfl kK) ?_
      show OwnFin p e below _ (s₁.setTop (mkF m 9 #[.val (.ref a), .val (.ref b), .val (.int (0 : Int32))] []))
      refine OwnFin.step (fun tT kK => XS.iloadN X0.here hx rfl (hb hby d_jdk_43_method_13_9) rfl kK) ?_
      show OwnFin p e below _ (s₁.setTop (mkF m 10 #[.val (.ref a), .val (.ref b), .val (.int (0 : Int32))] [(.int (0 : Int32))]))
      refine OwnFin.step (fun tT kK => XS.aloadN X0.here hx rfl (hb hby d_jdk_43_method_13_10) rfl rfl kK) ?_
      show OwnFin p e below _ (s₁.setTop (mkF m 11 #[.val (.ref a), .val (.ref b), .val (.int (0 : Int32))] [(.ref a), (.int (0 : Int32))]))
      obtain ⟨cl3, Ar3, -, Sz3, Ng3, -, -⟩ := id hp0
      refine OwnFin.step (fun tT kK => own_len X0 hx hZ e0 Ar3 Sz3 Ng3 (g := (mkF m 11 #[.val (.ref a), .val (.ref b), .val (.int (0 : Int32))] [(.ref a), (.int (0 : Int32))])) rfl rfl (hb hby d_jdk_43_method_13_11) kK) ?_
      show OwnFin p e below _ (s₁.setTop (mkF m 12 #[.val (.ref a), .val (.ref b), .val (.int (0 : Int32))] [(.int (0 : Int32)), (.int (0 : Int32))]))
      refine OwnFin.step (fun tT kK => XS.icmpYes X0.here hx rfl (pc0 := 12) (pc' := 32) rfl (hb hby d_jdk_43_method_13_12) rfl (flt (by decide : ¬ ((0 : Int32) < (0 : Int32)))).2.1 (by decide) (by decide) kK) ?_
      show OwnFin p e below _ (s₁.setTop (mkF m 32 #[.val (.ref a), .val (.ref b), .val (.int (0 : Int32))] []))
      refine OwnFin.step (fun tT kK => XS.iconst X0.here hx rfl (hb hby d_jdk_43_method_13_32) kK) ?_
      show OwnFin p e below _ (s₁.setTop (mkF m 33 #[.val (.ref a), .val (.ref b), .val (.int (0 : Int32))] [(.int (1 : Int32))]))
      obtain ⟨fs4, hr4, hrun4, hended4, hW4, hsame4⟩ := X0.leave (v := (some (.int (1 : Int32)))) (fun h => by rw [Bd.returns] at h; cases h)
      refine ⟨_, _, retN X0 hx (t := .boolean) Bd.returns (by simp) (hb hby d_jdk_43_method_13_33) hr4, hrun4, hended4, _, _, rfl, ?_, ⟨_, rfl⟩, hW4, hsame4.mono (by decide) (by decide)⟩
      show Q2 Z a b ka kb (0 : Int32) (0 : Int32) [] [] h0 n0 _ s₁.heap _
      rw [e0]
      exact ⟨(by simp), N0, rfl⟩
    · skip
      show OwnFin p e below _ (s₁.setTop (mkF m 0 #[.val (.ref a), .val (.ref b), .unset] []))
      refine OwnFin.step (fun tT kK => XS.aloadN X0.here hx rfl (hb hby d_jdk_43_method_13_0) rfl rfl kK) ?_
      show OwnFin p e below _ (s₁.setTop (mkF m 1 #[.val (.ref a), .val (.ref b), .unset] [(.ref a)]))
      obtain ⟨cl5, Ar5, -, Sz5, Ng5, -, -⟩ := id hp0
      refine OwnFin.step (fun tT kK => own_len X0 hx hZ e0 Ar5 Sz5 Ng5 (g := (mkF m 1 #[.val (.ref a), .val (.ref b), .unset] [(.ref a)])) rfl rfl (hb hby d_jdk_43_method_13_1) kK) ?_
      show OwnFin p e below _ (s₁.setTop (mkF m 2 #[.val (.ref a), .val (.ref b), .unset] [(.int (0 : Int32))]))
      refine OwnFin.step (fun tT kK => XS.aloadN X0.here hx rfl (hb hby d_jdk_43_method_13_2) rfl rfl kK) ?_
      show OwnFin p e below _ (s₁.setTop (mkF m 3 #[.val (.ref a), .val (.ref b), .unset] [(.ref b), (.int (0 : Int32))]))
      obtain ⟨cl6, Ar6, -, Sz6, Ng6, -, -⟩ := id hp1
      refine OwnFin.step (fun tT kK => own_len X0 hx hZ e0 Ar6 Sz6 Ng6 (g := (mkF m 3 #[.val (.ref a), .val (.ref b), .unset] [(.ref b), (.int (0 : Int32))])) rfl rfl (hb hby d_jdk_43_method_13_3) kK) ?_
      show OwnFin p e below _ (s₁.setTop (mkF m 4 #[.val (.ref a), .val (.ref b), .unset] [(.int (1 : Int32)), (.int (0 : Int32))]))
      refine OwnFin.step (fun tT kK => XS.icmpYes X0.here hx rfl (pc0 := 4) (pc' := 34) rfl (hb hby d_jdk_43_method_13_4) rfl (feq (by decide : ¬ ((0 : Int32) = (1 : Int32)))).2 (by decide) (by decide) kK) ?_
      show OwnFin p e below _ (s₁.setTop (mkF m 34 #[.val (.ref a), .val (.ref b), .unset] []))
      refine OwnFin.step (fun tT kK => XS.iconst X0.here hx rfl (hb hby d_jdk_43_method_13_34) kK) ?_
      show OwnFin p e below _ (s₁.setTop (mkF m 35 #[.val (.ref a), .val (.ref b), .unset] [(.int (0 : Int32))]))
      obtain ⟨fs7, hr7, hrun7, hended7, hW7, hsame7⟩ := X0.leave (v := (some (.int (0 : Int32)))) (fun h => by rw [Bd.returns] at h; cases h)
      refine ⟨_, _, retN X0 hx (t := .boolean) Bd.returns (by simp) (hb hby d_jdk_43_method_13_35) hr7, hrun7, hended7, _, _, rfl, ?_, ⟨_, rfl⟩, hW7, hsame7.mono (by decide) (by decide)⟩
      show Q2 Z a b ka kb (0 : Int32) (1 : Int32) [] [(.int x2)] h0 n0 _ s₁.heap _
      rw [e0]
      exact ⟨(by simp), N0, rfl⟩
    · skip
      show OwnFin p e below _ (s₁.setTop (mkF m 0 #[.val (.ref a), .val (.ref b), .unset] []))
      refine OwnFin.step (fun tT kK => XS.aloadN X0.here hx rfl (hb hby d_jdk_43_method_13_0) rfl rfl kK) ?_
      show OwnFin p e below _ (s₁.setTop (mkF m 1 #[.val (.ref a), .val (.ref b), .unset] [(.ref a)]))
      obtain ⟨cl8, Ar8, -, Sz8, Ng8, -, -⟩ := id hp0
      refine OwnFin.step (fun tT kK => own_len X0 hx hZ e0 Ar8 Sz8 Ng8 (g := (mkF m 1 #[.val (.ref a), .val (.ref b), .unset] [(.ref a)])) rfl rfl (hb hby d_jdk_43_method_13_1) kK) ?_
      show OwnFin p e below _ (s₁.setTop (mkF m 2 #[.val (.ref a), .val (.ref b), .unset] [(.int (0 : Int32))]))
      refine OwnFin.step (fun tT kK => XS.aloadN X0.here hx rfl (hb hby d_jdk_43_method_13_2) rfl rfl kK) ?_
      show OwnFin p e below _ (s₁.setTop (mkF m 3 #[.val (.ref a), .val (.ref b), .unset] [(.ref b), (.int (0 : Int32))]))
      obtain ⟨cl9, Ar9, -, Sz9, Ng9, -, -⟩ := id hp1
      refine OwnFin.step (fun tT kK => own_len X0 hx hZ e0 Ar9 Sz9 Ng9 (g := (mkF m 3 #[.val (.ref a), .val (.ref b), .unset] [(.ref b), (.int (0 : Int32))])) rfl rfl (hb hby d_jdk_43_method_13_3) kK) ?_
      show OwnFin p e below _ (s₁.setTop (mkF m 4 #[.val (.ref a), .val (.ref b), .unset] [(.int (2 : Int32)), (.int (0 : Int32))]))
      refine OwnFin.step (fun tT kK => XS.icmpYes X0.here hx rfl (pc0 := 4) (pc' := 34) rfl (hb hby d_jdk_43_method_13_4) rfl (feq (by decide : ¬ ((0 : Int32) = (2 : Int32)))).2 (by decide) (by decide) kK) ?_
      show OwnFin p e below _ (s₁.setTop (mkF m 34 #[.val (.ref a), .val (.ref b), .unset] []))
      refine OwnFin.step (fun tT kK => XS.iconst X0.here hx rfl (hb hby d_jdk_43_method_13_34) kK) ?_
      show OwnFin p e below _ (s₁.setTop (mkF m 35 #[.val (.ref a), .val (.ref b), .unset] [(.int (0 : Int32))]))
      obtain ⟨fs10, hr10, hrun10, hended10, hW10, hsame10⟩ := X0.leave (v := (some (.int (0 : Int32)))) (fun h => by rw [Bd.returns] at h; cases h)
      refine ⟨_, _, retN X0 hx (t := .boolean) Bd.returns (by simp) (hb hby d_jdk_43_method_13_35) hr10, hrun10, hended10, _, _, rfl, ?_, ⟨_, rfl⟩, hW10, hsame10.mono (by decide) (by decide)⟩
      show Q2 Z a b ka kb (0 : Int32) (2 : Int32) [] [(.int x2), (.int y2)] h0 n0 _ s₁.heap _
      rw [e0]
      exact ⟨(by simp), N0, rfl⟩
  · skip
    show OwnFin p e below _ (s₁.setTop (mkF m 0 #[.val (.ref a), .val (.ref b), .unset] []))
    rcases hp3 with ⟨rfl, rfl⟩ | ⟨x2, rfl, rfl⟩ | ⟨x2, y2, rfl, rfl⟩
    · skip
      show OwnFin p e below _ (s₁.setTop (mkF m 0 #[.val (.ref a), .val (.ref b), .unset] []))
      refine OwnFin.step (fun tT kK => XS.aloadN X0.here hx rfl (hb hby d_jdk_43_method_13_0) rfl rfl kK) ?_
      show OwnFin p e below _ (s₁.setTop (mkF m 1 #[.val (.ref a), .val (.ref b), .unset] [(.ref a)]))
      obtain ⟨cl11, Ar11, -, Sz11, Ng11, -, -⟩ := id hp0
      refine OwnFin.step (fun tT kK => own_len X0 hx hZ e0 Ar11 Sz11 Ng11 (g := (mkF m 1 #[.val (.ref a), .val (.ref b), .unset] [(.ref a)])) rfl rfl (hb hby d_jdk_43_method_13_1) kK) ?_
      show OwnFin p e below _ (s₁.setTop (mkF m 2 #[.val (.ref a), .val (.ref b), .unset] [(.int (1 : Int32))]))
      refine OwnFin.step (fun tT kK => XS.aloadN X0.here hx rfl (hb hby d_jdk_43_method_13_2) rfl rfl kK) ?_
      show OwnFin p e below _ (s₁.setTop (mkF m 3 #[.val (.ref a), .val (.ref b), .unset] [(.ref b), (.int (1 : Int32))]))
      obtain ⟨cl12, Ar12, -, Sz12, Ng12, -, -⟩ := id hp1
      refine OwnFin.step (fun tT kK => own_len X0 hx hZ e0 Ar12 Sz12 Ng12 (g := (mkF m 3 #[.val (.ref a), .val (.ref b), .unset] [(.ref b), (.int (1 : Int32))])) rfl rfl (hb hby d_jdk_43_method_13_3) kK) ?_
      show OwnFin p e below _ (s₁.setTop (mkF m 4 #[.val (.ref a), .val (.ref b), .unset] [(.int (0 : Int32)), (.int (1 : Int32))]))
      refine OwnFin.step (fun tT kK => XS.icmpYes X0.here hx rfl (pc0 := 4) (pc' := 34) rfl (hb hby d_jdk_43_method_13_4) rfl (feq (by decide : ¬ ((1 : Int32) = (0 : Int32)))).2 (by decide) (by decide) kK) ?_
      show OwnFin p e below _ (s₁.setTop (mkF m 34 #[.val (.ref a), .val (.ref b), .unset] []))
      refine OwnFin.step (fun tT kK => XS.iconst X0.here hx rfl (hb hby d_jdk_43_method_13_34) kK) ?_
      show OwnFin p e below _ (s₁.setTop (mkF m 35 #[.val (.ref a), .val (.ref b), .unset] [(.int (0 : Int32))]))
      obtain ⟨fs13, hr13, hrun13, hended13, hW13, hsame13⟩ := X0.leave (v := (some (.int (0 : Int32)))) (fun h => by rw [Bd.returns] at h; cases h)
      refine ⟨_, _, retN X0 hx (t := .boolean) Bd.returns (by simp) (hb hby d_jdk_43_method_13_35) hr13, hrun13, hended13, _, _, rfl, ?_, ⟨_, rfl⟩, hW13, hsame13.mono (by decide) (by decide)⟩
      show Q2 Z a b ka kb (1 : Int32) (0 : Int32) [(.int x1)] [] h0 n0 _ s₁.heap _
      rw [e0]
      exact ⟨(by simp), N0, rfl⟩
    · skip
      show OwnFin p e below _ (s₁.setTop (mkF m 0 #[.val (.ref a), .val (.ref b), .unset] []))
      refine OwnFin.step (fun tT kK => XS.aloadN X0.here hx rfl (hb hby d_jdk_43_method_13_0) rfl rfl kK) ?_
      show OwnFin p e below _ (s₁.setTop (mkF m 1 #[.val (.ref a), .val (.ref b), .unset] [(.ref a)]))
      obtain ⟨cl14, Ar14, -, Sz14, Ng14, -, -⟩ := id hp0
      refine OwnFin.step (fun tT kK => own_len X0 hx hZ e0 Ar14 Sz14 Ng14 (g := (mkF m 1 #[.val (.ref a), .val (.ref b), .unset] [(.ref a)])) rfl rfl (hb hby d_jdk_43_method_13_1) kK) ?_
      show OwnFin p e below _ (s₁.setTop (mkF m 2 #[.val (.ref a), .val (.ref b), .unset] [(.int (1 : Int32))]))
      refine OwnFin.step (fun tT kK => XS.aloadN X0.here hx rfl (hb hby d_jdk_43_method_13_2) rfl rfl kK) ?_
      show OwnFin p e below _ (s₁.setTop (mkF m 3 #[.val (.ref a), .val (.ref b), .unset] [(.ref b), (.int (1 : Int32))]))
      obtain ⟨cl15, Ar15, -, Sz15, Ng15, -, -⟩ := id hp1
      refine OwnFin.step (fun tT kK => own_len X0 hx hZ e0 Ar15 Sz15 Ng15 (g := (mkF m 3 #[.val (.ref a), .val (.ref b), .unset] [(.ref b), (.int (1 : Int32))])) rfl rfl (hb hby d_jdk_43_method_13_3) kK) ?_
      show OwnFin p e below _ (s₁.setTop (mkF m 4 #[.val (.ref a), .val (.ref b), .unset] [(.int (1 : Int32)), (.int (1 : Int32))]))
      refine OwnFin.step (fun tT kK => XS.icmpNo X0.here hx rfl (hb hby d_jdk_43_method_13_4) rfl (teq (rfl : (1 : Int32) = (1 : Int32))).2 kK) ?_
      show OwnFin p e below _ (s₁.setTop (mkF m 7 #[.val (.ref a), .val (.ref b), .unset] []))
      refine OwnFin.step (fun tT kK => XS.iconst X0.here hx rfl (hb hby d_jdk_43_method_13_7) kK) ?_
      show OwnFin p e below _ (s₁.setTop (mkF m 8 #[.val (.ref a), .val (.ref b), .unset] [(.int (0 : Int32))]))
      refine OwnFin.step (fun tT kK => XS.istoreN X0.here hx rfl (hb hby d_jdk_43_method_13_8) rfl (l' := #[.val (.ref a), .val (.ref b), .val (.int (0 : Int32))]) rfl kK) ?_
      show OwnFin p e below _ (s₁.setTop (mkF m 9 #[.val (.ref a), .val (.ref b), .val (.int (0 : Int32))] []))
      refine OwnFin.step (fun tT kK => XS.iloadN X0.here hx rfl (hb hby d_jdk_43_method_13_9) rfl kK) ?_
      show OwnFin p e below _ (s₁.setTop (mkF m 10 #[.val (.ref a), .val (.ref b), .val (.int (0 : Int32))] [(.int (0 : Int32))]))
      refine OwnFin.step (fun tT kK => XS.aloadN X0.here hx rfl (hb hby d_jdk_43_method_13_10) rfl rfl kK) ?_
      show OwnFin p e below _ (s₁.setTop (mkF m 11 #[.val (.ref a), .val (.ref b), .val (.int (0 : Int32))] [(.ref a), (.int (0 : Int32))]))
      obtain ⟨cl16, Ar16, -, Sz16, Ng16, -, -⟩ := id hp0
      refine OwnFin.step (fun tT kK => own_len X0 hx hZ e0 Ar16 Sz16 Ng16 (g := (mkF m 11 #[.val (.ref a), .val (.ref b), .val (.int (0 : Int32))] [(.ref a), (.int (0 : Int32))])) rfl rfl (hb hby d_jdk_43_method_13_11) kK) ?_
      show OwnFin p e below _ (s₁.setTop (mkF m 12 #[.val (.ref a), .val (.ref b), .val (.int (0 : Int32))] [(.int (1 : Int32)), (.int (0 : Int32))]))
      refine OwnFin.step (fun tT kK => XS.icmpNo X0.here hx rfl (hb hby d_jdk_43_method_13_12) rfl (tlt (by decide : (0 : Int32) < (1 : Int32))).2.1 kK) ?_
      show OwnFin p e below _ (s₁.setTop (mkF m 15 #[.val (.ref a), .val (.ref b), .val (.int (0 : Int32))] []))
      refine OwnFin.step (fun tT kK => XS.aloadN X0.here hx rfl (hb hby d_jdk_43_method_13_15) rfl rfl kK) ?_
      show OwnFin p e below _ (s₁.setTop (mkF m 16 #[.val (.ref a), .val (.ref b), .val (.int (0 : Int32))] [(.ref a)]))
      refine OwnFin.step (fun tT kK => XS.iloadN X0.here hx rfl (hb hby d_jdk_43_method_13_16) rfl kK) ?_
      show OwnFin p e below _ (s₁.setTop (mkF m 17 #[.val (.ref a), .val (.ref b), .val (.int (0 : Int32))] [(.int (0 : Int32)), (.ref a)]))
      obtain ⟨cl17, Ar17, q17, Sz17, Ng17, H17, G17⟩ := id hp0
      have hin17 : ¬ ((0 : Int32) < 0 ∨ cl17.slots.size ≤ ((0 : Int32)).toNatClampNeg) := inb_of Sz17 ⟨by decide, by decide⟩
      refine OwnFin.step (fun tT kK => X0.baloadBytes hx (j := (0 : Int32)) (v := (.int x1)) (by rw [e0]; exact Ar17.1) (State.isArrayOf_alike hZ.alike Ar17.2.1) Ar17.2.2 hin17 (H17.at hin17 rfl) (g := (mkF m 17 #[.val (.ref a), .val (.ref b), .val (.int (0 : Int32))] [(.int (0 : Int32)), (.ref a)])) rfl rfl (hb hby d_jdk_43_method_13_17) _ kK) ?_
      show OwnFin p e below _ (s₁.setTop (mkF m 18 #[.val (.ref a), .val (.ref b), .val (.int (0 : Int32))] [(.int x1)]))
      refine OwnFin.step (fun tT kK => XS.aloadN X0.here hx rfl (hb hby d_jdk_43_method_13_18) rfl rfl kK) ?_
      show OwnFin p e below _ (s₁.setTop (mkF m 19 #[.val (.ref a), .val (.ref b), .val (.int (0 : Int32))] [(.ref b), (.int x1)]))
      refine OwnFin.step (fun tT kK => XS.iloadN X0.here hx rfl (hb hby d_jdk_43_method_13_19) rfl kK) ?_
      show OwnFin p e below _ (s₁.setTop (mkF m 20 #[.val (.ref a), .val (.ref b), .val (.int (0 : Int32))] [(.int (0 : Int32)), (.ref b), (.int x1)]))
      obtain ⟨cl18, Ar18, q18, Sz18, Ng18, H18, G18⟩ := id hp1
      have hin18 : ¬ ((0 : Int32) < 0 ∨ cl18.slots.size ≤ ((0 : Int32)).toNatClampNeg) := inb_of Sz18 ⟨by decide, by decide⟩
      refine OwnFin.step (fun tT kK => X0.baloadBytes hx (j := (0 : Int32)) (v := (.int x2)) (by rw [e0]; exact Ar18.1) (State.isArrayOf_alike hZ.alike Ar18.2.1) Ar18.2.2 hin18 (H18.at hin18 rfl) (g := (mkF m 20 #[.val (.ref a), .val (.ref b), .val (.int (0 : Int32))] [(.int (0 : Int32)), (.ref b), (.int x1)])) rfl rfl (hb hby d_jdk_43_method_13_20) _ kK) ?_
      show OwnFin p e below _ (s₁.setTop (mkF m 21 #[.val (.ref a), .val (.ref b), .val (.int (0 : Int32))] [(.int x2), (.int x1)]))
      by_cases hc19 : x1 = x2
      · skip
        refine OwnFin.step (fun tT kK => XS.icmpYes X0.here hx rfl (pc0 := 21) (pc' := 26) rfl (hb hby d_jdk_43_method_13_21) rfl (teq (hc19 : x1 = x2)).1 (by decide) (by decide) kK) ?_
        show OwnFin p e below _ (s₁.setTop (mkF m 26 #[.val (.ref a), .val (.ref b), .val (.int (0 : Int32))] []))
        refine OwnFin.step (fun tT kK => XS.iinc X0.here hx rfl (hb hby d_jdk_43_method_13_26) rfl (l' := #[.val (.ref a), .val (.ref b), .val (.int (1 : Int32))]) rfl kK) ?_
        show OwnFin p e below _ (s₁.setTop (mkF m 29 #[.val (.ref a), .val (.ref b), .val (.int (1 : Int32))] []))
        refine OwnFin.step (fun tT kK => XS.goto X0.here hx rfl (pc0 := 29) (pc' := 9) rfl (hb hby d_jdk_43_method_13_29) (by decide) (by decide) kK) ?_
        show OwnFin p e below _ (s₁.setTop (mkF m 9 #[.val (.ref a), .val (.ref b), .val (.int (1 : Int32))] []))
        refine OwnFin.step (fun tT kK => XS.iloadN X0.here hx rfl (hb hby d_jdk_43_method_13_9) rfl kK) ?_
        show OwnFin p e below _ (s₁.setTop (mkF m 10 #[.val (.ref a), .val (.ref b), .val (.int (1 : Int32))] [(.int (1 : Int32))]))
        refine OwnFin.step (fun tT kK => XS.aloadN X0.here hx rfl (hb hby d_jdk_43_method_13_10) rfl rfl kK) ?_
        show OwnFin p e below _ (s₁.setTop (mkF m 11 #[.val (.ref a), .val (.ref b), .val (.int (1 : Int32))] [(.ref a), (.int (1 : Int32))]))
        obtain ⟨cl21, Ar21, -, Sz21, Ng21, -, -⟩ := id hp0
        refine OwnFin.step (fun tT kK => own_len X0 hx hZ e0 Ar21 Sz21 Ng21 (g := (mkF m 11 #[.val (.ref a), .val (.ref b), .val (.int (1 : Int32))] [(.ref a), (.int (1 : Int32))])) rfl rfl (hb hby d_jdk_43_method_13_11) kK) ?_
        show OwnFin p e below _ (s₁.setTop (mkF m 12 #[.val (.ref a), .val (.ref b), .val (.int (1 : Int32))] [(.int (1 : Int32)), (.int (1 : Int32))]))
        refine OwnFin.step (fun tT kK => XS.icmpYes X0.here hx rfl (pc0 := 12) (pc' := 32) rfl (hb hby d_jdk_43_method_13_12) rfl (flt (by decide : ¬ ((1 : Int32) < (1 : Int32)))).2.1 (by decide) (by decide) kK) ?_
        show OwnFin p e below _ (s₁.setTop (mkF m 32 #[.val (.ref a), .val (.ref b), .val (.int (1 : Int32))] []))
        refine OwnFin.step (fun tT kK => XS.iconst X0.here hx rfl (hb hby d_jdk_43_method_13_32) kK) ?_
        show OwnFin p e below _ (s₁.setTop (mkF m 33 #[.val (.ref a), .val (.ref b), .val (.int (1 : Int32))] [(.int (1 : Int32))]))
        obtain ⟨fs22, hr22, hrun22, hended22, hW22, hsame22⟩ := X0.leave (v := (some (.int (1 : Int32)))) (fun h => by rw [Bd.returns] at h; cases h)
        refine ⟨_, _, retN X0 hx (t := .boolean) Bd.returns (by simp) (hb hby d_jdk_43_method_13_33) hr22, hrun22, hended22, _, _, rfl, ?_, ⟨_, rfl⟩, hW22, hsame22.mono (by decide) (by decide)⟩
        show Q2 Z a b ka kb (1 : Int32) (1 : Int32) [(.int x1)] [(.int x2)] h0 n0 _ s₁.heap _
        rw [e0]
        exact ⟨(by simp [hc19]), N0, rfl⟩
      · skip
        refine OwnFin.step (fun tT kK => XS.icmpNo X0.here hx rfl (hb hby d_jdk_43_method_13_21) rfl (feq (hc19 : ¬ (x1 = x2))).1 kK) ?_
        show OwnFin p e below _ (s₁.setTop (mkF m 24 #[.val (.ref a), .val (.ref b), .val (.int (0 : Int32))] []))
        refine OwnFin.step (fun tT kK => XS.iconst X0.here hx rfl (hb hby d_jdk_43_method_13_24) kK) ?_
        show OwnFin p e below _ (s₁.setTop (mkF m 25 #[.val (.ref a), .val (.ref b), .val (.int (0 : Int32))] [(.int (0 : Int32))]))
        obtain ⟨fs20, hr20, hrun20, hended20, hW20, hsame20⟩ := X0.leave (v := (some (.int (0 : Int32)))) (fun h => by rw [Bd.returns] at h; cases h)
        refine ⟨_, _, retN X0 hx (t := .boolean) Bd.returns (by simp) (hb hby d_jdk_43_method_13_25) hr20, hrun20, hended20, _, _, rfl, ?_, ⟨_, rfl⟩, hW20, hsame20.mono (by decide) (by decide)⟩
        show Q2 Z a b ka kb (1 : Int32) (1 : Int32) [(.int x1)] [(.int x2)] h0 n0 _ s₁.heap _
        rw [e0]
        exact ⟨(by simp [hc19]), N0, rfl⟩
    · skip
      show OwnFin p e below _ (s₁.setTop (mkF m 0 #[.val (.ref a), .val (.ref b), .unset] []))
      refine OwnFin.step (fun tT kK => XS.aloadN X0.here hx rfl (hb hby d_jdk_43_method_13_0) rfl rfl kK) ?_
      show OwnFin p e below _ (s₁.setTop (mkF m 1 #[.val (.ref a), .val (.ref b), .unset] [(.ref a)]))
      obtain ⟨cl23, Ar23, -, Sz23, Ng23, -, -⟩ := id hp0
      refine OwnFin.step (fun tT kK => own_len X0 hx hZ e0 Ar23 Sz23 Ng23 (g := (mkF m 1 #[.val (.ref a), .val (.ref b), .unset] [(.ref a)])) rfl rfl (hb hby d_jdk_43_method_13_1) kK) ?_
      show OwnFin p e below _ (s₁.setTop (mkF m 2 #[.val (.ref a), .val (.ref b), .unset] [(.int (1 : Int32))]))
      refine OwnFin.step (fun tT kK => XS.aloadN X0.here hx rfl (hb hby d_jdk_43_method_13_2) rfl rfl kK) ?_
      show OwnFin p e below _ (s₁.setTop (mkF m 3 #[.val (.ref a), .val (.ref b), .unset] [(.ref b), (.int (1 : Int32))]))
      obtain ⟨cl24, Ar24, -, Sz24, Ng24, -, -⟩ := id hp1
      refine OwnFin.step (fun tT kK => own_len X0 hx hZ e0 Ar24 Sz24 Ng24 (g := (mkF m 3 #[.val (.ref a), .val (.ref b), .unset] [(.ref b), (.int (1 : Int32))])) rfl rfl (hb hby d_jdk_43_method_13_3) kK) ?_
      show OwnFin p e below _ (s₁.setTop (mkF m 4 #[.val (.ref a), .val (.ref b), .unset] [(.int (2 : Int32)), (.int (1 : Int32))]))
      refine OwnFin.step (fun tT kK => XS.icmpYes X0.here hx rfl (pc0 := 4) (pc' := 34) rfl (hb hby d_jdk_43_method_13_4) rfl (feq (by decide : ¬ ((1 : Int32) = (2 : Int32)))).2 (by decide) (by decide) kK) ?_
      show OwnFin p e below _ (s₁.setTop (mkF m 34 #[.val (.ref a), .val (.ref b), .unset] []))
      refine OwnFin.step (fun tT kK => XS.iconst X0.here hx rfl (hb hby d_jdk_43_method_13_34) kK) ?_
      show OwnFin p e below _ (s₁.setTop (mkF m 35 #[.val (.ref a), .val (.ref b), .unset] [(.int (0 : Int32))]))
      obtain ⟨fs25, hr25, hrun25, hended25, hW25, hsame25⟩ := X0.leave (v := (some (.int (0 : Int32)))) (fun h => by rw [Bd.returns] at h; cases h)
      refine ⟨_, _, retN X0 hx (t := .boolean) Bd.returns (by simp) (hb hby d_jdk_43_method_13_35) hr25, hrun25, hended25, _, _, rfl, ?_, ⟨_, rfl⟩, hW25, hsame25.mono (by decide) (by decide)⟩
      show Q2 Z a b ka kb (1 : Int32) (2 : Int32) [(.int x1)] [(.int x2), (.int y2)] h0 n0 _ s₁.heap _
      rw [e0]
      exact ⟨(by simp), N0, rfl⟩
  · skip
    show OwnFin p e below _ (s₁.setTop (mkF m 0 #[.val (.ref a), .val (.ref b), .unset] []))
    rcases hp3 with ⟨rfl, rfl⟩ | ⟨x2, rfl, rfl⟩ | ⟨x2, y2, rfl, rfl⟩
    · skip
      show OwnFin p e below _ (s₁.setTop (mkF m 0 #[.val (.ref a), .val (.ref b), .unset] []))
      refine OwnFin.step (fun tT kK => XS.aloadN X0.here hx rfl (hb hby d_jdk_43_method_13_0) rfl rfl kK) ?_
      show OwnFin p e below _ (s₁.setTop (mkF m 1 #[.val (.ref a), .val (.ref b), .unset] [(.ref a)]))
      obtain ⟨cl26, Ar26, -, Sz26, Ng26, -, -⟩ := id hp0
      refine OwnFin.step (fun tT kK => own_len X0 hx hZ e0 Ar26 Sz26 Ng26 (g := (mkF m 1 #[.val (.ref a), .val (.ref b), .unset] [(.ref a)])) rfl rfl (hb hby d_jdk_43_method_13_1) kK) ?_
      show OwnFin p e below _ (s₁.setTop (mkF m 2 #[.val (.ref a), .val (.ref b), .unset] [(.int (2 : Int32))]))
      refine OwnFin.step (fun tT kK => XS.aloadN X0.here hx rfl (hb hby d_jdk_43_method_13_2) rfl rfl kK) ?_
      show OwnFin p e below _ (s₁.setTop (mkF m 3 #[.val (.ref a), .val (.ref b), .unset] [(.ref b), (.int (2 : Int32))]))
      obtain ⟨cl27, Ar27, -, Sz27, Ng27, -, -⟩ := id hp1
      refine OwnFin.step (fun tT kK => own_len X0 hx hZ e0 Ar27 Sz27 Ng27 (g := (mkF m 3 #[.val (.ref a), .val (.ref b), .unset] [(.ref b), (.int (2 : Int32))])) rfl rfl (hb hby d_jdk_43_method_13_3) kK) ?_
      show OwnFin p e below _ (s₁.setTop (mkF m 4 #[.val (.ref a), .val (.ref b), .unset] [(.int (0 : Int32)), (.int (2 : Int32))]))
      refine OwnFin.step (fun tT kK => XS.icmpYes X0.here hx rfl (pc0 := 4) (pc' := 34) rfl (hb hby d_jdk_43_method_13_4) rfl (feq (by decide : ¬ ((2 : Int32) = (0 : Int32)))).2 (by decide) (by decide) kK) ?_
      show OwnFin p e below _ (s₁.setTop (mkF m 34 #[.val (.ref a), .val (.ref b), .unset] []))
      refine OwnFin.step (fun tT kK => XS.iconst X0.here hx rfl (hb hby d_jdk_43_method_13_34) kK) ?_
      show OwnFin p e below _ (s₁.setTop (mkF m 35 #[.val (.ref a), .val (.ref b), .unset] [(.int (0 : Int32))]))
      obtain ⟨fs28, hr28, hrun28, hended28, hW28, hsame28⟩ := X0.leave (v := (some (.int (0 : Int32)))) (fun h => by rw [Bd.returns] at h; cases h)
      refine ⟨_, _, retN X0 hx (t := .boolean) Bd.returns (by simp) (hb hby d_jdk_43_method_13_35) hr28, hrun28, hended28, _, _, rfl, ?_, ⟨_, rfl⟩, hW28, hsame28.mono (by decide) (by decide)⟩
      show Q2 Z a b ka kb (2 : Int32) (0 : Int32) [(.int x1), (.int y1)] [] h0 n0 _ s₁.heap _
      rw [e0]
      exact ⟨(by simp), N0, rfl⟩
    · skip
      show OwnFin p e below _ (s₁.setTop (mkF m 0 #[.val (.ref a), .val (.ref b), .unset] []))
      refine OwnFin.step (fun tT kK => XS.aloadN X0.here hx rfl (hb hby d_jdk_43_method_13_0) rfl rfl kK) ?_
      show OwnFin p e below _ (s₁.setTop (mkF m 1 #[.val (.ref a), .val (.ref b), .unset] [(.ref a)]))
      obtain ⟨cl29, Ar29, -, Sz29, Ng29, -, -⟩ := id hp0
      refine OwnFin.step (fun tT kK => own_len X0 hx hZ e0 Ar29 Sz29 Ng29 (g := (mkF m 1 #[.val (.ref a), .val (.ref b), .unset] [(.ref a)])) rfl rfl (hb hby d_jdk_43_method_13_1) kK) ?_
      show OwnFin p e below _ (s₁.setTop (mkF m 2 #[.val (.ref a), .val (.ref b), .unset] [(.int (2 : Int32))]))
      refine OwnFin.step (fun tT kK => XS.aloadN X0.here hx rfl (hb hby d_jdk_43_method_13_2) rfl rfl kK) ?_
      show OwnFin p e below _ (s₁.setTop (mkF m 3 #[.val (.ref a), .val (.ref b), .unset] [(.ref b), (.int (2 : Int32))]))
      obtain ⟨cl30, Ar30, -, Sz30, Ng30, -, -⟩ := id hp1
      refine OwnFin.step (fun tT kK => own_len X0 hx hZ e0 Ar30 Sz30 Ng30 (g := (mkF m 3 #[.val (.ref a), .val (.ref b), .unset] [(.ref b), (.int (2 : Int32))])) rfl rfl (hb hby d_jdk_43_method_13_3) kK) ?_
      show OwnFin p e below _ (s₁.setTop (mkF m 4 #[.val (.ref a), .val (.ref b), .unset] [(.int (1 : Int32)), (.int (2 : Int32))]))
      refine OwnFin.step (fun tT kK => XS.icmpYes X0.here hx rfl (pc0 := 4) (pc' := 34) rfl (hb hby d_jdk_43_method_13_4) rfl (feq (by decide : ¬ ((2 : Int32) = (1 : Int32)))).2 (by decide) (by decide) kK) ?_
      show OwnFin p e below _ (s₁.setTop (mkF m 34 #[.val (.ref a), .val (.ref b), .unset] []))
      refine OwnFin.step (fun tT kK => XS.iconst X0.here hx rfl (hb hby d_jdk_43_method_13_34) kK) ?_
      show OwnFin p e below _ (s₁.setTop (mkF m 35 #[.val (.ref a), .val (.ref b), .unset] [(.int (0 : Int32))]))
      obtain ⟨fs31, hr31, hrun31, hended31, hW31, hsame31⟩ := X0.leave (v := (some (.int (0 : Int32)))) (fun h => by rw [Bd.returns] at h; cases h)
      refine ⟨_, _, retN X0 hx (t := .boolean) Bd.returns (by simp) (hb hby d_jdk_43_method_13_35) hr31, hrun31, hended31, _, _, rfl, ?_, ⟨_, rfl⟩, hW31, hsame31.mono (by decide) (by decide)⟩
      show Q2 Z a b ka kb (2 : Int32) (1 : Int32) [(.int x1), (.int y1)] [(.int x2)] h0 n0 _ s₁.heap _
      rw [e0]
      exact ⟨(by simp), N0, rfl⟩
    · skip
      show OwnFin p e below _ (s₁.setTop (mkF m 0 #[.val (.ref a), .val (.ref b), .unset] []))
      refine OwnFin.step (fun tT kK => XS.aloadN X0.here hx rfl (hb hby d_jdk_43_method_13_0) rfl rfl kK) ?_
      show OwnFin p e below _ (s₁.setTop (mkF m 1 #[.val (.ref a), .val (.ref b), .unset] [(.ref a)]))
      obtain ⟨cl32, Ar32, -, Sz32, Ng32, -, -⟩ := id hp0
      refine OwnFin.step (fun tT kK => own_len X0 hx hZ e0 Ar32 Sz32 Ng32 (g := (mkF m 1 #[.val (.ref a), .val (.ref b), .unset] [(.ref a)])) rfl rfl (hb hby d_jdk_43_method_13_1) kK) ?_
      show OwnFin p e below _ (s₁.setTop (mkF m 2 #[.val (.ref a), .val (.ref b), .unset] [(.int (2 : Int32))]))
      refine OwnFin.step (fun tT kK => XS.aloadN X0.here hx rfl (hb hby d_jdk_43_method_13_2) rfl rfl kK) ?_
      show OwnFin p e below _ (s₁.setTop (mkF m 3 #[.val (.ref a), .val (.ref b), .unset] [(.ref b), (.int (2 : Int32))]))
      obtain ⟨cl33, Ar33, -, Sz33, Ng33, -, -⟩ := id hp1
      refine OwnFin.step (fun tT kK => own_len X0 hx hZ e0 Ar33 Sz33 Ng33 (g := (mkF m 3 #[.val (.ref a), .val (.ref b), .unset] [(.ref b), (.int (2 : Int32))])) rfl rfl (hb hby d_jdk_43_method_13_3) kK) ?_
      show OwnFin p e below _ (s₁.setTop (mkF m 4 #[.val (.ref a), .val (.ref b), .unset] [(.int (2 : Int32)), (.int (2 : Int32))]))
      refine OwnFin.step (fun tT kK => XS.icmpNo X0.here hx rfl (hb hby d_jdk_43_method_13_4) rfl (teq (rfl : (2 : Int32) = (2 : Int32))).2 kK) ?_
      show OwnFin p e below _ (s₁.setTop (mkF m 7 #[.val (.ref a), .val (.ref b), .unset] []))
      refine OwnFin.step (fun tT kK => XS.iconst X0.here hx rfl (hb hby d_jdk_43_method_13_7) kK) ?_
      show OwnFin p e below _ (s₁.setTop (mkF m 8 #[.val (.ref a), .val (.ref b), .unset] [(.int (0 : Int32))]))
      refine OwnFin.step (fun tT kK => XS.istoreN X0.here hx rfl (hb hby d_jdk_43_method_13_8) rfl (l' := #[.val (.ref a), .val (.ref b), .val (.int (0 : Int32))]) rfl kK) ?_
      show OwnFin p e below _ (s₁.setTop (mkF m 9 #[.val (.ref a), .val (.ref b), .val (.int (0 : Int32))] []))
      refine OwnFin.step (fun tT kK => XS.iloadN X0.here hx rfl (hb hby d_jdk_43_method_13_9) rfl kK) ?_
      show OwnFin p e below _ (s₁.setTop (mkF m 10 #[.val (.ref a), .val (.ref b), .val (.int (0 : Int32))] [(.int (0 : Int32))]))
      refine OwnFin.step (fun tT kK => XS.aloadN X0.here hx rfl (hb hby d_jdk_43_method_13_10) rfl rfl kK) ?_
      show OwnFin p e below _ (s₁.setTop (mkF m 11 #[.val (.ref a), .val (.ref b), .val (.int (0 : Int32))] [(.ref a), (.int (0 : Int32))]))
      obtain ⟨cl34, Ar34, -, Sz34, Ng34, -, -⟩ := id hp0
      refine OwnFin.step (fun tT kK => own_len X0 hx hZ e0 Ar34 Sz34 Ng34 (g := (mkF m 11 #[.val (.ref a), .val (.ref b), .val (.int (0 : Int32))] [(.ref a), (.int (0 : Int32))])) rfl rfl (hb hby d_jdk_43_method_13_11) kK) ?_
      show OwnFin p e below _ (s₁.setTop (mkF m 12 #[.val (.ref a), .val (.ref b), .val (.int (0 : Int32))] [(.int (2 : Int32)), (.int (0 : Int32))]))
      refine OwnFin.step (fun tT kK => XS.icmpNo X0.here hx rfl (hb hby d_jdk_43_method_13_12) rfl (tlt (by decide : (0 : Int32) < (2 : Int32))).2.1 kK) ?_
      show OwnFin p e below _ (s₁.setTop (mkF m 15 #[.val (.ref a), .val (.ref b), .val (.int (0 : Int32))] []))
      refine OwnFin.step (fun tT kK => XS.aloadN X0.here hx rfl (hb hby d_jdk_43_method_13_15) rfl rfl kK) ?_
      show OwnFin p e below _ (s₁.setTop (mkF m 16 #[.val (.ref a), .val (.ref b), .val (.int (0 : Int32))] [(.ref a)]))
      refine OwnFin.step (fun tT kK => XS.iloadN X0.here hx rfl (hb hby d_jdk_43_method_13_16) rfl kK) ?_
      show OwnFin p e below _ (s₁.setTop (mkF m 17 #[.val (.ref a), .val (.ref b), .val (.int (0 : Int32))] [(.int (0 : Int32)), (.ref a)]))
      obtain ⟨cl35, Ar35, q35, Sz35, Ng35, H35, G35⟩ := id hp0
      have hin35 : ¬ ((0 : Int32) < 0 ∨ cl35.slots.size ≤ ((0 : Int32)).toNatClampNeg) := inb_of Sz35 ⟨by decide, by decide⟩
      refine OwnFin.step (fun tT kK => X0.baloadBytes hx (j := (0 : Int32)) (v := (.int x1)) (by rw [e0]; exact Ar35.1) (State.isArrayOf_alike hZ.alike Ar35.2.1) Ar35.2.2 hin35 (H35.at hin35 rfl) (g := (mkF m 17 #[.val (.ref a), .val (.ref b), .val (.int (0 : Int32))] [(.int (0 : Int32)), (.ref a)])) rfl rfl (hb hby d_jdk_43_method_13_17) _ kK) ?_
      show OwnFin p e below _ (s₁.setTop (mkF m 18 #[.val (.ref a), .val (.ref b), .val (.int (0 : Int32))] [(.int x1)]))
      refine OwnFin.step (fun tT kK => XS.aloadN X0.here hx rfl (hb hby d_jdk_43_method_13_18) rfl rfl kK) ?_
      show OwnFin p e below _ (s₁.setTop (mkF m 19 #[.val (.ref a), .val (.ref b), .val (.int (0 : Int32))] [(.ref b), (.int x1)]))
      refine OwnFin.step (fun tT kK => XS.iloadN X0.here hx rfl (hb hby d_jdk_43_method_13_19) rfl kK) ?_
      show OwnFin p e below _ (s₁.setTop (mkF m 20 #[.val (.ref a), .val (.ref b), .val (.int (0 : Int32))] [(.int (0 : Int32)), (.ref b), (.int x1)]))
      obtain ⟨cl36, Ar36, q36, Sz36, Ng36, H36, G36⟩ := id hp1
      have hin36 : ¬ ((0 : Int32) < 0 ∨ cl36.slots.size ≤ ((0 : Int32)).toNatClampNeg) := inb_of Sz36 ⟨by decide, by decide⟩
      refine OwnFin.step (fun tT kK => X0.baloadBytes hx (j := (0 : Int32)) (v := (.int x2)) (by rw [e0]; exact Ar36.1) (State.isArrayOf_alike hZ.alike Ar36.2.1) Ar36.2.2 hin36 (H36.at hin36 rfl) (g := (mkF m 20 #[.val (.ref a), .val (.ref b), .val (.int (0 : Int32))] [(.int (0 : Int32)), (.ref b), (.int x1)])) rfl rfl (hb hby d_jdk_43_method_13_20) _ kK) ?_
      show OwnFin p e below _ (s₁.setTop (mkF m 21 #[.val (.ref a), .val (.ref b), .val (.int (0 : Int32))] [(.int x2), (.int x1)]))
      by_cases hc37 : x1 = x2
      · skip
        refine OwnFin.step (fun tT kK => XS.icmpYes X0.here hx rfl (pc0 := 21) (pc' := 26) rfl (hb hby d_jdk_43_method_13_21) rfl (teq (hc37 : x1 = x2)).1 (by decide) (by decide) kK) ?_
        show OwnFin p e below _ (s₁.setTop (mkF m 26 #[.val (.ref a), .val (.ref b), .val (.int (0 : Int32))] []))
        refine OwnFin.step (fun tT kK => XS.iinc X0.here hx rfl (hb hby d_jdk_43_method_13_26) rfl (l' := #[.val (.ref a), .val (.ref b), .val (.int (1 : Int32))]) rfl kK) ?_
        show OwnFin p e below _ (s₁.setTop (mkF m 29 #[.val (.ref a), .val (.ref b), .val (.int (1 : Int32))] []))
        refine OwnFin.step (fun tT kK => XS.goto X0.here hx rfl (pc0 := 29) (pc' := 9) rfl (hb hby d_jdk_43_method_13_29) (by decide) (by decide) kK) ?_
        show OwnFin p e below _ (s₁.setTop (mkF m 9 #[.val (.ref a), .val (.ref b), .val (.int (1 : Int32))] []))
        refine OwnFin.step (fun tT kK => XS.iloadN X0.here hx rfl (hb hby d_jdk_43_method_13_9) rfl kK) ?_
        show OwnFin p e below _ (s₁.setTop (mkF m 10 #[.val (.ref a), .val (.ref b), .val (.int (1 : Int32))] [(.int (1 : Int32))]))
        refine OwnFin.step (fun tT kK => XS.aloadN X0.here hx rfl (hb hby d_jdk_43_method_13_10) rfl rfl kK) ?_
        show OwnFin p e below _ (s₁.setTop (mkF m 11 #[.val (.ref a), .val (.ref b), .val (.int (1 : Int32))] [(.ref a), (.int (1 : Int32))]))
        obtain ⟨cl39, Ar39, -, Sz39, Ng39, -, -⟩ := id hp0
        refine OwnFin.step (fun tT kK => own_len X0 hx hZ e0 Ar39 Sz39 Ng39 (g := (mkF m 11 #[.val (.ref a), .val (.ref b), .val (.int (1 : Int32))] [(.ref a), (.int (1 : Int32))])) rfl rfl (hb hby d_jdk_43_method_13_11) kK) ?_
        show OwnFin p e below _ (s₁.setTop (mkF m 12 #[.val (.ref a), .val (.ref b), .val (.int (1 : Int32))] [(.int (2 : Int32)), (.int (1 : Int32))]))
        refine OwnFin.step (fun tT kK => XS.icmpNo X0.here hx rfl (hb hby d_jdk_43_method_13_12) rfl (tlt (by decide : (1 : Int32) < (2 : Int32))).2.1 kK) ?_
        show OwnFin p e below _ (s₁.setTop (mkF m 15 #[.val (.ref a), .val (.ref b), .val (.int (1 : Int32))] []))
        refine OwnFin.step (fun tT kK => XS.aloadN X0.here hx rfl (hb hby d_jdk_43_method_13_15) rfl rfl kK) ?_
        show OwnFin p e below _ (s₁.setTop (mkF m 16 #[.val (.ref a), .val (.ref b), .val (.int (1 : Int32))] [(.ref a)]))
        refine OwnFin.step (fun tT kK => XS.iloadN X0.here hx rfl (hb hby d_jdk_43_method_13_16) rfl kK) ?_
        show OwnFin p e below _ (s₁.setTop (mkF m 17 #[.val (.ref a), .val (.ref b), .val (.int (1 : Int32))] [(.int (1 : Int32)), (.ref a)]))
        obtain ⟨cl40, Ar40, q40, Sz40, Ng40, H40, G40⟩ := id hp0
        have hin40 : ¬ ((1 : Int32) < 0 ∨ cl40.slots.size ≤ ((1 : Int32)).toNatClampNeg) := inb_of Sz40 ⟨by decide, by decide⟩
        refine OwnFin.step (fun tT kK => X0.baloadBytes hx (j := (1 : Int32)) (v := (.int y1)) (by rw [e0]; exact Ar40.1) (State.isArrayOf_alike hZ.alike Ar40.2.1) Ar40.2.2 hin40 (H40.at hin40 rfl) (g := (mkF m 17 #[.val (.ref a), .val (.ref b), .val (.int (1 : Int32))] [(.int (1 : Int32)), (.ref a)])) rfl rfl (hb hby d_jdk_43_method_13_17) _ kK) ?_
        show OwnFin p e below _ (s₁.setTop (mkF m 18 #[.val (.ref a), .val (.ref b), .val (.int (1 : Int32))] [(.int y1)]))
        refine OwnFin.step (fun tT kK => XS.aloadN X0.here hx rfl (hb hby d_jdk_43_method_13_18) rfl rfl kK) ?_
        show OwnFin p e below _ (s₁.setTop (mkF m 19 #[.val (.ref a), .val (.ref b), .val (.int (1 : Int32))] [(.ref b), (.int y1)]))
        refine OwnFin.step (fun tT kK => XS.iloadN X0.here hx rfl (hb hby d_jdk_43_method_13_19) rfl kK) ?_
        show OwnFin p e below _ (s₁.setTop (mkF m 20 #[.val (.ref a), .val (.ref b), .val (.int (1 : Int32))] [(.int (1 : Int32)), (.ref b), (.int y1)]))
        obtain ⟨cl41, Ar41, q41, Sz41, Ng41, H41, G41⟩ := id hp1
        have hin41 : ¬ ((1 : Int32) < 0 ∨ cl41.slots.size ≤ ((1 : Int32)).toNatClampNeg) := inb_of Sz41 ⟨by decide, by decide⟩
        refine OwnFin.step (fun tT kK => X0.baloadBytes hx (j := (1 : Int32)) (v := (.int y2)) (by rw [e0]; exact Ar41.1) (State.isArrayOf_alike hZ.alike Ar41.2.1) Ar41.2.2 hin41 (H41.at hin41 rfl) (g := (mkF m 20 #[.val (.ref a), .val (.ref b), .val (.int (1 : Int32))] [(.int (1 : Int32)), (.ref b), (.int y1)])) rfl rfl (hb hby d_jdk_43_method_13_20) _ kK) ?_
        show OwnFin p e below _ (s₁.setTop (mkF m 21 #[.val (.ref a), .val (.ref b), .val (.int (1 : Int32))] [(.int y2), (.int y1)]))
        by_cases hc42 : y1 = y2
        · skip
          refine OwnFin.step (fun tT kK => XS.icmpYes X0.here hx rfl (pc0 := 21) (pc' := 26) rfl (hb hby d_jdk_43_method_13_21) rfl (teq (hc42 : y1 = y2)).1 (by decide) (by decide) kK) ?_
          show OwnFin p e below _ (s₁.setTop (mkF m 26 #[.val (.ref a), .val (.ref b), .val (.int (1 : Int32))] []))
          refine OwnFin.step (fun tT kK => XS.iinc X0.here hx rfl (hb hby d_jdk_43_method_13_26) rfl (l' := #[.val (.ref a), .val (.ref b), .val (.int (2 : Int32))]) rfl kK) ?_
          show OwnFin p e below _ (s₁.setTop (mkF m 29 #[.val (.ref a), .val (.ref b), .val (.int (2 : Int32))] []))
          refine OwnFin.step (fun tT kK => XS.goto X0.here hx rfl (pc0 := 29) (pc' := 9) rfl (hb hby d_jdk_43_method_13_29) (by decide) (by decide) kK) ?_
          show OwnFin p e below _ (s₁.setTop (mkF m 9 #[.val (.ref a), .val (.ref b), .val (.int (2 : Int32))] []))
          refine OwnFin.step (fun tT kK => XS.iloadN X0.here hx rfl (hb hby d_jdk_43_method_13_9) rfl kK) ?_
          show OwnFin p e below _ (s₁.setTop (mkF m 10 #[.val (.ref a), .val (.ref b), .val (.int (2 : Int32))] [(.int (2 : Int32))]))
          refine OwnFin.step (fun tT kK => XS.aloadN X0.here hx rfl (hb hby d_jdk_43_method_13_10) rfl rfl kK) ?_
          show OwnFin p e below _ (s₁.setTop (mkF m 11 #[.val (.ref a), .val (.ref b), .val (.int (2 : Int32))] [(.ref a), (.int (2 : Int32))]))
          obtain ⟨cl44, Ar44, -, Sz44, Ng44, -, -⟩ := id hp0
          refine OwnFin.step (fun tT kK => own_len X0 hx hZ e0 Ar44 Sz44 Ng44 (g := (mkF m 11 #[.val (.ref a), .val (.ref b), .val (.int (2 : Int32))] [(.ref a), (.int (2 : Int32))])) rfl rfl (hb hby d_jdk_43_method_13_11) kK) ?_
          show OwnFin p e below _ (s₁.setTop (mkF m 12 #[.val (.ref a), .val (.ref b), .val (.int (2 : Int32))] [(.int (2 : Int32)), (.int (2 : Int32))]))
          refine OwnFin.step (fun tT kK => XS.icmpYes X0.here hx rfl (pc0 := 12) (pc' := 32) rfl (hb hby d_jdk_43_method_13_12) rfl (flt (by decide : ¬ ((2 : Int32) < (2 : Int32)))).2.1 (by decide) (by decide) kK) ?_
          show OwnFin p e below _ (s₁.setTop (mkF m 32 #[.val (.ref a), .val (.ref b), .val (.int (2 : Int32))] []))
          refine OwnFin.step (fun tT kK => XS.iconst X0.here hx rfl (hb hby d_jdk_43_method_13_32) kK) ?_
          show OwnFin p e below _ (s₁.setTop (mkF m 33 #[.val (.ref a), .val (.ref b), .val (.int (2 : Int32))] [(.int (1 : Int32))]))
          obtain ⟨fs45, hr45, hrun45, hended45, hW45, hsame45⟩ := X0.leave (v := (some (.int (1 : Int32)))) (fun h => by rw [Bd.returns] at h; cases h)
          refine ⟨_, _, retN X0 hx (t := .boolean) Bd.returns (by simp) (hb hby d_jdk_43_method_13_33) hr45, hrun45, hended45, _, _, rfl, ?_, ⟨_, rfl⟩, hW45, hsame45.mono (by decide) (by decide)⟩
          show Q2 Z a b ka kb (2 : Int32) (2 : Int32) [(.int x1), (.int y1)] [(.int x2), (.int y2)] h0 n0 _ s₁.heap _
          rw [e0]
          exact ⟨(by simp [hc37, hc42]), N0, rfl⟩
        · skip
          refine OwnFin.step (fun tT kK => XS.icmpNo X0.here hx rfl (hb hby d_jdk_43_method_13_21) rfl (feq (hc42 : ¬ (y1 = y2))).1 kK) ?_
          show OwnFin p e below _ (s₁.setTop (mkF m 24 #[.val (.ref a), .val (.ref b), .val (.int (1 : Int32))] []))
          refine OwnFin.step (fun tT kK => XS.iconst X0.here hx rfl (hb hby d_jdk_43_method_13_24) kK) ?_
          show OwnFin p e below _ (s₁.setTop (mkF m 25 #[.val (.ref a), .val (.ref b), .val (.int (1 : Int32))] [(.int (0 : Int32))]))
          obtain ⟨fs43, hr43, hrun43, hended43, hW43, hsame43⟩ := X0.leave (v := (some (.int (0 : Int32)))) (fun h => by rw [Bd.returns] at h; cases h)
          refine ⟨_, _, retN X0 hx (t := .boolean) Bd.returns (by simp) (hb hby d_jdk_43_method_13_25) hr43, hrun43, hended43, _, _, rfl, ?_, ⟨_, rfl⟩, hW43, hsame43.mono (by decide) (by decide)⟩
          show Q2 Z a b ka kb (2 : Int32) (2 : Int32) [(.int x1), (.int y1)] [(.int x2), (.int y2)] h0 n0 _ s₁.heap _
          rw [e0]
          exact ⟨(by simp [hc37, hc42]), N0, rfl⟩
      · skip
        refine OwnFin.step (fun tT kK => XS.icmpNo X0.here hx rfl (hb hby d_jdk_43_method_13_21) rfl (feq (hc37 : ¬ (x1 = x2))).1 kK) ?_
        show OwnFin p e below _ (s₁.setTop (mkF m 24 #[.val (.ref a), .val (.ref b), .val (.int (0 : Int32))] []))
        refine OwnFin.step (fun tT kK => XS.iconst X0.here hx rfl (hb hby d_jdk_43_method_13_24) kK) ?_
        show OwnFin p e below _ (s₁.setTop (mkF m 25 #[.val (.ref a), .val (.ref b), .val (.int (0 : Int32))] [(.int (0 : Int32))]))
        obtain ⟨fs38, hr38, hrun38, hended38, hW38, hsame38⟩ := X0.leave (v := (some (.int (0 : Int32)))) (fun h => by rw [Bd.returns] at h; cases h)
        refine ⟨_, _, retN X0 hx (t := .boolean) Bd.returns (by simp) (hb hby d_jdk_43_method_13_25) hr38, hrun38, hended38, _, _, rfl, ?_, ⟨_, rfl⟩, hW38, hsame38.mono (by decide) (by decide)⟩
        show Q2 Z a b ka kb (2 : Int32) (2 : Int32) [(.int x1), (.int y1)] [(.int x2), (.int y2)] h0 n0 _ s₁.heap _
        rw [e0]
        exact ⟨(by simp [hc37]), N0, rfl⟩
theorem pn_31 : plainName "java/lang/String" = true := by first | (simp [plainName, overriddenIn]; done) | decide +kernel
theorem d_jdk_42_method_66_0 : decode jdk_42_method_66_code 0 = .ok (.aload_n 0, 1) := by decide +kernel
theorem d_jdk_42_method_66_1 : decode jdk_42_method_66_code 1 = .ok (.aload_n 1, 1) := by decide +kernel
theorem d_jdk_42_method_66_2 : decode jdk_42_method_66_code 2 = .ok (.if_acmp .ne 5, 3) := by decide +kernel
theorem d_jdk_42_method_66_5 : decode jdk_42_method_66_code 5 = .ok (.iconst 1, 1) := by decide +kernel
theorem d_jdk_42_method_66_6 : decode jdk_42_method_66_code 6 = .ok (.ireturn, 1) := by decide +kernel
theorem d_jdk_42_method_66_7 : decode jdk_42_method_66_code 7 = .ok (.aload_n 1, 1) := by decide +kernel
theorem d_jdk_42_method_66_8 : decode jdk_42_method_66_code 8 = .ok (.instanceof 10, 3) := by decide +kernel
theorem d_jdk_42_method_66_11 : decode jdk_42_method_66_code 11 = .ok (.ifCond .eq 43, 3) := by decide +kernel
theorem d_jdk_42_method_66_14 : decode jdk_42_method_66_code 14 = .ok (.aload_n 1, 1) := by decide +kernel
theorem d_jdk_42_method_66_15 : decode jdk_42_method_66_code 15 = .ok (.checkcast 10, 3) := by decide +kernel
theorem d_jdk_42_method_66_18 : decode jdk_42_method_66_code 18 = .ok (.astore_n 2, 1) := by decide +kernel
theorem d_jdk_42_method_66_19 : decode jdk_42_method_66_code 19 = .ok (.getstatic 38, 3) := by decide +kernel
theorem d_jdk_42_method_66_22 : decode jdk_42_method_66_code 22 = .ok (.ifCond .eq 14, 3) := by decide +kernel
theorem d_jdk_42_method_66_25 : decode jdk_42_method_66_code 25 = .ok (.aload_n 0, 1) := by decide +kernel
theorem d_jdk_42_method_66_26 : decode jdk_42_method_66_code 26 = .ok (.getfield 15, 3) := by decide +kernel
theorem d_jdk_42_method_66_29 : decode jdk_42_method_66_code 29 = .ok (.aload_n 2, 1) := by decide +kernel
theorem d_jdk_42_method_66_30 : decode jdk_42_method_66_code 30 = .ok (.getfield 15, 3) := by decide +kernel
theorem d_jdk_42_method_66_33 : decode jdk_42_method_66_code 33 = .ok (.if_icmp .ne 21, 3) := by decide +kernel
theorem d_jdk_42_method_66_36 : decode jdk_42_method_66_code 36 = .ok (.aload_n 0, 1) := by decide +kernel
theorem d_jdk_42_method_66_37 : decode jdk_42_method_66_code 37 = .ok (.getfield 9, 3) := by decide +kernel
theorem d_jdk_42_method_66_40 : decode jdk_42_method_66_code 40 = .ok (.aload_n 2, 1) := by decide +kernel
theorem d_jdk_42_method_66_41 : decode jdk_42_method_66_code 41 = .ok (.getfield 9, 3) := by decide +kernel
theorem d_jdk_42_method_66_44 : decode jdk_42_method_66_code 44 = .ok (.invokestatic 541, 3) := by decide +kernel
theorem pd_55 : parseMethodDescriptor "([B[B)Z" = some ⟨[(.array .byte), (.array .byte)], some .boolean⟩ := by decide +kernel
theorem d_jdk_42_method_66_47 : decode jdk_42_method_66_code 47 = .ok (.ifCond .eq 7, 3) := by decide +kernel
theorem d_jdk_42_method_66_50 : decode jdk_42_method_66_code 50 = .ok (.iconst 1, 1) := by decide +kernel
theorem d_jdk_42_method_66_51 : decode jdk_42_method_66_code 51 = .ok (.goto 4, 3) := by decide +kernel
theorem d_jdk_42_method_66_55 : decode jdk_42_method_66_code 55 = .ok (.ireturn, 1) := by decide +kernel
theorem d_jdk_42_method_66_54 : decode jdk_42_method_66_code 54 = .ok (.iconst 0, 1) := by decide +kernel
theorem ef_3 (m : MethodId) (a : Addr) (o : Addr) : entryFrame m #[(.ref a), (.ref o)] 3 = mkF m 0 #[.val (.ref a), .val (.ref o), .unset] [] := by first | (simp [entryFrame, mkF, argsToLocals, Value.category]; done) | rfl
def Q3 (Z : State) (a : Addr) (o : Addr) (b1 : Addr) (k1 : ClassId) (n1 : Int32) (v1 : List Value) (b2 : Addr) (k2 : ClassId) (n2 : Int32) (v2 : List Value) (cs : Int32) (h0 : Heap) (n0 : Nat) (vV : Option Value) (hH : Heap) (LL : List Loc) : Prop := vV = some (.int (if v1 = v2 then 1 else 0)) ∧ Fr n0 LL ∧ hH = h0
def R3 (Z : State) (a : Addr) (o : Addr) (b1 : Addr) (k1 : ClassId) (n1 : Int32) (v1 : List Value) (b2 : Addr) (k2 : ClassId) (n2 : Int32) (v2 : List Value) (cs : Int32) (h0 : Heap) (n0 : Nat) (U : State) (oO : Outcome) (U' : State) : Prop := ∃ vV LL, oO = .returned vV ∧ Q3 Z a o b1 k1 n1 v1 b2 k2 n2 v2 cs h0 n0 vV U'.heap LL ∧ FrameEnd U oO U' LL ({ frames := 1, cells := 0, slots := 0, locals := 14 } : Room).cells ({ frames := 1, cells := 0, slots := 0, locals := 14 } : Room).slots
set_option maxRecDepth 65536 in
set_option maxHeartbeats 40000000 in
theorem rm3 (l : Launch) (Z : State) (a0 : Array Value) (hw : ∀ d ∈ tables_1, d.before a0 Z = true) (hEL : EW Z a0 OwnEL) (wS : ∀ a ∈ Bundle.stringAtoms, a.before a0 Z = true) (ws : List Jvm.Cond) (a : Addr) (o : Addr) (b1 : Addr) (k1 : ClassId) (n1 : Int32) (v1 : List Value) (b2 : Addr) (k2 : ClassId) (n2 : Int32) (v2 : List Value) (cs : Int32) (h0 : Heap) (n0 : Nat) (Z0 : n0 ≤ h0.size) (hp0 : Exa Z h0 a "java/lang/String") (hp1 : Fld Z h0 a "java/lang/String" "value" "[B" (.ref b1)) (hp2 : Fld Z h0 a "java/lang/String" "coder" "B" (.int (0 : Int32))) (hp3 : Arv Z h0 b1 k1 .byte n1 v1 (.int (0 : Int32))) (hp4 : Exa Z h0 o "java/lang/String") (hp5 : Fld Z h0 o "java/lang/String" "value" "[B" (.ref b2)) (hp6 : Fld Z h0 o "java/lang/String" "coder" "B" (.int (0 : Int32))) (hp7 : Arv Z h0 b2 k2 .byte n2 v2 (.int (0 : Int32))) (hp8 : OwnB n1 v1) (hp9 : OwnB n2 v2) (hp10 : Sta Z h0 "java/lang/String" "COMPACT_STRINGS" "Z" (.int cs)) (hp11 : ¬ cs = (0 : Int32)) :
    MetFree l (⟨"java/lang/String", "equals", "(Ljava/lang/Object;)Z"⟩ : MethodName) (head1 (Jvm.Cond.code (⟨"java/lang/String", "equals", "(Ljava/lang/Object;)Z"⟩ : MethodName) jdk_42_method_66_code 3 (some .boolean) :: ws) ({ frames := 1, cells := 0, slots := 0, locals := 14 } : Room)) (fun aA U => aA = #[(.ref a), (.ref o)] ∧ Z.Warmed39 U.vm ∧ U.heap = h0) (fun _ _ _ _ _ => True) (fun _ U oO U' => ∃ vV LL, oO = .returned vV ∧ Q3 Z a o b1 k1 n1 v1 b2 k2 n2 v2 cs h0 n0 vV U'.heap LL ∧ FrameEnd U oO U' LL ({ frames := 1, cells := 0, slots := 0, locals := 14 } : Room).cells ({ frames := 1, cells := 0, slots := 0, locals := 14 } : Room).slots) := by
  refine MetFree.of_bodySF (plainFor_of_name pn_31) hisR ?_
  intro p e s m args below meth cC s₁ Bd hml0 hP hK
  obtain ⟨rfl, hZ, hh⟩ := hP
  have hx := Bd.exec
  have hby := Bd.bytes
  have hml : cC.maxLocals = 3 := hml0
  have hown : s.vm.findClass "java/lang/String" = some m.cls := findClass_of_methodNamed Bd.named
  have hnm := (name_of_methodNamed Bd.named Bd.method).1
  have X0 : Stand p l e ({ frames := 1, cells := 0, slots := 0, locals := 14 } : Room) s m #[(.ref a), (.ref o)] below meth cC s₁ [] 0 0 := Stand.of_body Bd
  have e0 : s₁.heap = h0 := by rw [← hh, Bd.state]; rfl
  have N0 := Fr.nil n0
  have Kp0 := Keep.refl h0 []
  show OwnFin p e below (R3 Z a o b1 k1 n1 v1 b2 k2 n2 v2 cs h0 n0 s) (s₁.setTop (entryFrame m #[(.ref a), (.ref o)] 3))
  rw [ef_3 m a o]
  refine OwnFin.step (fun tT kK => XS.aloadN X0.here hx rfl (hb hby d_jdk_42_method_66_0) rfl rfl kK) ?_
  show OwnFin p e below _ (s₁.setTop (mkF m 1 #[.val (.ref a), .val (.ref o), .unset] [(.ref a)]))
  refine OwnFin.step (fun tT kK => XS.aloadN X0.here hx rfl (hb hby d_jdk_42_method_66_1) rfl rfl kK) ?_
  show OwnFin p e below _ (s₁.setTop (mkF m 2 #[.val (.ref a), .val (.ref o), .unset] [(.ref o), (.ref a)]))
  by_cases hc1 : a = o
  · skip
    refine OwnFin.step (fun tT kK => Jvm.RoadKit.acmp (g := (mkF m 2 #[.val (.ref a), .val (.ref o), .unset] [(.ref o), (.ref a)])) X0 hx rfl rfl rfl (pc0 := 2) (pc' := 5) (same := true) rfl (hb hby d_jdk_42_method_66_2) rfl (decide_eq_true (congrArg Value.ref (hc1 : a = o))) (by decide) (by decide) kK) ?_
    show OwnFin p e below _ (s₁.setTop (mkF m 5 #[.val (.ref a), .val (.ref o), .unset] []))
    refine OwnFin.step (fun tT kK => XS.iconst X0.here hx rfl (hb hby d_jdk_42_method_66_5) kK) ?_
    show OwnFin p e below _ (s₁.setTop (mkF m 6 #[.val (.ref a), .val (.ref o), .unset] [(.int (1 : Int32))]))
    obtain ⟨fs2, hr2, hrun2, hended2, hW2, hsame2⟩ := X0.leave (v := (some (.int (1 : Int32)))) (fun h => by rw [Bd.returns] at h; cases h)
    refine ⟨_, _, retN X0 hx (t := .boolean) Bd.returns (by simp) (hb hby d_jdk_42_method_66_6) hr2, hrun2, hended2, _, _, rfl, ?_, ⟨_, rfl⟩, hW2, hsame2.mono (by decide) (by decide)⟩
    show Q3 Z a o b1 k1 n1 v1 b2 k2 n2 v2 cs h0 n0 _ s₁.heap _
    rw [e0]
    exact ⟨(by rw [if_pos (own_same hp1 hp5 hp3 hp7 hp8 hp9 hc1)]), N0, rfl⟩
  · skip
    refine OwnFin.step (fun tT kK => Jvm.RoadKit.acmp (g := (mkF m 2 #[.val (.ref a), .val (.ref o), .unset] [(.ref o), (.ref a)])) X0 hx rfl rfl rfl (pc0 := 2) (pc' := 7) (same := false) rfl (hb hby d_jdk_42_method_66_2) rfl (decide_eq_false fun q => (hc1 : ¬ (a = o)) (Value.ref.inj q)) (by decide) (by decide) kK) ?_
    show OwnFin p e below _ (s₁.setTop (mkF m 7 #[.val (.ref a), .val (.ref o), .unset] []))
    refine OwnFin.step (fun tT kK => XS.aloadN X0.here hx rfl (hb hby d_jdk_42_method_66_7) rfl rfl kK) ?_
    show OwnFin p e below _ (s₁.setTop (mkF m 8 #[.val (.ref a), .val (.ref o), .unset] [(.ref o)]))
    obtain ⟨T3, X3, e3, st3⟩ := instY X0 hx hZ hown (hw _ (List.mem_of_getElem? (i := 62) rfl)) e0 (Ins.self hp4) (g := (mkF m 8 #[.val (.ref a), .val (.ref o), .unset] [(.ref o)])) rfl rfl (hb hby d_jdk_42_method_66_8)
    refine OwnFin.step st3 ?_
    show OwnFin p e below _ (T3.setTop (mkF m 11 #[.val (.ref a), .val (.ref o), .unset] [(.int (1 : Int32))]))
    refine OwnFin.step (fun tT kK => XS.ifNo X3.here hx rfl (hb hby d_jdk_42_method_66_11) rfl ((if0 _ _).trans (feq (by decide : ¬ ((1 : Int32) = (0 : Int32)))).1) kK) ?_
    show OwnFin p e below _ (T3.setTop (mkF m 14 #[.val (.ref a), .val (.ref o), .unset] []))
    refine OwnFin.step (fun tT kK => XS.aloadN X3.here hx rfl (hb hby d_jdk_42_method_66_14) rfl rfl kK) ?_
    show OwnFin p e below _ (T3.setTop (mkF m 15 #[.val (.ref a), .val (.ref o), .unset] [(.ref o)]))
    obtain ⟨T4, X4, e4, st4⟩ := castY X3 hx hZ hown (hw _ (List.mem_of_getElem? (i := 62) rfl)) e3 (Ins.self hp4) (g := (mkF m 15 #[.val (.ref a), .val (.ref o), .unset] [(.ref o)])) rfl rfl (hb hby d_jdk_42_method_66_15)
    refine OwnFin.step st4 ?_
    show OwnFin p e below _ (T4.setTop (mkF m 18 #[.val (.ref a), .val (.ref o), .unset] [(.ref o)]))
    refine OwnFin.step (fun tT kK => XS.astoreN X4.here hx rfl (hb hby d_jdk_42_method_66_18) rfl rfl (l' := #[.val (.ref a), .val (.ref o), .val (.ref o)]) rfl kK) ?_
    show OwnFin p e below _ (T4.setTop (mkF m 19 #[.val (.ref a), .val (.ref o), .val (.ref o)] []))
    obtain ⟨T5, X5, e5, st5⟩ := getS2 X4 hx hZ hown (host := "") (Or.inl (hw _ (List.mem_of_getElem? (i := 63) rfl))) Via.refl e4 hp10 (g := (mkF m 19 #[.val (.ref a), .val (.ref o), .val (.ref o)] [])) rfl (hb hby d_jdk_42_method_66_19)
    refine OwnFin.step st5 ?_
    show OwnFin p e below _ (T5.setTop (mkF m 22 #[.val (.ref a), .val (.ref o), .val (.ref o)] [(.int cs)]))
    refine OwnFin.step (fun tT kK => XS.ifNo X5.here hx rfl (hb hby d_jdk_42_method_66_22) rfl ((if0 _ _).trans (feq (hp11 : ¬ (cs = (0 : Int32)))).1) kK) ?_
    show OwnFin p e below _ (T5.setTop (mkF m 25 #[.val (.ref a), .val (.ref o), .val (.ref o)] []))
    refine OwnFin.step (fun tT kK => XS.aloadN X5.here hx rfl (hb hby d_jdk_42_method_66_25) rfl rfl kK) ?_
    show OwnFin p e below _ (T5.setTop (mkF m 26 #[.val (.ref a), .val (.ref o), .val (.ref o)] [(.ref a)]))
    obtain ⟨T6, X6, e6, st6⟩ := getF X5 hx hZ hown (host := "") (Or.inl (hw _ (List.mem_of_getElem? (i := 28) rfl))) Via.refl e5 hp2 (g := (mkF m 26 #[.val (.ref a), .val (.ref o), .val (.ref o)] [(.ref a)])) rfl rfl (hb hby d_jdk_42_method_66_26)
    refine OwnFin.step st6 ?_
    show OwnFin p e below _ (T6.setTop (mkF m 29 #[.val (.ref a), .val (.ref o), .val (.ref o)] [(.int (0 : Int32))]))
    refine OwnFin.step (fun tT kK => XS.aloadN X6.here hx rfl (hb hby d_jdk_42_method_66_29) rfl rfl kK) ?_
    show OwnFin p e below _ (T6.setTop (mkF m 30 #[.val (.ref a), .val (.ref o), .val (.ref o)] [(.ref o), (.int (0 : Int32))]))
    obtain ⟨T7, X7, e7, st7⟩ := getF X6 hx hZ hown (host := "") (Or.inl (hw _ (List.mem_of_getElem? (i := 28) rfl))) Via.refl e6 hp6 (g := (mkF m 30 #[.val (.ref a), .val (.ref o), .val (.ref o)] [(.ref o), (.int (0 : Int32))])) rfl rfl (hb hby d_jdk_42_method_66_30)
    refine OwnFin.step st7 ?_
    show OwnFin p e below _ (T7.setTop (mkF m 33 #[.val (.ref a), .val (.ref o), .val (.ref o)] [(.int (0 : Int32)), (.int (0 : Int32))]))
    refine OwnFin.step (fun tT kK => XS.icmpNo X7.here hx rfl (hb hby d_jdk_42_method_66_33) rfl (teq (rfl : (0 : Int32) = (0 : Int32))).2 kK) ?_
    show OwnFin p e below _ (T7.setTop (mkF m 36 #[.val (.ref a), .val (.ref o), .val (.ref o)] []))
    refine OwnFin.step (fun tT kK => XS.aloadN X7.here hx rfl (hb hby d_jdk_42_method_66_36) rfl rfl kK) ?_
    show OwnFin p e below _ (T7.setTop (mkF m 37 #[.val (.ref a), .val (.ref o), .val (.ref o)] [(.ref a)]))
    obtain ⟨T8, X8, e8, st8⟩ := getF X7 hx hZ hown (host := "") (Or.inl (hw _ (List.mem_of_getElem? (i := 27) rfl))) Via.refl e7 hp1 (g := (mkF m 37 #[.val (.ref a), .val (.ref o), .val (.ref o)] [(.ref a)])) rfl rfl (hb hby d_jdk_42_method_66_37)
    refine OwnFin.step st8 ?_
    show OwnFin p e below _ (T8.setTop (mkF m 40 #[.val (.ref a), .val (.ref o), .val (.ref o)] [(.ref b1)]))
    refine OwnFin.step (fun tT kK => XS.aloadN X8.here hx rfl (hb hby d_jdk_42_method_66_40) rfl rfl kK) ?_
    show OwnFin p e below _ (T8.setTop (mkF m 41 #[.val (.ref a), .val (.ref o), .val (.ref o)] [(.ref o), (.ref b1)]))
    obtain ⟨T9, X9, e9, st9⟩ := getF X8 hx hZ hown (host := "") (Or.inl (hw _ (List.mem_of_getElem? (i := 27) rfl))) Via.refl e8 hp5 (g := (mkF m 41 #[.val (.ref a), .val (.ref o), .val (.ref o)] [(.ref o), (.ref b1)])) rfl rfl (hb hby d_jdk_42_method_66_41)
    refine OwnFin.step st9 ?_
    show OwnFin p e below _ (T9.setTop (mkF m 44 #[.val (.ref a), .val (.ref o), .val (.ref o)] [(.ref b2), (.ref b1)]))
    obtain ⟨_, _, ⟨T10, L10, k10, n10⟩, -, X10, ⟨Lc10, hQ10, l10, y10, z10⟩, st10⟩ := Jvm.LawKit.callS X9 hx (y := (⟨"java/lang/StringLatin1", "equals", "([B[B)Z"⟩ : MethodName)) hown (mvT hZ (hw _ (List.mem_of_getElem? (i := 64) rfl))) (mvT hZ (hw _ (List.mem_of_getElem? (i := 65) rfl))) (mvT hZ (hw _ (List.mem_of_getElem? (i := 66) rfl))) (mvT hZ (hw _ (List.mem_of_getElem? (i := 67) rfl))) (by decide) (backOf (W := 0) (rm2 l Z a0 hw hEL wS [] b1 b2 k1 k2 n1 n2 v1 v2 h0 n0 (Nat.le_trans Z0 Kp0.1) hp3 hp7 hp8 hp9) hZ (hw _ (List.mem_of_getElem? (i := 67) rfl)) (hw _ (List.mem_of_getElem? (i := 66) rfl)) (by decide) (by decide)) (g := (mkF m 44 #[.val (.ref a), .val (.ref o), .val (.ref o)] [(.ref b2), (.ref b1)])) rfl (by rw [hml]; rfl) (argsL := [(.ref b1), (.ref b2)]) (rest := []) (lenOf pd_55 rfl) rfl (by show 2 * 0 + _ ≤ _; exact Nat.le_of_eq rfl) (hb hby d_jdk_42_method_66_44) (fun _ _ => ⟨rfl, e9, (by decide : 0 + 0 ≤ _), (by decide : 0 + 0 ≤ _)⟩)
    dsimp only [Pt.U, Pt.locs, Pt.cells, Pt.slots] at X10 l10 y10 z10 st10 hQ10
    subst l10 y10 z10
    obtain ⟨rfl, N10q, e10⟩ := hQ10
    have N10 := Fr.app N0 N10q
    refine OwnFin.step st10 ?_
    show OwnFin p e below _ (T10.setTop (mkF m 47 #[.val (.ref a), .val (.ref o), .val (.ref o)] [(.int (if v1 = v2 then 1 else 0))]))
    by_cases hc11 : v1 = v2
    · skip
      rw [if_pos hc11]
      show OwnFin p e below _ (T10.setTop (mkF m 47 #[.val (.ref a), .val (.ref o), .val (.ref o)] [(.int (1 : Int32))]))
      refine OwnFin.step (fun tT kK => XS.ifNo X10.here hx rfl (hb hby d_jdk_42_method_66_47) rfl ((if0 _ _).trans (feq (by decide : ¬ ((1 : Int32) = (0 : Int32)))).1) kK) ?_
      show OwnFin p e below _ (T10.setTop (mkF m 50 #[.val (.ref a), .val (.ref o), .val (.ref o)] []))
      refine OwnFin.step (fun tT kK => XS.iconst X10.here hx rfl (hb hby d_jdk_42_method_66_50) kK) ?_
      show OwnFin p e below _ (T10.setTop (mkF m 51 #[.val (.ref a), .val (.ref o), .val (.ref o)] [(.int (1 : Int32))]))
      refine OwnFin.step (fun tT kK => XS.goto X10.here hx rfl (pc0 := 51) (pc' := 55) rfl (hb hby d_jdk_42_method_66_51) (by decide) (by decide) kK) ?_
      show OwnFin p e below _ (T10.setTop (mkF m 55 #[.val (.ref a), .val (.ref o), .val (.ref o)] [(.int (1 : Int32))]))
      obtain ⟨fs12, hr12, hrun12, hended12, hW12, hsame12⟩ := X10.leave (v := (some (.int (1 : Int32)))) (fun h => by rw [Bd.returns] at h; cases h)
      refine ⟨_, _, retN X10 hx (t := .boolean) Bd.returns (by simp) (hb hby d_jdk_42_method_66_55) hr12, hrun12, hended12, _, _, rfl, ?_, ⟨_, rfl⟩, hW12, hsame12.mono (by decide) (by decide)⟩
      show Q3 Z a o b1 k1 n1 v1 b2 k2 n2 v2 cs h0 n0 _ T10.heap _
      rw [e10]
      exact ⟨(by rw [if_pos hc11]), N10, rfl⟩
    · skip
      rw [if_neg hc11]
      show OwnFin p e below _ (T10.setTop (mkF m 47 #[.val (.ref a), .val (.ref o), .val (.ref o)] [(.int (0 : Int32))]))
      refine OwnFin.step (fun tT kK => XS.ifYes X10.here hx rfl (pc0 := 47) (pc' := 54) rfl (hb hby d_jdk_42_method_66_47) rfl ((if0 _ _).trans (teq (rfl : (0 : Int32) = (0 : Int32))).1) (by decide) (by decide) kK) ?_
      show OwnFin p e below _ (T10.setTop (mkF m 54 #[.val (.ref a), .val (.ref o), .val (.ref o)] []))
      refine OwnFin.step (fun tT kK => XS.iconst X10.here hx rfl (hb hby d_jdk_42_method_66_54) kK) ?_
      show OwnFin p e below _ (T10.setTop (mkF m 55 #[.val (.ref a), .val (.ref o), .val (.ref o)] [(.int (0 : Int32))]))
      obtain ⟨fs13, hr13, hrun13, hended13, hW13, hsame13⟩ := X10.leave (v := (some (.int (0 : Int32)))) (fun h => by rw [Bd.returns] at h; cases h)
      refine ⟨_, _, retN X10 hx (t := .boolean) Bd.returns (by simp) (hb hby d_jdk_42_method_66_55) hr13, hrun13, hended13, _, _, rfl, ?_, ⟨_, rfl⟩, hW13, hsame13.mono (by decide) (by decide)⟩
      show Q3 Z a o b1 k1 n1 v1 b2 k2 n2 v2 cs h0 n0 _ T10.heap _
      rw [e10]
      exact ⟨(by rw [if_neg hc11]), N10, rfl⟩
theorem pn_61 : plainName "com/example/limpet/limpet/Hold" = true := by first | (simp [plainName, overriddenIn]; done) | decide +kernel
theorem d_prog_3_method_1_0 : decode prog_3_method_1_code 0 = .ok (.aload_n 0, 1) := by decide +kernel
theorem d_prog_3_method_1_1 : decode prog_3_method_1_code 1 = .ok (.invokespecial 1, 3) := by decide +kernel
theorem pd_64 : parseMethodDescriptor "()V" = some ⟨[], none⟩ := by decide +kernel
theorem d_prog_3_method_1_4 : decode prog_3_method_1_code 4 = .ok (.aload_n 0, 1) := by decide +kernel
theorem d_prog_3_method_1_5 : decode prog_3_method_1_code 5 = .ok (.aload_n 1, 1) := by decide +kernel
theorem d_prog_3_method_1_6 : decode prog_3_method_1_code 6 = .ok (.putfield 7, 3) := by decide +kernel
theorem d_prog_3_method_1_9 : decode prog_3_method_1_code 9 = .ok (.aload_n 0, 1) := by decide +kernel
theorem d_prog_3_method_1_10 : decode prog_3_method_1_code 10 = .ok (.aload_n 2, 1) := by decide +kernel
theorem d_prog_3_method_1_11 : decode prog_3_method_1_code 11 = .ok (.putfield 13, 3) := by decide +kernel
theorem d_prog_3_method_1_14 : decode prog_3_method_1_code 14 = .ok (.aload_n 0, 1) := by decide +kernel
theorem d_prog_3_method_1_15 : decode prog_3_method_1_code 15 = .ok (.aload_n 3, 1) := by decide +kernel
theorem d_prog_3_method_1_16 : decode prog_3_method_1_code 16 = .ok (.putfield 16, 3) := by decide +kernel
theorem d_prog_3_method_1_19 : decode prog_3_method_1_code 19 = .ok (.return_, 1) := by decide +kernel
theorem ef_4 (m : MethodId) (a : Addr) (l_ : Addr) (k_ : Addr) (f_ : Addr) : entryFrame m #[(.ref a), (.ref l_), (.ref k_), (.ref f_)] 4 = mkF m 0 #[.val (.ref a), .val (.ref l_), .val (.ref k_), .val (.ref f_)] [] := by first | (simp [entryFrame, mkF, argsToLocals, Value.category]; done) | rfl
def Q4 (Z : State) (a : Addr) (l_ : Addr) (k_ : Addr) (f_ : Addr) (h0 : Heap) (n0 : Nat) (vV : Option Value) (hH : Heap) (LL : List Loc) : Prop := vV = none ∧ Fr n0 LL ∧ Keep h0 hH [a] ∧ (Exa Z hH a "com/example/limpet/limpet/Hold") ∧ (Fld Z hH a "com/example/limpet/limpet/Hold" "lockName" "Ljava/lang/String;" (.ref l_)) ∧ (Fld Z hH a "com/example/limpet/limpet/Hold" "key" "Ljava/lang/String;" (.ref k_)) ∧ (Fld Z hH a "com/example/limpet/limpet/Hold" "field" "Ljava/lang/String;" (.ref f_))
def R4 (Z : State) (a : Addr) (l_ : Addr) (k_ : Addr) (f_ : Addr) (h0 : Heap) (n0 : Nat) (U : State) (oO : Outcome) (U' : State) : Prop := ∃ vV LL, oO = .returned vV ∧ Q4 Z a l_ k_ f_ h0 n0 vV U'.heap LL ∧ FrameEnd U oO U' LL ({ frames := 2, cells := 0, slots := 0, locals := 24 } : Room).cells ({ frames := 2, cells := 0, slots := 0, locals := 24 } : Room).slots
set_option maxRecDepth 65536 in
set_option maxHeartbeats 40000000 in
theorem rm4 (l : Launch) (Z : State) (a0 : Array Value) (hw : ∀ d ∈ tables_1, d.before a0 Z = true) (hEL : EW Z a0 OwnEL) (wS : ∀ a ∈ Bundle.stringAtoms, a.before a0 Z = true) (ws : List Jvm.Cond) (a : Addr) (l_ : Addr) (k_ : Addr) (f_ : Addr) (h0 : Heap) (n0 : Nat) (Z0 : n0 ≤ h0.size) (hp0 : Exa Z h0 a "com/example/limpet/limpet/Hold") (hp1 : Fld Z h0 a "com/example/limpet/limpet/Hold" "lockName" "Ljava/lang/String;" .null) (hp2 : Fld Z h0 a "com/example/limpet/limpet/Hold" "key" "Ljava/lang/String;" .null) (hp3 : Fld Z h0 a "com/example/limpet/limpet/Hold" "field" "Ljava/lang/String;" .null) (hp4 : n0 ≤ a) :
    MetFree l (⟨"com/example/limpet/limpet/Hold", "<init>", "(Ljava/lang/String;Ljava/lang/String;Ljava/lang/String;)V"⟩ : MethodName) (head1 (Jvm.Cond.code (⟨"com/example/limpet/limpet/Hold", "<init>", "(Ljava/lang/String;Ljava/lang/String;Ljava/lang/String;)V"⟩ : MethodName) prog_3_method_1_code 4 none :: ws) ({ frames := 2, cells := 0, slots := 0, locals := 24 } : Room)) (fun aA U => aA = #[(.ref a), (.ref l_), (.ref k_), (.ref f_)] ∧ Z.Warmed39 U.vm ∧ U.heap = h0) (fun _ _ _ _ _ => True) (fun _ U oO U' => ∃ vV LL, oO = .returned vV ∧ Q4 Z a l_ k_ f_ h0 n0 vV U'.heap LL ∧ FrameEnd U oO U' LL ({ frames := 2, cells := 0, slots := 0, locals := 24 } : Room).cells ({ frames := 2, cells := 0, slots := 0, locals := 24 } : Room).slots) := by
  refine MetFree.of_bodySF (plainFor_of_name pn_61) hisR ?_
  intro p e s m args below meth cC s₁ Bd hml0 hP hK
  obtain ⟨rfl, hZ, hh⟩ := hP
  have hx := Bd.exec
  have hby := Bd.bytes
  have hml : cC.maxLocals = 4 := hml0
  have hown : s.vm.findClass "com/example/limpet/limpet/Hold" = some m.cls := findClass_of_methodNamed Bd.named
  have hnm := (name_of_methodNamed Bd.named Bd.method).1
  have X0 : Stand p l e ({ frames := 2, cells := 0, slots := 0, locals := 24 } : Room) s m #[(.ref a), (.ref l_), (.ref k_), (.ref f_)] below meth cC s₁ [] 0 0 := Stand.of_body Bd
  have e0 : s₁.heap = h0 := by rw [← hh, Bd.state]; rfl
  have N0 := Fr.nil n0
  have Kp0 := Keep.refl h0 []
  show OwnFin p e below (R4 Z a l_ k_ f_ h0 n0 s) (s₁.setTop (entryFrame m #[(.ref a), (.ref l_), (.ref k_), (.ref f_)] 4))
  rw [ef_4 m a l_ k_ f_]
  refine OwnFin.step (fun tT kK => XS.aloadN X0.here hx rfl (hb hby d_prog_3_method_1_0) rfl rfl kK) ?_
  show OwnFin p e below _ (s₁.setTop (mkF m 1 #[.val (.ref a), .val (.ref l_), .val (.ref k_), .val (.ref f_)] [(.ref a)]))
  obtain ⟨_, _, ⟨T1, L1, k1, n1⟩, -, X1, ⟨Lc1, hQ1, l1, y1, z1⟩, st1⟩ := X0.specialBack hx (y := (⟨"java/lang/Record", "<init>", "()V"⟩ : MethodName)) rfl hown (mvT hZ (hw _ (List.mem_of_getElem? (i := 35) rfl))) (mvT hZ (hw _ (List.mem_of_getElem? (i := 36) rfl))) (mvT hZ (hw _ (List.mem_of_getElem? (i := 39) rfl))) (by decide) (backOf (W := 0) (rm1 l Z a0 hw hEL wS [] a h0 n0 (Nat.le_trans Z0 Kp0.1) ) hZ (hw _ (List.mem_of_getElem? (i := 39) rfl)) (hw _ (List.mem_of_getElem? (i := 38) rfl)) (by decide) (by decide)) (g := (mkF m 1 #[.val (.ref a), .val (.ref l_), .val (.ref k_), .val (.ref f_)] [(.ref a)])) rfl (by rw [hml]; rfl) (Steps.refl _) (a := a) (argsL := []) (rest := []) (lenOf pd_64 rfl) rfl (by show 2 * 0 + _ ≤ _; exact Nat.le_of_eq rfl) (hb hby d_prog_3_method_1_1) (fun _ _ => ⟨rfl, e0, (by decide : 0 + 0 ≤ _), (by decide : 0 + 0 ≤ _)⟩)
  dsimp only [Pt.U, Pt.locs, Pt.cells, Pt.slots] at X1 l1 y1 z1 st1 hQ1
  subst l1 y1 z1
  obtain ⟨rfl, N1q, e1⟩ := hQ1
  have N1 := Fr.app N0 N1q
  refine OwnFin.step (fun tT kK => st1.trans kK) ?_
  show OwnFin p e below _ (T1.setTop (mkF m 4 #[.val (.ref a), .val (.ref l_), .val (.ref k_), .val (.ref f_)] []))
  refine OwnFin.step (fun tT kK => XS.aloadN X1.here hx rfl (hb hby d_prog_3_method_1_4) rfl rfl kK) ?_
  show OwnFin p e below _ (T1.setTop (mkF m 5 #[.val (.ref a), .val (.ref l_), .val (.ref k_), .val (.ref f_)] [(.ref a)]))
  refine OwnFin.step (fun tT kK => XS.aloadN X1.here hx rfl (hb hby d_prog_3_method_1_5) rfl rfl kK) ?_
  show OwnFin p e below _ (T1.setTop (mkF m 6 #[.val (.ref a), .val (.ref l_), .val (.ref k_), .val (.ref f_)] [(.ref l_), (.ref a)]))
  obtain ⟨T2, h2, X2, e2, W2, st2⟩ := putF X1 hx hZ hown (host := "") (Or.inl (hw _ (List.mem_of_getElem? (i := 41) rfl))) Via.refl e1 hp1 hp0 (Or.inr ⟨(hw _ (List.mem_of_getElem? (i := 42) rfl)), rfl, hnm⟩) (hw _ (List.mem_of_getElem? (i := 30) rfl)) (ty := (.object "java/lang/String")) (by decide) rfl rfl (g := (mkF m 6 #[.val (.ref a), .val (.ref l_), .val (.ref k_), .val (.ref f_)] [(.ref l_), (.ref a)])) rfl rfl (hb hby d_prog_3_method_1_6)
  refine OwnFin.step st2 ?_
  have N2 := Fr.snoc X2 N1 hp4
  have Fw2 : Fld Z h2 a "com/example/limpet/limpet/Hold" "lockName" "Ljava/lang/String;" (.ref l_) := hp1.same W2
  show OwnFin p e below _ (T2.setTop (mkF m 9 #[.val (.ref a), .val (.ref l_), .val (.ref k_), .val (.ref f_)] []))
  refine OwnFin.step (fun tT kK => XS.aloadN X2.here hx rfl (hb hby d_prog_3_method_1_9) rfl rfl kK) ?_
  show OwnFin p e below _ (T2.setTop (mkF m 10 #[.val (.ref a), .val (.ref l_), .val (.ref k_), .val (.ref f_)] [(.ref a)]))
  refine OwnFin.step (fun tT kK => XS.aloadN X2.here hx rfl (hb hby d_prog_3_method_1_10) rfl rfl kK) ?_
  show OwnFin p e below _ (T2.setTop (mkF m 11 #[.val (.ref a), .val (.ref l_), .val (.ref k_), .val (.ref f_)] [(.ref k_), (.ref a)]))
  have f4 : Exa Z h2 a "com/example/limpet/limpet/Hold" := (hp0.wr W2)
  have f5 : Fld Z h2 a "com/example/limpet/limpet/Hold" "key" "Ljava/lang/String;" .null := (hp2.other W2 (Or.inr (slot_ne (Or.inr (hw _ (List.mem_of_getElem? (i := 44) rfl))) (Or.inr (hw _ (List.mem_of_getElem? (i := 42) rfl))) (by decide) (t := (.object "java/lang/String")) (t' := (.object "java/lang/String")) (by decide) (by decide))))
  obtain ⟨T6, h6, X6, e6, W6, st6⟩ := putF X2 hx hZ hown (host := "") (Or.inl (hw _ (List.mem_of_getElem? (i := 43) rfl))) Via.refl e2 f5 f4 (Or.inr ⟨(hw _ (List.mem_of_getElem? (i := 44) rfl)), rfl, hnm⟩) (hw _ (List.mem_of_getElem? (i := 30) rfl)) (ty := (.object "java/lang/String")) (by decide) rfl rfl (g := (mkF m 11 #[.val (.ref a), .val (.ref l_), .val (.ref k_), .val (.ref f_)] [(.ref k_), (.ref a)])) rfl rfl (hb hby d_prog_3_method_1_11)
  refine OwnFin.step st6 ?_
  have N6 := Fr.snoc X6 N2 hp4
  have Fw6 : Fld Z h6 a "com/example/limpet/limpet/Hold" "key" "Ljava/lang/String;" (.ref k_) := f5.same W6
  show OwnFin p e below _ (T6.setTop (mkF m 14 #[.val (.ref a), .val (.ref l_), .val (.ref k_), .val (.ref f_)] []))
  refine OwnFin.step (fun tT kK => XS.aloadN X6.here hx rfl (hb hby d_prog_3_method_1_14) rfl rfl kK) ?_
  show OwnFin p e below _ (T6.setTop (mkF m 15 #[.val (.ref a), .val (.ref l_), .val (.ref k_), .val (.ref f_)] [(.ref a)]))
  refine OwnFin.step (fun tT kK => XS.aloadN X6.here hx rfl (hb hby d_prog_3_method_1_15) rfl rfl kK) ?_
  show OwnFin p e below _ (T6.setTop (mkF m 16 #[.val (.ref a), .val (.ref l_), .val (.ref k_), .val (.ref f_)] [(.ref f_), (.ref a)]))
  have f7 : Exa Z h6 a "com/example/limpet/limpet/Hold" := (f4.wr W6)
  have f8 : Fld Z h6 a "com/example/limpet/limpet/Hold" "field" "Ljava/lang/String;" .null := ((hp3.other W2 (Or.inr (slot_ne (Or.inr (hw _ (List.mem_of_getElem? (i := 46) rfl))) (Or.inr (hw _ (List.mem_of_getElem? (i := 42) rfl))) (by decide) (t := (.object "java/lang/String")) (t' := (.object "java/lang/String")) (by decide) (by decide)))).other W6 (Or.inr (slot_ne (Or.inr (hw _ (List.mem_of_getElem? (i := 46) rfl))) (Or.inr (hw _ (List.mem_of_getElem? (i := 44) rfl))) (by decide) (t := (.object "java/lang/String")) (t' := (.object "java/lang/String")) (by decide) (by decide))))
  obtain ⟨T9, h9, X9, e9, W9, st9⟩ := putF X6 hx hZ hown (host := "") (Or.inl (hw _ (List.mem_of_getElem? (i := 45) rfl))) Via.refl e6 f8 f7 (Or.inr ⟨(hw _ (List.mem_of_getElem? (i := 46) rfl)), rfl, hnm⟩) (hw _ (List.mem_of_getElem? (i := 30) rfl)) (ty := (.object "java/lang/String")) (by decide) rfl rfl (g := (mkF m 16 #[.val (.ref a), .val (.ref l_), .val (.ref k_), .val (.ref f_)] [(.ref f_), (.ref a)])) rfl rfl (hb hby d_prog_3_method_1_16)
  refine OwnFin.step st9 ?_
  have N9 := Fr.snoc X9 N6 hp4
  have Fw9 : Fld Z h9 a "com/example/limpet/limpet/Hold" "field" "Ljava/lang/String;" (.ref f_) := f8.same W9
  show OwnFin p e below _ (T9.setTop (mkF m 19 #[.val (.ref a), .val (.ref l_), .val (.ref k_), .val (.ref f_)] []))
  have f11 : Exa Z h9 a "com/example/limpet/limpet/Hold" := (f7.wr W9)
  have f12 : Fld Z h9 a "com/example/limpet/limpet/Hold" "lockName" "Ljava/lang/String;" (.ref l_) := ((Fw2.other W6 (Or.inr (slot_ne (Or.inr (hw _ (List.mem_of_getElem? (i := 42) rfl))) (Or.inr (hw _ (List.mem_of_getElem? (i := 44) rfl))) (by decide) (t := (.object "java/lang/String")) (t' := (.object "java/lang/String")) (by decide) (by decide)))).other W9 (Or.inr (slot_ne (Or.inr (hw _ (List.mem_of_getElem? (i := 42) rfl))) (Or.inr (hw _ (List.mem_of_getElem? (i := 46) rfl))) (by decide) (t := (.object "java/lang/String")) (t' := (.object "java/lang/String")) (by decide) (by decide))))
  have f13 : Fld Z h9 a "com/example/limpet/limpet/Hold" "key" "Ljava/lang/String;" (.ref k_) := (Fw6.other W9 (Or.inr (slot_ne (Or.inr (hw _ (List.mem_of_getElem? (i := 44) rfl))) (Or.inr (hw _ (List.mem_of_getElem? (i := 46) rfl))) (by decide) (t := (.object "java/lang/String")) (t' := (.object "java/lang/String")) (by decide) (by decide))))
  obtain ⟨fs10, hr10, hrun10, hended10, hW10, hsame10⟩ := X9.leave (v := none) (fun _ => rfl)
  refine ⟨_, _, X9.returnOut hx Bd.returns (hb hby d_prog_3_method_1_19) hr10, hrun10, hended10, _, _, rfl, ?_, ⟨_, rfl⟩, hW10, hsame10.mono (by decide) (by decide)⟩
  show Q4 Z a l_ k_ f_ h0 n0 _ T9.heap _
  rw [e9]
  exact ⟨rfl, N9, ((((Keep.refl h0 [a]).wr W2 (Or.inl (List.mem_of_getElem? (i := 0) rfl))).wr W6 (Or.inl (List.mem_of_getElem? (i := 0) rfl))).wr W9 (Or.inl (List.mem_of_getElem? (i := 0) rfl))), f11, f12, f13, Fw9⟩
theorem d_prog_3_method_2_0 : decode prog_3_method_2_code 0 = .ok (.aload_n 1, 1) := by decide +kernel
theorem d_prog_3_method_2_1 : decode prog_3_method_2_code 1 = .ok (.instanceof 8, 3) := by decide +kernel
theorem d_prog_3_method_2_4 : decode prog_3_method_2_code 4 = .ok (.ifCond .eq 54, 3) := by decide +kernel
theorem d_prog_3_method_2_7 : decode prog_3_method_2_code 7 = .ok (.aload_n 1, 1) := by decide +kernel
theorem d_prog_3_method_2_8 : decode prog_3_method_2_code 8 = .ok (.checkcast 8, 3) := by decide +kernel
theorem d_prog_3_method_2_11 : decode prog_3_method_2_code 11 = .ok (.astore_n 2, 1) := by decide +kernel
theorem d_prog_3_method_2_12 : decode prog_3_method_2_code 12 = .ok (.aload_n 0, 1) := by decide +kernel
theorem d_prog_3_method_2_13 : decode prog_3_method_2_code 13 = .ok (.getfield 13, 3) := by decide +kernel
theorem d_prog_3_method_2_16 : decode prog_3_method_2_code 16 = .ok (.aload_n 2, 1) := by decide +kernel
theorem d_prog_3_method_2_17 : decode prog_3_method_2_code 17 = .ok (.getfield 13, 3) := by decide +kernel
theorem d_prog_3_method_2_20 : decode prog_3_method_2_code 20 = .ok (.invokevirtual 19, 3) := by decide +kernel
theorem pd_86 : parseMethodDescriptor "(Ljava/lang/Object;)Z" = some ⟨[(.object "java/lang/Object")], some .boolean⟩ := by decide +kernel
theorem d_prog_3_method_2_23 : decode prog_3_method_2_code 23 = .ok (.ifCond .eq 35, 3) := by decide +kernel
theorem d_prog_3_method_2_58 : decode prog_3_method_2_code 58 = .ok (.iconst 0, 1) := by decide +kernel
theorem d_prog_3_method_2_59 : decode prog_3_method_2_code 59 = .ok (.ireturn, 1) := by decide +kernel
theorem d_prog_3_method_2_26 : decode prog_3_method_2_code 26 = .ok (.aload_n 0, 1) := by decide +kernel
theorem d_prog_3_method_2_27 : decode prog_3_method_2_code 27 = .ok (.getfield 16, 3) := by decide +kernel
theorem d_prog_3_method_2_30 : decode prog_3_method_2_code 30 = .ok (.aload_n 2, 1) := by decide +kernel
theorem d_prog_3_method_2_31 : decode prog_3_method_2_code 31 = .ok (.getfield 16, 3) := by decide +kernel
theorem d_prog_3_method_2_34 : decode prog_3_method_2_code 34 = .ok (.invokevirtual 19, 3) := by decide +kernel
theorem d_prog_3_method_2_37 : decode prog_3_method_2_code 37 = .ok (.ifCond .eq 21, 3) := by decide +kernel
theorem d_prog_3_method_2_40 : decode prog_3_method_2_code 40 = .ok (.aload_n 0, 1) := by decide +kernel
theorem d_prog_3_method_2_41 : decode prog_3_method_2_code 41 = .ok (.getfield 7, 3) := by decide +kernel
theorem d_prog_3_method_2_44 : decode prog_3_method_2_code 44 = .ok (.aload_n 2, 1) := by decide +kernel
theorem d_prog_3_method_2_45 : decode prog_3_method_2_code 45 = .ok (.getfield 7, 3) := by decide +kernel
theorem d_prog_3_method_2_48 : decode prog_3_method_2_code 48 = .ok (.invokevirtual 19, 3) := by decide +kernel
theorem d_prog_3_method_2_51 : decode prog_3_method_2_code 51 = .ok (.ifCond .eq 7, 3) := by decide +kernel
theorem d_prog_3_method_2_54 : decode prog_3_method_2_code 54 = .ok (.iconst 1, 1) := by decide +kernel
theorem d_prog_3_method_2_55 : decode prog_3_method_2_code 55 = .ok (.goto 4, 3) := by decide +kernel
theorem ef_5 (m : MethodId) (a : Addr) (o : Addr) : entryFrame m #[(.ref a), (.ref o)] 3 = mkF m 0 #[.val (.ref a), .val (.ref o), .unset] [] := by first | (simp [entryFrame, mkF, argsToLocals, Value.category]; done) | rfl
def Q5 (Z : State) (a : Addr) (o : Addr) (ls1 : Addr) (bl1 : Addr) (kl1 : ClassId) (nl1 : Int32) (vl1 : List Value) (ks1 : Addr) (bk1 : Addr) (kk1 : ClassId) (nk1 : Int32) (vk1 : List Value) (fs1 : Addr) (bf1 : Addr) (kf1 : ClassId) (nf1 : Int32) (vf1 : List Value) (ls2 : Addr) (bl2 : Addr) (kl2 : ClassId) (nl2 : Int32) (vl2 : List Value) (ks2 : Addr) (bk2 : Addr) (kk2 : ClassId) (nk2 : Int32) (vk2 : List Value) (fs2 : Addr) (bf2 : Addr) (kf2 : ClassId) (nf2 : Int32) (vf2 : List Value) (cs : Int32) (h0 : Heap) (n0 : Nat) (vV : Option Value) (hH : Heap) (LL : List Loc) : Prop := vV = some (.int (if (vk1 = vk2 ∧ vf1 = vf2 ∧ vl1 = vl2) then 1 else 0)) ∧ Fr n0 LL ∧ hH = h0
def R5 (Z : State) (a : Addr) (o : Addr) (ls1 : Addr) (bl1 : Addr) (kl1 : ClassId) (nl1 : Int32) (vl1 : List Value) (ks1 : Addr) (bk1 : Addr) (kk1 : ClassId) (nk1 : Int32) (vk1 : List Value) (fs1 : Addr) (bf1 : Addr) (kf1 : ClassId) (nf1 : Int32) (vf1 : List Value) (ls2 : Addr) (bl2 : Addr) (kl2 : ClassId) (nl2 : Int32) (vl2 : List Value) (ks2 : Addr) (bk2 : Addr) (kk2 : ClassId) (nk2 : Int32) (vk2 : List Value) (fs2 : Addr) (bf2 : Addr) (kf2 : ClassId) (nf2 : Int32) (vf2 : List Value) (cs : Int32) (h0 : Heap) (n0 : Nat) (U : State) (oO : Outcome) (U' : State) : Prop := ∃ vV LL, oO = .returned vV ∧ Q5 Z a o ls1 bl1 kl1 nl1 vl1 ks1 bk1 kk1 nk1 vk1 fs1 bf1 kf1 nf1 vf1 ls2 bl2 kl2 nl2 vl2 ks2 bk2 kk2 nk2 vk2 fs2 bf2 kf2 nf2 vf2 cs h0 n0 vV U'.heap LL ∧ FrameEnd U oO U' LL ({ frames := 2, cells := 0, slots := 0, locals := 28 } : Room).cells ({ frames := 2, cells := 0, slots := 0, locals := 28 } : Room).slots
set_option maxRecDepth 65536 in
set_option maxHeartbeats 40000000 in
theorem rm5 (l : Launch) (Z : State) (a0 : Array Value) (hw : ∀ d ∈ tables_1, d.before a0 Z = true) (hEL : EW Z a0 OwnEL) (wS : ∀ a ∈ Bundle.stringAtoms, a.before a0 Z = true) (ws : List Jvm.Cond) (a : Addr) (o : Addr) (ls1 : Addr) (bl1 : Addr) (kl1 : ClassId) (nl1 : Int32) (vl1 : List Value) (ks1 : Addr) (bk1 : Addr) (kk1 : ClassId) (nk1 : Int32) (vk1 : List Value) (fs1 : Addr) (bf1 : Addr) (kf1 : ClassId) (nf1 : Int32) (vf1 : List Value) (ls2 : Addr) (bl2 : Addr) (kl2 : ClassId) (nl2 : Int32) (vl2 : List Value) (ks2 : Addr) (bk2 : Addr) (kk2 : ClassId) (nk2 : Int32) (vk2 : List Value) (fs2 : Addr) (bf2 : Addr) (kf2 : ClassId) (nf2 : Int32) (vf2 : List Value) (cs : Int32) (h0 : Heap) (n0 : Nat) (Z0 : n0 ≤ h0.size) (hp0 : Exa Z h0 o "com/example/limpet/limpet/Hold") (hp1 : Fld Z h0 a "com/example/limpet/limpet/Hold" "lockName" "Ljava/lang/String;" (.ref ls1)) (hp2 : Fld Z h0 a "com/example/limpet/limpet/Hold" "key" "Ljava/lang/String;" (.ref ks1)) (hp3 : Fld Z h0 a "com/example/limpet/limpet/Hold" "field" "Ljava/lang/String;" (.ref fs1)) (hp4 : Fld Z h0 o "com/example/limpet/limpet/Hold" "lockName" "Ljava/lang/String;" (.ref ls2)) (hp5 : Fld Z h0 o "com/example/limpet/limpet/Hold" "key" "Ljava/lang/String;" (.ref ks2)) (hp6 : Fld Z h0 o "com/example/limpet/limpet/Hold" "field" "Ljava/lang/String;" (.ref fs2)) (hp7 : Exa Z h0 ls1 "java/lang/String") (hp8 : Fld Z h0 ls1 "java/lang/String" "value" "[B" (.ref bl1)) (hp9 : Fld Z h0 ls1 "java/lang/String" "coder" "B" (.int (0 : Int32))) (hp10 : Arv Z h0 bl1 kl1 .byte nl1 vl1 (.int (0 : Int32))) (hp11 : Exa Z h0 ks1 "java/lang/String") (hp12 : Fld Z h0 ks1 "java/lang/String" "value" "[B" (.ref bk1)) (hp13 : Fld Z h0 ks1 "java/lang/String" "coder" "B" (.int (0 : Int32))) (hp14 : Arv Z h0 bk1 kk1 .byte nk1 vk1 (.int (0 : Int32))) (hp15 : Exa Z h0 fs1 "java/lang/String") (hp16 : Fld Z h0 fs1 "java/lang/String" "value" "[B" (.ref bf1)) (hp17 : Fld Z h0 fs1 "java/lang/String" "coder" "B" (.int (0 : Int32))) (hp18 : Arv Z h0 bf1 kf1 .byte nf1 vf1 (.int (0 : Int32))) (hp19 : Exa Z h0 ls2 "java/lang/String") (hp20 : Fld Z h0 ls2 "java/lang/String" "value" "[B" (.ref bl2)) (hp21 : Fld Z h0 ls2 "java/lang/String" "coder" "B" (.int (0 : Int32))) (hp22 : Arv Z h0 bl2 kl2 .byte nl2 vl2 (.int (0 : Int32))) (hp23 : Exa Z h0 ks2 "java/lang/String") (hp24 : Fld Z h0 ks2 "java/lang/String" "value" "[B" (.ref bk2)) (hp25 : Fld Z h0 ks2 "java/lang/String" "coder" "B" (.int (0 : Int32))) (hp26 : Arv Z h0 bk2 kk2 .byte nk2 vk2 (.int (0 : Int32))) (hp27 : Exa Z h0 fs2 "java/lang/String") (hp28 : Fld Z h0 fs2 "java/lang/String" "value" "[B" (.ref bf2)) (hp29 : Fld Z h0 fs2 "java/lang/String" "coder" "B" (.int (0 : Int32))) (hp30 : Arv Z h0 bf2 kf2 .byte nf2 vf2 (.int (0 : Int32))) (hp31 : OwnB nl1 vl1) (hp32 : OwnB nk1 vk1) (hp33 : OwnB nf1 vf1) (hp34 : OwnB nl2 vl2) (hp35 : OwnB nk2 vk2) (hp36 : OwnB nf2 vf2) (hp37 : Sta Z h0 "java/lang/String" "COMPACT_STRINGS" "Z" (.int cs)) (hp38 : ¬ cs = (0 : Int32)) :
    MetFree l (⟨"com/example/limpet/limpet/Hold", "equals", "(Ljava/lang/Object;)Z"⟩ : MethodName) (head1 (Jvm.Cond.code (⟨"com/example/limpet/limpet/Hold", "equals", "(Ljava/lang/Object;)Z"⟩ : MethodName) prog_3_method_2_code 3 (some .boolean) :: ws) ({ frames := 2, cells := 0, slots := 0, locals := 28 } : Room)) (fun aA U => aA = #[(.ref a), (.ref o)] ∧ Z.Warmed39 U.vm ∧ U.heap = h0) (fun _ _ _ _ _ => True) (fun _ U oO U' => ∃ vV LL, oO = .returned vV ∧ Q5 Z a o ls1 bl1 kl1 nl1 vl1 ks1 bk1 kk1 nk1 vk1 fs1 bf1 kf1 nf1 vf1 ls2 bl2 kl2 nl2 vl2 ks2 bk2 kk2 nk2 vk2 fs2 bf2 kf2 nf2 vf2 cs h0 n0 vV U'.heap LL ∧ FrameEnd U oO U' LL ({ frames := 2, cells := 0, slots := 0, locals := 28 } : Room).cells ({ frames := 2, cells := 0, slots := 0, locals := 28 } : Room).slots) := by
  refine MetFree.of_bodySF (plainFor_of_name pn_61) hisR ?_
  intro p e s m args below meth cC s₁ Bd hml0 hP hK
  obtain ⟨rfl, hZ, hh⟩ := hP
  have hx := Bd.exec
  have hby := Bd.bytes
  have hml : cC.maxLocals = 3 := hml0
  have hown : s.vm.findClass "com/example/limpet/limpet/Hold" = some m.cls := findClass_of_methodNamed Bd.named
  have hnm := (name_of_methodNamed Bd.named Bd.method).1
  have X0 : Stand p l e ({ frames := 2, cells := 0, slots := 0, locals := 28 } : Room) s m #[(.ref a), (.ref o)] below meth cC s₁ [] 0 0 := Stand.of_body Bd
  have e0 : s₁.heap = h0 := by rw [← hh, Bd.state]; rfl
  have N0 := Fr.nil n0
  have Kp0 := Keep.refl h0 []
  show OwnFin p e below (R5 Z a o ls1 bl1 kl1 nl1 vl1 ks1 bk1 kk1 nk1 vk1 fs1 bf1 kf1 nf1 vf1 ls2 bl2 kl2 nl2 vl2 ks2 bk2 kk2 nk2 vk2 fs2 bf2 kf2 nf2 vf2 cs h0 n0 s) (s₁.setTop (entryFrame m #[(.ref a), (.ref o)] 3))
  rw [ef_5 m a o]
  refine OwnFin.step (fun tT kK => XS.aloadN X0.here hx rfl (hb hby d_prog_3_method_2_0) rfl rfl kK) ?_
  show OwnFin p e below _ (s₁.setTop (mkF m 1 #[.val (.ref a), .val (.ref o), .unset] [(.ref o)]))
  obtain ⟨T1, X1, e1, st1⟩ := instY X0 hx hZ hown (hw _ (List.mem_of_getElem? (i := 55) rfl)) e0 (Ins.self hp0) (g := (mkF m 1 #[.val (.ref a), .val (.ref o), .unset] [(.ref o)])) rfl rfl (hb hby d_prog_3_method_2_1)
  refine OwnFin.step st1 ?_
  show OwnFin p e below _ (T1.setTop (mkF m 4 #[.val (.ref a), .val (.ref o), .unset] [(.int (1 : Int32))]))
  refine OwnFin.step (fun tT kK => XS.ifNo X1.here hx rfl (hb hby d_prog_3_method_2_4) rfl ((if0 _ _).trans (feq (by decide : ¬ ((1 : Int32) = (0 : Int32)))).1) kK) ?_
  show OwnFin p e below _ (T1.setTop (mkF m 7 #[.val (.ref a), .val (.ref o), .unset] []))
  refine OwnFin.step (fun tT kK => XS.aloadN X1.here hx rfl (hb hby d_prog_3_method_2_7) rfl rfl kK) ?_
  show OwnFin p e below _ (T1.setTop (mkF m 8 #[.val (.ref a), .val (.ref o), .unset] [(.ref o)]))
  obtain ⟨T2, X2, e2, st2⟩ := castY X1 hx hZ hown (hw _ (List.mem_of_getElem? (i := 55) rfl)) e1 (Ins.self hp0) (g := (mkF m 8 #[.val (.ref a), .val (.ref o), .unset] [(.ref o)])) rfl rfl (hb hby d_prog_3_method_2_8)
  refine OwnFin.step st2 ?_
  show OwnFin p e below _ (T2.setTop (mkF m 11 #[.val (.ref a), .val (.ref o), .unset] [(.ref o)]))
  refine OwnFin.step (fun tT kK => XS.astoreN X2.here hx rfl (hb hby d_prog_3_method_2_11) rfl rfl (l' := #[.val (.ref a), .val (.ref o), .val (.ref o)]) rfl kK) ?_
  show OwnFin p e below _ (T2.setTop (mkF m 12 #[.val (.ref a), .val (.ref o), .val (.ref o)] []))
  refine OwnFin.step (fun tT kK => XS.aloadN X2.here hx rfl (hb hby d_prog_3_method_2_12) rfl rfl kK) ?_
  show OwnFin p e below _ (T2.setTop (mkF m 13 #[.val (.ref a), .val (.ref o), .val (.ref o)] [(.ref a)]))
  obtain ⟨T3, X3, e3, st3⟩ := getF X2 hx hZ hown (host := "") (Or.inl (hw _ (List.mem_of_getElem? (i := 43) rfl))) Via.refl e2 hp2 (g := (mkF m 13 #[.val (.ref a), .val (.ref o), .val (.ref o)] [(.ref a)])) rfl rfl (hb hby d_prog_3_method_2_13)
  refine OwnFin.step st3 ?_
  show OwnFin p e below _ (T3.setTop (mkF m 16 #[.val (.ref a), .val (.ref o), .val (.ref o)] [(.ref ks1)]))
  refine OwnFin.step (fun tT kK => XS.aloadN X3.here hx rfl (hb hby d_prog_3_method_2_16) rfl rfl kK) ?_
  show OwnFin p e below _ (T3.setTop (mkF m 17 #[.val (.ref a), .val (.ref o), .val (.ref o)] [(.ref o), (.ref ks1)]))
  obtain ⟨T4, X4, e4, st4⟩ := getF X3 hx hZ hown (host := "") (Or.inl (hw _ (List.mem_of_getElem? (i := 43) rfl))) Via.refl e3 hp5 (g := (mkF m 17 #[.val (.ref a), .val (.ref o), .val (.ref o)] [(.ref o), (.ref ks1)])) rfl rfl (hb hby d_prog_3_method_2_17)
  refine OwnFin.step st4 ?_
  show OwnFin p e below _ (T4.setTop (mkF m 20 #[.val (.ref a), .val (.ref o), .val (.ref o)] [(.ref ks2), (.ref ks1)]))
  obtain ⟨cq5, kq5, q5a, q5b, q5c⟩ := isOf hZ e4 hp11
  obtain ⟨_, _, ⟨T5, L5, k5, n5⟩, -, X5, ⟨Lc5, hQ5, l5, y5, z5⟩, st5⟩ := X4.virtualBack hx (y := (⟨"java/lang/String", "equals", "(Ljava/lang/Object;)Z"⟩ : MethodName)) (z := (⟨"java/lang/String", "equals", "(Ljava/lang/Object;)Z"⟩ : MethodName)) hown (mvT hZ (hw _ (List.mem_of_getElem? (i := 57) rfl))) (mvT hZ (hw _ (List.mem_of_getElem? (i := 58) rfl))) (notFace_of_selects (args := #[]) (mvT hZ (hw _ (List.mem_of_getElem? (i := 60) rfl)))) (mvT hZ (hw _ (List.mem_of_getElem? (i := 60) rfl))) (mvT hZ (hw _ (List.mem_of_getElem? (i := 59) rfl))) (by decide) (backOf (W := 0) (rm3 l Z a0 hw hEL wS [] ks1 ks2 bk1 kk1 nk1 vk1 bk2 kk2 nk2 vk2 cs h0 n0 (Nat.le_trans Z0 Kp0.1) hp11 hp12 hp13 hp14 hp23 hp24 hp25 hp26 hp32 hp35 hp37 hp38) hZ (hw _ (List.mem_of_getElem? (i := 61) rfl)) (hw _ (List.mem_of_getElem? (i := 10) rfl)) (by decide) (by decide)) q5a q5c (g := (mkF m 20 #[.val (.ref a), .val (.ref o), .val (.ref o)] [(.ref ks2), (.ref ks1)])) rfl (by rw [hml]; rfl) (Steps.refl _) (argsL := [(.ref ks2)]) (rest := []) (lenOf pd_86 rfl) rfl (by show 2 * 0 + _ ≤ _; exact Nat.le_of_eq rfl) (hb hby d_prog_3_method_2_20) (fun _ _ => ⟨rfl, e4, (by decide : 0 + 0 ≤ _), (by decide : 0 + 0 ≤ _)⟩)
  dsimp only [Pt.U, Pt.locs, Pt.cells, Pt.slots] at X5 l5 y5 z5 st5 hQ5
  subst l5 y5 z5
  obtain ⟨rfl, N5q, e5⟩ := hQ5
  have N5 := Fr.app N0 N5q
  refine OwnFin.step (fun tT kK => st5.trans kK) ?_
  show OwnFin p e below _ (T5.setTop (mkF m 23 #[.val (.ref a), .val (.ref o), .val (.ref o)] [(.int (if vk1 = vk2 then 1 else 0))]))
  by_cases hc6 : vk1 = vk2
  · skip
    rw [if_pos hc6]
    show OwnFin p e below _ (T5.setTop (mkF m 23 #[.val (.ref a), .val (.ref o), .val (.ref o)] [(.int (1 : Int32))]))
    refine OwnFin.step (fun tT kK => XS.ifNo X5.here hx rfl (hb hby d_prog_3_method_2_23) rfl ((if0 _ _).trans (feq (by decide : ¬ ((1 : Int32) = (0 : Int32)))).1) kK) ?_
    show OwnFin p e below _ (T5.setTop (mkF m 26 #[.val (.ref a), .val (.ref o), .val (.ref o)] []))
    refine OwnFin.step (fun tT kK => XS.aloadN X5.here hx rfl (hb hby d_prog_3_method_2_26) rfl rfl kK) ?_
    show OwnFin p e below _ (T5.setTop (mkF m 27 #[.val (.ref a), .val (.ref o), .val (.ref o)] [(.ref a)]))
    obtain ⟨T8, X8, e8, st8⟩ := getF X5 hx hZ hown (host := "") (Or.inl (hw _ (List.mem_of_getElem? (i := 45) rfl))) Via.refl e5 hp3 (g := (mkF m 27 #[.val (.ref a), .val (.ref o), .val (.ref o)] [(.ref a)])) rfl rfl (hb hby d_prog_3_method_2_27)
    refine OwnFin.step st8 ?_
    show OwnFin p e below _ (T8.setTop (mkF m 30 #[.val (.ref a), .val (.ref o), .val (.ref o)] [(.ref fs1)]))
    refine OwnFin.step (fun tT kK => XS.aloadN X8.here hx rfl (hb hby d_prog_3_method_2_30) rfl rfl kK) ?_
    show OwnFin p e below _ (T8.setTop (mkF m 31 #[.val (.ref a), .val (.ref o), .val (.ref o)] [(.ref o), (.ref fs1)]))
    obtain ⟨T9, X9, e9, st9⟩ := getF X8 hx hZ hown (host := "") (Or.inl (hw _ (List.mem_of_getElem? (i := 45) rfl))) Via.refl e8 hp6 (g := (mkF m 31 #[.val (.ref a), .val (.ref o), .val (.ref o)] [(.ref o), (.ref fs1)])) rfl rfl (hb hby d_prog_3_method_2_31)
    refine OwnFin.step st9 ?_
    show OwnFin p e below _ (T9.setTop (mkF m 34 #[.val (.ref a), .val (.ref o), .val (.ref o)] [(.ref fs2), (.ref fs1)]))
    obtain ⟨cq10, kq10, q10a, q10b, q10c⟩ := isOf hZ e9 hp15
    obtain ⟨_, _, ⟨T10, L10, k10, n10⟩, -, X10, ⟨Lc10, hQ10, l10, y10, z10⟩, st10⟩ := X9.virtualBack hx (y := (⟨"java/lang/String", "equals", "(Ljava/lang/Object;)Z"⟩ : MethodName)) (z := (⟨"java/lang/String", "equals", "(Ljava/lang/Object;)Z"⟩ : MethodName)) hown (mvT hZ (hw _ (List.mem_of_getElem? (i := 57) rfl))) (mvT hZ (hw _ (List.mem_of_getElem? (i := 58) rfl))) (notFace_of_selects (args := #[]) (mvT hZ (hw _ (List.mem_of_getElem? (i := 60) rfl)))) (mvT hZ (hw _ (List.mem_of_getElem? (i := 60) rfl))) (mvT hZ (hw _ (List.mem_of_getElem? (i := 59) rfl))) (by decide) (backOf (W := 0) (rm3 l Z a0 hw hEL wS [] fs1 fs2 bf1 kf1 nf1 vf1 bf2 kf2 nf2 vf2 cs h0 n0 (Nat.le_trans Z0 Kp0.1) hp15 hp16 hp17 hp18 hp27 hp28 hp29 hp30 hp33 hp36 hp37 hp38) hZ (hw _ (List.mem_of_getElem? (i := 61) rfl)) (hw _ (List.mem_of_getElem? (i := 10) rfl)) (by decide) (by decide)) q10a q10c (g := (mkF m 34 #[.val (.ref a), .val (.ref o), .val (.ref o)] [(.ref fs2), (.ref fs1)])) rfl (by rw [hml]; rfl) (Steps.refl _) (argsL := [(.ref fs2)]) (rest := []) (lenOf pd_86 rfl) rfl (by show 2 * 0 + _ ≤ _; exact Nat.le_of_eq rfl) (hb hby d_prog_3_method_2_34) (fun _ _ => ⟨rfl, e9, (by decide : 0 + 0 ≤ _), (by decide : 0 + 0 ≤ _)⟩)
    dsimp only [Pt.U, Pt.locs, Pt.cells, Pt.slots] at X10 l10 y10 z10 st10 hQ10
    subst l10 y10 z10
    obtain ⟨rfl, N10q, e10⟩ := hQ10
    have N10 := Fr.app N5 N10q
    refine OwnFin.step (fun tT kK => st10.trans kK) ?_
    show OwnFin p e below _ (T10.setTop (mkF m 37 #[.val (.ref a), .val (.ref o), .val (.ref o)] [(.int (if vf1 = vf2 then 1 else 0))]))
    by_cases hc11 : vf1 = vf2
    · skip
      rw [if_pos hc11]
      show OwnFin p e below _ (T10.setTop (mkF m 37 #[.val (.ref a), .val (.ref o), .val (.ref o)] [(.int (1 : Int32))]))
      refine OwnFin.step (fun tT kK => XS.ifNo X10.here hx rfl (hb hby d_prog_3_method_2_37) rfl ((if0 _ _).trans (feq (by decide : ¬ ((1 : Int32) = (0 : Int32)))).1) kK) ?_
      show OwnFin p e below _ (T10.setTop (mkF m 40 #[.val (.ref a), .val (.ref o), .val (.ref o)] []))
      refine OwnFin.step (fun tT kK => XS.aloadN X10.here hx rfl (hb hby d_prog_3_method_2_40) rfl rfl kK) ?_
      show OwnFin p e below _ (T10.setTop (mkF m 41 #[.val (.ref a), .val (.ref o), .val (.ref o)] [(.ref a)]))
      obtain ⟨T13, X13, e13, st13⟩ := getF X10 hx hZ hown (host := "") (Or.inl (hw _ (List.mem_of_getElem? (i := 41) rfl))) Via.refl e10 hp1 (g := (mkF m 41 #[.val (.ref a), .val (.ref o), .val (.ref o)] [(.ref a)])) rfl rfl (hb hby d_prog_3_method_2_41)
      refine OwnFin.step st13 ?_
      show OwnFin p e below _ (T13.setTop (mkF m 44 #[.val (.ref a), .val (.ref o), .val (.ref o)] [(.ref ls1)]))
      refine OwnFin.step (fun tT kK => XS.aloadN X13.here hx rfl (hb hby d_prog_3_method_2_44) rfl rfl kK) ?_
      show OwnFin p e below _ (T13.setTop (mkF m 45 #[.val (.ref a), .val (.ref o), .val (.ref o)] [(.ref o), (.ref ls1)]))
      obtain ⟨T14, X14, e14, st14⟩ := getF X13 hx hZ hown (host := "") (Or.inl (hw _ (List.mem_of_getElem? (i := 41) rfl))) Via.refl e13 hp4 (g := (mkF m 45 #[.val (.ref a), .val (.ref o), .val (.ref o)] [(.ref o), (.ref ls1)])) rfl rfl (hb hby d_prog_3_method_2_45)
      refine OwnFin.step st14 ?_
      show OwnFin p e below _ (T14.setTop (mkF m 48 #[.val (.ref a), .val (.ref o), .val (.ref o)] [(.ref ls2), (.ref ls1)]))
      obtain ⟨cq15, kq15, q15a, q15b, q15c⟩ := isOf hZ e14 hp7
      obtain ⟨_, _, ⟨T15, L15, k15, n15⟩, -, X15, ⟨Lc15, hQ15, l15, y15, z15⟩, st15⟩ := X14.virtualBack hx (y := (⟨"java/lang/String", "equals", "(Ljava/lang/Object;)Z"⟩ : MethodName)) (z := (⟨"java/lang/String", "equals", "(Ljava/lang/Object;)Z"⟩ : MethodName)) hown (mvT hZ (hw _ (List.mem_of_getElem? (i := 57) rfl))) (mvT hZ (hw _ (List.mem_of_getElem? (i := 58) rfl))) (notFace_of_selects (args := #[]) (mvT hZ (hw _ (List.mem_of_getElem? (i := 60) rfl)))) (mvT hZ (hw _ (List.mem_of_getElem? (i := 60) rfl))) (mvT hZ (hw _ (List.mem_of_getElem? (i := 59) rfl))) (by decide) (backOf (W := 0) (rm3 l Z a0 hw hEL wS [] ls1 ls2 bl1 kl1 nl1 vl1 bl2 kl2 nl2 vl2 cs h0 n0 (Nat.le_trans Z0 Kp0.1) hp7 hp8 hp9 hp10 hp19 hp20 hp21 hp22 hp31 hp34 hp37 hp38) hZ (hw _ (List.mem_of_getElem? (i := 61) rfl)) (hw _ (List.mem_of_getElem? (i := 10) rfl)) (by decide) (by decide)) q15a q15c (g := (mkF m 48 #[.val (.ref a), .val (.ref o), .val (.ref o)] [(.ref ls2), (.ref ls1)])) rfl (by rw [hml]; rfl) (Steps.refl _) (argsL := [(.ref ls2)]) (rest := []) (lenOf pd_86 rfl) rfl (by show 2 * 0 + _ ≤ _; exact Nat.le_of_eq rfl) (hb hby d_prog_3_method_2_48) (fun _ _ => ⟨rfl, e14, (by decide : 0 + 0 ≤ _), (by decide : 0 + 0 ≤ _)⟩)
      dsimp only [Pt.U, Pt.locs, Pt.cells, Pt.slots] at X15 l15 y15 z15 st15 hQ15
      subst l15 y15 z15
      obtain ⟨rfl, N15q, e15⟩ := hQ15
      have N15 := Fr.app N10 N15q
      refine OwnFin.step (fun tT kK => st15.trans kK) ?_
      show OwnFin p e below _ (T15.setTop (mkF m 51 #[.val (.ref a), .val (.ref o), .val (.ref o)] [(.int (if vl1 = vl2 then 1 else 0))]))
      by_cases hc16 : vl1 = vl2
      · skip
        rw [if_pos hc16]
        show OwnFin p e below _ (T15.setTop (mkF m 51 #[.val (.ref a), .val (.ref o), .val (.ref o)] [(.int (1 : Int32))]))
        refine OwnFin.step (fun tT kK => XS.ifNo X15.here hx rfl (hb hby d_prog_3_method_2_51) rfl ((if0 _ _).trans (feq (by decide : ¬ ((1 : Int32) = (0 : Int32)))).1) kK) ?_
        show OwnFin p e below _ (T15.setTop (mkF m 54 #[.val (.ref a), .val (.ref o), .val (.ref o)] []))
        refine OwnFin.step (fun tT kK => XS.iconst X15.here hx rfl (hb hby d_prog_3_method_2_54) kK) ?_
        show OwnFin p e below _ (T15.setTop (mkF m 55 #[.val (.ref a), .val (.ref o), .val (.ref o)] [(.int (1 : Int32))]))
        refine OwnFin.step (fun tT kK => XS.goto X15.here hx rfl (pc0 := 55) (pc' := 59) rfl (hb hby d_prog_3_method_2_55) (by decide) (by decide) kK) ?_
        show OwnFin p e below _ (T15.setTop (mkF m 59 #[.val (.ref a), .val (.ref o), .val (.ref o)] [(.int (1 : Int32))]))
        obtain ⟨fs18, hr18, hrun18, hended18, hW18, hsame18⟩ := X15.leave (v := (some (.int (1 : Int32)))) (fun h => by rw [Bd.returns] at h; cases h)
        refine ⟨_, _, retN X15 hx (t := .boolean) Bd.returns (by simp) (hb hby d_prog_3_method_2_59) hr18, hrun18, hended18, _, _, rfl, ?_, ⟨_, rfl⟩, hW18, hsame18.mono (by decide) (by decide)⟩
        show Q5 Z a o ls1 bl1 kl1 nl1 vl1 ks1 bk1 kk1 nk1 vk1 fs1 bf1 kf1 nf1 vf1 ls2 bl2 kl2 nl2 vl2 ks2 bk2 kk2 nk2 vk2 fs2 bf2 kf2 nf2 vf2 cs h0 n0 _ T15.heap _
        rw [e15]
        exact ⟨(by simp [hc6, hc11, hc16]), N15, rfl⟩
      · skip
        rw [if_neg hc16]
        show OwnFin p e below _ (T15.setTop (mkF m 51 #[.val (.ref a), .val (.ref o), .val (.ref o)] [(.int (0 : Int32))]))
        refine OwnFin.step (fun tT kK => XS.ifYes X15.here hx rfl (pc0 := 51) (pc' := 58) rfl (hb hby d_prog_3_method_2_51) rfl ((if0 _ _).trans (teq (rfl : (0 : Int32) = (0 : Int32))).1) (by decide) (by decide) kK) ?_
        show OwnFin p e below _ (T15.setTop (mkF m 58 #[.val (.ref a), .val (.ref o), .val (.ref o)] []))
        refine OwnFin.step (fun tT kK => XS.iconst X15.here hx rfl (hb hby d_prog_3_method_2_58) kK) ?_
        show OwnFin p e below _ (T15.setTop (mkF m 59 #[.val (.ref a), .val (.ref o), .val (.ref o)] [(.int (0 : Int32))]))
        obtain ⟨fs17, hr17, hrun17, hended17, hW17, hsame17⟩ := X15.leave (v := (some (.int (0 : Int32)))) (fun h => by rw [Bd.returns] at h; cases h)
        refine ⟨_, _, retN X15 hx (t := .boolean) Bd.returns (by simp) (hb hby d_prog_3_method_2_59) hr17, hrun17, hended17, _, _, rfl, ?_, ⟨_, rfl⟩, hW17, hsame17.mono (by decide) (by decide)⟩
        show Q5 Z a o ls1 bl1 kl1 nl1 vl1 ks1 bk1 kk1 nk1 vk1 fs1 bf1 kf1 nf1 vf1 ls2 bl2 kl2 nl2 vl2 ks2 bk2 kk2 nk2 vk2 fs2 bf2 kf2 nf2 vf2 cs h0 n0 _ T15.heap _
        rw [e15]
        exact ⟨(by simp [hc6, hc11, hc16]), N15, rfl⟩
    · skip
      rw [if_neg hc11]
      show OwnFin p e below _ (T10.setTop (mkF m 37 #[.val (.ref a), .val (.ref o), .val (.ref o)] [(.int (0 : Int32))]))
      refine OwnFin.step (fun tT kK => XS.ifYes X10.here hx rfl (pc0 := 37) (pc' := 58) rfl (hb hby d_prog_3_method_2_37) rfl ((if0 _ _).trans (teq (rfl : (0 : Int32) = (0 : Int32))).1) (by decide) (by decide) kK) ?_
      show OwnFin p e below _ (T10.setTop (mkF m 58 #[.val (.ref a), .val (.ref o), .val (.ref o)] []))
      refine OwnFin.step (fun tT kK => XS.iconst X10.here hx rfl (hb hby d_prog_3_method_2_58) kK) ?_
      show OwnFin p e below _ (T10.setTop (mkF m 59 #[.val (.ref a), .val (.ref o), .val (.ref o)] [(.int (0 : Int32))]))
      obtain ⟨fs12, hr12, hrun12, hended12, hW12, hsame12⟩ := X10.leave (v := (some (.int (0 : Int32)))) (fun h => by rw [Bd.returns] at h; cases h)
      refine ⟨_, _, retN X10 hx (t := .boolean) Bd.returns (by simp) (hb hby d_prog_3_method_2_59) hr12, hrun12, hended12, _, _, rfl, ?_, ⟨_, rfl⟩, hW12, hsame12.mono (by decide) (by decide)⟩
      show Q5 Z a o ls1 bl1 kl1 nl1 vl1 ks1 bk1 kk1 nk1 vk1 fs1 bf1 kf1 nf1 vf1 ls2 bl2 kl2 nl2 vl2 ks2 bk2 kk2 nk2 vk2 fs2 bf2 kf2 nf2 vf2 cs h0 n0 _ T10.heap _
      rw [e10]
      exact ⟨(by simp [hc6, hc11]), N10, rfl⟩
  · skip
    rw [if_neg hc6]
    show OwnFin p e below _ (T5.setTop (mkF m 23 #[.val (.ref a), .val (.ref o), .val (.ref o)] [(.int (0 : Int32))]))
    refine OwnFin.step (fun tT kK => XS.ifYes X5.here hx rfl (pc0 := 23) (pc' := 58) rfl (hb hby d_prog_3_method_2_23) rfl ((if0 _ _).trans (teq (rfl : (0 : Int32) = (0 : Int32))).1) (by decide) (by decide) kK) ?_
    show OwnFin p e below _ (T5.setTop (mkF m 58 #[.val (.ref a), .val (.ref o), .val (.ref o)] []))
    refine OwnFin.step (fun tT kK => XS.iconst X5.here hx rfl (hb hby d_prog_3_method_2_58) kK) ?_
    show OwnFin p e below _ (T5.setTop (mkF m 59 #[.val (.ref a), .val (.ref o), .val (.ref o)] [(.int (0 : Int32))]))
    obtain ⟨fs7, hr7, hrun7, hended7, hW7, hsame7⟩ := X5.leave (v := (some (.int (0 : Int32)))) (fun h => by rw [Bd.returns] at h; cases h)
    refine ⟨_, _, retN X5 hx (t := .boolean) Bd.returns (by simp) (hb hby d_prog_3_method_2_59) hr7, hrun7, hended7, _, _, rfl, ?_, ⟨_, rfl⟩, hW7, hsame7.mono (by decide) (by decide)⟩
    show Q5 Z a o ls1 bl1 kl1 nl1 vl1 ks1 bk1 kk1 nk1 vk1 fs1 bf1 kf1 nf1 vf1 ls2 bl2 kl2 nl2 vl2 ks2 bk2 kk2 nk2 vk2 fs2 bf2 kf2 nf2 vf2 cs h0 n0 _ T5.heap _
    rw [e5]
    exact ⟨(by simp [hc6]), N5, rfl⟩
theorem ef_5n (m : MethodId) (a : Addr) : entryFrame m #[(.ref a), .null] 3 = mkF m 0 #[.val (.ref a), .val .null, .unset] [] := by first | (simp [entryFrame, mkF, argsToLocals, Value.category]; done) | rfl
def Q5n (Z : State) (a : Addr) (h0 : Heap) (n0 : Nat) (vV : Option Value) (hH : Heap) (LL : List Loc) : Prop := vV = some (.int (0 : Int32)) ∧ Fr n0 LL ∧ hH = h0
def R5n (Z : State) (a : Addr) (h0 : Heap) (n0 : Nat) (U : State) (oO : Outcome) (U' : State) : Prop := ∃ vV LL, oO = .returned vV ∧ Q5n Z a h0 n0 vV U'.heap LL ∧ FrameEnd U oO U' LL ({ frames := 0, cells := 0, slots := 0, locals := 0 } : Room).cells ({ frames := 0, cells := 0, slots := 0, locals := 0 } : Room).slots
set_option maxRecDepth 65536 in
set_option maxHeartbeats 40000000 in
theorem rm5n (l : Launch) (Z : State) (a0 : Array Value) (hw : ∀ d ∈ tables_1, d.before a0 Z = true) (hEL : EW Z a0 OwnEL) (wS : ∀ a ∈ Bundle.stringAtoms, a.before a0 Z = true) (ws : List Jvm.Cond) (a : Addr) (h0 : Heap) (n0 : Nat) (Z0 : n0 ≤ h0.size) :
    MetFree l (⟨"com/example/limpet/limpet/Hold", "equals", "(Ljava/lang/Object;)Z"⟩ : MethodName) (head1 (Jvm.Cond.code (⟨"com/example/limpet/limpet/Hold", "equals", "(Ljava/lang/Object;)Z"⟩ : MethodName) prog_3_method_2_code 3 (some .boolean) :: ws) ({ frames := 0, cells := 0, slots := 0, locals := 0 } : Room)) (fun aA U => aA = #[(.ref a), .null] ∧ Z.Warmed39 U.vm ∧ U.heap = h0) (fun _ _ _ _ _ => True) (fun _ U oO U' => ∃ vV LL, oO = .returned vV ∧ Q5n Z a h0 n0 vV U'.heap LL ∧ FrameEnd U oO U' LL ({ frames := 0, cells := 0, slots := 0, locals := 0 } : Room).cells ({ frames := 0, cells := 0, slots := 0, locals := 0 } : Room).slots) := by
  refine MetFree.of_bodySF (plainFor_of_name pn_61) hisR ?_
  intro p e s m args below meth cC s₁ Bd hml0 hP hK
  obtain ⟨rfl, hZ, hh⟩ := hP
  have hx := Bd.exec
  have hby := Bd.bytes
  have hml : cC.maxLocals = 3 := hml0
  have hown : s.vm.findClass "com/example/limpet/limpet/Hold" = some m.cls := findClass_of_methodNamed Bd.named
  have hnm := (name_of_methodNamed Bd.named Bd.method).1
  have X0 : Stand p l e ({ frames := 0, cells := 0, slots := 0, locals := 0 } : Room) s m #[(.ref a), .null] below meth cC s₁ [] 0 0 := Stand.of_body Bd
  have e0 : s₁.heap = h0 := by rw [← hh, Bd.state]; rfl
  have N0 := Fr.nil n0
  have Kp0 := Keep.refl h0 []
  show OwnFin p e below (R5n Z a h0 n0 s) (s₁.setTop (entryFrame m #[(.ref a), .null] 3))
  rw [ef_5n m a]
  refine OwnFin.step (fun tT kK => XS.aloadN X0.here hx rfl (hb hby d_prog_3_method_2_0) rfl rfl kK) ?_
  show OwnFin p e below _ (s₁.setTop (mkF m 1 #[.val (.ref a), .val .null, .unset] [.null]))
  refine OwnFin.step (fun tT kK => X0.instanceofNull hx (g := (mkF m 1 #[.val (.ref a), .val .null, .unset] [.null])) rfl rfl (hb hby d_prog_3_method_2_1) _ kK) ?_
  show OwnFin p e below _ (s₁.setTop (mkF m 4 #[.val (.ref a), .val .null, .unset] [(.int (0 : Int32))]))
  refine OwnFin.step (fun tT kK => XS.ifYes X0.here hx rfl (pc0 := 4) (pc' := 58) rfl (hb hby d_prog_3_method_2_4) rfl ((if0 _ _).trans (teq (rfl : (0 : Int32) = (0 : Int32))).1) (by decide) (by decide) kK) ?_
  show OwnFin p e below _ (s₁.setTop (mkF m 58 #[.val (.ref a), .val .null, .unset] []))
  refine OwnFin.step (fun tT kK => XS.iconst X0.here hx rfl (hb hby d_prog_3_method_2_58) kK) ?_
  show OwnFin p e below _ (s₁.setTop (mkF m 59 #[.val (.ref a), .val .null, .unset] [(.int (0 : Int32))]))
  obtain ⟨fs1, hr1, hrun1, hended1, hW1, hsame1⟩ := X0.leave (v := (some (.int (0 : Int32)))) (fun h => by rw [Bd.returns] at h; cases h)
  refine ⟨_, _, retN X0 hx (t := .boolean) Bd.returns (by simp) (hb hby d_prog_3_method_2_59) hr1, hrun1, hended1, _, _, rfl, ?_, ⟨_, rfl⟩, hW1, hsame1.mono (by decide) (by decide)⟩
  show Q5n Z a h0 n0 _ s₁.heap _
  rw [e0]
  exact ⟨rfl, N0, rfl⟩
theorem ef_5s (m : MethodId) (a : Addr) (o : Addr) : entryFrame m #[(.ref a), (.ref o)] 3 = mkF m 0 #[.val (.ref a), .val (.ref o), .unset] [] := by first | (simp [entryFrame, mkF, argsToLocals, Value.category]; done) | rfl
def Q5s (Z : State) (a : Addr) (o : Addr) (h0 : Heap) (n0 : Nat) (vV : Option Value) (hH : Heap) (LL : List Loc) : Prop := vV = some (.int (0 : Int32)) ∧ Fr n0 LL ∧ hH = h0
def R5s (Z : State) (a : Addr) (o : Addr) (h0 : Heap) (n0 : Nat) (U : State) (oO : Outcome) (U' : State) : Prop := ∃ vV LL, oO = .returned vV ∧ Q5s Z a o h0 n0 vV U'.heap LL ∧ FrameEnd U oO U' LL ({ frames := 0, cells := 0, slots := 0, locals := 0 } : Room).cells ({ frames := 0, cells := 0, slots := 0, locals := 0 } : Room).slots
set_option maxRecDepth 65536 in
set_option maxHeartbeats 40000000 in
theorem rm5s (l : Launch) (Z : State) (a0 : Array Value) (hw : ∀ d ∈ tables_1, d.before a0 Z = true) (hEL : EW Z a0 OwnEL) (wS : ∀ a ∈ Bundle.stringAtoms, a.before a0 Z = true) (ws : List Jvm.Cond) (a : Addr) (o : Addr) (h0 : Heap) (n0 : Nat) (Z0 : n0 ≤ h0.size) (hp0 : Exa Z h0 o "java/lang/String") :
    MetFree l (⟨"com/example/limpet/limpet/Hold", "equals", "(Ljava/lang/Object;)Z"⟩ : MethodName) (head1 (Jvm.Cond.code (⟨"com/example/limpet/limpet/Hold", "equals", "(Ljava/lang/Object;)Z"⟩ : MethodName) prog_3_method_2_code 3 (some .boolean) :: ws) ({ frames := 0, cells := 0, slots := 0, locals := 0 } : Room)) (fun aA U => aA = #[(.ref a), (.ref o)] ∧ Z.Warmed39 U.vm ∧ U.heap = h0) (fun _ _ _ _ _ => True) (fun _ U oO U' => ∃ vV LL, oO = .returned vV ∧ Q5s Z a o h0 n0 vV U'.heap LL ∧ FrameEnd U oO U' LL ({ frames := 0, cells := 0, slots := 0, locals := 0 } : Room).cells ({ frames := 0, cells := 0, slots := 0, locals := 0 } : Room).slots) := by
  refine MetFree.of_bodySF (plainFor_of_name pn_61) hisR ?_
  intro p e s m args below meth cC s₁ Bd hml0 hP hK
  obtain ⟨rfl, hZ, hh⟩ := hP
  have hx := Bd.exec
  have hby := Bd.bytes
  have hml : cC.maxLocals = 3 := hml0
  have hown : s.vm.findClass "com/example/limpet/limpet/Hold" = some m.cls := findClass_of_methodNamed Bd.named
  have hnm := (name_of_methodNamed Bd.named Bd.method).1
  have X0 : Stand p l e ({ frames := 0, cells := 0, slots := 0, locals := 0 } : Room) s m #[(.ref a), (.ref o)] below meth cC s₁ [] 0 0 := Stand.of_body Bd
  have e0 : s₁.heap = h0 := by rw [← hh, Bd.state]; rfl
  have N0 := Fr.nil n0
  have Kp0 := Keep.refl h0 []
  show OwnFin p e below (R5s Z a o h0 n0 s) (s₁.setTop (entryFrame m #[(.ref a), (.ref o)] 3))
  rw [ef_5s m a o]
  refine OwnFin.step (fun tT kK => XS.aloadN X0.here hx rfl (hb hby d_prog_3_method_2_0) rfl rfl kK) ?_
  show OwnFin p e below _ (s₁.setTop (mkF m 1 #[.val (.ref a), .val (.ref o), .unset] [(.ref o)]))
  obtain ⟨T1, X1, e1, st1⟩ := instNo X0 hx hZ hown (hw _ (List.mem_of_getElem? (i := 55) rfl)) e0 hp0 (own_ns_no (hw _ (List.mem_of_getElem? (i := 78) rfl)) (hw _ (List.mem_of_getElem? (i := 30) rfl)) (NS.step (hw _ (List.mem_of_getElem? (i := 78) rfl)) (own_ns_root (hw _ (List.mem_of_getElem? (i := 79) rfl)) (hw _ (List.mem_of_getElem? (i := 30) rfl)) (by decide)) (by decide)) (by decide)) (g := (mkF m 1 #[.val (.ref a), .val (.ref o), .unset] [(.ref o)])) rfl rfl (hb hby d_prog_3_method_2_1)
  refine OwnFin.step st1 ?_
  show OwnFin p e below _ (T1.setTop (mkF m 4 #[.val (.ref a), .val (.ref o), .unset] [(.int (0 : Int32))]))
  refine OwnFin.step (fun tT kK => XS.ifYes X1.here hx rfl (pc0 := 4) (pc' := 58) rfl (hb hby d_prog_3_method_2_4) rfl ((if0 _ _).trans (teq (rfl : (0 : Int32) = (0 : Int32))).1) (by decide) (by decide) kK) ?_
  show OwnFin p e below _ (T1.setTop (mkF m 58 #[.val (.ref a), .val (.ref o), .unset] []))
  refine OwnFin.step (fun tT kK => XS.iconst X1.here hx rfl (hb hby d_prog_3_method_2_58) kK) ?_
  show OwnFin p e below _ (T1.setTop (mkF m 59 #[.val (.ref a), .val (.ref o), .unset] [(.int (0 : Int32))]))
  obtain ⟨fs2, hr2, hrun2, hended2, hW2, hsame2⟩ := X1.leave (v := (some (.int (0 : Int32)))) (fun h => by rw [Bd.returns] at h; cases h)
  refine ⟨_, _, retN X1 hx (t := .boolean) Bd.returns (by simp) (hb hby d_prog_3_method_2_59) hr2, hrun2, hended2, _, _, rfl, ?_, ⟨_, rfl⟩, hW2, hsame2.mono (by decide) (by decide)⟩
  show Q5s Z a o h0 n0 _ T1.heap _
  rw [e1]
  exact ⟨rfl, N0, rfl⟩
theorem pn_104 : plainName "com/example/limpet/limpet/HoldEqualsPinLaw" = true := by first | (simp [plainName, overriddenIn]; done) | decide +kernel
theorem d_method_2_0 : decode method_2_code 0 = .ok (.iload_n 0, 1) := by decide +kernel
theorem d_method_2_1 : decode method_2_code 1 = .ok (.bipush 16, 2) := by decide +kernel
theorem d_method_2_3 : decode method_2_code 3 = .ok (.iushr, 1) := by decide +kernel
theorem d_method_2_4 : decode method_2_code 4 = .ok (.iconst 3, 1) := by decide +kernel
theorem d_method_2_5 : decode method_2_code 5 = .ok (.iand, 1) := by decide +kernel
theorem d_method_2_6 : decode method_2_code 6 = .ok (.iconst 3, 1) := by decide +kernel
theorem d_method_2_7 : decode method_2_code 7 = .ok (.irem, 1) := by decide +kernel
theorem d_method_2_8 : decode method_2_code 8 = .ok (.ireturn, 1) := by decide +kernel
theorem ef_6 (m : MethodId) (x : Int32) : entryFrame m #[(.int x)] 1 = mkF m 0 #[.val (.int x)] [] := by first | (simp [entryFrame, mkF, argsToLocals, Value.category]; done) | rfl
def Q6 (Z : State) (x : Int32) (h0 : Heap) (n0 : Nat) (vV : Option Value) (hH : Heap) (LL : List Loc) : Prop := vV = some (.int (OwnL x)) ∧ Fr n0 LL ∧ hH = h0
def R6 (Z : State) (x : Int32) (h0 : Heap) (n0 : Nat) (U : State) (oO : Outcome) (U' : State) : Prop := ∃ vV LL, oO = .returned vV ∧ Q6 Z x h0 n0 vV U'.heap LL ∧ FrameEnd U oO U' LL ({ frames := 0, cells := 0, slots := 0, locals := 0 } : Room).cells ({ frames := 0, cells := 0, slots := 0, locals := 0 } : Room).slots
set_option maxRecDepth 65536 in
set_option maxHeartbeats 40000000 in
theorem rm6 (l : Launch) (Z : State) (a0 : Array Value) (hw : ∀ d ∈ tables_1, d.before a0 Z = true) (hEL : EW Z a0 OwnEL) (wS : ∀ a ∈ Bundle.stringAtoms, a.before a0 Z = true) (ws : List Jvm.Cond) (x : Int32) (h0 : Heap) (n0 : Nat) (Z0 : n0 ≤ h0.size) :
    MetFree l (⟨"com/example/limpet/limpet/HoldEqualsPinLaw", "len", "(I)I"⟩ : MethodName) (head1 (Jvm.Cond.code (⟨"com/example/limpet/limpet/HoldEqualsPinLaw", "len", "(I)I"⟩ : MethodName) method_2_code 1 (some .int) :: ws) ({ frames := 0, cells := 0, slots := 0, locals := 0 } : Room)) (fun aA U => aA = #[(.int x)] ∧ Z.Warmed39 U.vm ∧ U.heap = h0) (fun _ _ _ _ _ => True) (fun _ U oO U' => ∃ vV LL, oO = .returned vV ∧ Q6 Z x h0 n0 vV U'.heap LL ∧ FrameEnd U oO U' LL ({ frames := 0, cells := 0, slots := 0, locals := 0 } : Room).cells ({ frames := 0, cells := 0, slots := 0, locals := 0 } : Room).slots) := by
  refine MetFree.of_bodySF (plainFor_of_name pn_104) hisR ?_
  intro p e s m args below meth cC s₁ Bd hml0 hP hK
  obtain ⟨rfl, hZ, hh⟩ := hP
  have hx := Bd.exec
  have hby := Bd.bytes
  have hml : cC.maxLocals = 1 := hml0
  have hown : s.vm.findClass "com/example/limpet/limpet/HoldEqualsPinLaw" = some m.cls := findClass_of_methodNamed Bd.named
  have hnm := (name_of_methodNamed Bd.named Bd.method).1
  have X0 : Stand p l e ({ frames := 0, cells := 0, slots := 0, locals := 0 } : Room) s m #[(.int x)] below meth cC s₁ [] 0 0 := Stand.of_body Bd
  have e0 : s₁.heap = h0 := by rw [← hh, Bd.state]; rfl
  have N0 := Fr.nil n0
  have Kp0 := Keep.refl h0 []
  show OwnFin p e below (R6 Z x h0 n0 s) (s₁.setTop (entryFrame m #[(.int x)] 1))
  rw [ef_6 m x]
  refine OwnFin.step (fun tT kK => XS.iloadN X0.here hx rfl (hb hby d_method_2_0) rfl kK) ?_
  show OwnFin p e below _ (s₁.setTop (mkF m 1 #[.val (.int x)] [(.int x)]))
  refine OwnFin.step (fun tT kK => XS.bipush X0.here hx rfl (hb hby d_method_2_1) kK) ?_
  show OwnFin p e below _ (s₁.setTop (mkF m 3 #[.val (.int x)] [(.int (16 : Int32)), (.int x)]))
  refine OwnFin.step (fun tT kK => XS.iushr X0.here hx rfl (hb hby d_method_2_3) rfl kK) ?_
  show OwnFin p e below _ (s₁.setTop (mkF m 4 #[.val (.int x)] [(.int ((x.toUInt32 >>> ((16 : Int32) &&& 31).toUInt32).toInt32))]))
  refine OwnFin.step (fun tT kK => XS.iconst X0.here hx rfl (hb hby d_method_2_4) kK) ?_
  show OwnFin p e below _ (s₁.setTop (mkF m 5 #[.val (.int x)] [(.int (3 : Int32)), (.int ((x.toUInt32 >>> ((16 : Int32) &&& 31).toUInt32).toInt32))]))
  refine OwnFin.step (fun tT kK => XS.iand X0.here hx rfl (hb hby d_method_2_5) rfl kK) ?_
  show OwnFin p e below _ (s₁.setTop (mkF m 6 #[.val (.int x)] [(.int (((x.toUInt32 >>> ((16 : Int32) &&& 31).toUInt32).toInt32) &&& (3 : Int32)))]))
  refine OwnFin.step (fun tT kK => XS.iconst X0.here hx rfl (hb hby d_method_2_6) kK) ?_
  show OwnFin p e below _ (s₁.setTop (mkF m 7 #[.val (.int x)] [(.int (3 : Int32)), (.int (((x.toUInt32 >>> ((16 : Int32) &&& 31).toUInt32).toInt32) &&& (3 : Int32)))]))
  refine OwnFin.step (fun tT kK => iremM (g := (mkF m 7 #[.val (.int x)] [(.int (3 : Int32)), (.int (((x.toUInt32 >>> ((16 : Int32) &&& 31).toUInt32).toInt32) &&& (3 : Int32)))])) X0 hx rfl (hb hby d_method_2_7) rfl (by decide) kK) ?_
  show OwnFin p e below _ (s₁.setTop (mkF m 8 #[.val (.int x)] [(.int ((((x.toUInt32 >>> ((16 : Int32) &&& 31).toUInt32).toInt32) &&& (3 : Int32)) % (3 : Int32)))]))
  obtain ⟨fs1, hr1, hrun1, hended1, hW1, hsame1⟩ := X0.leave (v := (some (.int ((((x.toUInt32 >>> ((16 : Int32) &&& 31).toUInt32).toInt32) &&& (3 : Int32)) % (3 : Int32))))) (fun h => by rw [Bd.returns] at h; cases h)
  refine ⟨_, _, retOut X0 hx Bd.returns rfl (Or.inl ⟨rfl, Or.inl rfl, _, rfl⟩) (hb hby d_method_2_8) hr1, hrun1, hended1, _, _, rfl, ?_, ⟨_, rfl⟩, hW1, hsame1.mono (by decide) (by decide)⟩
  show Q6 Z x h0 n0 _ s₁.heap _
  rw [e0]
  exact ⟨rfl, N0, rfl⟩
theorem d_method_4_0 : decode method_4_code 0 = .ok (.iload_n 0, 1) := by decide +kernel
theorem d_method_4_1 : decode method_4_code 1 = .ok (.invokestatic 7, 3) := by decide +kernel
theorem pd_115 : parseMethodDescriptor "(I)I" = some ⟨[.int], some .int⟩ := by decide +kernel
theorem d_method_4_4 : decode method_4_code 4 = .ok (.istore_n 2, 1) := by decide +kernel
theorem d_method_4_5 : decode method_4_code 5 = .ok (.iload_n 1, 1) := by decide +kernel
theorem d_method_4_6 : decode method_4_code 6 = .ok (.invokestatic 7, 3) := by decide +kernel
theorem d_method_4_9 : decode method_4_code 9 = .ok (.istore_n 3, 1) := by decide +kernel
theorem d_method_4_10 : decode method_4_code 10 = .ok (.iload_n 2, 1) := by decide +kernel
theorem d_method_4_11 : decode method_4_code 11 = .ok (.iload_n 3, 1) := by decide +kernel
theorem d_method_4_12 : decode method_4_code 12 = .ok (.if_icmp .eq 5, 3) := by decide +kernel
theorem d_method_4_17 : decode method_4_code 17 = .ok (.iload_n 2, 1) := by decide +kernel
theorem d_method_4_18 : decode method_4_code 18 = .ok (.iconst 1, 1) := by decide +kernel
theorem d_method_4_19 : decode method_4_code 19 = .ok (.if_icmp .lt 18, 3) := by decide +kernel
theorem d_method_4_37 : decode method_4_code 37 = .ok (.iload_n 2, 1) := by decide +kernel
theorem d_method_4_38 : decode method_4_code 38 = .ok (.iconst 2, 1) := by decide +kernel
theorem d_method_4_39 : decode method_4_code 39 = .ok (.if_icmp .lt 24, 3) := by decide +kernel
theorem d_method_4_63 : decode method_4_code 63 = .ok (.iconst 1, 1) := by decide +kernel
theorem d_method_4_64 : decode method_4_code 64 = .ok (.ireturn, 1) := by decide +kernel
theorem d_method_4_15 : decode method_4_code 15 = .ok (.iconst 0, 1) := by decide +kernel
theorem d_method_4_16 : decode method_4_code 16 = .ok (.ireturn, 1) := by decide +kernel
theorem d_method_4_22 : decode method_4_code 22 = .ok (.iload_n 0, 1) := by decide +kernel
theorem d_method_4_23 : decode method_4_code 23 = .ok (.sipush 255, 3) := by decide +kernel
theorem d_method_4_26 : decode method_4_code 26 = .ok (.iand, 1) := by decide +kernel
theorem d_method_4_27 : decode method_4_code 27 = .ok (.iload_n 1, 1) := by decide +kernel
theorem d_method_4_28 : decode method_4_code 28 = .ok (.sipush 255, 3) := by decide +kernel
theorem d_method_4_31 : decode method_4_code 31 = .ok (.iand, 1) := by decide +kernel
theorem d_method_4_32 : decode method_4_code 32 = .ok (.if_icmp .eq 5, 3) := by decide +kernel
theorem d_method_4_35 : decode method_4_code 35 = .ok (.iconst 0, 1) := by decide +kernel
theorem d_method_4_36 : decode method_4_code 36 = .ok (.ireturn, 1) := by decide +kernel
theorem d_method_4_42 : decode method_4_code 42 = .ok (.iload_n 0, 1) := by decide +kernel
theorem d_method_4_43 : decode method_4_code 43 = .ok (.bipush 8, 2) := by decide +kernel
theorem d_method_4_45 : decode method_4_code 45 = .ok (.iushr, 1) := by decide +kernel
theorem d_method_4_46 : decode method_4_code 46 = .ok (.sipush 255, 3) := by decide +kernel
theorem d_method_4_49 : decode method_4_code 49 = .ok (.iand, 1) := by decide +kernel
theorem d_method_4_50 : decode method_4_code 50 = .ok (.iload_n 1, 1) := by decide +kernel
theorem d_method_4_51 : decode method_4_code 51 = .ok (.bipush 8, 2) := by decide +kernel
theorem d_method_4_53 : decode method_4_code 53 = .ok (.iushr, 1) := by decide +kernel
theorem d_method_4_54 : decode method_4_code 54 = .ok (.sipush 255, 3) := by decide +kernel
theorem d_method_4_57 : decode method_4_code 57 = .ok (.iand, 1) := by decide +kernel
theorem d_method_4_58 : decode method_4_code 58 = .ok (.if_icmp .eq 5, 3) := by decide +kernel
theorem d_method_4_61 : decode method_4_code 61 = .ok (.iconst 0, 1) := by decide +kernel
theorem d_method_4_62 : decode method_4_code 62 = .ok (.ireturn, 1) := by decide +kernel
theorem ef_7 (m : MethodId) (x : Int32) (y : Int32) : entryFrame m #[(.int x), (.int y)] 4 = mkF m 0 #[.val (.int x), .val (.int y), .unset, .unset] [] := by first | (simp [entryFrame, mkF, argsToLocals, Value.category]; done) | rfl
def Q7 (Z : State) (x : Int32) (y : Int32) (h0 : Heap) (n0 : Nat) (vV : Option Value) (hH : Heap) (LL : List Loc) : Prop := vV = some (.int (if OwnV x = OwnV y then 1 else 0)) ∧ Fr n0 LL ∧ hH = h0
def R7 (Z : State) (x : Int32) (y : Int32) (h0 : Heap) (n0 : Nat) (U : State) (oO : Outcome) (U' : State) : Prop := ∃ vV LL, oO = .returned vV ∧ Q7 Z x y h0 n0 vV U'.heap LL ∧ FrameEnd U oO U' LL ({ frames := 1, cells := 0, slots := 0, locals := 12 } : Room).cells ({ frames := 1, cells := 0, slots := 0, locals := 12 } : Room).slots
set_option maxRecDepth 65536 in
set_option maxHeartbeats 40000000 in
theorem rm7 (l : Launch) (Z : State) (a0 : Array Value) (hw : ∀ d ∈ tables_1, d.before a0 Z = true) (hEL : EW Z a0 OwnEL) (wS : ∀ a ∈ Bundle.stringAtoms, a.before a0 Z = true) (ws : List Jvm.Cond) (x : Int32) (y : Int32) (h0 : Heap) (n0 : Nat) (Z0 : n0 ≤ h0.size) :
    MetFree l (⟨"com/example/limpet/limpet/HoldEqualsPinLaw", "same", "(II)Z"⟩ : MethodName) (head1 (Jvm.Cond.code (⟨"com/example/limpet/limpet/HoldEqualsPinLaw", "same", "(II)Z"⟩ : MethodName) method_4_code 4 (some .boolean) :: ws) ({ frames := 1, cells := 0, slots := 0, locals := 12 } : Room)) (fun aA U => aA = #[(.int x), (.int y)] ∧ Z.Warmed39 U.vm ∧ U.heap = h0) (fun _ _ _ _ _ => True) (fun _ U oO U' => ∃ vV LL, oO = .returned vV ∧ Q7 Z x y h0 n0 vV U'.heap LL ∧ FrameEnd U oO U' LL ({ frames := 1, cells := 0, slots := 0, locals := 12 } : Room).cells ({ frames := 1, cells := 0, slots := 0, locals := 12 } : Room).slots) := by
  refine MetFree.of_bodySF (plainFor_of_name pn_104) hisR ?_
  intro p e s m args below meth cC s₁ Bd hml0 hP hK
  obtain ⟨rfl, hZ, hh⟩ := hP
  have hx := Bd.exec
  have hby := Bd.bytes
  have hml : cC.maxLocals = 4 := hml0
  have hown : s.vm.findClass "com/example/limpet/limpet/HoldEqualsPinLaw" = some m.cls := findClass_of_methodNamed Bd.named
  have hnm := (name_of_methodNamed Bd.named Bd.method).1
  have X0 : Stand p l e ({ frames := 1, cells := 0, slots := 0, locals := 12 } : Room) s m #[(.int x), (.int y)] below meth cC s₁ [] 0 0 := Stand.of_body Bd
  have e0 : s₁.heap = h0 := by rw [← hh, Bd.state]; rfl
  have N0 := Fr.nil n0
  have Kp0 := Keep.refl h0 []
  show OwnFin p e below (R7 Z x y h0 n0 s) (s₁.setTop (entryFrame m #[(.int x), (.int y)] 4))
  rw [ef_7 m x y]
  refine OwnFin.step (fun tT kK => XS.iloadN X0.here hx rfl (hb hby d_method_4_0) rfl kK) ?_
  show OwnFin p e below _ (s₁.setTop (mkF m 1 #[.val (.int x), .val (.int y), .unset, .unset] [(.int x)]))
  obtain ⟨_, _, ⟨T1, L1, k1, n1⟩, -, X1, ⟨Lc1, hQ1, l1, y1, z1⟩, st1⟩ := Jvm.LawKit.callS X0 hx (y := (⟨"com/example/limpet/limpet/HoldEqualsPinLaw", "len", "(I)I"⟩ : MethodName)) hown (mvT hZ (hw _ (List.mem_of_getElem? (i := 4) rfl))) (mvT hZ (hw _ (List.mem_of_getElem? (i := 5) rfl))) (mvT hZ (hw _ (List.mem_of_getElem? (i := 2) rfl))) (mvT hZ (hw _ (List.mem_of_getElem? (i := 6) rfl))) (by decide) (backOf (W := 0) (rm6 l Z a0 hw hEL wS [] x h0 n0 (Nat.le_trans Z0 Kp0.1) ) hZ (hw _ (List.mem_of_getElem? (i := 6) rfl)) (hw _ (List.mem_of_getElem? (i := 2) rfl)) (by decide) (by decide)) (g := (mkF m 1 #[.val (.int x), .val (.int y), .unset, .unset] [(.int x)])) rfl (by rw [hml]; rfl) (argsL := [(.int x)]) (rest := []) (lenOf pd_115 rfl) rfl (by show 2 * 0 + _ ≤ _; exact Nat.le_of_eq rfl) (hb hby d_method_4_1) (fun _ _ => ⟨rfl, e0, (by decide : 0 + 0 ≤ _), (by decide : 0 + 0 ≤ _)⟩)
  dsimp only [Pt.U, Pt.locs, Pt.cells, Pt.slots] at X1 l1 y1 z1 st1 hQ1
  subst l1 y1 z1
  obtain ⟨rfl, N1q, e1⟩ := hQ1
  have N1 := Fr.app N0 N1q
  refine OwnFin.step st1 ?_
  show OwnFin p e below _ (T1.setTop (mkF m 4 #[.val (.int x), .val (.int y), .unset, .unset] [(.int (OwnL x))]))
  refine OwnFin.step (fun tT kK => XS.istoreN X1.here hx rfl (hb hby d_method_4_4) rfl (l' := #[.val (.int x), .val (.int y), .val (.int (OwnL x)), .unset]) rfl kK) ?_
  show OwnFin p e below _ (T1.setTop (mkF m 5 #[.val (.int x), .val (.int y), .val (.int (OwnL x)), .unset] []))
  refine OwnFin.step (fun tT kK => XS.iloadN X1.here hx rfl (hb hby d_method_4_5) rfl kK) ?_
  show OwnFin p e below _ (T1.setTop (mkF m 6 #[.val (.int x), .val (.int y), .val (.int (OwnL x)), .unset] [(.int y)]))
  obtain ⟨_, _, ⟨T2, L2, k2, n2⟩, -, X2, ⟨Lc2, hQ2, l2, y2, z2⟩, st2⟩ := Jvm.LawKit.callS X1 hx (y := (⟨"com/example/limpet/limpet/HoldEqualsPinLaw", "len", "(I)I"⟩ : MethodName)) hown (mvT hZ (hw _ (List.mem_of_getElem? (i := 4) rfl))) (mvT hZ (hw _ (List.mem_of_getElem? (i := 5) rfl))) (mvT hZ (hw _ (List.mem_of_getElem? (i := 2) rfl))) (mvT hZ (hw _ (List.mem_of_getElem? (i := 6) rfl))) (by decide) (backOf (W := 0) (rm6 l Z a0 hw hEL wS [] y h0 n0 (Nat.le_trans Z0 Kp0.1) ) hZ (hw _ (List.mem_of_getElem? (i := 6) rfl)) (hw _ (List.mem_of_getElem? (i := 2) rfl)) (by decide) (by decide)) (g := (mkF m 6 #[.val (.int x), .val (.int y), .val (.int (OwnL x)), .unset] [(.int y)])) rfl (by rw [hml]; rfl) (argsL := [(.int y)]) (rest := []) (lenOf pd_115 rfl) rfl (by show 2 * 0 + _ ≤ _; exact Nat.le_of_eq rfl) (hb hby d_method_4_6) (fun _ _ => ⟨rfl, e1, (by decide : 0 + 0 ≤ _), (by decide : 0 + 0 ≤ _)⟩)
  dsimp only [Pt.U, Pt.locs, Pt.cells, Pt.slots] at X2 l2 y2 z2 st2 hQ2
  subst l2 y2 z2
  obtain ⟨rfl, N2q, e2⟩ := hQ2
  have N2 := Fr.app N1 N2q
  refine OwnFin.step st2 ?_
  show OwnFin p e below _ (T2.setTop (mkF m 9 #[.val (.int x), .val (.int y), .val (.int (OwnL x)), .unset] [(.int (OwnL y))]))
  refine OwnFin.step (fun tT kK => XS.istoreN X2.here hx rfl (hb hby d_method_4_9) rfl (l' := #[.val (.int x), .val (.int y), .val (.int (OwnL x)), .val (.int (OwnL y))]) rfl kK) ?_
  show OwnFin p e below _ (T2.setTop (mkF m 10 #[.val (.int x), .val (.int y), .val (.int (OwnL x)), .val (.int (OwnL y))] []))
  refine OwnFin.step (fun tT kK => XS.iloadN X2.here hx rfl (hb hby d_method_4_10) rfl kK) ?_
  show OwnFin p e below _ (T2.setTop (mkF m 11 #[.val (.int x), .val (.int y), .val (.int (OwnL x)), .val (.int (OwnL y))] [(.int (OwnL x))]))
  refine OwnFin.step (fun tT kK => XS.iloadN X2.here hx rfl (hb hby d_method_4_11) rfl kK) ?_
  show OwnFin p e below _ (T2.setTop (mkF m 12 #[.val (.int x), .val (.int y), .val (.int (OwnL x)), .val (.int (OwnL y))] [(.int (OwnL y)), (.int (OwnL x))]))
  rcases own_len3 x with h3x | h3x | h3x
  · skip
    rw [h3x]
    show OwnFin p e below _ (T2.setTop (mkF m 12 #[.val (.int x), .val (.int y), .val (.int (0 : Int32)), .val (.int (OwnL y))] [(.int (OwnL y)), (.int (0 : Int32))]))
    rcases own_len3 y with h3y | h3y | h3y
    · skip
      rw [h3y]
      show OwnFin p e below _ (T2.setTop (mkF m 12 #[.val (.int x), .val (.int y), .val (.int (0 : Int32)), .val (.int (0 : Int32))] [(.int (0 : Int32)), (.int (0 : Int32))]))
      refine OwnFin.step (fun tT kK => XS.icmpYes X2.here hx rfl (pc0 := 12) (pc' := 17) rfl (hb hby d_method_4_12) rfl (teq (rfl : (0 : Int32) = (0 : Int32))).1 (by decide) (by decide) kK) ?_
      show OwnFin p e below _ (T2.setTop (mkF m 17 #[.val (.int x), .val (.int y), .val (.int (0 : Int32)), .val (.int (0 : Int32))] []))
      refine OwnFin.step (fun tT kK => XS.iloadN X2.here hx rfl (hb hby d_method_4_17) rfl kK) ?_
      show OwnFin p e below _ (T2.setTop (mkF m 18 #[.val (.int x), .val (.int y), .val (.int (0 : Int32)), .val (.int (0 : Int32))] [(.int (0 : Int32))]))
      refine OwnFin.step (fun tT kK => XS.iconst X2.here hx rfl (hb hby d_method_4_18) kK) ?_
      show OwnFin p e below _ (T2.setTop (mkF m 19 #[.val (.int x), .val (.int y), .val (.int (0 : Int32)), .val (.int (0 : Int32))] [(.int (1 : Int32)), (.int (0 : Int32))]))
      refine OwnFin.step (fun tT kK => XS.icmpYes X2.here hx rfl (pc0 := 19) (pc' := 37) rfl (hb hby d_method_4_19) rfl (tlt (by decide : (0 : Int32) < (1 : Int32))).1 (by decide) (by decide) kK) ?_
      show OwnFin p e below _ (T2.setTop (mkF m 37 #[.val (.int x), .val (.int y), .val (.int (0 : Int32)), .val (.int (0 : Int32))] []))
      refine OwnFin.step (fun tT kK => XS.iloadN X2.here hx rfl (hb hby d_method_4_37) rfl kK) ?_
      show OwnFin p e below _ (T2.setTop (mkF m 38 #[.val (.int x), .val (.int y), .val (.int (0 : Int32)), .val (.int (0 : Int32))] [(.int (0 : Int32))]))
      refine OwnFin.step (fun tT kK => XS.iconst X2.here hx rfl (hb hby d_method_4_38) kK) ?_
      show OwnFin p e below _ (T2.setTop (mkF m 39 #[.val (.int x), .val (.int y), .val (.int (0 : Int32)), .val (.int (0 : Int32))] [(.int (2 : Int32)), (.int (0 : Int32))]))
      refine OwnFin.step (fun tT kK => XS.icmpYes X2.here hx rfl (pc0 := 39) (pc' := 63) rfl (hb hby d_method_4_39) rfl (tlt (by decide : (0 : Int32) < (2 : Int32))).1 (by decide) (by decide) kK) ?_
      show OwnFin p e below _ (T2.setTop (mkF m 63 #[.val (.int x), .val (.int y), .val (.int (0 : Int32)), .val (.int (0 : Int32))] []))
      refine OwnFin.step (fun tT kK => XS.iconst X2.here hx rfl (hb hby d_method_4_63) kK) ?_
      show OwnFin p e below _ (T2.setTop (mkF m 64 #[.val (.int x), .val (.int y), .val (.int (0 : Int32)), .val (.int (0 : Int32))] [(.int (1 : Int32))]))
      obtain ⟨fs3, hr3, hrun3, hended3, hW3, hsame3⟩ := X2.leave (v := (some (.int (1 : Int32)))) (fun h => by rw [Bd.returns] at h; cases h)
      refine ⟨_, _, retN X2 hx (t := .boolean) Bd.returns (by simp) (hb hby d_method_4_64) hr3, hrun3, hended3, _, _, rfl, ?_, ⟨_, rfl⟩, hW3, hsame3.mono (by decide) (by decide)⟩
      show Q7 Z x y h0 n0 _ T2.heap _
      rw [e2]
      exact ⟨(by simp [OwnV, h3x, h3y, own_b1, own_b2]), N2, rfl⟩
    · skip
      rw [h3y]
      show OwnFin p e below _ (T2.setTop (mkF m 12 #[.val (.int x), .val (.int y), .val (.int (0 : Int32)), .val (.int (1 : Int32))] [(.int (1 : Int32)), (.int (0 : Int32))]))
      refine OwnFin.step (fun tT kK => XS.icmpNo X2.here hx rfl (hb hby d_method_4_12) rfl (feq (by decide : ¬ ((0 : Int32) = (1 : Int32)))).1 kK) ?_
      show OwnFin p e below _ (T2.setTop (mkF m 15 #[.val (.int x), .val (.int y), .val (.int (0 : Int32)), .val (.int (1 : Int32))] []))
      refine OwnFin.step (fun tT kK => XS.iconst X2.here hx rfl (hb hby d_method_4_15) kK) ?_
      show OwnFin p e below _ (T2.setTop (mkF m 16 #[.val (.int x), .val (.int y), .val (.int (0 : Int32)), .val (.int (1 : Int32))] [(.int (0 : Int32))]))
      obtain ⟨fs4, hr4, hrun4, hended4, hW4, hsame4⟩ := X2.leave (v := (some (.int (0 : Int32)))) (fun h => by rw [Bd.returns] at h; cases h)
      refine ⟨_, _, retN X2 hx (t := .boolean) Bd.returns (by simp) (hb hby d_method_4_16) hr4, hrun4, hended4, _, _, rfl, ?_, ⟨_, rfl⟩, hW4, hsame4.mono (by decide) (by decide)⟩
      show Q7 Z x y h0 n0 _ T2.heap _
      rw [e2]
      exact ⟨(by simp [OwnV, h3x, h3y, own_b1, own_b2]), N2, rfl⟩
    · skip
      rw [h3y]
      show OwnFin p e below _ (T2.setTop (mkF m 12 #[.val (.int x), .val (.int y), .val (.int (0 : Int32)), .val (.int (2 : Int32))] [(.int (2 : Int32)), (.int (0 : Int32))]))
      refine OwnFin.step (fun tT kK => XS.icmpNo X2.here hx rfl (hb hby d_method_4_12) rfl (feq (by decide : ¬ ((0 : Int32) = (2 : Int32)))).1 kK) ?_
      show OwnFin p e below _ (T2.setTop (mkF m 15 #[.val (.int x), .val (.int y), .val (.int (0 : Int32)), .val (.int (2 : Int32))] []))
      refine OwnFin.step (fun tT kK => XS.iconst X2.here hx rfl (hb hby d_method_4_15) kK) ?_
      show OwnFin p e below _ (T2.setTop (mkF m 16 #[.val (.int x), .val (.int y), .val (.int (0 : Int32)), .val (.int (2 : Int32))] [(.int (0 : Int32))]))
      obtain ⟨fs5, hr5, hrun5, hended5, hW5, hsame5⟩ := X2.leave (v := (some (.int (0 : Int32)))) (fun h => by rw [Bd.returns] at h; cases h)
      refine ⟨_, _, retN X2 hx (t := .boolean) Bd.returns (by simp) (hb hby d_method_4_16) hr5, hrun5, hended5, _, _, rfl, ?_, ⟨_, rfl⟩, hW5, hsame5.mono (by decide) (by decide)⟩
      show Q7 Z x y h0 n0 _ T2.heap _
      rw [e2]
      exact ⟨(by simp [OwnV, h3x, h3y, own_b1, own_b2]), N2, rfl⟩
  · skip
    rw [h3x]
    show OwnFin p e below _ (T2.setTop (mkF m 12 #[.val (.int x), .val (.int y), .val (.int (1 : Int32)), .val (.int (OwnL y))] [(.int (OwnL y)), (.int (1 : Int32))]))
    rcases own_len3 y with h3y | h3y | h3y
    · skip
      rw [h3y]
      show OwnFin p e below _ (T2.setTop (mkF m 12 #[.val (.int x), .val (.int y), .val (.int (1 : Int32)), .val (.int (0 : Int32))] [(.int (0 : Int32)), (.int (1 : Int32))]))
      refine OwnFin.step (fun tT kK => XS.icmpNo X2.here hx rfl (hb hby d_method_4_12) rfl (feq (by decide : ¬ ((1 : Int32) = (0 : Int32)))).1 kK) ?_
      show OwnFin p e below _ (T2.setTop (mkF m 15 #[.val (.int x), .val (.int y), .val (.int (1 : Int32)), .val (.int (0 : Int32))] []))
      refine OwnFin.step (fun tT kK => XS.iconst X2.here hx rfl (hb hby d_method_4_15) kK) ?_
      show OwnFin p e below _ (T2.setTop (mkF m 16 #[.val (.int x), .val (.int y), .val (.int (1 : Int32)), .val (.int (0 : Int32))] [(.int (0 : Int32))]))
      obtain ⟨fs6, hr6, hrun6, hended6, hW6, hsame6⟩ := X2.leave (v := (some (.int (0 : Int32)))) (fun h => by rw [Bd.returns] at h; cases h)
      refine ⟨_, _, retN X2 hx (t := .boolean) Bd.returns (by simp) (hb hby d_method_4_16) hr6, hrun6, hended6, _, _, rfl, ?_, ⟨_, rfl⟩, hW6, hsame6.mono (by decide) (by decide)⟩
      show Q7 Z x y h0 n0 _ T2.heap _
      rw [e2]
      exact ⟨(by simp [OwnV, h3x, h3y, own_b1, own_b2]), N2, rfl⟩
    · skip
      rw [h3y]
      show OwnFin p e below _ (T2.setTop (mkF m 12 #[.val (.int x), .val (.int y), .val (.int (1 : Int32)), .val (.int (1 : Int32))] [(.int (1 : Int32)), (.int (1 : Int32))]))
      refine OwnFin.step (fun tT kK => XS.icmpYes X2.here hx rfl (pc0 := 12) (pc' := 17) rfl (hb hby d_method_4_12) rfl (teq (rfl : (1 : Int32) = (1 : Int32))).1 (by decide) (by decide) kK) ?_
      show OwnFin p e below _ (T2.setTop (mkF m 17 #[.val (.int x), .val (.int y), .val (.int (1 : Int32)), .val (.int (1 : Int32))] []))
      refine OwnFin.step (fun tT kK => XS.iloadN X2.here hx rfl (hb hby d_method_4_17) rfl kK) ?_
      show OwnFin p e below _ (T2.setTop (mkF m 18 #[.val (.int x), .val (.int y), .val (.int (1 : Int32)), .val (.int (1 : Int32))] [(.int (1 : Int32))]))
      refine OwnFin.step (fun tT kK => XS.iconst X2.here hx rfl (hb hby d_method_4_18) kK) ?_
      show OwnFin p e below _ (T2.setTop (mkF m 19 #[.val (.int x), .val (.int y), .val (.int (1 : Int32)), .val (.int (1 : Int32))] [(.int (1 : Int32)), (.int (1 : Int32))]))
      refine OwnFin.step (fun tT kK => XS.icmpNo X2.here hx rfl (hb hby d_method_4_19) rfl (flt (by decide : ¬ ((1 : Int32) < (1 : Int32)))).1 kK) ?_
      show OwnFin p e below _ (T2.setTop (mkF m 22 #[.val (.int x), .val (.int y), .val (.int (1 : Int32)), .val (.int (1 : Int32))] []))
      refine OwnFin.step (fun tT kK => XS.iloadN X2.here hx rfl (hb hby d_method_4_22) rfl kK) ?_
      show OwnFin p e below _ (T2.setTop (mkF m 23 #[.val (.int x), .val (.int y), .val (.int (1 : Int32)), .val (.int (1 : Int32))] [(.int x)]))
      refine OwnFin.step (fun tT kK => XS.sipush X2.here hx rfl (hb hby d_method_4_23) kK) ?_
      show OwnFin p e below _ (T2.setTop (mkF m 26 #[.val (.int x), .val (.int y), .val (.int (1 : Int32)), .val (.int (1 : Int32))] [(.int (255 : Int32)), (.int x)]))
      refine OwnFin.step (fun tT kK => XS.iand X2.here hx rfl (hb hby d_method_4_26) rfl kK) ?_
      show OwnFin p e below _ (T2.setTop (mkF m 27 #[.val (.int x), .val (.int y), .val (.int (1 : Int32)), .val (.int (1 : Int32))] [(.int (x &&& (255 : Int32)))]))
      refine OwnFin.step (fun tT kK => XS.iloadN X2.here hx rfl (hb hby d_method_4_27) rfl kK) ?_
      show OwnFin p e below _ (T2.setTop (mkF m 28 #[.val (.int x), .val (.int y), .val (.int (1 : Int32)), .val (.int (1 : Int32))] [(.int y), (.int (x &&& (255 : Int32)))]))
      refine OwnFin.step (fun tT kK => XS.sipush X2.here hx rfl (hb hby d_method_4_28) kK) ?_
      show OwnFin p e below _ (T2.setTop (mkF m 31 #[.val (.int x), .val (.int y), .val (.int (1 : Int32)), .val (.int (1 : Int32))] [(.int (255 : Int32)), (.int y), (.int (x &&& (255 : Int32)))]))
      refine OwnFin.step (fun tT kK => XS.iand X2.here hx rfl (hb hby d_method_4_31) rfl kK) ?_
      show OwnFin p e below _ (T2.setTop (mkF m 32 #[.val (.int x), .val (.int y), .val (.int (1 : Int32)), .val (.int (1 : Int32))] [(.int (y &&& (255 : Int32))), (.int (x &&& (255 : Int32)))]))
      show OwnFin p e below _ (T2.setTop (mkF m 32 #[.val (.int x), .val (.int y), .val (.int (1 : Int32)), .val (.int (1 : Int32))] [(.int (OwnM1 y)), (.int (OwnM1 x))]))
      by_cases hc7 : (OwnM1 x) = (OwnM1 y)
      · skip
        refine OwnFin.step (fun tT kK => XS.icmpYes X2.here hx rfl (pc0 := 32) (pc' := 37) rfl (hb hby d_method_4_32) rfl (teq (hc7 : (OwnM1 x) = (OwnM1 y))).1 (by decide) (by decide) kK) ?_
        show OwnFin p e below _ (T2.setTop (mkF m 37 #[.val (.int x), .val (.int y), .val (.int (1 : Int32)), .val (.int (1 : Int32))] []))
        refine OwnFin.step (fun tT kK => XS.iloadN X2.here hx rfl (hb hby d_method_4_37) rfl kK) ?_
        show OwnFin p e below _ (T2.setTop (mkF m 38 #[.val (.int x), .val (.int y), .val (.int (1 : Int32)), .val (.int (1 : Int32))] [(.int (1 : Int32))]))
        refine OwnFin.step (fun tT kK => XS.iconst X2.here hx rfl (hb hby d_method_4_38) kK) ?_
        show OwnFin p e below _ (T2.setTop (mkF m 39 #[.val (.int x), .val (.int y), .val (.int (1 : Int32)), .val (.int (1 : Int32))] [(.int (2 : Int32)), (.int (1 : Int32))]))
        refine OwnFin.step (fun tT kK => XS.icmpYes X2.here hx rfl (pc0 := 39) (pc' := 63) rfl (hb hby d_method_4_39) rfl (tlt (by decide : (1 : Int32) < (2 : Int32))).1 (by decide) (by decide) kK) ?_
        show OwnFin p e below _ (T2.setTop (mkF m 63 #[.val (.int x), .val (.int y), .val (.int (1 : Int32)), .val (.int (1 : Int32))] []))
        refine OwnFin.step (fun tT kK => XS.iconst X2.here hx rfl (hb hby d_method_4_63) kK) ?_
        show OwnFin p e below _ (T2.setTop (mkF m 64 #[.val (.int x), .val (.int y), .val (.int (1 : Int32)), .val (.int (1 : Int32))] [(.int (1 : Int32))]))
        obtain ⟨fs9, hr9, hrun9, hended9, hW9, hsame9⟩ := X2.leave (v := (some (.int (1 : Int32)))) (fun h => by rw [Bd.returns] at h; cases h)
        refine ⟨_, _, retN X2 hx (t := .boolean) Bd.returns (by simp) (hb hby d_method_4_64) hr9, hrun9, hended9, _, _, rfl, ?_, ⟨_, rfl⟩, hW9, hsame9.mono (by decide) (by decide)⟩
        show Q7 Z x y h0 n0 _ T2.heap _
        rw [e2]
        exact ⟨(by simp [OwnV, h3x, h3y, own_b1, own_b2, hc7]), N2, rfl⟩
      · skip
        refine OwnFin.step (fun tT kK => XS.icmpNo X2.here hx rfl (hb hby d_method_4_32) rfl (feq (hc7 : ¬ ((OwnM1 x) = (OwnM1 y)))).1 kK) ?_
        show OwnFin p e below _ (T2.setTop (mkF m 35 #[.val (.int x), .val (.int y), .val (.int (1 : Int32)), .val (.int (1 : Int32))] []))
        refine OwnFin.step (fun tT kK => XS.iconst X2.here hx rfl (hb hby d_method_4_35) kK) ?_
        show OwnFin p e below _ (T2.setTop (mkF m 36 #[.val (.int x), .val (.int y), .val (.int (1 : Int32)), .val (.int (1 : Int32))] [(.int (0 : Int32))]))
        obtain ⟨fs8, hr8, hrun8, hended8, hW8, hsame8⟩ := X2.leave (v := (some (.int (0 : Int32)))) (fun h => by rw [Bd.returns] at h; cases h)
        refine ⟨_, _, retN X2 hx (t := .boolean) Bd.returns (by simp) (hb hby d_method_4_36) hr8, hrun8, hended8, _, _, rfl, ?_, ⟨_, rfl⟩, hW8, hsame8.mono (by decide) (by decide)⟩
        show Q7 Z x y h0 n0 _ T2.heap _
        rw [e2]
        exact ⟨(by simp [OwnV, h3x, h3y, own_b1, own_b2, hc7]), N2, rfl⟩
    · skip
      rw [h3y]
      show OwnFin p e below _ (T2.setTop (mkF m 12 #[.val (.int x), .val (.int y), .val (.int (1 : Int32)), .val (.int (2 : Int32))] [(.int (2 : Int32)), (.int (1 : Int32))]))
      refine OwnFin.step (fun tT kK => XS.icmpNo X2.here hx rfl (hb hby d_method_4_12) rfl (feq (by decide : ¬ ((1 : Int32) = (2 : Int32)))).1 kK) ?_
      show OwnFin p e below _ (T2.setTop (mkF m 15 #[.val (.int x), .val (.int y), .val (.int (1 : Int32)), .val (.int (2 : Int32))] []))
      refine OwnFin.step (fun tT kK => XS.iconst X2.here hx rfl (hb hby d_method_4_15) kK) ?_
      show OwnFin p e below _ (T2.setTop (mkF m 16 #[.val (.int x), .val (.int y), .val (.int (1 : Int32)), .val (.int (2 : Int32))] [(.int (0 : Int32))]))
      obtain ⟨fs10, hr10, hrun10, hended10, hW10, hsame10⟩ := X2.leave (v := (some (.int (0 : Int32)))) (fun h => by rw [Bd.returns] at h; cases h)
      refine ⟨_, _, retN X2 hx (t := .boolean) Bd.returns (by simp) (hb hby d_method_4_16) hr10, hrun10, hended10, _, _, rfl, ?_, ⟨_, rfl⟩, hW10, hsame10.mono (by decide) (by decide)⟩
      show Q7 Z x y h0 n0 _ T2.heap _
      rw [e2]
      exact ⟨(by simp [OwnV, h3x, h3y, own_b1, own_b2]), N2, rfl⟩
  · skip
    rw [h3x]
    show OwnFin p e below _ (T2.setTop (mkF m 12 #[.val (.int x), .val (.int y), .val (.int (2 : Int32)), .val (.int (OwnL y))] [(.int (OwnL y)), (.int (2 : Int32))]))
    rcases own_len3 y with h3y | h3y | h3y
    · skip
      rw [h3y]
      show OwnFin p e below _ (T2.setTop (mkF m 12 #[.val (.int x), .val (.int y), .val (.int (2 : Int32)), .val (.int (0 : Int32))] [(.int (0 : Int32)), (.int (2 : Int32))]))
      refine OwnFin.step (fun tT kK => XS.icmpNo X2.here hx rfl (hb hby d_method_4_12) rfl (feq (by decide : ¬ ((2 : Int32) = (0 : Int32)))).1 kK) ?_
      show OwnFin p e below _ (T2.setTop (mkF m 15 #[.val (.int x), .val (.int y), .val (.int (2 : Int32)), .val (.int (0 : Int32))] []))
      refine OwnFin.step (fun tT kK => XS.iconst X2.here hx rfl (hb hby d_method_4_15) kK) ?_
      show OwnFin p e below _ (T2.setTop (mkF m 16 #[.val (.int x), .val (.int y), .val (.int (2 : Int32)), .val (.int (0 : Int32))] [(.int (0 : Int32))]))
      obtain ⟨fs11, hr11, hrun11, hended11, hW11, hsame11⟩ := X2.leave (v := (some (.int (0 : Int32)))) (fun h => by rw [Bd.returns] at h; cases h)
      refine ⟨_, _, retN X2 hx (t := .boolean) Bd.returns (by simp) (hb hby d_method_4_16) hr11, hrun11, hended11, _, _, rfl, ?_, ⟨_, rfl⟩, hW11, hsame11.mono (by decide) (by decide)⟩
      show Q7 Z x y h0 n0 _ T2.heap _
      rw [e2]
      exact ⟨(by simp [OwnV, h3x, h3y, own_b1, own_b2]), N2, rfl⟩
    · skip
      rw [h3y]
      show OwnFin p e below _ (T2.setTop (mkF m 12 #[.val (.int x), .val (.int y), .val (.int (2 : Int32)), .val (.int (1 : Int32))] [(.int (1 : Int32)), (.int (2 : Int32))]))
      refine OwnFin.step (fun tT kK => XS.icmpNo X2.here hx rfl (hb hby d_method_4_12) rfl (feq (by decide : ¬ ((2 : Int32) = (1 : Int32)))).1 kK) ?_
      show OwnFin p e below _ (T2.setTop (mkF m 15 #[.val (.int x), .val (.int y), .val (.int (2 : Int32)), .val (.int (1 : Int32))] []))
      refine OwnFin.step (fun tT kK => XS.iconst X2.here hx rfl (hb hby d_method_4_15) kK) ?_
      show OwnFin p e below _ (T2.setTop (mkF m 16 #[.val (.int x), .val (.int y), .val (.int (2 : Int32)), .val (.int (1 : Int32))] [(.int (0 : Int32))]))
      obtain ⟨fs12, hr12, hrun12, hended12, hW12, hsame12⟩ := X2.leave (v := (some (.int (0 : Int32)))) (fun h => by rw [Bd.returns] at h; cases h)
      refine ⟨_, _, retN X2 hx (t := .boolean) Bd.returns (by simp) (hb hby d_method_4_16) hr12, hrun12, hended12, _, _, rfl, ?_, ⟨_, rfl⟩, hW12, hsame12.mono (by decide) (by decide)⟩
      show Q7 Z x y h0 n0 _ T2.heap _
      rw [e2]
      exact ⟨(by simp [OwnV, h3x, h3y, own_b1, own_b2]), N2, rfl⟩
    · skip
      rw [h3y]
      show OwnFin p e below _ (T2.setTop (mkF m 12 #[.val (.int x), .val (.int y), .val (.int (2 : Int32)), .val (.int (2 : Int32))] [(.int (2 : Int32)), (.int (2 : Int32))]))
      refine OwnFin.step (fun tT kK => XS.icmpYes X2.here hx rfl (pc0 := 12) (pc' := 17) rfl (hb hby d_method_4_12) rfl (teq (rfl : (2 : Int32) = (2 : Int32))).1 (by decide) (by decide) kK) ?_
      show OwnFin p e below _ (T2.setTop (mkF m 17 #[.val (.int x), .val (.int y), .val (.int (2 : Int32)), .val (.int (2 : Int32))] []))
      refine OwnFin.step (fun tT kK => XS.iloadN X2.here hx rfl (hb hby d_method_4_17) rfl kK) ?_
      show OwnFin p e below _ (T2.setTop (mkF m 18 #[.val (.int x), .val (.int y), .val (.int (2 : Int32)), .val (.int (2 : Int32))] [(.int (2 : Int32))]))
      refine OwnFin.step (fun tT kK => XS.iconst X2.here hx rfl (hb hby d_method_4_18) kK) ?_
      show OwnFin p e below _ (T2.setTop (mkF m 19 #[.val (.int x), .val (.int y), .val (.int (2 : Int32)), .val (.int (2 : Int32))] [(.int (1 : Int32)), (.int (2 : Int32))]))
      refine OwnFin.step (fun tT kK => XS.icmpNo X2.here hx rfl (hb hby d_method_4_19) rfl (flt (by decide : ¬ ((2 : Int32) < (1 : Int32)))).1 kK) ?_
      show OwnFin p e below _ (T2.setTop (mkF m 22 #[.val (.int x), .val (.int y), .val (.int (2 : Int32)), .val (.int (2 : Int32))] []))
      refine OwnFin.step (fun tT kK => XS.iloadN X2.here hx rfl (hb hby d_method_4_22) rfl kK) ?_
      show OwnFin p e below _ (T2.setTop (mkF m 23 #[.val (.int x), .val (.int y), .val (.int (2 : Int32)), .val (.int (2 : Int32))] [(.int x)]))
      refine OwnFin.step (fun tT kK => XS.sipush X2.here hx rfl (hb hby d_method_4_23) kK) ?_
      show OwnFin p e below _ (T2.setTop (mkF m 26 #[.val (.int x), .val (.int y), .val (.int (2 : Int32)), .val (.int (2 : Int32))] [(.int (255 : Int32)), (.int x)]))
      refine OwnFin.step (fun tT kK => XS.iand X2.here hx rfl (hb hby d_method_4_26) rfl kK) ?_
      show OwnFin p e below _ (T2.setTop (mkF m 27 #[.val (.int x), .val (.int y), .val (.int (2 : Int32)), .val (.int (2 : Int32))] [(.int (x &&& (255 : Int32)))]))
      refine OwnFin.step (fun tT kK => XS.iloadN X2.here hx rfl (hb hby d_method_4_27) rfl kK) ?_
      show OwnFin p e below _ (T2.setTop (mkF m 28 #[.val (.int x), .val (.int y), .val (.int (2 : Int32)), .val (.int (2 : Int32))] [(.int y), (.int (x &&& (255 : Int32)))]))
      refine OwnFin.step (fun tT kK => XS.sipush X2.here hx rfl (hb hby d_method_4_28) kK) ?_
      show OwnFin p e below _ (T2.setTop (mkF m 31 #[.val (.int x), .val (.int y), .val (.int (2 : Int32)), .val (.int (2 : Int32))] [(.int (255 : Int32)), (.int y), (.int (x &&& (255 : Int32)))]))
      refine OwnFin.step (fun tT kK => XS.iand X2.here hx rfl (hb hby d_method_4_31) rfl kK) ?_
      show OwnFin p e below _ (T2.setTop (mkF m 32 #[.val (.int x), .val (.int y), .val (.int (2 : Int32)), .val (.int (2 : Int32))] [(.int (y &&& (255 : Int32))), (.int (x &&& (255 : Int32)))]))
      show OwnFin p e below _ (T2.setTop (mkF m 32 #[.val (.int x), .val (.int y), .val (.int (2 : Int32)), .val (.int (2 : Int32))] [(.int (OwnM1 y)), (.int (OwnM1 x))]))
      by_cases hc13 : (OwnM1 x) = (OwnM1 y)
      · skip
        refine OwnFin.step (fun tT kK => XS.icmpYes X2.here hx rfl (pc0 := 32) (pc' := 37) rfl (hb hby d_method_4_32) rfl (teq (hc13 : (OwnM1 x) = (OwnM1 y))).1 (by decide) (by decide) kK) ?_
        show OwnFin p e below _ (T2.setTop (mkF m 37 #[.val (.int x), .val (.int y), .val (.int (2 : Int32)), .val (.int (2 : Int32))] []))
        refine OwnFin.step (fun tT kK => XS.iloadN X2.here hx rfl (hb hby d_method_4_37) rfl kK) ?_
        show OwnFin p e below _ (T2.setTop (mkF m 38 #[.val (.int x), .val (.int y), .val (.int (2 : Int32)), .val (.int (2 : Int32))] [(.int (2 : Int32))]))
        refine OwnFin.step (fun tT kK => XS.iconst X2.here hx rfl (hb hby d_method_4_38) kK) ?_
        show OwnFin p e below _ (T2.setTop (mkF m 39 #[.val (.int x), .val (.int y), .val (.int (2 : Int32)), .val (.int (2 : Int32))] [(.int (2 : Int32)), (.int (2 : Int32))]))
        refine OwnFin.step (fun tT kK => XS.icmpNo X2.here hx rfl (hb hby d_method_4_39) rfl (flt (by decide : ¬ ((2 : Int32) < (2 : Int32)))).1 kK) ?_
        show OwnFin p e below _ (T2.setTop (mkF m 42 #[.val (.int x), .val (.int y), .val (.int (2 : Int32)), .val (.int (2 : Int32))] []))
        refine OwnFin.step (fun tT kK => XS.iloadN X2.here hx rfl (hb hby d_method_4_42) rfl kK) ?_
        show OwnFin p e below _ (T2.setTop (mkF m 43 #[.val (.int x), .val (.int y), .val (.int (2 : Int32)), .val (.int (2 : Int32))] [(.int x)]))
        refine OwnFin.step (fun tT kK => XS.bipush X2.here hx rfl (hb hby d_method_4_43) kK) ?_
        show OwnFin p e below _ (T2.setTop (mkF m 45 #[.val (.int x), .val (.int y), .val (.int (2 : Int32)), .val (.int (2 : Int32))] [(.int (8 : Int32)), (.int x)]))
        refine OwnFin.step (fun tT kK => XS.iushr X2.here hx rfl (hb hby d_method_4_45) rfl kK) ?_
        show OwnFin p e below _ (T2.setTop (mkF m 46 #[.val (.int x), .val (.int y), .val (.int (2 : Int32)), .val (.int (2 : Int32))] [(.int ((x.toUInt32 >>> ((8 : Int32) &&& 31).toUInt32).toInt32))]))
        refine OwnFin.step (fun tT kK => XS.sipush X2.here hx rfl (hb hby d_method_4_46) kK) ?_
        show OwnFin p e below _ (T2.setTop (mkF m 49 #[.val (.int x), .val (.int y), .val (.int (2 : Int32)), .val (.int (2 : Int32))] [(.int (255 : Int32)), (.int ((x.toUInt32 >>> ((8 : Int32) &&& 31).toUInt32).toInt32))]))
        refine OwnFin.step (fun tT kK => XS.iand X2.here hx rfl (hb hby d_method_4_49) rfl kK) ?_
        show OwnFin p e below _ (T2.setTop (mkF m 50 #[.val (.int x), .val (.int y), .val (.int (2 : Int32)), .val (.int (2 : Int32))] [(.int (((x.toUInt32 >>> ((8 : Int32) &&& 31).toUInt32).toInt32) &&& (255 : Int32)))]))
        refine OwnFin.step (fun tT kK => XS.iloadN X2.here hx rfl (hb hby d_method_4_50) rfl kK) ?_
        show OwnFin p e below _ (T2.setTop (mkF m 51 #[.val (.int x), .val (.int y), .val (.int (2 : Int32)), .val (.int (2 : Int32))] [(.int y), (.int (((x.toUInt32 >>> ((8 : Int32) &&& 31).toUInt32).toInt32) &&& (255 : Int32)))]))
        refine OwnFin.step (fun tT kK => XS.bipush X2.here hx rfl (hb hby d_method_4_51) kK) ?_
        show OwnFin p e below _ (T2.setTop (mkF m 53 #[.val (.int x), .val (.int y), .val (.int (2 : Int32)), .val (.int (2 : Int32))] [(.int (8 : Int32)), (.int y), (.int (((x.toUInt32 >>> ((8 : Int32) &&& 31).toUInt32).toInt32) &&& (255 : Int32)))]))
        refine OwnFin.step (fun tT kK => XS.iushr X2.here hx rfl (hb hby d_method_4_53) rfl kK) ?_
        show OwnFin p e below _ (T2.setTop (mkF m 54 #[.val (.int x), .val (.int y), .val (.int (2 : Int32)), .val (.int (2 : Int32))] [(.int ((y.toUInt32 >>> ((8 : Int32) &&& 31).toUInt32).toInt32)), (.int (((x.toUInt32 >>> ((8 : Int32) &&& 31).toUInt32).toInt32) &&& (255 : Int32)))]))
        refine OwnFin.step (fun tT kK => XS.sipush X2.here hx rfl (hb hby d_method_4_54) kK) ?_
        show OwnFin p e below _ (T2.setTop (mkF m 57 #[.val (.int x), .val (.int y), .val (.int (2 : Int32)), .val (.int (2 : Int32))] [(.int (255 : Int32)), (.int ((y.toUInt32 >>> ((8 : Int32) &&& 31).toUInt32).toInt32)), (.int (((x.toUInt32 >>> ((8 : Int32) &&& 31).toUInt32).toInt32) &&& (255 : Int32)))]))
        refine OwnFin.step (fun tT kK => XS.iand X2.here hx rfl (hb hby d_method_4_57) rfl kK) ?_
        show OwnFin p e below _ (T2.setTop (mkF m 58 #[.val (.int x), .val (.int y), .val (.int (2 : Int32)), .val (.int (2 : Int32))] [(.int (((y.toUInt32 >>> ((8 : Int32) &&& 31).toUInt32).toInt32) &&& (255 : Int32))), (.int (((x.toUInt32 >>> ((8 : Int32) &&& 31).toUInt32).toInt32) &&& (255 : Int32)))]))
        show OwnFin p e below _ (T2.setTop (mkF m 58 #[.val (.int x), .val (.int y), .val (.int (2 : Int32)), .val (.int (2 : Int32))] [(.int (OwnM2 y)), (.int (OwnM2 x))]))
        by_cases hc15 : (OwnM2 x) = (OwnM2 y)
        · skip
          refine OwnFin.step (fun tT kK => XS.icmpYes X2.here hx rfl (pc0 := 58) (pc' := 63) rfl (hb hby d_method_4_58) rfl (teq (hc15 : (OwnM2 x) = (OwnM2 y))).1 (by decide) (by decide) kK) ?_
          show OwnFin p e below _ (T2.setTop (mkF m 63 #[.val (.int x), .val (.int y), .val (.int (2 : Int32)), .val (.int (2 : Int32))] []))
          refine OwnFin.step (fun tT kK => XS.iconst X2.here hx rfl (hb hby d_method_4_63) kK) ?_
          show OwnFin p e below _ (T2.setTop (mkF m 64 #[.val (.int x), .val (.int y), .val (.int (2 : Int32)), .val (.int (2 : Int32))] [(.int (1 : Int32))]))
          obtain ⟨fs17, hr17, hrun17, hended17, hW17, hsame17⟩ := X2.leave (v := (some (.int (1 : Int32)))) (fun h => by rw [Bd.returns] at h; cases h)
          refine ⟨_, _, retN X2 hx (t := .boolean) Bd.returns (by simp) (hb hby d_method_4_64) hr17, hrun17, hended17, _, _, rfl, ?_, ⟨_, rfl⟩, hW17, hsame17.mono (by decide) (by decide)⟩
          show Q7 Z x y h0 n0 _ T2.heap _
          rw [e2]
          exact ⟨(by simp [OwnV, h3x, h3y, own_b1, own_b2, hc13, hc15]), N2, rfl⟩
        · skip
          refine OwnFin.step (fun tT kK => XS.icmpNo X2.here hx rfl (hb hby d_method_4_58) rfl (feq (hc15 : ¬ ((OwnM2 x) = (OwnM2 y)))).1 kK) ?_
          show OwnFin p e below _ (T2.setTop (mkF m 61 #[.val (.int x), .val (.int y), .val (.int (2 : Int32)), .val (.int (2 : Int32))] []))
          refine OwnFin.step (fun tT kK => XS.iconst X2.here hx rfl (hb hby d_method_4_61) kK) ?_
          show OwnFin p e below _ (T2.setTop (mkF m 62 #[.val (.int x), .val (.int y), .val (.int (2 : Int32)), .val (.int (2 : Int32))] [(.int (0 : Int32))]))
          obtain ⟨fs16, hr16, hrun16, hended16, hW16, hsame16⟩ := X2.leave (v := (some (.int (0 : Int32)))) (fun h => by rw [Bd.returns] at h; cases h)
          refine ⟨_, _, retN X2 hx (t := .boolean) Bd.returns (by simp) (hb hby d_method_4_62) hr16, hrun16, hended16, _, _, rfl, ?_, ⟨_, rfl⟩, hW16, hsame16.mono (by decide) (by decide)⟩
          show Q7 Z x y h0 n0 _ T2.heap _
          rw [e2]
          exact ⟨(by simp [OwnV, h3x, h3y, own_b1, own_b2, hc13, hc15]), N2, rfl⟩
      · skip
        refine OwnFin.step (fun tT kK => XS.icmpNo X2.here hx rfl (hb hby d_method_4_32) rfl (feq (hc13 : ¬ ((OwnM1 x) = (OwnM1 y)))).1 kK) ?_
        show OwnFin p e below _ (T2.setTop (mkF m 35 #[.val (.int x), .val (.int y), .val (.int (2 : Int32)), .val (.int (2 : Int32))] []))
        refine OwnFin.step (fun tT kK => XS.iconst X2.here hx rfl (hb hby d_method_4_35) kK) ?_
        show OwnFin p e below _ (T2.setTop (mkF m 36 #[.val (.int x), .val (.int y), .val (.int (2 : Int32)), .val (.int (2 : Int32))] [(.int (0 : Int32))]))
        obtain ⟨fs14, hr14, hrun14, hended14, hW14, hsame14⟩ := X2.leave (v := (some (.int (0 : Int32)))) (fun h => by rw [Bd.returns] at h; cases h)
        refine ⟨_, _, retN X2 hx (t := .boolean) Bd.returns (by simp) (hb hby d_method_4_36) hr14, hrun14, hended14, _, _, rfl, ?_, ⟨_, rfl⟩, hW14, hsame14.mono (by decide) (by decide)⟩
        show Q7 Z x y h0 n0 _ T2.heap _
        rw [e2]
        exact ⟨(by simp [OwnV, h3x, h3y, own_b1, own_b2, hc13]), N2, rfl⟩
theorem d_jdk_42_method_149_0 : decode jdk_42_method_149_code 0 = .ok (.aload_n 0, 1) := by decide +kernel
theorem d_jdk_42_method_149_1 : decode jdk_42_method_149_code 1 = .ok (.invokespecial 1, 3) := by decide +kernel
theorem d_jdk_42_method_149_4 : decode jdk_42_method_149_code 4 = .ok (.iload_n 3, 1) := by decide +kernel
theorem d_jdk_42_method_149_5 : decode jdk_42_method_149_code 5 = .ok (.ifCond .ne 22, 3) := by decide +kernel
theorem d_jdk_42_method_149_8 : decode jdk_42_method_149_code 8 = .ok (.aload_n 0, 1) := by decide +kernel
theorem d_jdk_42_method_149_9 : decode jdk_42_method_149_code 9 = .ok (.ldc 7, 2) := by decide +kernel
theorem d_jdk_42_method_149_11 : decode jdk_42_method_149_code 11 = .ok (.getfield 9, 3) := by decide +kernel
theorem d_jdk_42_method_149_14 : decode jdk_42_method_149_code 14 = .ok (.putfield 9, 3) := by decide +kernel
theorem d_jdk_42_method_149_17 : decode jdk_42_method_149_code 17 = .ok (.aload_n 0, 1) := by decide +kernel
theorem d_jdk_42_method_149_18 : decode jdk_42_method_149_code 18 = .ok (.ldc 7, 2) := by decide +kernel
theorem d_jdk_42_method_149_20 : decode jdk_42_method_149_code 20 = .ok (.getfield 15, 3) := by decide +kernel
theorem d_jdk_42_method_149_23 : decode jdk_42_method_149_code 23 = .ok (.putfield 15, 3) := by decide +kernel
theorem d_jdk_42_method_149_26 : decode jdk_42_method_149_code 26 = .ok (.return_, 1) := by decide +kernel
theorem ef_80d (m : MethodId) (a : Addr) (ar : Addr) : entryFrame m #[(.ref a), (.ref ar), (.int (0 : Int32)), (.int (0 : Int32)), .null] 6 = mkF m 0 #[.val (.ref a), .val (.ref ar), .val (.int (0 : Int32)), .val (.int (0 : Int32)), .val .null, .unset] [] := by first | (simp [entryFrame, mkF, argsToLocals, Value.category]; done) | rfl
def Q80d (Z : State) (a : Addr) (ar : Addr) (h0 : Heap) (n0 : Nat) (vV : Option Value) (hH : Heap) (LL : List Loc) : Prop := ∃ b : Addr, ∃ kb : ClassId, vV = none ∧ Fr n0 LL ∧ Keep h0 hH [a] ∧ (Exa Z hH a "java/lang/String") ∧ (Fld Z hH a "java/lang/String" "value" "[B" (.ref b)) ∧ (Fld Z hH a "java/lang/String" "coder" "B" (.int (0 : Int32))) ∧ (Arv Z hH b kb .byte (0 : Int32) [] (.int (0 : Int32)))
def R80d (Z : State) (a : Addr) (ar : Addr) (h0 : Heap) (n0 : Nat) (U : State) (oO : Outcome) (U' : State) : Prop := ∃ vV LL, oO = .returned vV ∧ Q80d Z a ar h0 n0 vV U'.heap LL ∧ CHr Z OwnEL U.vm U.heap U'.vm U'.heap ∧ ReturnedEndW U oO U' LL ({ frames := 1, cells := 4, slots := 8, locals := 12 } : Room).cells ({ frames := 1, cells := 4, slots := 8, locals := 12 } : Room).slots
set_option maxRecDepth 65536 in
set_option maxHeartbeats 40000000 in
theorem rm80d (l : Launch) (Z : State) (a0 : Array Value) (hw : ∀ d ∈ tables_1, d.before a0 Z = true) (hEL : EW Z a0 OwnEL) (wS : ∀ a ∈ Bundle.stringAtoms, a.before a0 Z = true) (ws : List Jvm.Cond) (a : Addr) (ar : Addr) (h0 : Heap) (n0 : Nat) (Z0 : n0 ≤ h0.size) (hp0 : Exa Z h0 a "java/lang/String") (hp1 : Fld Z h0 a "java/lang/String" "value" "[B" .null) (hp2 : Fld Z h0 a "java/lang/String" "coder" "B" (.int (0 : Int32))) (hp3 : n0 ≤ a) :
    MetFree l (⟨"java/lang/String", "<init>", "([CIILjava/lang/Void;)V"⟩ : MethodName) (head1 (Jvm.Cond.code (⟨"java/lang/String", "<init>", "([CIILjava/lang/Void;)V"⟩ : MethodName) jdk_42_method_149_code 6 none :: ws) ({ frames := 1, cells := 4, slots := 8, locals := 12 } : Room)) (fun aA U => aA = #[(.ref a), (.ref ar), (.int (0 : Int32)), (.int (0 : Int32)), .null] ∧ Z.Warmed39 U.vm ∧ U.heap = h0 ∧ CHv Z OwnEL U.vm h0) (fun _ _ _ _ _ => True) (fun _ U oO U' => ∃ vV LL, oO = .returned vV ∧ Q80d Z a ar h0 n0 vV U'.heap LL ∧ CHr Z OwnEL U.vm U.heap U'.vm U'.heap ∧ ReturnedEndW U oO U' LL ({ frames := 1, cells := 4, slots := 8, locals := 12 } : Room).cells ({ frames := 1, cells := 4, slots := 8, locals := 12 } : Room).slots) := by
  refine MetFree.of_bodySF (plainFor_of_name pn_31) hisR ?_
  intro p e s m args below meth cC s₁ Bd hml0 hP hK
  obtain ⟨rfl, hZ, hh, hCH⟩ := hP
  have hx := Bd.exec
  have hby := Bd.bytes
  have hml : cC.maxLocals = 6 := hml0
  have hown : s.vm.findClass "java/lang/String" = some m.cls := findClass_of_methodNamed Bd.named
  have hnm := (name_of_methodNamed Bd.named Bd.method).1
  have X0 : Stand p l e ({ frames := 1, cells := 4, slots := 8, locals := 12 } : Room) (s.setVm s.vm) m #[(.ref a), (.ref ar), (.int (0 : Int32)), (.int (0 : Int32)), .null] below meth cC s₁ [] 0 0 := Stand.of_body Bd
  have e0 : s₁.heap = h0 := by rw [← hh, Bd.state]; rfl
  have N0 := Fr.nil n0
  have Kp0 := Keep.refl h0 []
  have C0 : CHr Z OwnEL s.vm h0 s.vm h0 := CHr.refl hCH
  have hS0 : s.Since s.vm h0.size := (State.WarmedH.refl s).since _
  have hk0 : h0.size ≤ h0.size := Nat.le_refl _
  show OwnFin p e below (R80d Z a ar h0 n0 s) (s₁.setTop (entryFrame m #[(.ref a), (.ref ar), (.int (0 : Int32)), (.int (0 : Int32)), .null] 6))
  rw [ef_80d m a ar]
  have sf1 : Safe Z OwnEL s.vm h0 a := own_safe_str hZ.alike hp0 hp1
  refine OwnFin.step (fun tT kK => XS.aloadN X0.here hx rfl (hb hby d_jdk_42_method_149_0) rfl rfl kK) ?_
  show OwnFin p e below _ (s₁.setTop (mkF m 1 #[.val (.ref a), .val (.ref ar), .val (.int (0 : Int32)), .val (.int (0 : Int32)), .val .null, .unset] [(.ref a)]))
  obtain ⟨T2, X2, e2, st2⟩ := initO X0 hx hZ hown (hw _ (List.mem_of_getElem? (i := 18) rfl)) (hw _ (List.mem_of_getElem? (i := 19) rfl)) (hw _ (List.mem_of_getElem? (i := 20) rfl)) e0 (g := (mkF m 1 #[.val (.ref a), .val (.ref ar), .val (.int (0 : Int32)), .val (.int (0 : Int32)), .val .null, .unset] [(.ref a)])) rfl (by rw [hml]; rfl) rfl (hb hby d_jdk_42_method_149_1) (by decide) (W := 0) (by show 2 * 0 + _ ≤ _; exact Nat.le_of_eq rfl) (by decide)
  refine OwnFin.step st2 ?_
  show OwnFin p e below _ (T2.setTop (mkF m 4 #[.val (.ref a), .val (.ref ar), .val (.int (0 : Int32)), .val (.int (0 : Int32)), .val .null, .unset] []))
  refine OwnFin.step (fun tT kK => XS.iloadN X2.here hx rfl (hb hby d_jdk_42_method_149_4) rfl kK) ?_
  show OwnFin p e below _ (T2.setTop (mkF m 5 #[.val (.ref a), .val (.ref ar), .val (.int (0 : Int32)), .val (.int (0 : Int32)), .val .null, .unset] [(.int (0 : Int32))]))
  refine OwnFin.step (fun tT kK => XS.ifNo X2.here hx rfl (hb hby d_jdk_42_method_149_5) rfl ((if0 _ _).trans (teq (rfl : (0 : Int32) = (0 : Int32))).2) kK) ?_
  show OwnFin p e below _ (T2.setTop (mkF m 8 #[.val (.ref a), .val (.ref ar), .val (.int (0 : Int32)), .val (.int (0 : Int32)), .val .null, .unset] []))
  refine OwnFin.step (fun tT kK => XS.aloadN X2.here hx rfl (hb hby d_jdk_42_method_149_8) rfl rfl kK) ?_
  show OwnFin p e below _ (T2.setTop (mkF m 9 #[.val (.ref a), .val (.ref ar), .val (.int (0 : Int32)), .val (.int (0 : Int32)), .val .null, .unset] [(.ref a)]))
  obtain ⟨a3, T3, h3, k3, d3, kd3, X3, e3, E3, hS3, hk3, hZ, hown, Es3, Fc3, Fv3, Va3, -, -, cq3, Li3, sn3, st3⟩ := ldcCH X2 hx hZ hown (hw _ (List.mem_of_getElem? (i := 21) rfl)) wS e2 hS0 (Nat.le_trans hk0 (Nat.le_refl _)) hEL (List.mem_of_getElem? (i := 0) rfl) C0.1 (vs := []) (z := (0 : Int32)) ⟨by decide, by decide⟩ (by decide) rfl (g := (mkF m 9 #[.val (.ref a), .val (.ref ar), .val (.int (0 : Int32)), .val (.int (0 : Int32)), .val .null, .unset] [(.ref a)])) rfl (hb hby d_jdk_42_method_149_9) (n := 0) (by decide) (by decide) (by decide) (by decide)
  refine OwnFin.step st3 ?_
  have Kp4 := Kp0.ext E3
  have cp5 := cq3
  have C5 := C0.trans cp5
  show OwnFin p e below _ (T3.setTop (mkF m 11 #[.val (.ref a), .val (.ref ar), .val (.int (0 : Int32)), .val (.int (0 : Int32)), .val .null, .unset] [(.ref a3), (.ref a)]))
  obtain ⟨T6, X6, e6, st6⟩ := getF X3 hx hZ hown (host := "") (Or.inl (hw _ (List.mem_of_getElem? (i := 27) rfl))) Via.refl e3 Fv3 (g := (mkF m 11 #[.val (.ref a), .val (.ref ar), .val (.int (0 : Int32)), .val (.int (0 : Int32)), .val .null, .unset] [(.ref a3), (.ref a)])) rfl rfl (hb hby d_jdk_42_method_149_11)
  refine OwnFin.step st6 ?_
  show OwnFin p e below _ (T6.setTop (mkF m 14 #[.val (.ref a), .val (.ref ar), .val (.int (0 : Int32)), .val (.int (0 : Int32)), .val .null, .unset] [(.ref d3), (.ref a)]))
  have sf7 : Safe Z OwnEL T3.vm h3 a := cp5.safe (Nat.lt_of_lt_of_le hp0.lt (Nat.le_refl _)) sf1
  have f8 : Exa Z h3 a "java/lang/String" := (hp0.keep Kp4)
  have f9 : Fld Z h3 a "java/lang/String" "value" "[B" .null := (hp1.keep Kp4 nin0)
  obtain ⟨T10, h10, X10, e10, W10, st10⟩ := putF X6 hx hZ hown (host := "") (Or.inl (hw _ (List.mem_of_getElem? (i := 27) rfl))) Via.refl e6 f9 f8 (Or.inr ⟨(hw _ (List.mem_of_getElem? (i := 23) rfl)), rfl, hnm⟩) (hw _ (List.mem_of_getElem? (i := 9) rfl)) (ty := (.array .byte)) (by decide) rfl rfl (g := (mkF m 14 #[.val (.ref a), .val (.ref ar), .val (.int (0 : Int32)), .val (.int (0 : Int32)), .val .null, .unset] [(.ref d3), (.ref a)])) rfl rfl (hb hby d_jdk_42_method_149_14)
  refine OwnFin.step st10 ?_
  have N10 := Fr.snoc X10 N0 hp3
  have cp12 := (CHr.wr W10 sf7 C5.1)
  have C12 := C5.trans cp12
  have Fw10 : Fld Z h10 a "java/lang/String" "value" "[B" (.ref d3) := f9.same W10
  show OwnFin p e below _ (T10.setTop (mkF m 17 #[.val (.ref a), .val (.ref ar), .val (.int (0 : Int32)), .val (.int (0 : Int32)), .val .null, .unset] []))
  refine OwnFin.step (fun tT kK => XS.aloadN X10.here hx rfl (hb hby d_jdk_42_method_149_17) rfl rfl kK) ?_
  show OwnFin p e below _ (T10.setTop (mkF m 18 #[.val (.ref a), .val (.ref ar), .val (.int (0 : Int32)), .val (.int (0 : Int32)), .val .null, .unset] [(.ref a)]))
  obtain ⟨a13, T13, h13, k13, d13, kd13, X13, e13, E13, hS13, hk13, hZ, hown, Es13, Fc13, Fv13, Va13, -, -, cq13, Li13, sn13, st13⟩ := ldcCH X10 hx hZ hown (hw _ (List.mem_of_getElem? (i := 21) rfl)) wS e10 hS3 (Nat.le_trans hk3 (Nat.le_trans (Nat.le_refl _) (Keep.of_wr W10).1)) hEL (List.mem_of_getElem? (i := 0) rfl) C12.1 (vs := []) (z := (0 : Int32)) ⟨by decide, by decide⟩ (by decide) rfl (g := (mkF m 18 #[.val (.ref a), .val (.ref ar), .val (.int (0 : Int32)), .val (.int (0 : Int32)), .val .null, .unset] [(.ref a)])) rfl (hb hby d_jdk_42_method_149_18) (n := 0) (by decide) (by decide) (by decide) (by decide)
  refine OwnFin.step st13 ?_
  have cp14 := cq13
  have C14 := C12.trans cp14
  show OwnFin p e below _ (T13.setTop (mkF m 20 #[.val (.ref a), .val (.ref ar), .val (.int (0 : Int32)), .val (.int (0 : Int32)), .val .null, .unset] [(.ref a13), (.ref a)]))
  obtain ⟨T15, X15, e15, st15⟩ := getF X13 hx hZ hown (host := "") (Or.inl (hw _ (List.mem_of_getElem? (i := 28) rfl))) Via.refl e13 Fc13 (g := (mkF m 20 #[.val (.ref a), .val (.ref ar), .val (.int (0 : Int32)), .val (.int (0 : Int32)), .val .null, .unset] [(.ref a13), (.ref a)])) rfl rfl (hb hby d_jdk_42_method_149_20)
  refine OwnFin.step st15 ?_
  show OwnFin p e below _ (T15.setTop (mkF m 23 #[.val (.ref a), .val (.ref ar), .val (.int (0 : Int32)), .val (.int (0 : Int32)), .val .null, .unset] [(.int (0 : Int32)), (.ref a)]))
  have sf16 : Safe Z OwnEL T13.vm h13 a := (cp12.trans cp14).safe (Nat.lt_of_lt_of_le f8.lt (Nat.le_refl _)) sf7
  have f17 : Exa Z h13 a "java/lang/String" := ((f8.wr W10).ext E13)
  have f18 : Fld Z h13 a "java/lang/String" "coder" "B" (.int (0 : Int32)) := (((hp2.ext E3).other W10 (Or.inr (slot_ne (Or.inr (hw _ (List.mem_of_getElem? (i := 24) rfl))) (Or.inr (hw _ (List.mem_of_getElem? (i := 23) rfl))) (by decide) (t := .byte) (t' := (.array .byte)) (by decide) (by decide)))).ext E13)
  obtain ⟨T19, h19, X19, e19, W19, st19⟩ := putF X15 hx hZ hown (host := "") (Or.inl (hw _ (List.mem_of_getElem? (i := 28) rfl))) Via.refl e15 f18 f17 (Or.inr ⟨(hw _ (List.mem_of_getElem? (i := 24) rfl)), rfl, hnm⟩) (hw _ (List.mem_of_getElem? (i := 9) rfl)) (ty := .byte) (by decide) rfl rfl (g := (mkF m 23 #[.val (.ref a), .val (.ref ar), .val (.int (0 : Int32)), .val (.int (0 : Int32)), .val .null, .unset] [(.int (0 : Int32)), (.ref a)])) rfl rfl (hb hby d_jdk_42_method_149_23)
  refine OwnFin.step st19 ?_
  have N19 := Fr.snoc X19 N10 hp3
  have cp20 := (CHr.wr W19 sf16 C14.1)
  have C20 := C14.trans cp20
  have Fw19 : Fld Z h19 a "java/lang/String" "coder" "B" (.int (0 : Int32)) := f18.same W19
  show OwnFin p e below _ (T19.setTop (mkF m 26 #[.val (.ref a), .val (.ref ar), .val (.int (0 : Int32)), .val (.int (0 : Int32)), .val .null, .unset] []))
  have f22 : Exa Z h19 a "java/lang/String" := (f17.wr W19)
  have f23 : Fld Z h19 a "java/lang/String" "value" "[B" (.ref d3) := ((Fw10.ext E13).other W19 (Or.inr (slot_ne (Or.inr (hw _ (List.mem_of_getElem? (i := 23) rfl))) (Or.inr (hw _ (List.mem_of_getElem? (i := 24) rfl))) (by decide) (t := (.array .byte)) (t' := .byte) (by decide) (by decide))))
  have f24 : Arv Z h19 d3 kd3 .byte (0 : Int32) [] (.int (0 : Int32)) := (((Va3.other W10 (Ne.symm (Exa.neArv f8 Va3 (hw _ (List.mem_of_getElem? (i := 9) rfl))))).ext E13).other W19 (Ne.symm (Exa.neArv f8 Va3 (hw _ (List.mem_of_getElem? (i := 9) rfl)))))
  obtain ⟨fs21, hr21, hrun21, hended21, hW21⟩ := X19.leaveW (s := s) hS13 (by rw [e19]; exact (Nat.le_trans hk13 (Nat.le_trans (Nat.le_refl _) (Keep.of_wr W19).1))) (v := none) (fun _ => rfl)
  refine ⟨_, _, X19.returnOut hx Bd.returns (hb hby d_jdk_42_method_149_26) hr21, hrun21, hended21, _, _, rfl, ?_, (by show CHr Z OwnEL s.vm s.heap T19.vm T19.heap; rw [hh, e19]; exact C20.trans (CHv.at X19 hZ hEL C20.1)), hW21.1, hW21.2.1, hW21.2.2.1, hW21.2.2.2.mono (by decide) (by decide)⟩
  show Q80d Z a ar h0 n0 _ T19.heap _
  rw [e19]
  exact ⟨d3, kd3, rfl, N19, (((((Keep.refl h0 [a]).ext E3).wr W10 (Or.inl (List.mem_of_getElem? (i := 0) rfl))).ext E13).wr W19 (Or.inl (List.mem_of_getElem? (i := 0) rfl))), f22, f23, Fw19, f24⟩
theorem d_jdk_42_method_3_0 : decode jdk_42_method_3_code 0 = .ok (.aload_n 0, 1) := by decide +kernel
theorem d_jdk_42_method_3_1 : decode jdk_42_method_3_code 1 = .ok (.aload_n 1, 1) := by decide +kernel
theorem d_jdk_42_method_3_2 : decode jdk_42_method_3_code 2 = .ok (.iconst 0, 1) := by decide +kernel
theorem d_jdk_42_method_3_3 : decode jdk_42_method_3_code 3 = .ok (.aload_n 1, 1) := by decide +kernel
theorem d_jdk_42_method_3_4 : decode jdk_42_method_3_code 4 = .ok (.arraylength, 1) := by decide +kernel
theorem d_jdk_42_method_3_5 : decode jdk_42_method_3_code 5 = .ok (.aconst_null, 1) := by decide +kernel
theorem d_jdk_42_method_3_6 : decode jdk_42_method_3_code 6 = .ok (.invokespecial 27, 3) := by decide +kernel
theorem pd_175 : parseMethodDescriptor "([CIILjava/lang/Void;)V" = some ⟨[(.array .char), .int, .int, (.object "java/lang/Void")], none⟩ := by decide +kernel
theorem d_jdk_42_method_3_9 : decode jdk_42_method_3_code 9 = .ok (.return_, 1) := by decide +kernel
theorem ef_80 (m : MethodId) (a : Addr) (ar : Addr) : entryFrame m #[(.ref a), (.ref ar)] 2 = mkF m 0 #[.val (.ref a), .val (.ref ar)] [] := by first | (simp [entryFrame, mkF, argsToLocals, Value.category]; done) | rfl
def Q80 (Z : State) (a : Addr) (ar : Addr) (k : ClassId) (h0 : Heap) (n0 : Nat) (vV : Option Value) (hH : Heap) (LL : List Loc) : Prop := ∃ b : Addr, ∃ kb : ClassId, vV = none ∧ Fr n0 LL ∧ Keep h0 hH [a] ∧ (Exa Z hH a "java/lang/String") ∧ (Fld Z hH a "java/lang/String" "value" "[B" (.ref b)) ∧ (Fld Z hH a "java/lang/String" "coder" "B" (.int (0 : Int32))) ∧ (Arv Z hH b kb .byte (0 : Int32) [] (.int (0 : Int32)))
def R80 (Z : State) (a : Addr) (ar : Addr) (k : ClassId) (h0 : Heap) (n0 : Nat) (U : State) (oO : Outcome) (U' : State) : Prop := ∃ vV LL, oO = .returned vV ∧ Q80 Z a ar k h0 n0 vV U'.heap LL ∧ CHr Z OwnEL U.vm U.heap U'.vm U'.heap ∧ ReturnedEndW U oO U' LL ({ frames := 2, cells := 4, slots := 8, locals := 29 } : Room).cells ({ frames := 2, cells := 4, slots := 8, locals := 29 } : Room).slots
set_option maxRecDepth 65536 in
set_option maxHeartbeats 40000000 in
theorem rm80 (l : Launch) (Z : State) (a0 : Array Value) (hw : ∀ d ∈ tables_1, d.before a0 Z = true) (hEL : EW Z a0 OwnEL) (wS : ∀ a ∈ Bundle.stringAtoms, a.before a0 Z = true) (ws : List Jvm.Cond) (a : Addr) (ar : Addr) (k : ClassId) (h0 : Heap) (n0 : Nat) (Z0 : n0 ≤ h0.size) (hp0 : Exa Z h0 a "java/lang/String") (hp1 : Fld Z h0 a "java/lang/String" "value" "[B" .null) (hp2 : Fld Z h0 a "java/lang/String" "coder" "B" (.int (0 : Int32))) (hp3 : n0 ≤ a) (hp4 : Arv Z h0 ar k .char (0 : Int32) [] (.int (0 : Int32))) :
    MetFree l (⟨"java/lang/String", "<init>", "([C)V"⟩ : MethodName) (head1 (Jvm.Cond.code (⟨"java/lang/String", "<init>", "([C)V"⟩ : MethodName) jdk_42_method_3_code 2 none :: ws) ({ frames := 2, cells := 4, slots := 8, locals := 29 } : Room)) (fun aA U => aA = #[(.ref a), (.ref ar)] ∧ Z.Warmed39 U.vm ∧ U.heap = h0 ∧ CHv Z OwnEL U.vm h0) (fun _ _ _ _ _ => True) (fun _ U oO U' => ∃ vV LL, oO = .returned vV ∧ Q80 Z a ar k h0 n0 vV U'.heap LL ∧ CHr Z OwnEL U.vm U.heap U'.vm U'.heap ∧ ReturnedEndW U oO U' LL ({ frames := 2, cells := 4, slots := 8, locals := 29 } : Room).cells ({ frames := 2, cells := 4, slots := 8, locals := 29 } : Room).slots) := by
  refine MetFree.of_bodySF (plainFor_of_name pn_31) hisR ?_
  intro p e s m args below meth cC s₁ Bd hml0 hP hK
  obtain ⟨rfl, hZ, hh, hCH⟩ := hP
  have hx := Bd.exec
  have hby := Bd.bytes
  have hml : cC.maxLocals = 2 := hml0
  have hown : s.vm.findClass "java/lang/String" = some m.cls := findClass_of_methodNamed Bd.named
  have hnm := (name_of_methodNamed Bd.named Bd.method).1
  have X0 : Stand p l e ({ frames := 2, cells := 4, slots := 8, locals := 29 } : Room) (s.setVm s.vm) m #[(.ref a), (.ref ar)] below meth cC s₁ [] 0 0 := Stand.of_body Bd
  have e0 : s₁.heap = h0 := by rw [← hh, Bd.state]; rfl
  have N0 := Fr.nil n0
  have Kp0 := Keep.refl h0 []
  have C0 : CHr Z OwnEL s.vm h0 s.vm h0 := CHr.refl hCH
  have hS0 : s.Since s.vm h0.size := (State.WarmedH.refl s).since _
  have hk0 : h0.size ≤ h0.size := Nat.le_refl _
  show OwnFin p e below (R80 Z a ar k h0 n0 s) (s₁.setTop (entryFrame m #[(.ref a), (.ref ar)] 2))
  rw [ef_80 m a ar]
  refine OwnFin.step (fun tT kK => XS.aloadN X0.here hx rfl (hb hby d_jdk_42_method_3_0) rfl rfl kK) ?_
  show OwnFin p e below _ (s₁.setTop (mkF m 1 #[.val (.ref a), .val (.ref ar)] [(.ref a)]))
  refine OwnFin.step (fun tT kK => XS.aloadN X0.here hx rfl (hb hby d_jdk_42_method_3_1) rfl rfl kK) ?_
  show OwnFin p e below _ (s₁.setTop (mkF m 2 #[.val (.ref a), .val (.ref ar)] [(.ref ar), (.ref a)]))
  refine OwnFin.step (fun tT kK => XS.iconst X0.here hx rfl (hb hby d_jdk_42_method_3_2) kK) ?_
  show OwnFin p e below _ (s₁.setTop (mkF m 3 #[.val (.ref a), .val (.ref ar)] [(.int (0 : Int32)), (.ref ar), (.ref a)]))
  refine OwnFin.step (fun tT kK => XS.aloadN X0.here hx rfl (hb hby d_jdk_42_method_3_3) rfl rfl kK) ?_
  show OwnFin p e below _ (s₁.setTop (mkF m 4 #[.val (.ref a), .val (.ref ar)] [(.ref ar), (.int (0 : Int32)), (.ref ar), (.ref a)]))
  obtain ⟨cl1, Ar1, -, Sz1, Ng1, -, -⟩ := id hp4
  refine OwnFin.step (fun tT kK => own_len X0 hx hZ e0 Ar1 Sz1 Ng1 (g := (mkF m 4 #[.val (.ref a), .val (.ref ar)] [(.ref ar), (.int (0 : Int32)), (.ref ar), (.ref a)])) rfl rfl (hb hby d_jdk_42_method_3_4) kK) ?_
  show OwnFin p e below _ (s₁.setTop (mkF m 5 #[.val (.ref a), .val (.ref ar)] [(.int (0 : Int32)), (.int (0 : Int32)), (.ref ar), (.ref a)]))
  refine OwnFin.step (fun tT kK => XS.aconstNull X0.here hx rfl (hb hby d_jdk_42_method_3_5) kK) ?_
  show OwnFin p e below _ (s₁.setTop (mkF m 6 #[.val (.ref a), .val (.ref ar)] [.null, (.int (0 : Int32)), (.int (0 : Int32)), (.ref ar), (.ref a)]))
  obtain ⟨_, _, ⟨T2, L2, k2, n2⟩, -, X2', hs2, hg2, ⟨Lc2, hQ2, l2, y2, z2, cq2⟩, st2⟩ := X0.specialBackS hx (y := (⟨"java/lang/String", "<init>", "([CIILjava/lang/Void;)V"⟩ : MethodName)) rfl hown (mvT hZ (hw _ (List.mem_of_getElem? (i := 14) rfl))) (mvT hZ (hw _ (List.mem_of_getElem? (i := 15) rfl))) (mvT hZ (hw _ (List.mem_of_getElem? (i := 17) rfl))) (by decide) (backOfSH (W := 0) (rm80d l Z a0 hw hEL wS [] a ar h0 n0 (Nat.le_trans Z0 Kp0.1) hp0 hp1 hp2 hp3) hZ (hw _ (List.mem_of_getElem? (i := 17) rfl)) (hw _ (List.mem_of_getElem? (i := 10) rfl)) (by decide) (by decide) hEL C0.1) (g := (mkF m 6 #[.val (.ref a), .val (.ref ar)] [.null, (.int (0 : Int32)), (.int (0 : Int32)), (.ref ar), (.ref a)])) rfl (by rw [hml]; rfl) (Steps.refl _) (a := a) (argsL := [(.ref ar), (.int (0 : Int32)), (.int (0 : Int32)), .null]) (rest := []) (lenOf pd_175 rfl) rfl (by show 2 * 0 + _ ≤ _; exact Nat.le_of_eq rfl) (hb hby d_jdk_42_method_3_6) (fun _ _ => ⟨rfl, e0, (by decide : 0 + 4 ≤ _), (by decide : 0 + 8 ≤ _)⟩)
  dsimp only [Pt.U, Pt.locs, Pt.cells, Pt.slots] at X2' hs2 hg2 l2 y2 z2 st2 hQ2 cq2
  subst l2 y2 z2
  obtain ⟨X2, hS2, hZ, hown⟩ := rebS hS0 (by rw [e0]; exact (Nat.le_trans hk0 (Nat.le_refl _))) X2' hs2 hg2 hZ hown
  obtain ⟨b3, ⟨kb4, ⟨rfl, N2q, K2, P2_0, P2_1, P2_2, P2_3⟩⟩⟩ := hQ2
  have N2 := Fr.app N0 N2q
  refine OwnFin.step (fun tT kK => st2.trans kK) ?_
  have cp6 := cq2
  have C6 := C0.trans cp6
  show OwnFin p e below _ (T2.setTop (mkF m 9 #[.val (.ref a), .val (.ref ar)] []))
  obtain ⟨fs7, hr7, hrun7, hended7, hW7⟩ := X2.leaveW (s := s) hS2 (Nat.le_trans (Nat.le_refl T2.heap.size) (Nat.le_refl _)) (v := none) (fun _ => rfl)
  refine ⟨_, _, X2.returnOut hx Bd.returns (hb hby d_jdk_42_method_3_9) hr7, hrun7, hended7, _, _, rfl, ?_, (by show CHr Z OwnEL s.vm s.heap T2.vm T2.heap; rw [hh]; exact C6.trans (CHv.at X2 hZ hEL C6.1)), hW7.1, hW7.2.1, hW7.2.2.1, hW7.2.2.2.mono (by decide) (by decide)⟩
  show Q80 Z a ar k h0 n0 _ T2.heap _
  exact ⟨b3, kb4, rfl, N2, ((Keep.refl h0 [a]).trans K2 (allS (P := fun x => x ∈ [a] ∨ h0.size ≤ x) (Or.inl (List.mem_of_getElem? (i := 0) rfl)) all0)), P2_0, P2_1, P2_2, P2_3⟩
theorem pn_177 : plainName "java/lang/StringUTF16" = true := by first | (simp [plainName, overriddenIn]; done) | decide +kernel
theorem d_jdk_52_method_21_0 : decode jdk_52_method_21_code 0 = .ok (.iconst 0, 1) := by decide +kernel
theorem d_jdk_52_method_21_1 : decode jdk_52_method_21_code 1 = .ok (.istore 5, 2) := by decide +kernel
theorem d_jdk_52_method_21_3 : decode jdk_52_method_21_code 3 = .ok (.iload 5, 2) := by decide +kernel
theorem d_jdk_52_method_21_5 : decode jdk_52_method_21_code 5 = .ok (.iload 4, 2) := by decide +kernel
theorem d_jdk_52_method_21_7 : decode jdk_52_method_21_code 7 = .ok (.if_icmp .ge 37, 3) := by decide +kernel
theorem d_jdk_52_method_21_10 : decode jdk_52_method_21_code 10 = .ok (.aload_n 0, 1) := by decide +kernel
theorem d_jdk_52_method_21_11 : decode jdk_52_method_21_code 11 = .ok (.iload_n 1, 1) := by decide +kernel
theorem d_jdk_52_method_21_12 : decode jdk_52_method_21_code 12 = .ok (.caload, 1) := by decide +kernel
theorem d_jdk_52_method_21_13 : decode jdk_52_method_21_code 13 = .ok (.istore 6, 2) := by decide +kernel
theorem d_jdk_52_method_21_15 : decode jdk_52_method_21_code 15 = .ok (.iload 6, 2) := by decide +kernel
theorem d_jdk_52_method_21_17 : decode jdk_52_method_21_code 17 = .ok (.sipush 255, 3) := by decide +kernel
theorem d_jdk_52_method_21_20 : decode jdk_52_method_21_code 20 = .ok (.if_icmp .le 6, 3) := by decide +kernel
theorem d_jdk_52_method_21_26 : decode jdk_52_method_21_code 26 = .ok (.aload_n 2, 1) := by decide +kernel
theorem d_jdk_52_method_21_27 : decode jdk_52_method_21_code 27 = .ok (.iload_n 3, 1) := by decide +kernel
theorem d_jdk_52_method_21_28 : decode jdk_52_method_21_code 28 = .ok (.iload 6, 2) := by decide +kernel
theorem d_jdk_52_method_21_30 : decode jdk_52_method_21_code 30 = .ok (.i2b, 1) := by decide +kernel
theorem d_jdk_52_method_21_31 : decode jdk_52_method_21_code 31 = .ok (.bastore, 1) := by decide +kernel
theorem d_jdk_52_method_21_32 : decode jdk_52_method_21_code 32 = .ok (.iinc 1 1, 3) := by decide +kernel
theorem d_jdk_52_method_21_35 : decode jdk_52_method_21_code 35 = .ok (.iinc 3 1, 3) := by decide +kernel
theorem d_jdk_52_method_21_38 : decode jdk_52_method_21_code 38 = .ok (.iinc 5 1, 3) := by decide +kernel
theorem d_jdk_52_method_21_41 : decode jdk_52_method_21_code 41 = .ok (.goto (-38), 3) := by decide +kernel
theorem d_jdk_52_method_21_44 : decode jdk_52_method_21_code 44 = .ok (.iload 4, 2) := by decide +kernel
theorem d_jdk_52_method_21_46 : decode jdk_52_method_21_code 46 = .ok (.ireturn, 1) := by decide +kernel
theorem ef_81a (m : MethodId) (ar : Addr) (yb : Addr) : entryFrame m #[(.ref ar), (.int (0 : Int32)), (.ref yb), (.int (0 : Int32)), (.int (1 : Int32))] 7 = mkF m 0 #[.val (.ref ar), .val (.int (0 : Int32)), .val (.ref yb), .val (.int (0 : Int32)), .val (.int (1 : Int32)), .unset, .unset] [] := by first | (simp [entryFrame, mkF, argsToLocals, Value.category]; done) | rfl
def Q81a (Z : State) (ar : Addr) (yb : Addr) (k : ClassId) (kb : ClassId) (c0 : Int32) (h0 : Heap) (n0 : Nat) (vV : Option Value) (hH : Heap) (LL : List Loc) : Prop := vV = some (.int (1 : Int32)) ∧ Fr n0 LL ∧ Keep h0 hH [yb] ∧ (Arv Z hH yb kb .byte (1 : Int32) [(.int (nar .byte (c0.toInt8.toInt32)))] (.int (0 : Int32)))
def R81a (Z : State) (ar : Addr) (yb : Addr) (k : ClassId) (kb : ClassId) (c0 : Int32) (h0 : Heap) (n0 : Nat) (U : State) (oO : Outcome) (U' : State) : Prop := ∃ vV LL, oO = .returned vV ∧ Q81a Z ar yb k kb c0 h0 n0 vV U'.heap LL ∧ FrameEnd U oO U' LL ({ frames := 0, cells := 0, slots := 0, locals := 0 } : Room).cells ({ frames := 0, cells := 0, slots := 0, locals := 0 } : Room).slots
set_option maxRecDepth 65536 in
set_option maxHeartbeats 40000000 in
theorem rm81a (l : Launch) (Z : State) (a0 : Array Value) (hw : ∀ d ∈ tables_1, d.before a0 Z = true) (hEL : EW Z a0 OwnEL) (wS : ∀ a ∈ Bundle.stringAtoms, a.before a0 Z = true) (ws : List Jvm.Cond) (ar : Addr) (yb : Addr) (k : ClassId) (kb : ClassId) (c0 : Int32) (h0 : Heap) (n0 : Nat) (Z0 : n0 ≤ h0.size) (hp0 : Arv Z h0 ar k .char (1 : Int32) [(.int c0)] (.int (0 : Int32))) (hp1 : Arv Z h0 yb kb .byte (1 : Int32) [(.int (0 : Int32))] (.int (0 : Int32))) (hp2 : ¬ (255 : Int32) < c0) (hp3 : n0 ≤ yb) (hp4 : ar ≠ yb) :
    MetFree l (⟨"java/lang/StringUTF16", "compress", "([CI[BII)I"⟩ : MethodName) (head1 (Jvm.Cond.code (⟨"java/lang/StringUTF16", "compress", "([CI[BII)I"⟩ : MethodName) jdk_52_method_21_code 7 (some .int) :: ws) ({ frames := 0, cells := 0, slots := 0, locals := 0 } : Room)) (fun aA U => aA = #[(.ref ar), (.int (0 : Int32)), (.ref yb), (.int (0 : Int32)), (.int (1 : Int32))] ∧ Z.Warmed39 U.vm ∧ U.heap = h0) (fun _ _ _ _ _ => True) (fun _ U oO U' => ∃ vV LL, oO = .returned vV ∧ Q81a Z ar yb k kb c0 h0 n0 vV U'.heap LL ∧ FrameEnd U oO U' LL ({ frames := 0, cells := 0, slots := 0, locals := 0 } : Room).cells ({ frames := 0, cells := 0, slots := 0, locals := 0 } : Room).slots) := by
  refine MetFree.of_bodySF (plainFor_of_name pn_177) hisR ?_
  intro p e s m args below meth cC s₁ Bd hml0 hP hK
  obtain ⟨rfl, hZ, hh⟩ := hP
  have hx := Bd.exec
  have hby := Bd.bytes
  have hml : cC.maxLocals = 7 := hml0
  have hown : s.vm.findClass "java/lang/StringUTF16" = some m.cls := findClass_of_methodNamed Bd.named
  have hnm := (name_of_methodNamed Bd.named Bd.method).1
  have X0 : Stand p l e ({ frames := 0, cells := 0, slots := 0, locals := 0 } : Room) s m #[(.ref ar), (.int (0 : Int32)), (.ref yb), (.int (0 : Int32)), (.int (1 : Int32))] below meth cC s₁ [] 0 0 := Stand.of_body Bd
  have e0 : s₁.heap = h0 := by rw [← hh, Bd.state]; rfl
  have N0 := Fr.nil n0
  have Kp0 := Keep.refl h0 []
  show OwnFin p e below (R81a Z ar yb k kb c0 h0 n0 s) (s₁.setTop (entryFrame m #[(.ref ar), (.int (0 : Int32)), (.ref yb), (.int (0 : Int32)), (.int (1 : Int32))] 7))
  rw [ef_81a m ar yb]
  refine OwnFin.step (fun tT kK => XS.iconst X0.here hx rfl (hb hby d_jdk_52_method_21_0) kK) ?_
  show OwnFin p e below _ (s₁.setTop (mkF m 1 #[.val (.ref ar), .val (.int (0 : Int32)), .val (.ref yb), .val (.int (0 : Int32)), .val (.int (1 : Int32)), .unset, .unset] [(.int (0 : Int32))]))
  refine OwnFin.step (fun tT kK => XS.istore X0.here hx rfl (hb hby d_jdk_52_method_21_1) rfl (l' := #[.val (.ref ar), .val (.int (0 : Int32)), .val (.ref yb), .val (.int (0 : Int32)), .val (.int (1 : Int32)), .val (.int (0 : Int32)), .unset]) rfl kK) ?_
  show OwnFin p e below _ (s₁.setTop (mkF m 3 #[.val (.ref ar), .val (.int (0 : Int32)), .val (.ref yb), .val (.int (0 : Int32)), .val (.int (1 : Int32)), .val (.int (0 : Int32)), .unset] []))
  refine OwnFin.step (fun tT kK => XS.iload X0.here hx rfl (hb hby d_jdk_52_method_21_3) rfl kK) ?_
  show OwnFin p e below _ (s₁.setTop (mkF m 5 #[.val (.ref ar), .val (.int (0 : Int32)), .val (.ref yb), .val (.int (0 : Int32)), .val (.int (1 : Int32)), .val (.int (0 : Int32)), .unset] [(.int (0 : Int32))]))
  refine OwnFin.step (fun tT kK => XS.iload X0.here hx rfl (hb hby d_jdk_52_method_21_5) rfl kK) ?_
  show OwnFin p e below _ (s₁.setTop (mkF m 7 #[.val (.ref ar), .val (.int (0 : Int32)), .val (.ref yb), .val (.int (0 : Int32)), .val (.int (1 : Int32)), .val (.int (0 : Int32)), .unset] [(.int (1 : Int32)), (.int (0 : Int32))]))
  refine OwnFin.step (fun tT kK => XS.icmpNo X0.here hx rfl (hb hby d_jdk_52_method_21_7) rfl (tlt (by decide : (0 : Int32) < (1 : Int32))).2.1 kK) ?_
  show OwnFin p e below _ (s₁.setTop (mkF m 10 #[.val (.ref ar), .val (.int (0 : Int32)), .val (.ref yb), .val (.int (0 : Int32)), .val (.int (1 : Int32)), .val (.int (0 : Int32)), .unset] []))
  refine OwnFin.step (fun tT kK => XS.aloadN X0.here hx rfl (hb hby d_jdk_52_method_21_10) rfl rfl kK) ?_
  show OwnFin p e below _ (s₁.setTop (mkF m 11 #[.val (.ref ar), .val (.int (0 : Int32)), .val (.ref yb), .val (.int (0 : Int32)), .val (.int (1 : Int32)), .val (.int (0 : Int32)), .unset] [(.ref ar)]))
  refine OwnFin.step (fun tT kK => XS.iloadN X0.here hx rfl (hb hby d_jdk_52_method_21_11) rfl kK) ?_
  show OwnFin p e below _ (s₁.setTop (mkF m 12 #[.val (.ref ar), .val (.int (0 : Int32)), .val (.ref yb), .val (.int (0 : Int32)), .val (.int (1 : Int32)), .val (.int (0 : Int32)), .unset] [(.int (0 : Int32)), (.ref ar)]))
  obtain ⟨cl1, Ar1, q1, Sz1, Ng1, H1, G1⟩ := id hp0
  have hin1 : ¬ ((0 : Int32) < 0 ∨ cl1.slots.size ≤ ((0 : Int32)).toNatClampNeg) := inb_of Sz1 ⟨by decide, by decide⟩
  refine OwnFin.step (fun tT kK => X0.caload hx (j := (0 : Int32)) (v := (.int c0)) (by rw [e0]; exact Ar1.1) (State.isArrayOf_alike hZ.alike Ar1.2.1) Ar1.2.2 hin1 (H1.at hin1 rfl) (g := (mkF m 12 #[.val (.ref ar), .val (.int (0 : Int32)), .val (.ref yb), .val (.int (0 : Int32)), .val (.int (1 : Int32)), .val (.int (0 : Int32)), .unset] [(.int (0 : Int32)), (.ref ar)])) rfl rfl (hb hby d_jdk_52_method_21_12) _ kK) ?_
  show OwnFin p e below _ (s₁.setTop (mkF m 13 #[.val (.ref ar), .val (.int (0 : Int32)), .val (.ref yb), .val (.int (0 : Int32)), .val (.int (1 : Int32)), .val (.int (0 : Int32)), .unset] [(.int c0)]))
  refine OwnFin.step (fun tT kK => XS.istore X0.here hx rfl (hb hby d_jdk_52_method_21_13) rfl (l' := #[.val (.ref ar), .val (.int (0 : Int32)), .val (.ref yb), .val (.int (0 : Int32)), .val (.int (1 : Int32)), .val (.int (0 : Int32)), .val (.int c0)]) rfl kK) ?_
  show OwnFin p e below _ (s₁.setTop (mkF m 15 #[.val (.ref ar), .val (.int (0 : Int32)), .val (.ref yb), .val (.int (0 : Int32)), .val (.int (1 : Int32)), .val (.int (0 : Int32)), .val (.int c0)] []))
  refine OwnFin.step (fun tT kK => XS.iload X0.here hx rfl (hb hby d_jdk_52_method_21_15) rfl kK) ?_
  show OwnFin p e below _ (s₁.setTop (mkF m 17 #[.val (.ref ar), .val (.int (0 : Int32)), .val (.ref yb), .val (.int (0 : Int32)), .val (.int (1 : Int32)), .val (.int (0 : Int32)), .val (.int c0)] [(.int c0)]))
  refine OwnFin.step (fun tT kK => XS.sipush X0.here hx rfl (hb hby d_jdk_52_method_21_17) kK) ?_
  show OwnFin p e below _ (s₁.setTop (mkF m 20 #[.val (.ref ar), .val (.int (0 : Int32)), .val (.ref yb), .val (.int (0 : Int32)), .val (.int (1 : Int32)), .val (.int (0 : Int32)), .val (.int c0)] [(.int (255 : Int32)), (.int c0)]))
  refine OwnFin.step (fun tT kK => XS.icmpYes X0.here hx rfl (pc0 := 20) (pc' := 26) rfl (hb hby d_jdk_52_method_21_20) rfl (flt (hp2 : ¬ ((255 : Int32) < c0))).2.2.2 (by decide) (by decide) kK) ?_
  show OwnFin p e below _ (s₁.setTop (mkF m 26 #[.val (.ref ar), .val (.int (0 : Int32)), .val (.ref yb), .val (.int (0 : Int32)), .val (.int (1 : Int32)), .val (.int (0 : Int32)), .val (.int c0)] []))
  refine OwnFin.step (fun tT kK => XS.aloadN X0.here hx rfl (hb hby d_jdk_52_method_21_26) rfl rfl kK) ?_
  show OwnFin p e below _ (s₁.setTop (mkF m 27 #[.val (.ref ar), .val (.int (0 : Int32)), .val (.ref yb), .val (.int (0 : Int32)), .val (.int (1 : Int32)), .val (.int (0 : Int32)), .val (.int c0)] [(.ref yb)]))
  refine OwnFin.step (fun tT kK => XS.iloadN X0.here hx rfl (hb hby d_jdk_52_method_21_27) rfl kK) ?_
  show OwnFin p e below _ (s₁.setTop (mkF m 28 #[.val (.ref ar), .val (.int (0 : Int32)), .val (.ref yb), .val (.int (0 : Int32)), .val (.int (1 : Int32)), .val (.int (0 : Int32)), .val (.int c0)] [(.int (0 : Int32)), (.ref yb)]))
  refine OwnFin.step (fun tT kK => XS.iload X0.here hx rfl (hb hby d_jdk_52_method_21_28) rfl kK) ?_
  show OwnFin p e below _ (s₁.setTop (mkF m 30 #[.val (.ref ar), .val (.int (0 : Int32)), .val (.ref yb), .val (.int (0 : Int32)), .val (.int (1 : Int32)), .val (.int (0 : Int32)), .val (.int c0)] [(.int c0), (.int (0 : Int32)), (.ref yb)]))
  refine OwnFin.step (fun tT kK => XS.i2b X0.here hx rfl (hb hby d_jdk_52_method_21_30) rfl kK) ?_
  show OwnFin p e below _ (s₁.setTop (mkF m 31 #[.val (.ref ar), .val (.int (0 : Int32)), .val (.ref yb), .val (.int (0 : Int32)), .val (.int (1 : Int32)), .val (.int (0 : Int32)), .val (.int c0)] [(.int (c0.toInt8.toInt32)), (.int (0 : Int32)), (.ref yb)]))
  obtain ⟨cl2, Ar2, q2, Sz2, Ng2, H2, G2⟩ := id hp1
  have hin2 : ¬ ((0 : Int32) < 0 ∨ cl2.slots.size ≤ ((0 : Int32)).toNatClampNeg) := inb_of Sz2 ⟨by decide, by decide⟩
  obtain ⟨T3, h3, X3, e3, W3, st3⟩ := stB X0 hx hZ e0 Ar2 (j := (0 : Int32)) hin2 (g := (mkF m 31 #[.val (.ref ar), .val (.int (0 : Int32)), .val (.ref yb), .val (.int (0 : Int32)), .val (.int (1 : Int32)), .val (.int (0 : Int32)), .val (.int c0)] [(.int (c0.toInt8.toInt32)), (.int (0 : Int32)), (.ref yb)])) rfl rfl (hb hby d_jdk_52_method_21_31)
  refine OwnFin.step st3 ?_
  have N3 := Fr.snoc X3 N0 hp3
  have V3 : Arv Z h3 yb kb .byte (1 : Int32) [(.int (nar .byte (c0.toInt8.toInt32)))] (.int (0 : Int32)) := Arv.set Ar2 q2 Sz2 Ng2 H2 G2 (fits_nar_byte _) W3 0 rfl (Nat.le_of_ble_eq_true rfl)
  show OwnFin p e below _ (T3.setTop (mkF m 32 #[.val (.ref ar), .val (.int (0 : Int32)), .val (.ref yb), .val (.int (0 : Int32)), .val (.int (1 : Int32)), .val (.int (0 : Int32)), .val (.int c0)] []))
  refine OwnFin.step (fun tT kK => XS.iinc X3.here hx rfl (hb hby d_jdk_52_method_21_32) rfl (l' := #[.val (.ref ar), .val (.int (1 : Int32)), .val (.ref yb), .val (.int (0 : Int32)), .val (.int (1 : Int32)), .val (.int (0 : Int32)), .val (.int c0)]) rfl kK) ?_
  show OwnFin p e below _ (T3.setTop (mkF m 35 #[.val (.ref ar), .val (.int (1 : Int32)), .val (.ref yb), .val (.int (0 : Int32)), .val (.int (1 : Int32)), .val (.int (0 : Int32)), .val (.int c0)] []))
  refine OwnFin.step (fun tT kK => XS.iinc X3.here hx rfl (hb hby d_jdk_52_method_21_35) rfl (l' := #[.val (.ref ar), .val (.int (1 : Int32)), .val (.ref yb), .val (.int (1 : Int32)), .val (.int (1 : Int32)), .val (.int (0 : Int32)), .val (.int c0)]) rfl kK) ?_
  show OwnFin p e below _ (T3.setTop (mkF m 38 #[.val (.ref ar), .val (.int (1 : Int32)), .val (.ref yb), .val (.int (1 : Int32)), .val (.int (1 : Int32)), .val (.int (0 : Int32)), .val (.int c0)] []))
  refine OwnFin.step (fun tT kK => XS.iinc X3.here hx rfl (hb hby d_jdk_52_method_21_38) rfl (l' := #[.val (.ref ar), .val (.int (1 : Int32)), .val (.ref yb), .val (.int (1 : Int32)), .val (.int (1 : Int32)), .val (.int (1 : Int32)), .val (.int c0)]) rfl kK) ?_
  show OwnFin p e below _ (T3.setTop (mkF m 41 #[.val (.ref ar), .val (.int (1 : Int32)), .val (.ref yb), .val (.int (1 : Int32)), .val (.int (1 : Int32)), .val (.int (1 : Int32)), .val (.int c0)] []))
  refine OwnFin.step (fun tT kK => XS.goto X3.here hx rfl (pc0 := 41) (pc' := 3) rfl (hb hby d_jdk_52_method_21_41) (by decide) (by decide) kK) ?_
  show OwnFin p e below _ (T3.setTop (mkF m 3 #[.val (.ref ar), .val (.int (1 : Int32)), .val (.ref yb), .val (.int (1 : Int32)), .val (.int (1 : Int32)), .val (.int (1 : Int32)), .val (.int c0)] []))
  refine OwnFin.step (fun tT kK => XS.iload X3.here hx rfl (hb hby d_jdk_52_method_21_3) rfl kK) ?_
  show OwnFin p e below _ (T3.setTop (mkF m 5 #[.val (.ref ar), .val (.int (1 : Int32)), .val (.ref yb), .val (.int (1 : Int32)), .val (.int (1 : Int32)), .val (.int (1 : Int32)), .val (.int c0)] [(.int (1 : Int32))]))
  refine OwnFin.step (fun tT kK => XS.iload X3.here hx rfl (hb hby d_jdk_52_method_21_5) rfl kK) ?_
  show OwnFin p e below _ (T3.setTop (mkF m 7 #[.val (.ref ar), .val (.int (1 : Int32)), .val (.ref yb), .val (.int (1 : Int32)), .val (.int (1 : Int32)), .val (.int (1 : Int32)), .val (.int c0)] [(.int (1 : Int32)), (.int (1 : Int32))]))
  refine OwnFin.step (fun tT kK => XS.icmpYes X3.here hx rfl (pc0 := 7) (pc' := 44) rfl (hb hby d_jdk_52_method_21_7) rfl (flt (by decide : ¬ ((1 : Int32) < (1 : Int32)))).2.1 (by decide) (by decide) kK) ?_
  show OwnFin p e below _ (T3.setTop (mkF m 44 #[.val (.ref ar), .val (.int (1 : Int32)), .val (.ref yb), .val (.int (1 : Int32)), .val (.int (1 : Int32)), .val (.int (1 : Int32)), .val (.int c0)] []))
  refine OwnFin.step (fun tT kK => XS.iload X3.here hx rfl (hb hby d_jdk_52_method_21_44) rfl kK) ?_
  show OwnFin p e below _ (T3.setTop (mkF m 46 #[.val (.ref ar), .val (.int (1 : Int32)), .val (.ref yb), .val (.int (1 : Int32)), .val (.int (1 : Int32)), .val (.int (1 : Int32)), .val (.int c0)] [(.int (1 : Int32))]))
  obtain ⟨fs5, hr5, hrun5, hended5, hW5, hsame5⟩ := X3.leave (v := (some (.int (1 : Int32)))) (fun h => by rw [Bd.returns] at h; cases h)
  refine ⟨_, _, retOut X3 hx Bd.returns rfl (Or.inl ⟨rfl, Or.inl rfl, _, rfl⟩) (hb hby d_jdk_52_method_21_46) hr5, hrun5, hended5, _, _, rfl, ?_, ⟨_, rfl⟩, hW5, hsame5.mono (by decide) (by decide)⟩
  show Q81a Z ar yb k kb c0 h0 n0 _ T3.heap _
  rw [e3]
  exact ⟨rfl, N3, ((Keep.refl h0 [yb]).wr W3 (Or.inl (List.mem_of_getElem? (i := 0) rfl))), V3⟩
theorem d_jdk_52_method_16_0 : decode jdk_52_method_16_code 0 = .ok (.iload_n 2, 1) := by decide +kernel
theorem d_jdk_52_method_16_1 : decode jdk_52_method_16_code 1 = .ok (.newarray .byte, 2) := by decide +kernel
theorem d_jdk_52_method_16_3 : decode jdk_52_method_16_code 3 = .ok (.astore_n 3, 1) := by decide +kernel
theorem d_jdk_52_method_16_4 : decode jdk_52_method_16_code 4 = .ok (.aload_n 0, 1) := by decide +kernel
theorem d_jdk_52_method_16_5 : decode jdk_52_method_16_code 5 = .ok (.iload_n 1, 1) := by decide +kernel
theorem d_jdk_52_method_16_6 : decode jdk_52_method_16_code 6 = .ok (.aload_n 3, 1) := by decide +kernel
theorem d_jdk_52_method_16_7 : decode jdk_52_method_16_code 7 = .ok (.iconst 0, 1) := by decide +kernel
theorem d_jdk_52_method_16_8 : decode jdk_52_method_16_code 8 = .ok (.iload_n 2, 1) := by decide +kernel
theorem d_jdk_52_method_16_9 : decode jdk_52_method_16_code 9 = .ok (.invokestatic 115, 3) := by decide +kernel
theorem pd_210 : parseMethodDescriptor "([CI[BII)I" = some ⟨[(.array .char), .int, (.array .byte), .int, .int], some .int⟩ := by decide +kernel
theorem d_jdk_52_method_16_12 : decode jdk_52_method_16_code 12 = .ok (.istore 4, 2) := by decide +kernel
theorem d_jdk_52_method_16_14 : decode jdk_52_method_16_code 14 = .ok (.iload 4, 2) := by decide +kernel
theorem d_jdk_52_method_16_16 : decode jdk_52_method_16_code 16 = .ok (.iload_n 2, 1) := by decide +kernel
theorem d_jdk_52_method_16_17 : decode jdk_52_method_16_code 17 = .ok (.if_icmp .eq 40, 3) := by decide +kernel
theorem d_jdk_52_method_16_57 : decode jdk_52_method_16_code 57 = .ok (.aload_n 3, 1) := by decide +kernel
theorem d_jdk_52_method_16_58 : decode jdk_52_method_16_code 58 = .ok (.areturn, 1) := by decide +kernel
theorem ef_81b (m : MethodId) (ar : Addr) : entryFrame m #[(.ref ar), (.int (0 : Int32)), (.int (1 : Int32))] 6 = mkF m 0 #[.val (.ref ar), .val (.int (0 : Int32)), .val (.int (1 : Int32)), .unset, .unset, .unset] [] := by first | (simp [entryFrame, mkF, argsToLocals, Value.category]; done) | rfl
def Q81b (Z : State) (ar : Addr) (k : ClassId) (c0 : Int32) (h0 : Heap) (n0 : Nat) (vV : Option Value) (hH : Heap) (LL : List Loc) : Prop := ∃ b : Addr, ∃ kb : ClassId, vV = some (.ref b) ∧ Fr n0 LL ∧ Keep h0 hH [] ∧ h0.size ≤ b ∧ (Arv Z hH b kb .byte (1 : Int32) [(.int (nar .byte (c0.toInt8.toInt32)))] (.int (0 : Int32)))
def R81b (Z : State) (ar : Addr) (k : ClassId) (c0 : Int32) (h0 : Heap) (n0 : Nat) (U : State) (oO : Outcome) (U' : State) : Prop := ∃ vV LL, oO = .returned vV ∧ Q81b Z ar k c0 h0 n0 vV U'.heap LL ∧ FrameEnd U oO U' LL ({ frames := 1, cells := 1, slots := 1, locals := 18 } : Room).cells ({ frames := 1, cells := 1, slots := 1, locals := 18 } : Room).slots
set_option maxRecDepth 65536 in
set_option maxHeartbeats 40000000 in
theorem rm81b (l : Launch) (Z : State) (a0 : Array Value) (hw : ∀ d ∈ tables_1, d.before a0 Z = true) (hEL : EW Z a0 OwnEL) (wS : ∀ a ∈ Bundle.stringAtoms, a.before a0 Z = true) (ws : List Jvm.Cond) (ar : Addr) (k : ClassId) (c0 : Int32) (h0 : Heap) (n0 : Nat) (Z0 : n0 ≤ h0.size) (hp0 : Arv Z h0 ar k .char (1 : Int32) [(.int c0)] (.int (0 : Int32))) (hp1 : ¬ (255 : Int32) < c0) :
    MetFree l (⟨"java/lang/StringUTF16", "compress", "([CII)[B"⟩ : MethodName) (head1 (Jvm.Cond.code (⟨"java/lang/StringUTF16", "compress", "([CII)[B"⟩ : MethodName) jdk_52_method_16_code 6 (some (.array .byte)) :: ws) ({ frames := 1, cells := 1, slots := 1, locals := 18 } : Room)) (fun aA U => aA = #[(.ref ar), (.int (0 : Int32)), (.int (1 : Int32))] ∧ Z.Warmed39 U.vm ∧ U.heap = h0) (fun _ _ _ _ _ => True) (fun _ U oO U' => ∃ vV LL, oO = .returned vV ∧ Q81b Z ar k c0 h0 n0 vV U'.heap LL ∧ FrameEnd U oO U' LL ({ frames := 1, cells := 1, slots := 1, locals := 18 } : Room).cells ({ frames := 1, cells := 1, slots := 1, locals := 18 } : Room).slots) := by
  refine MetFree.of_bodySF (plainFor_of_name pn_177) hisR ?_
  intro p e s m args below meth cC s₁ Bd hml0 hP hK
  obtain ⟨rfl, hZ, hh⟩ := hP
  have hx := Bd.exec
  have hby := Bd.bytes
  have hml : cC.maxLocals = 6 := hml0
  have hown : s.vm.findClass "java/lang/StringUTF16" = some m.cls := findClass_of_methodNamed Bd.named
  have hnm := (name_of_methodNamed Bd.named Bd.method).1
  have X0 : Stand p l e ({ frames := 1, cells := 1, slots := 1, locals := 18 } : Room) s m #[(.ref ar), (.int (0 : Int32)), (.int (1 : Int32))] below meth cC s₁ [] 0 0 := Stand.of_body Bd
  have e0 : s₁.heap = h0 := by rw [← hh, Bd.state]; rfl
  have N0 := Fr.nil n0
  have Kp0 := Keep.refl h0 []
  show OwnFin p e below (R81b Z ar k c0 h0 n0 s) (s₁.setTop (entryFrame m #[(.ref ar), (.int (0 : Int32)), (.int (1 : Int32))] 6))
  rw [ef_81b m ar]
  refine OwnFin.step (fun tT kK => XS.iloadN X0.here hx rfl (hb hby d_jdk_52_method_16_0) rfl kK) ?_
  show OwnFin p e below _ (s₁.setTop (mkF m 1 #[.val (.ref ar), .val (.int (0 : Int32)), .val (.int (1 : Int32)), .unset, .unset, .unset] [(.int (1 : Int32))]))
  obtain ⟨T1, h1, k1, X1, e1, E1, A1, st1⟩ := newP X0 hx hZ (hw _ (List.mem_of_getElem? (i := 22) rfl)) e0 (g := (mkF m 1 #[.val (.ref ar), .val (.int (0 : Int32)), .val (.int (1 : Int32)), .unset, .unset, .unset] [(.int (1 : Int32))])) rfl (hb hby d_jdk_52_method_16_1) rfl (by decide) (cap := 1) (by decide) (by decide) (by decide) (by decide)
  obtain ⟨b1, g1⟩ : ∃ z, z = h0.size := ⟨_, rfl⟩
  rw [← g1] at A1 st1
  refine OwnFin.step st1 ?_
  have sz_b1 : h0.size ≤ b1 := Nat.le_trans Kp0.1 (Nat.le_of_eq g1.symm)
  have Kp2 := Kp0.ext E1
  have V1 : Arv Z h1 b1 k1 .byte (1 : Int32) [(.int (0 : Int32))] (.int (0 : Int32)) := (Arv.new A1 (by decide)).pad (pad_rep [] (.int (0 : Int32)) 1)
  show OwnFin p e below _ (T1.setTop (mkF m 3 #[.val (.ref ar), .val (.int (0 : Int32)), .val (.int (1 : Int32)), .unset, .unset, .unset] [(.ref b1)]))
  refine OwnFin.step (fun tT kK => XS.astoreN X1.here hx rfl (hb hby d_jdk_52_method_16_3) rfl rfl (l' := #[.val (.ref ar), .val (.int (0 : Int32)), .val (.int (1 : Int32)), .val (.ref b1), .unset, .unset]) rfl kK) ?_
  show OwnFin p e below _ (T1.setTop (mkF m 4 #[.val (.ref ar), .val (.int (0 : Int32)), .val (.int (1 : Int32)), .val (.ref b1), .unset, .unset] []))
  refine OwnFin.step (fun tT kK => XS.aloadN X1.here hx rfl (hb hby d_jdk_52_method_16_4) rfl rfl kK) ?_
  show OwnFin p e below _ (T1.setTop (mkF m 5 #[.val (.ref ar), .val (.int (0 : Int32)), .val (.int (1 : Int32)), .val (.ref b1), .unset, .unset] [(.ref ar)]))
  refine OwnFin.step (fun tT kK => XS.iloadN X1.here hx rfl (hb hby d_jdk_52_method_16_5) rfl kK) ?_
  show OwnFin p e below _ (T1.setTop (mkF m 6 #[.val (.ref ar), .val (.int (0 : Int32)), .val (.int (1 : Int32)), .val (.ref b1), .unset, .unset] [(.int (0 : Int32)), (.ref ar)]))
  refine OwnFin.step (fun tT kK => XS.aloadN X1.here hx rfl (hb hby d_jdk_52_method_16_6) rfl rfl kK) ?_
  show OwnFin p e below _ (T1.setTop (mkF m 7 #[.val (.ref ar), .val (.int (0 : Int32)), .val (.int (1 : Int32)), .val (.ref b1), .unset, .unset] [(.ref b1), (.int (0 : Int32)), (.ref ar)]))
  refine OwnFin.step (fun tT kK => XS.iconst X1.here hx rfl (hb hby d_jdk_52_method_16_7) kK) ?_
  show OwnFin p e below _ (T1.setTop (mkF m 8 #[.val (.ref ar), .val (.int (0 : Int32)), .val (.int (1 : Int32)), .val (.ref b1), .unset, .unset] [(.int (0 : Int32)), (.ref b1), (.int (0 : Int32)), (.ref ar)]))
  refine OwnFin.step (fun tT kK => XS.iloadN X1.here hx rfl (hb hby d_jdk_52_method_16_8) rfl kK) ?_
  show OwnFin p e below _ (T1.setTop (mkF m 9 #[.val (.ref ar), .val (.int (0 : Int32)), .val (.int (1 : Int32)), .val (.ref b1), .unset, .unset] [(.int (1 : Int32)), (.int (0 : Int32)), (.ref b1), (.int (0 : Int32)), (.ref ar)]))
  have f3 : Arv Z h1 ar k .char (1 : Int32) [(.int c0)] (.int (0 : Int32)) := (hp0.keep Kp2 nin0)
  obtain ⟨_, _, ⟨T4, L4, k4, n4⟩, -, X4, ⟨Lc4, hQ4, l4, y4, z4⟩, st4⟩ := Jvm.LawKit.callS X1 hx (y := (⟨"java/lang/StringUTF16", "compress", "([CI[BII)I"⟩ : MethodName)) hown (mvT hZ (hw _ (List.mem_of_getElem? (i := 72) rfl))) (mvT hZ (hw _ (List.mem_of_getElem? (i := 73) rfl))) (mvT hZ (hw _ (List.mem_of_getElem? (i := 70) rfl))) (mvT hZ (hw _ (List.mem_of_getElem? (i := 74) rfl))) (by decide) (backOf (W := 0) (rm81a l Z a0 hw hEL wS [] ar b1 k k1 c0 h1 n0 (Nat.le_trans Z0 Kp2.1) f3 V1 hp1 (Nat.le_trans Z0 sz_b1) (Nat.ne_of_lt (Nat.lt_of_lt_of_le hp0.lt sz_b1))) hZ (hw _ (List.mem_of_getElem? (i := 74) rfl)) (hw _ (List.mem_of_getElem? (i := 70) rfl)) (by decide) (by decide)) (g := (mkF m 9 #[.val (.ref ar), .val (.int (0 : Int32)), .val (.int (1 : Int32)), .val (.ref b1), .unset, .unset] [(.int (1 : Int32)), (.int (0 : Int32)), (.ref b1), (.int (0 : Int32)), (.ref ar)])) rfl (by rw [hml]; rfl) (argsL := [(.ref ar), (.int (0 : Int32)), (.ref b1), (.int (0 : Int32)), (.int (1 : Int32))]) (rest := []) (lenOf pd_210 rfl) rfl (by show 2 * 0 + _ ≤ _; exact Nat.le_of_eq rfl) (hb hby d_jdk_52_method_16_9) (fun _ _ => ⟨rfl, e1, (by decide : 1 + 0 ≤ _), (by decide : 1 + 0 ≤ _)⟩)
  dsimp only [Pt.U, Pt.locs, Pt.cells, Pt.slots] at X4 l4 y4 z4 st4 hQ4
  subst l4 y4 z4
  obtain ⟨rfl, N4q, K4, P4_0⟩ := hQ4
  have N4 := Fr.app N0 N4q
  refine OwnFin.step st4 ?_
  have Kp5 := Kp2.trans K4 (allS (P := fun x => x ∈ ([] : List Addr) ∨ h0.size ≤ x) (Or.inr sz_b1) all0)
  show OwnFin p e below _ (T4.setTop (mkF m 12 #[.val (.ref ar), .val (.int (0 : Int32)), .val (.int (1 : Int32)), .val (.ref b1), .unset, .unset] [(.int (1 : Int32))]))
  refine OwnFin.step (fun tT kK => XS.istore X4.here hx rfl (hb hby d_jdk_52_method_16_12) rfl (l' := #[.val (.ref ar), .val (.int (0 : Int32)), .val (.int (1 : Int32)), .val (.ref b1), .val (.int (1 : Int32)), .unset]) rfl kK) ?_
  show OwnFin p e below _ (T4.setTop (mkF m 14 #[.val (.ref ar), .val (.int (0 : Int32)), .val (.int (1 : Int32)), .val (.ref b1), .val (.int (1 : Int32)), .unset] []))
  refine OwnFin.step (fun tT kK => XS.iload X4.here hx rfl (hb hby d_jdk_52_method_16_14) rfl kK) ?_
  show OwnFin p e below _ (T4.setTop (mkF m 16 #[.val (.ref ar), .val (.int (0 : Int32)), .val (.int (1 : Int32)), .val (.ref b1), .val (.int (1 : Int32)), .unset] [(.int (1 : Int32))]))
  refine OwnFin.step (fun tT kK => XS.iloadN X4.here hx rfl (hb hby d_jdk_52_method_16_16) rfl kK) ?_
  show OwnFin p e below _ (T4.setTop (mkF m 17 #[.val (.ref ar), .val (.int (0 : Int32)), .val (.int (1 : Int32)), .val (.ref b1), .val (.int (1 : Int32)), .unset] [(.int (1 : Int32)), (.int (1 : Int32))]))
  refine OwnFin.step (fun tT kK => XS.icmpYes X4.here hx rfl (pc0 := 17) (pc' := 57) rfl (hb hby d_jdk_52_method_16_17) rfl (teq (rfl : (1 : Int32) = (1 : Int32))).1 (by decide) (by decide) kK) ?_
  show OwnFin p e below _ (T4.setTop (mkF m 57 #[.val (.ref ar), .val (.int (0 : Int32)), .val (.int (1 : Int32)), .val (.ref b1), .val (.int (1 : Int32)), .unset] []))
  refine OwnFin.step (fun tT kK => XS.aloadN X4.here hx rfl (hb hby d_jdk_52_method_16_57) rfl rfl kK) ?_
  show OwnFin p e below _ (T4.setTop (mkF m 58 #[.val (.ref ar), .val (.int (0 : Int32)), .val (.int (1 : Int32)), .val (.ref b1), .val (.int (1 : Int32)), .unset] [(.ref b1)]))
  obtain ⟨fs6, hr6, hrun6, hended6, hW6, hsame6⟩ := X4.leave (v := (some (.ref b1))) (fun h => by rw [Bd.returns] at h; cases h)
  refine ⟨_, _, retOut X4 hx Bd.returns rfl (Or.inr (Or.inr (Or.inr (Or.inr ⟨rfl, rfl, rfl⟩)))) (hb hby d_jdk_52_method_16_58) hr6, hrun6, hended6, _, _, rfl, ?_, ⟨_, rfl⟩, hW6, hsame6.mono (by decide) (by decide)⟩
  show Q81b Z ar k c0 h0 n0 _ T4.heap _
  exact ⟨b1, k1, rfl, N4, Kp5, sz_b1, P4_0⟩
theorem d_jdk_52_method_15_0 : decode jdk_52_method_15_code 0 = .ok (.iload_n 1, 1) := by decide +kernel
theorem d_jdk_52_method_15_1 : decode jdk_52_method_15_code 1 = .ok (.aload_n 0, 1) := by decide +kernel
theorem d_jdk_52_method_15_2 : decode jdk_52_method_15_code 2 = .ok (.arraylength, 1) := by decide +kernel
theorem d_jdk_52_method_15_3 : decode jdk_52_method_15_code 3 = .ok (.isub, 1) := by decide +kernel
theorem d_jdk_52_method_15_4 : decode jdk_52_method_15_code 4 = .ok (.bipush 31, 2) := by decide +kernel
theorem d_jdk_52_method_15_6 : decode jdk_52_method_15_code 6 = .ok (.iushr, 1) := by decide +kernel
theorem d_jdk_52_method_15_7 : decode jdk_52_method_15_code 7 = .ok (.i2b, 1) := by decide +kernel
theorem d_jdk_52_method_15_8 : decode jdk_52_method_15_code 8 = .ok (.ireturn, 1) := by decide +kernel
theorem ef_81c (m : MethodId) (b : Addr) : entryFrame m #[(.ref b), (.int (1 : Int32))] 2 = mkF m 0 #[.val (.ref b), .val (.int (1 : Int32))] [] := by first | (simp [entryFrame, mkF, argsToLocals, Value.category]; done) | rfl
def Q81c (Z : State) (b : Addr) (kb : ClassId) (c0 : Int32) (h0 : Heap) (n0 : Nat) (vV : Option Value) (hH : Heap) (LL : List Loc) : Prop := vV = some (.int (0 : Int32)) ∧ Fr n0 LL ∧ hH = h0
def R81c (Z : State) (b : Addr) (kb : ClassId) (c0 : Int32) (h0 : Heap) (n0 : Nat) (U : State) (oO : Outcome) (U' : State) : Prop := ∃ vV LL, oO = .returned vV ∧ Q81c Z b kb c0 h0 n0 vV U'.heap LL ∧ FrameEnd U oO U' LL ({ frames := 0, cells := 0, slots := 0, locals := 0 } : Room).cells ({ frames := 0, cells := 0, slots := 0, locals := 0 } : Room).slots
set_option maxRecDepth 65536 in
set_option maxHeartbeats 40000000 in
theorem rm81c (l : Launch) (Z : State) (a0 : Array Value) (hw : ∀ d ∈ tables_1, d.before a0 Z = true) (hEL : EW Z a0 OwnEL) (wS : ∀ a ∈ Bundle.stringAtoms, a.before a0 Z = true) (ws : List Jvm.Cond) (b : Addr) (kb : ClassId) (c0 : Int32) (h0 : Heap) (n0 : Nat) (Z0 : n0 ≤ h0.size) (hp0 : Arv Z h0 b kb .byte (1 : Int32) [(.int (nar .byte (c0.toInt8.toInt32)))] (.int (0 : Int32))) :
    MetFree l (⟨"java/lang/StringUTF16", "coderFromArrayLen", "([BI)B"⟩ : MethodName) (head1 (Jvm.Cond.code (⟨"java/lang/StringUTF16", "coderFromArrayLen", "([BI)B"⟩ : MethodName) jdk_52_method_15_code 2 (some .byte) :: ws) ({ frames := 0, cells := 0, slots := 0, locals := 0 } : Room)) (fun aA U => aA = #[(.ref b), (.int (1 : Int32))] ∧ Z.Warmed39 U.vm ∧ U.heap = h0) (fun _ _ _ _ _ => True) (fun _ U oO U' => ∃ vV LL, oO = .returned vV ∧ Q81c Z b kb c0 h0 n0 vV U'.heap LL ∧ FrameEnd U oO U' LL ({ frames := 0, cells := 0, slots := 0, locals := 0 } : Room).cells ({ frames := 0, cells := 0, slots := 0, locals := 0 } : Room).slots) := by
  refine MetFree.of_bodySF (plainFor_of_name pn_177) hisR ?_
  intro p e s m args below meth cC s₁ Bd hml0 hP hK
  obtain ⟨rfl, hZ, hh⟩ := hP
  have hx := Bd.exec
  have hby := Bd.bytes
  have hml : cC.maxLocals = 2 := hml0
  have hown : s.vm.findClass "java/lang/StringUTF16" = some m.cls := findClass_of_methodNamed Bd.named
  have hnm := (name_of_methodNamed Bd.named Bd.method).1
  have X0 : Stand p l e ({ frames := 0, cells := 0, slots := 0, locals := 0 } : Room) s m #[(.ref b), (.int (1 : Int32))] below meth cC s₁ [] 0 0 := Stand.of_body Bd
  have e0 : s₁.heap = h0 := by rw [← hh, Bd.state]; rfl
  have N0 := Fr.nil n0
  have Kp0 := Keep.refl h0 []
  show OwnFin p e below (R81c Z b kb c0 h0 n0 s) (s₁.setTop (entryFrame m #[(.ref b), (.int (1 : Int32))] 2))
  rw [ef_81c m b]
  refine OwnFin.step (fun tT kK => XS.iloadN X0.here hx rfl (hb hby d_jdk_52_method_15_0) rfl kK) ?_
  show OwnFin p e below _ (s₁.setTop (mkF m 1 #[.val (.ref b), .val (.int (1 : Int32))] [(.int (1 : Int32))]))
  refine OwnFin.step (fun tT kK => XS.aloadN X0.here hx rfl (hb hby d_jdk_52_method_15_1) rfl rfl kK) ?_
  show OwnFin p e below _ (s₁.setTop (mkF m 2 #[.val (.ref b), .val (.int (1 : Int32))] [(.ref b), (.int (1 : Int32))]))
  obtain ⟨cl1, Ar1, -, Sz1, Ng1, -, -⟩ := id hp0
  refine OwnFin.step (fun tT kK => own_len X0 hx hZ e0 Ar1 Sz1 Ng1 (g := (mkF m 2 #[.val (.ref b), .val (.int (1 : Int32))] [(.ref b), (.int (1 : Int32))])) rfl rfl (hb hby d_jdk_52_method_15_2) kK) ?_
  show OwnFin p e below _ (s₁.setTop (mkF m 3 #[.val (.ref b), .val (.int (1 : Int32))] [(.int (1 : Int32)), (.int (1 : Int32))]))
  refine OwnFin.step (fun tT kK => XS.isub X0.here hx rfl (hb hby d_jdk_52_method_15_3) rfl kK) ?_
  show OwnFin p e below _ (s₁.setTop (mkF m 4 #[.val (.ref b), .val (.int (1 : Int32))] [(.int (0 : Int32))]))
  refine OwnFin.step (fun tT kK => XS.bipush X0.here hx rfl (hb hby d_jdk_52_method_15_4) kK) ?_
  show OwnFin p e below _ (s₁.setTop (mkF m 6 #[.val (.ref b), .val (.int (1 : Int32))] [(.int (31 : Int32)), (.int (0 : Int32))]))
  refine OwnFin.step (fun tT kK => XS.iushr X0.here hx rfl (hb hby d_jdk_52_method_15_6) rfl kK) ?_
  show OwnFin p e below _ (s₁.setTop (mkF m 7 #[.val (.ref b), .val (.int (1 : Int32))] [(.int (0 : Int32))]))
  refine OwnFin.step (fun tT kK => XS.i2b X0.here hx rfl (hb hby d_jdk_52_method_15_7) rfl kK) ?_
  show OwnFin p e below _ (s₁.setTop (mkF m 8 #[.val (.ref b), .val (.int (1 : Int32))] [(.int (0 : Int32))]))
  obtain ⟨fs2, hr2, hrun2, hended2, hW2, hsame2⟩ := X0.leave (v := (some (.int (0 : Int32)))) (fun h => by rw [Bd.returns] at h; cases h)
  refine ⟨_, _, retN X0 hx (t := .byte) Bd.returns (by simp) (hb hby d_jdk_52_method_15_8) hr2, hrun2, hended2, _, _, rfl, ?_, ⟨_, rfl⟩, hW2, hsame2.mono (by decide) (by decide)⟩
  show Q81c Z b kb c0 h0 n0 _ s₁.heap _
  rw [e0]
  exact ⟨rfl, N0, rfl⟩
theorem d_jdk_42_method_149_27 : decode jdk_42_method_149_code 27 = .ok (.getstatic 38, 3) := by decide +kernel
theorem d_jdk_42_method_149_30 : decode jdk_42_method_149_code 30 = .ok (.ifCond .eq 28, 3) := by decide +kernel
theorem d_jdk_42_method_149_33 : decode jdk_42_method_149_code 33 = .ok (.aload_n 1, 1) := by decide +kernel
theorem d_jdk_42_method_149_34 : decode jdk_42_method_149_code 34 = .ok (.iload_n 2, 1) := by decide +kernel
theorem d_jdk_42_method_149_35 : decode jdk_42_method_149_code 35 = .ok (.iload_n 3, 1) := by decide +kernel
theorem d_jdk_42_method_149_36 : decode jdk_42_method_149_code 36 = .ok (.invokestatic 177, 3) := by decide +kernel
theorem pd_231 : parseMethodDescriptor "([CII)[B" = some ⟨[(.array .char), .int, .int], some (.array .byte)⟩ := by decide +kernel
theorem d_jdk_42_method_149_39 : decode jdk_42_method_149_code 39 = .ok (.astore 5, 2) := by decide +kernel
theorem d_jdk_42_method_149_41 : decode jdk_42_method_149_code 41 = .ok (.aload_n 0, 1) := by decide +kernel
theorem d_jdk_42_method_149_42 : decode jdk_42_method_149_code 42 = .ok (.aload 5, 2) := by decide +kernel
theorem d_jdk_42_method_149_44 : decode jdk_42_method_149_code 44 = .ok (.iload_n 3, 1) := by decide +kernel
theorem d_jdk_42_method_149_45 : decode jdk_42_method_149_code 45 = .ok (.invokestatic 47, 3) := by decide +kernel
theorem pd_237 : parseMethodDescriptor "([BI)B" = some ⟨[(.array .byte), .int], some .byte⟩ := by decide +kernel
theorem d_jdk_42_method_149_48 : decode jdk_42_method_149_code 48 = .ok (.putfield 15, 3) := by decide +kernel
theorem d_jdk_42_method_149_51 : decode jdk_42_method_149_code 51 = .ok (.aload_n 0, 1) := by decide +kernel
theorem d_jdk_42_method_149_52 : decode jdk_42_method_149_code 52 = .ok (.aload 5, 2) := by decide +kernel
theorem d_jdk_42_method_149_54 : decode jdk_42_method_149_code 54 = .ok (.putfield 9, 3) := by decide +kernel
theorem d_jdk_42_method_149_57 : decode jdk_42_method_149_code 57 = .ok (.return_, 1) := by decide +kernel
theorem ef_81d (m : MethodId) (a : Addr) (ar : Addr) : entryFrame m #[(.ref a), (.ref ar), (.int (0 : Int32)), (.int (1 : Int32)), .null] 6 = mkF m 0 #[.val (.ref a), .val (.ref ar), .val (.int (0 : Int32)), .val (.int (1 : Int32)), .val .null, .unset] [] := by first | (simp [entryFrame, mkF, argsToLocals, Value.category]; done) | rfl
def Q81d (Z : State) (a : Addr) (ar : Addr) (k : ClassId) (cs : Int32) (c0 : Int32) (h0 : Heap) (n0 : Nat) (vV : Option Value) (hH : Heap) (LL : List Loc) : Prop := ∃ b : Addr, ∃ kb : ClassId, vV = none ∧ Fr n0 LL ∧ Keep h0 hH [a] ∧ h0.size ≤ b ∧ (Exa Z hH a "java/lang/String") ∧ (Fld Z hH a "java/lang/String" "value" "[B" (.ref b)) ∧ (Fld Z hH a "java/lang/String" "coder" "B" (.int (0 : Int32))) ∧ (Arv Z hH b kb .byte (1 : Int32) [(.int (nar .byte (c0.toInt8.toInt32)))] (.int (0 : Int32)))
def R81d (Z : State) (a : Addr) (ar : Addr) (k : ClassId) (cs : Int32) (c0 : Int32) (h0 : Heap) (n0 : Nat) (U : State) (oO : Outcome) (U' : State) : Prop := ∃ vV LL, oO = .returned vV ∧ Q81d Z a ar k cs c0 h0 n0 vV U'.heap LL ∧ FrameEnd U oO U' LL ({ frames := 2, cells := 1, slots := 1, locals := 35 } : Room).cells ({ frames := 2, cells := 1, slots := 1, locals := 35 } : Room).slots
set_option maxRecDepth 65536 in
set_option maxHeartbeats 40000000 in
theorem rm81d (l : Launch) (Z : State) (a0 : Array Value) (hw : ∀ d ∈ tables_1, d.before a0 Z = true) (hEL : EW Z a0 OwnEL) (wS : ∀ a ∈ Bundle.stringAtoms, a.before a0 Z = true) (ws : List Jvm.Cond) (a : Addr) (ar : Addr) (k : ClassId) (cs : Int32) (c0 : Int32) (h0 : Heap) (n0 : Nat) (Z0 : n0 ≤ h0.size) (hp0 : Exa Z h0 a "java/lang/String") (hp1 : Fld Z h0 a "java/lang/String" "value" "[B" .null) (hp2 : Fld Z h0 a "java/lang/String" "coder" "B" (.int (0 : Int32))) (hp3 : n0 ≤ a) (hp4 : Arv Z h0 ar k .char (1 : Int32) [(.int c0)] (.int (0 : Int32))) (hp5 : Sta Z h0 "java/lang/String" "COMPACT_STRINGS" "Z" (.int cs)) (hp6 : ¬ cs = (0 : Int32)) (hp7 : ¬ (255 : Int32) < c0) :
    MetFree l (⟨"java/lang/String", "<init>", "([CIILjava/lang/Void;)V"⟩ : MethodName) (head1 (Jvm.Cond.code (⟨"java/lang/String", "<init>", "([CIILjava/lang/Void;)V"⟩ : MethodName) jdk_42_method_149_code 6 none :: ws) ({ frames := 2, cells := 1, slots := 1, locals := 35 } : Room)) (fun aA U => aA = #[(.ref a), (.ref ar), (.int (0 : Int32)), (.int (1 : Int32)), .null] ∧ Z.Warmed39 U.vm ∧ U.heap = h0) (fun _ _ _ _ _ => True) (fun _ U oO U' => ∃ vV LL, oO = .returned vV ∧ Q81d Z a ar k cs c0 h0 n0 vV U'.heap LL ∧ FrameEnd U oO U' LL ({ frames := 2, cells := 1, slots := 1, locals := 35 } : Room).cells ({ frames := 2, cells := 1, slots := 1, locals := 35 } : Room).slots) := by
  refine MetFree.of_bodySF (plainFor_of_name pn_31) hisR ?_
  intro p e s m args below meth cC s₁ Bd hml0 hP hK
  obtain ⟨rfl, hZ, hh⟩ := hP
  have hx := Bd.exec
  have hby := Bd.bytes
  have hml : cC.maxLocals = 6 := hml0
  have hown : s.vm.findClass "java/lang/String" = some m.cls := findClass_of_methodNamed Bd.named
  have hnm := (name_of_methodNamed Bd.named Bd.method).1
  have X0 : Stand p l e ({ frames := 2, cells := 1, slots := 1, locals := 35 } : Room) s m #[(.ref a), (.ref ar), (.int (0 : Int32)), (.int (1 : Int32)), .null] below meth cC s₁ [] 0 0 := Stand.of_body Bd
  have e0 : s₁.heap = h0 := by rw [← hh, Bd.state]; rfl
  have N0 := Fr.nil n0
  have Kp0 := Keep.refl h0 []
  show OwnFin p e below (R81d Z a ar k cs c0 h0 n0 s) (s₁.setTop (entryFrame m #[(.ref a), (.ref ar), (.int (0 : Int32)), (.int (1 : Int32)), .null] 6))
  rw [ef_81d m a ar]
  refine OwnFin.step (fun tT kK => XS.aloadN X0.here hx rfl (hb hby d_jdk_42_method_149_0) rfl rfl kK) ?_
  show OwnFin p e below _ (s₁.setTop (mkF m 1 #[.val (.ref a), .val (.ref ar), .val (.int (0 : Int32)), .val (.int (1 : Int32)), .val .null, .unset] [(.ref a)]))
  obtain ⟨T1, X1, e1, st1⟩ := initO X0 hx hZ hown (hw _ (List.mem_of_getElem? (i := 18) rfl)) (hw _ (List.mem_of_getElem? (i := 19) rfl)) (hw _ (List.mem_of_getElem? (i := 20) rfl)) e0 (g := (mkF m 1 #[.val (.ref a), .val (.ref ar), .val (.int (0 : Int32)), .val (.int (1 : Int32)), .val .null, .unset] [(.ref a)])) rfl (by rw [hml]; rfl) rfl (hb hby d_jdk_42_method_149_1) (by decide) (W := 0) (by show 2 * 0 + _ ≤ _; exact Nat.le_of_eq rfl) (by decide)
  refine OwnFin.step st1 ?_
  show OwnFin p e below _ (T1.setTop (mkF m 4 #[.val (.ref a), .val (.ref ar), .val (.int (0 : Int32)), .val (.int (1 : Int32)), .val .null, .unset] []))
  refine OwnFin.step (fun tT kK => XS.iloadN X1.here hx rfl (hb hby d_jdk_42_method_149_4) rfl kK) ?_
  show OwnFin p e below _ (T1.setTop (mkF m 5 #[.val (.ref a), .val (.ref ar), .val (.int (0 : Int32)), .val (.int (1 : Int32)), .val .null, .unset] [(.int (1 : Int32))]))
  refine OwnFin.step (fun tT kK => XS.ifYes X1.here hx rfl (pc0 := 5) (pc' := 27) rfl (hb hby d_jdk_42_method_149_5) rfl ((if0 _ _).trans (feq (by decide : ¬ ((1 : Int32) = (0 : Int32)))).2) (by decide) (by decide) kK) ?_
  show OwnFin p e below _ (T1.setTop (mkF m 27 #[.val (.ref a), .val (.ref ar), .val (.int (0 : Int32)), .val (.int (1 : Int32)), .val .null, .unset] []))
  obtain ⟨T2, X2, e2, st2⟩ := getS2 X1 hx hZ hown (host := "") (Or.inl (hw _ (List.mem_of_getElem? (i := 63) rfl))) Via.refl e1 hp5 (g := (mkF m 27 #[.val (.ref a), .val (.ref ar), .val (.int (0 : Int32)), .val (.int (1 : Int32)), .val .null, .unset] [])) rfl (hb hby d_jdk_42_method_149_27)
  refine OwnFin.step st2 ?_
  show OwnFin p e below _ (T2.setTop (mkF m 30 #[.val (.ref a), .val (.ref ar), .val (.int (0 : Int32)), .val (.int (1 : Int32)), .val .null, .unset] [(.int cs)]))
  refine OwnFin.step (fun tT kK => XS.ifNo X2.here hx rfl (hb hby d_jdk_42_method_149_30) rfl ((if0 _ _).trans (feq (hp6 : ¬ (cs = (0 : Int32)))).1) kK) ?_
  show OwnFin p e below _ (T2.setTop (mkF m 33 #[.val (.ref a), .val (.ref ar), .val (.int (0 : Int32)), .val (.int (1 : Int32)), .val .null, .unset] []))
  refine OwnFin.step (fun tT kK => XS.aloadN X2.here hx rfl (hb hby d_jdk_42_method_149_33) rfl rfl kK) ?_
  show OwnFin p e below _ (T2.setTop (mkF m 34 #[.val (.ref a), .val (.ref ar), .val (.int (0 : Int32)), .val (.int (1 : Int32)), .val .null, .unset] [(.ref ar)]))
  refine OwnFin.step (fun tT kK => XS.iloadN X2.here hx rfl (hb hby d_jdk_42_method_149_34) rfl kK) ?_
  show OwnFin p e below _ (T2.setTop (mkF m 35 #[.val (.ref a), .val (.ref ar), .val (.int (0 : Int32)), .val (.int (1 : Int32)), .val .null, .unset] [(.int (0 : Int32)), (.ref ar)]))
  refine OwnFin.step (fun tT kK => XS.iloadN X2.here hx rfl (hb hby d_jdk_42_method_149_35) rfl kK) ?_
  show OwnFin p e below _ (T2.setTop (mkF m 36 #[.val (.ref a), .val (.ref ar), .val (.int (0 : Int32)), .val (.int (1 : Int32)), .val .null, .unset] [(.int (1 : Int32)), (.int (0 : Int32)), (.ref ar)]))
  obtain ⟨_, _, ⟨T3, L3, k3, n3⟩, -, X3, ⟨Lc3, hQ3, l3, y3, z3⟩, st3⟩ := Jvm.LawKit.callS X2 hx (y := (⟨"java/lang/StringUTF16", "compress", "([CII)[B"⟩ : MethodName)) hown (mvT hZ (hw _ (List.mem_of_getElem? (i := 68) rfl))) (mvT hZ (hw _ (List.mem_of_getElem? (i := 69) rfl))) (mvT hZ (hw _ (List.mem_of_getElem? (i := 70) rfl))) (mvT hZ (hw _ (List.mem_of_getElem? (i := 71) rfl))) (by decide) (backOf (W := 0) (rm81b l Z a0 hw hEL wS [] ar k c0 h0 n0 (Nat.le_trans Z0 Kp0.1) hp4 hp7) hZ (hw _ (List.mem_of_getElem? (i := 71) rfl)) (hw _ (List.mem_of_getElem? (i := 70) rfl)) (by decide) (by decide)) (g := (mkF m 36 #[.val (.ref a), .val (.ref ar), .val (.int (0 : Int32)), .val (.int (1 : Int32)), .val .null, .unset] [(.int (1 : Int32)), (.int (0 : Int32)), (.ref ar)])) rfl (by rw [hml]; rfl) (argsL := [(.ref ar), (.int (0 : Int32)), (.int (1 : Int32))]) (rest := []) (lenOf pd_231 rfl) rfl (by show 2 * 0 + _ ≤ _; exact Nat.le_of_eq rfl) (hb hby d_jdk_42_method_149_36) (fun _ _ => ⟨rfl, e2, (by decide : 0 + 1 ≤ _), (by decide : 0 + 1 ≤ _)⟩)
  dsimp only [Pt.U, Pt.locs, Pt.cells, Pt.slots] at X3 l3 y3 z3 st3 hQ3
  subst l3 y3 z3
  obtain ⟨b4, ⟨kb5, ⟨rfl, N3q, K3, B3_0, P3_0⟩⟩⟩ := hQ3
  have N3 := Fr.app N0 N3q
  refine OwnFin.step st3 ?_
  have E3 : Ext h0 T3.heap := ⟨K3.1, fun x c q => K3.2.1 x c q nin0⟩
  have sz_b4 : h0.size ≤ b4 := Nat.le_trans Kp0.1 B3_0
  have Kp6 := Kp0.ext E3
  show OwnFin p e below _ (T3.setTop (mkF m 39 #[.val (.ref a), .val (.ref ar), .val (.int (0 : Int32)), .val (.int (1 : Int32)), .val .null, .unset] [(.ref b4)]))
  refine OwnFin.step (fun tT kK => XS.astore X3.here hx rfl (hb hby d_jdk_42_method_149_39) rfl rfl (l' := #[.val (.ref a), .val (.ref ar), .val (.int (0 : Int32)), .val (.int (1 : Int32)), .val .null, .val (.ref b4)]) rfl kK) ?_
  show OwnFin p e below _ (T3.setTop (mkF m 41 #[.val (.ref a), .val (.ref ar), .val (.int (0 : Int32)), .val (.int (1 : Int32)), .val .null, .val (.ref b4)] []))
  refine OwnFin.step (fun tT kK => XS.aloadN X3.here hx rfl (hb hby d_jdk_42_method_149_41) rfl rfl kK) ?_
  show OwnFin p e below _ (T3.setTop (mkF m 42 #[.val (.ref a), .val (.ref ar), .val (.int (0 : Int32)), .val (.int (1 : Int32)), .val .null, .val (.ref b4)] [(.ref a)]))
  refine OwnFin.step (fun tT kK => XS.aload X3.here hx rfl (hb hby d_jdk_42_method_149_42) rfl rfl kK) ?_
  show OwnFin p e below _ (T3.setTop (mkF m 44 #[.val (.ref a), .val (.ref ar), .val (.int (0 : Int32)), .val (.int (1 : Int32)), .val .null, .val (.ref b4)] [(.ref b4), (.ref a)]))
  refine OwnFin.step (fun tT kK => XS.iloadN X3.here hx rfl (hb hby d_jdk_42_method_149_44) rfl kK) ?_
  show OwnFin p e below _ (T3.setTop (mkF m 45 #[.val (.ref a), .val (.ref ar), .val (.int (0 : Int32)), .val (.int (1 : Int32)), .val .null, .val (.ref b4)] [(.int (1 : Int32)), (.ref b4), (.ref a)]))
  obtain ⟨_, _, ⟨T7, L7, k7, n7⟩, -, X7, ⟨Lc7, hQ7, l7, y7, z7⟩, st7⟩ := Jvm.LawKit.callS X3 hx (y := (⟨"java/lang/StringUTF16", "coderFromArrayLen", "([BI)B"⟩ : MethodName)) hown (mvT hZ (hw _ (List.mem_of_getElem? (i := 75) rfl))) (mvT hZ (hw _ (List.mem_of_getElem? (i := 76) rfl))) (mvT hZ (hw _ (List.mem_of_getElem? (i := 70) rfl))) (mvT hZ (hw _ (List.mem_of_getElem? (i := 77) rfl))) (by decide) (backOf (W := 1) (rm81c l Z a0 hw hEL wS [] b4 kb5 c0 T3.heap n0 (Nat.le_trans Z0 Kp6.1) P3_0) hZ (hw _ (List.mem_of_getElem? (i := 77) rfl)) (hw _ (List.mem_of_getElem? (i := 70) rfl)) (by decide) (by decide)) (g := (mkF m 45 #[.val (.ref a), .val (.ref ar), .val (.int (0 : Int32)), .val (.int (1 : Int32)), .val .null, .val (.ref b4)] [(.int (1 : Int32)), (.ref b4), (.ref a)])) rfl (by rw [hml]; rfl) (argsL := [(.ref b4), (.int (1 : Int32))]) (rest := [(.ref a)]) (lenOf pd_237 rfl) rfl (by show 2 * 0 + _ ≤ _; exact Nat.le_of_eq rfl) (hb hby d_jdk_42_method_149_45) (fun _ _ => ⟨rfl, rfl, (by decide : 1 + 0 ≤ _), (by decide : 1 + 0 ≤ _)⟩)
  dsimp only [Pt.U, Pt.locs, Pt.cells, Pt.slots] at X7 l7 y7 z7 st7 hQ7
  subst l7 y7 z7
  obtain ⟨rfl, N7q, e7⟩ := hQ7
  have N7 := Fr.app N3 N7q
  refine OwnFin.step st7 ?_
  show OwnFin p e below _ (T7.setTop (mkF m 48 #[.val (.ref a), .val (.ref ar), .val (.int (0 : Int32)), .val (.int (1 : Int32)), .val .null, .val (.ref b4)] [(.int (0 : Int32)), (.ref a)]))
  have f8 : Exa Z T3.heap a "java/lang/String" := (hp0.keep Kp6)
  have f9 : Fld Z T3.heap a "java/lang/String" "coder" "B" (.int (0 : Int32)) := (hp2.keep Kp6 nin0)
  obtain ⟨T10, h10, X10, e10, W10, st10⟩ := putF X7 hx hZ hown (host := "") (Or.inl (hw _ (List.mem_of_getElem? (i := 28) rfl))) Via.refl e7 f9 f8 (Or.inr ⟨(hw _ (List.mem_of_getElem? (i := 24) rfl)), rfl, hnm⟩) (hw _ (List.mem_of_getElem? (i := 9) rfl)) (ty := .byte) (by decide) rfl rfl (g := (mkF m 48 #[.val (.ref a), .val (.ref ar), .val (.int (0 : Int32)), .val (.int (1 : Int32)), .val .null, .val (.ref b4)] [(.int (0 : Int32)), (.ref a)])) rfl rfl (hb hby d_jdk_42_method_149_48)
  refine OwnFin.step st10 ?_
  have N10 := Fr.snoc X10 N7 hp3
  have Fw10 : Fld Z h10 a "java/lang/String" "coder" "B" (.int (0 : Int32)) := f9.same W10
  show OwnFin p e below _ (T10.setTop (mkF m 51 #[.val (.ref a), .val (.ref ar), .val (.int (0 : Int32)), .val (.int (1 : Int32)), .val .null, .val (.ref b4)] []))
  refine OwnFin.step (fun tT kK => XS.aloadN X10.here hx rfl (hb hby d_jdk_42_method_149_51) rfl rfl kK) ?_
  show OwnFin p e below _ (T10.setTop (mkF m 52 #[.val (.ref a), .val (.ref ar), .val (.int (0 : Int32)), .val (.int (1 : Int32)), .val .null, .val (.ref b4)] [(.ref a)]))
  refine OwnFin.step (fun tT kK => XS.aload X10.here hx rfl (hb hby d_jdk_42_method_149_52) rfl rfl kK) ?_
  show OwnFin p e below _ (T10.setTop (mkF m 54 #[.val (.ref a), .val (.ref ar), .val (.int (0 : Int32)), .val (.int (1 : Int32)), .val .null, .val (.ref b4)] [(.ref b4), (.ref a)]))
  have f12 : Exa Z h10 a "java/lang/String" := (f8.wr W10)
  have f13 : Fld Z h10 a "java/lang/String" "value" "[B" .null := ((hp1.ext E3).other W10 (Or.inr (slot_ne (Or.inr (hw _ (List.mem_of_getElem? (i := 23) rfl))) (Or.inr (hw _ (List.mem_of_getElem? (i := 24) rfl))) (by decide) (t := (.array .byte)) (t' := .byte) (by decide) (by decide))))
  obtain ⟨T14, h14, X14, e14, W14, st14⟩ := putF X10 hx hZ hown (host := "") (Or.inl (hw _ (List.mem_of_getElem? (i := 27) rfl))) Via.refl e10 f13 f12 (Or.inr ⟨(hw _ (List.mem_of_getElem? (i := 23) rfl)), rfl, hnm⟩) (hw _ (List.mem_of_getElem? (i := 9) rfl)) (ty := (.array .byte)) (by decide) rfl rfl (g := (mkF m 54 #[.val (.ref a), .val (.ref ar), .val (.int (0 : Int32)), .val (.int (1 : Int32)), .val .null, .val (.ref b4)] [(.ref b4), (.ref a)])) rfl rfl (hb hby d_jdk_42_method_149_54)
  refine OwnFin.step st14 ?_
  have N14 := Fr.snoc X14 N10 hp3
  have Fw14 : Fld Z h14 a "java/lang/String" "value" "[B" (.ref b4) := f13.same W14
  show OwnFin p e below _ (T14.setTop (mkF m 57 #[.val (.ref a), .val (.ref ar), .val (.int (0 : Int32)), .val (.int (1 : Int32)), .val .null, .val (.ref b4)] []))
  have f16 : Exa Z h14 a "java/lang/String" := (f12.wr W14)
  have f17 : Fld Z h14 a "java/lang/String" "coder" "B" (.int (0 : Int32)) := (Fw10.other W14 (Or.inr (slot_ne (Or.inr (hw _ (List.mem_of_getElem? (i := 24) rfl))) (Or.inr (hw _ (List.mem_of_getElem? (i := 23) rfl))) (by decide) (t := .byte) (t' := (.array .byte)) (by decide) (by decide))))
  have f18 : Arv Z h14 b4 kb5 .byte (1 : Int32) [(.int (nar .byte (c0.toInt8.toInt32)))] (.int (0 : Int32)) := ((P3_0.other W10 (Ne.symm (Nat.ne_of_lt (Nat.lt_of_lt_of_le hp0.lt sz_b4)))).other W14 (Ne.symm (Nat.ne_of_lt (Nat.lt_of_lt_of_le hp0.lt sz_b4))))
  obtain ⟨fs15, hr15, hrun15, hended15, hW15, hsame15⟩ := X14.leave (v := none) (fun _ => rfl)
  refine ⟨_, _, X14.returnOut hx Bd.returns (hb hby d_jdk_42_method_149_57) hr15, hrun15, hended15, _, _, rfl, ?_, ⟨_, rfl⟩, hW15, hsame15.mono (by decide) (by decide)⟩
  show Q81d Z a ar k cs c0 h0 n0 _ T14.heap _
  rw [e14]
  exact ⟨b4, kb5, rfl, N14, ((((Keep.refl h0 [a]).ext E3).wr W10 (Or.inl (List.mem_of_getElem? (i := 0) rfl))).wr W14 (Or.inl (List.mem_of_getElem? (i := 0) rfl))), sz_b4, f16, Fw14, f17, f18⟩
theorem ef_81 (m : MethodId) (a : Addr) (ar : Addr) : entryFrame m #[(.ref a), (.ref ar)] 2 = mkF m 0 #[.val (.ref a), .val (.ref ar)] [] := by first | (simp [entryFrame, mkF, argsToLocals, Value.category]; done) | rfl
def Q81 (Z : State) (a : Addr) (ar : Addr) (k : ClassId) (cs : Int32) (c0 : Int32) (h0 : Heap) (n0 : Nat) (vV : Option Value) (hH : Heap) (LL : List Loc) : Prop := ∃ b : Addr, ∃ kb : ClassId, vV = none ∧ Fr n0 LL ∧ Keep h0 hH [a] ∧ h0.size ≤ b ∧ (Exa Z hH a "java/lang/String") ∧ (Fld Z hH a "java/lang/String" "value" "[B" (.ref b)) ∧ (Fld Z hH a "java/lang/String" "coder" "B" (.int (0 : Int32))) ∧ (Arv Z hH b kb .byte (1 : Int32) [(.int (nar .byte (c0.toInt8.toInt32)))] (.int (0 : Int32)))
def R81 (Z : State) (a : Addr) (ar : Addr) (k : ClassId) (cs : Int32) (c0 : Int32) (h0 : Heap) (n0 : Nat) (U : State) (oO : Outcome) (U' : State) : Prop := ∃ vV LL, oO = .returned vV ∧ Q81 Z a ar k cs c0 h0 n0 vV U'.heap LL ∧ FrameEnd U oO U' LL ({ frames := 3, cells := 1, slots := 1, locals := 52 } : Room).cells ({ frames := 3, cells := 1, slots := 1, locals := 52 } : Room).slots
set_option maxRecDepth 65536 in
set_option maxHeartbeats 40000000 in
theorem rm81 (l : Launch) (Z : State) (a0 : Array Value) (hw : ∀ d ∈ tables_1, d.before a0 Z = true) (hEL : EW Z a0 OwnEL) (wS : ∀ a ∈ Bundle.stringAtoms, a.before a0 Z = true) (ws : List Jvm.Cond) (a : Addr) (ar : Addr) (k : ClassId) (cs : Int32) (c0 : Int32) (h0 : Heap) (n0 : Nat) (Z0 : n0 ≤ h0.size) (hp0 : Exa Z h0 a "java/lang/String") (hp1 : Fld Z h0 a "java/lang/String" "value" "[B" .null) (hp2 : Fld Z h0 a "java/lang/String" "coder" "B" (.int (0 : Int32))) (hp3 : n0 ≤ a) (hp4 : Arv Z h0 ar k .char (1 : Int32) [(.int c0)] (.int (0 : Int32))) (hp5 : Sta Z h0 "java/lang/String" "COMPACT_STRINGS" "Z" (.int cs)) (hp6 : ¬ cs = (0 : Int32)) (hp7 : ¬ (255 : Int32) < c0) :
    MetFree l (⟨"java/lang/String", "<init>", "([C)V"⟩ : MethodName) (head1 (Jvm.Cond.code (⟨"java/lang/String", "<init>", "([C)V"⟩ : MethodName) jdk_42_method_3_code 2 none :: ws) ({ frames := 3, cells := 1, slots := 1, locals := 52 } : Room)) (fun aA U => aA = #[(.ref a), (.ref ar)] ∧ Z.Warmed39 U.vm ∧ U.heap = h0) (fun _ _ _ _ _ => True) (fun _ U oO U' => ∃ vV LL, oO = .returned vV ∧ Q81 Z a ar k cs c0 h0 n0 vV U'.heap LL ∧ FrameEnd U oO U' LL ({ frames := 3, cells := 1, slots := 1, locals := 52 } : Room).cells ({ frames := 3, cells := 1, slots := 1, locals := 52 } : Room).slots) := by
  refine MetFree.of_bodySF (plainFor_of_name pn_31) hisR ?_
  intro p e s m args below meth cC s₁ Bd hml0 hP hK
  obtain ⟨rfl, hZ, hh⟩ := hP
  have hx := Bd.exec
  have hby := Bd.bytes
  have hml : cC.maxLocals = 2 := hml0
  have hown : s.vm.findClass "java/lang/String" = some m.cls := findClass_of_methodNamed Bd.named
  have hnm := (name_of_methodNamed Bd.named Bd.method).1
  have X0 : Stand p l e ({ frames := 3, cells := 1, slots := 1, locals := 52 } : Room) s m #[(.ref a), (.ref ar)] below meth cC s₁ [] 0 0 := Stand.of_body Bd
  have e0 : s₁.heap = h0 := by rw [← hh, Bd.state]; rfl
  have N0 := Fr.nil n0
  have Kp0 := Keep.refl h0 []
  show OwnFin p e below (R81 Z a ar k cs c0 h0 n0 s) (s₁.setTop (entryFrame m #[(.ref a), (.ref ar)] 2))
  rw [ef_81 m a ar]
  refine OwnFin.step (fun tT kK => XS.aloadN X0.here hx rfl (hb hby d_jdk_42_method_3_0) rfl rfl kK) ?_
  show OwnFin p e below _ (s₁.setTop (mkF m 1 #[.val (.ref a), .val (.ref ar)] [(.ref a)]))
  refine OwnFin.step (fun tT kK => XS.aloadN X0.here hx rfl (hb hby d_jdk_42_method_3_1) rfl rfl kK) ?_
  show OwnFin p e below _ (s₁.setTop (mkF m 2 #[.val (.ref a), .val (.ref ar)] [(.ref ar), (.ref a)]))
  refine OwnFin.step (fun tT kK => XS.iconst X0.here hx rfl (hb hby d_jdk_42_method_3_2) kK) ?_
  show OwnFin p e below _ (s₁.setTop (mkF m 3 #[.val (.ref a), .val (.ref ar)] [(.int (0 : Int32)), (.ref ar), (.ref a)]))
  refine OwnFin.step (fun tT kK => XS.aloadN X0.here hx rfl (hb hby d_jdk_42_method_3_3) rfl rfl kK) ?_
  show OwnFin p e below _ (s₁.setTop (mkF m 4 #[.val (.ref a), .val (.ref ar)] [(.ref ar), (.int (0 : Int32)), (.ref ar), (.ref a)]))
  obtain ⟨cl1, Ar1, -, Sz1, Ng1, -, -⟩ := id hp4
  refine OwnFin.step (fun tT kK => own_len X0 hx hZ e0 Ar1 Sz1 Ng1 (g := (mkF m 4 #[.val (.ref a), .val (.ref ar)] [(.ref ar), (.int (0 : Int32)), (.ref ar), (.ref a)])) rfl rfl (hb hby d_jdk_42_method_3_4) kK) ?_
  show OwnFin p e below _ (s₁.setTop (mkF m 5 #[.val (.ref a), .val (.ref ar)] [(.int (1 : Int32)), (.int (0 : Int32)), (.ref ar), (.ref a)]))
  refine OwnFin.step (fun tT kK => XS.aconstNull X0.here hx rfl (hb hby d_jdk_42_method_3_5) kK) ?_
  show OwnFin p e below _ (s₁.setTop (mkF m 6 #[.val (.ref a), .val (.ref ar)] [.null, (.int (1 : Int32)), (.int (0 : Int32)), (.ref ar), (.ref a)]))
  obtain ⟨_, _, ⟨T2, L2, k2, n2⟩, -, X2, ⟨Lc2, hQ2, l2, y2, z2⟩, st2⟩ := X0.specialBack hx (y := (⟨"java/lang/String", "<init>", "([CIILjava/lang/Void;)V"⟩ : MethodName)) rfl hown (mvT hZ (hw _ (List.mem_of_getElem? (i := 14) rfl))) (mvT hZ (hw _ (List.mem_of_getElem? (i := 15) rfl))) (mvT hZ (hw _ (List.mem_of_getElem? (i := 17) rfl))) (by decide) (backOf (W := 0) (rm81d l Z a0 hw hEL wS [] a ar k cs c0 h0 n0 (Nat.le_trans Z0 Kp0.1) hp0 hp1 hp2 hp3 hp4 hp5 hp6 hp7) hZ (hw _ (List.mem_of_getElem? (i := 17) rfl)) (hw _ (List.mem_of_getElem? (i := 10) rfl)) (by decide) (by decide)) (g := (mkF m 6 #[.val (.ref a), .val (.ref ar)] [.null, (.int (1 : Int32)), (.int (0 : Int32)), (.ref ar), (.ref a)])) rfl (by rw [hml]; rfl) (Steps.refl _) (a := a) (argsL := [(.ref ar), (.int (0 : Int32)), (.int (1 : Int32)), .null]) (rest := []) (lenOf pd_175 rfl) rfl (by show 2 * 0 + _ ≤ _; exact Nat.le_of_eq rfl) (hb hby d_jdk_42_method_3_6) (fun _ _ => ⟨rfl, e0, (by decide : 0 + 1 ≤ _), (by decide : 0 + 1 ≤ _)⟩)
  dsimp only [Pt.U, Pt.locs, Pt.cells, Pt.slots] at X2 l2 y2 z2 st2 hQ2
  subst l2 y2 z2
  obtain ⟨b3, ⟨kb4, ⟨rfl, N2q, K2, B2_0, P2_0, P2_1, P2_2, P2_3⟩⟩⟩ := hQ2
  have N2 := Fr.app N0 N2q
  refine OwnFin.step (fun tT kK => st2.trans kK) ?_
  have sz_b3 : h0.size ≤ b3 := Nat.le_trans Kp0.1 B2_0
  show OwnFin p e below _ (T2.setTop (mkF m 9 #[.val (.ref a), .val (.ref ar)] []))
  obtain ⟨fs6, hr6, hrun6, hended6, hW6, hsame6⟩ := X2.leave (v := none) (fun _ => rfl)
  refine ⟨_, _, X2.returnOut hx Bd.returns (hb hby d_jdk_42_method_3_9) hr6, hrun6, hended6, _, _, rfl, ?_, ⟨_, rfl⟩, hW6, hsame6.mono (by decide) (by decide)⟩
  show Q81 Z a ar k cs c0 h0 n0 _ T2.heap _
  exact ⟨b3, kb4, rfl, N2, ((Keep.refl h0 [a]).trans K2 (allS (P := fun x => x ∈ [a] ∨ h0.size ≤ x) (Or.inl (List.mem_of_getElem? (i := 0) rfl)) all0)), sz_b3, P2_0, P2_1, P2_2, P2_3⟩
theorem ef_82a (m : MethodId) (ar : Addr) (yb : Addr) : entryFrame m #[(.ref ar), (.int (0 : Int32)), (.ref yb), (.int (0 : Int32)), (.int (2 : Int32))] 7 = mkF m 0 #[.val (.ref ar), .val (.int (0 : Int32)), .val (.ref yb), .val (.int (0 : Int32)), .val (.int (2 : Int32)), .unset, .unset] [] := by first | (simp [entryFrame, mkF, argsToLocals, Value.category]; done) | rfl
def Q82a (Z : State) (ar : Addr) (yb : Addr) (k : ClassId) (kb : ClassId) (c0 : Int32) (c1 : Int32) (h0 : Heap) (n0 : Nat) (vV : Option Value) (hH : Heap) (LL : List Loc) : Prop := vV = some (.int (2 : Int32)) ∧ Fr n0 LL ∧ Keep h0 hH [yb] ∧ (Arv Z hH yb kb .byte (2 : Int32) [(.int (nar .byte (c0.toInt8.toInt32))), (.int (nar .byte (c1.toInt8.toInt32)))] (.int (0 : Int32)))
def R82a (Z : State) (ar : Addr) (yb : Addr) (k : ClassId) (kb : ClassId) (c0 : Int32) (c1 : Int32) (h0 : Heap) (n0 : Nat) (U : State) (oO : Outcome) (U' : State) : Prop := ∃ vV LL, oO = .returned vV ∧ Q82a Z ar yb k kb c0 c1 h0 n0 vV U'.heap LL ∧ FrameEnd U oO U' LL ({ frames := 0, cells := 0, slots := 0, locals := 0 } : Room).cells ({ frames := 0, cells := 0, slots := 0, locals := 0 } : Room).slots
set_option maxRecDepth 65536 in
set_option maxHeartbeats 40000000 in
theorem rm82a (l : Launch) (Z : State) (a0 : Array Value) (hw : ∀ d ∈ tables_1, d.before a0 Z = true) (hEL : EW Z a0 OwnEL) (wS : ∀ a ∈ Bundle.stringAtoms, a.before a0 Z = true) (ws : List Jvm.Cond) (ar : Addr) (yb : Addr) (k : ClassId) (kb : ClassId) (c0 : Int32) (c1 : Int32) (h0 : Heap) (n0 : Nat) (Z0 : n0 ≤ h0.size) (hp0 : Arv Z h0 ar k .char (2 : Int32) [(.int c0), (.int c1)] (.int (0 : Int32))) (hp1 : Arv Z h0 yb kb .byte (2 : Int32) [(.int (0 : Int32)), (.int (0 : Int32))] (.int (0 : Int32))) (hp2 : ¬ (255 : Int32) < c0) (hp3 : ¬ (255 : Int32) < c1) (hp4 : n0 ≤ yb) (hp5 : ar ≠ yb) :
    MetFree l (⟨"java/lang/StringUTF16", "compress", "([CI[BII)I"⟩ : MethodName) (head1 (Jvm.Cond.code (⟨"java/lang/StringUTF16", "compress", "([CI[BII)I"⟩ : MethodName) jdk_52_method_21_code 7 (some .int) :: ws) ({ frames := 0, cells := 0, slots := 0, locals := 0 } : Room)) (fun aA U => aA = #[(.ref ar), (.int (0 : Int32)), (.ref yb), (.int (0 : Int32)), (.int (2 : Int32))] ∧ Z.Warmed39 U.vm ∧ U.heap = h0) (fun _ _ _ _ _ => True) (fun _ U oO U' => ∃ vV LL, oO = .returned vV ∧ Q82a Z ar yb k kb c0 c1 h0 n0 vV U'.heap LL ∧ FrameEnd U oO U' LL ({ frames := 0, cells := 0, slots := 0, locals := 0 } : Room).cells ({ frames := 0, cells := 0, slots := 0, locals := 0 } : Room).slots) := by
  refine MetFree.of_bodySF (plainFor_of_name pn_177) hisR ?_
  intro p e s m args below meth cC s₁ Bd hml0 hP hK
  obtain ⟨rfl, hZ, hh⟩ := hP
  have hx := Bd.exec
  have hby := Bd.bytes
  have hml : cC.maxLocals = 7 := hml0
  have hown : s.vm.findClass "java/lang/StringUTF16" = some m.cls := findClass_of_methodNamed Bd.named
  have hnm := (name_of_methodNamed Bd.named Bd.method).1
  have X0 : Stand p l e ({ frames := 0, cells := 0, slots := 0, locals := 0 } : Room) s m #[(.ref ar), (.int (0 : Int32)), (.ref yb), (.int (0 : Int32)), (.int (2 : Int32))] below meth cC s₁ [] 0 0 := Stand.of_body Bd
  have e0 : s₁.heap = h0 := by rw [← hh, Bd.state]; rfl
  have N0 := Fr.nil n0
  have Kp0 := Keep.refl h0 []
  show OwnFin p e below (R82a Z ar yb k kb c0 c1 h0 n0 s) (s₁.setTop (entryFrame m #[(.ref ar), (.int (0 : Int32)), (.ref yb), (.int (0 : Int32)), (.int (2 : Int32))] 7))
  rw [ef_82a m ar yb]
  refine OwnFin.step (fun tT kK => XS.iconst X0.here hx rfl (hb hby d_jdk_52_method_21_0) kK) ?_
  show OwnFin p e below _ (s₁.setTop (mkF m 1 #[.val (.ref ar), .val (.int (0 : Int32)), .val (.ref yb), .val (.int (0 : Int32)), .val (.int (2 : Int32)), .unset, .unset] [(.int (0 : Int32))]))
  refine OwnFin.step (fun tT kK => XS.istore X0.here hx rfl (hb hby d_jdk_52_method_21_1) rfl (l' := #[.val (.ref ar), .val (.int (0 : Int32)), .val (.ref yb), .val (.int (0 : Int32)), .val (.int (2 : Int32)), .val (.int (0 : Int32)), .unset]) rfl kK) ?_
  show OwnFin p e below _ (s₁.setTop (mkF m 3 #[.val (.ref ar), .val (.int (0 : Int32)), .val (.ref yb), .val (.int (0 : Int32)), .val (.int (2 : Int32)), .val (.int (0 : Int32)), .unset] []))
  refine OwnFin.step (fun tT kK => XS.iload X0.here hx rfl (hb hby d_jdk_52_method_21_3) rfl kK) ?_
  show OwnFin p e below _ (s₁.setTop (mkF m 5 #[.val (.ref ar), .val (.int (0 : Int32)), .val (.ref yb), .val (.int (0 : Int32)), .val (.int (2 : Int32)), .val (.int (0 : Int32)), .unset] [(.int (0 : Int32))]))
  refine OwnFin.step (fun tT kK => XS.iload X0.here hx rfl (hb hby d_jdk_52_method_21_5) rfl kK) ?_
  show OwnFin p e below _ (s₁.setTop (mkF m 7 #[.val (.ref ar), .val (.int (0 : Int32)), .val (.ref yb), .val (.int (0 : Int32)), .val (.int (2 : Int32)), .val (.int (0 : Int32)), .unset] [(.int (2 : Int32)), (.int (0 : Int32))]))
  refine OwnFin.step (fun tT kK => XS.icmpNo X0.here hx rfl (hb hby d_jdk_52_method_21_7) rfl (tlt (by decide : (0 : Int32) < (2 : Int32))).2.1 kK) ?_
  show OwnFin p e below _ (s₁.setTop (mkF m 10 #[.val (.ref ar), .val (.int (0 : Int32)), .val (.ref yb), .val (.int (0 : Int32)), .val (.int (2 : Int32)), .val (.int (0 : Int32)), .unset] []))
  refine OwnFin.step (fun tT kK => XS.aloadN X0.here hx rfl (hb hby d_jdk_52_method_21_10) rfl rfl kK) ?_
  show OwnFin p e below _ (s₁.setTop (mkF m 11 #[.val (.ref ar), .val (.int (0 : Int32)), .val (.ref yb), .val (.int (0 : Int32)), .val (.int (2 : Int32)), .val (.int (0 : Int32)), .unset] [(.ref ar)]))
  refine OwnFin.step (fun tT kK => XS.iloadN X0.here hx rfl (hb hby d_jdk_52_method_21_11) rfl kK) ?_
  show OwnFin p e below _ (s₁.setTop (mkF m 12 #[.val (.ref ar), .val (.int (0 : Int32)), .val (.ref yb), .val (.int (0 : Int32)), .val (.int (2 : Int32)), .val (.int (0 : Int32)), .unset] [(.int (0 : Int32)), (.ref ar)]))
  obtain ⟨cl1, Ar1, q1, Sz1, Ng1, H1, G1⟩ := id hp0
  have hin1 : ¬ ((0 : Int32) < 0 ∨ cl1.slots.size ≤ ((0 : Int32)).toNatClampNeg) := inb_of Sz1 ⟨by decide, by decide⟩
  refine OwnFin.step (fun tT kK => X0.caload hx (j := (0 : Int32)) (v := (.int c0)) (by rw [e0]; exact Ar1.1) (State.isArrayOf_alike hZ.alike Ar1.2.1) Ar1.2.2 hin1 (H1.at hin1 rfl) (g := (mkF m 12 #[.val (.ref ar), .val (.int (0 : Int32)), .val (.ref yb), .val (.int (0 : Int32)), .val (.int (2 : Int32)), .val (.int (0 : Int32)), .unset] [(.int (0 : Int32)), (.ref ar)])) rfl rfl (hb hby d_jdk_52_method_21_12) _ kK) ?_
  show OwnFin p e below _ (s₁.setTop (mkF m 13 #[.val (.ref ar), .val (.int (0 : Int32)), .val (.ref yb), .val (.int (0 : Int32)), .val (.int (2 : Int32)), .val (.int (0 : Int32)), .unset] [(.int c0)]))
  refine OwnFin.step (fun tT kK => XS.istore X0.here hx rfl (hb hby d_jdk_52_method_21_13) rfl (l' := #[.val (.ref ar), .val (.int (0 : Int32)), .val (.ref yb), .val (.int (0 : Int32)), .val (.int (2 : Int32)), .val (.int (0 : Int32)), .val (.int c0)]) rfl kK) ?_
  show OwnFin p e below _ (s₁.setTop (mkF m 15 #[.val (.ref ar), .val (.int (0 : Int32)), .val (.ref yb), .val (.int (0 : Int32)), .val (.int (2 : Int32)), .val (.int (0 : Int32)), .val (.int c0)] []))
  refine OwnFin.step (fun tT kK => XS.iload X0.here hx rfl (hb hby d_jdk_52_method_21_15) rfl kK) ?_
  show OwnFin p e below _ (s₁.setTop (mkF m 17 #[.val (.ref ar), .val (.int (0 : Int32)), .val (.ref yb), .val (.int (0 : Int32)), .val (.int (2 : Int32)), .val (.int (0 : Int32)), .val (.int c0)] [(.int c0)]))
  refine OwnFin.step (fun tT kK => XS.sipush X0.here hx rfl (hb hby d_jdk_52_method_21_17) kK) ?_
  show OwnFin p e below _ (s₁.setTop (mkF m 20 #[.val (.ref ar), .val (.int (0 : Int32)), .val (.ref yb), .val (.int (0 : Int32)), .val (.int (2 : Int32)), .val (.int (0 : Int32)), .val (.int c0)] [(.int (255 : Int32)), (.int c0)]))
  refine OwnFin.step (fun tT kK => XS.icmpYes X0.here hx rfl (pc0 := 20) (pc' := 26) rfl (hb hby d_jdk_52_method_21_20) rfl (flt (hp2 : ¬ ((255 : Int32) < c0))).2.2.2 (by decide) (by decide) kK) ?_
  show OwnFin p e below _ (s₁.setTop (mkF m 26 #[.val (.ref ar), .val (.int (0 : Int32)), .val (.ref yb), .val (.int (0 : Int32)), .val (.int (2 : Int32)), .val (.int (0 : Int32)), .val (.int c0)] []))
  refine OwnFin.step (fun tT kK => XS.aloadN X0.here hx rfl (hb hby d_jdk_52_method_21_26) rfl rfl kK) ?_
  show OwnFin p e below _ (s₁.setTop (mkF m 27 #[.val (.ref ar), .val (.int (0 : Int32)), .val (.ref yb), .val (.int (0 : Int32)), .val (.int (2 : Int32)), .val (.int (0 : Int32)), .val (.int c0)] [(.ref yb)]))
  refine OwnFin.step (fun tT kK => XS.iloadN X0.here hx rfl (hb hby d_jdk_52_method_21_27) rfl kK) ?_
  show OwnFin p e below _ (s₁.setTop (mkF m 28 #[.val (.ref ar), .val (.int (0 : Int32)), .val (.ref yb), .val (.int (0 : Int32)), .val (.int (2 : Int32)), .val (.int (0 : Int32)), .val (.int c0)] [(.int (0 : Int32)), (.ref yb)]))
  refine OwnFin.step (fun tT kK => XS.iload X0.here hx rfl (hb hby d_jdk_52_method_21_28) rfl kK) ?_
  show OwnFin p e below _ (s₁.setTop (mkF m 30 #[.val (.ref ar), .val (.int (0 : Int32)), .val (.ref yb), .val (.int (0 : Int32)), .val (.int (2 : Int32)), .val (.int (0 : Int32)), .val (.int c0)] [(.int c0), (.int (0 : Int32)), (.ref yb)]))
  refine OwnFin.step (fun tT kK => XS.i2b X0.here hx rfl (hb hby d_jdk_52_method_21_30) rfl kK) ?_
  show OwnFin p e below _ (s₁.setTop (mkF m 31 #[.val (.ref ar), .val (.int (0 : Int32)), .val (.ref yb), .val (.int (0 : Int32)), .val (.int (2 : Int32)), .val (.int (0 : Int32)), .val (.int c0)] [(.int (c0.toInt8.toInt32)), (.int (0 : Int32)), (.ref yb)]))
  obtain ⟨cl2, Ar2, q2, Sz2, Ng2, H2, G2⟩ := id hp1
  have hin2 : ¬ ((0 : Int32) < 0 ∨ cl2.slots.size ≤ ((0 : Int32)).toNatClampNeg) := inb_of Sz2 ⟨by decide, by decide⟩
  obtain ⟨T3, h3, X3, e3, W3, st3⟩ := stB X0 hx hZ e0 Ar2 (j := (0 : Int32)) hin2 (g := (mkF m 31 #[.val (.ref ar), .val (.int (0 : Int32)), .val (.ref yb), .val (.int (0 : Int32)), .val (.int (2 : Int32)), .val (.int (0 : Int32)), .val (.int c0)] [(.int (c0.toInt8.toInt32)), (.int (0 : Int32)), (.ref yb)])) rfl rfl (hb hby d_jdk_52_method_21_31)
  refine OwnFin.step st3 ?_
  have N3 := Fr.snoc X3 N0 hp4
  have V3 : Arv Z h3 yb kb .byte (2 : Int32) [(.int (nar .byte (c0.toInt8.toInt32))), (.int (0 : Int32))] (.int (0 : Int32)) := Arv.set Ar2 q2 Sz2 Ng2 H2 G2 (fits_nar_byte _) W3 0 rfl (Nat.le_of_ble_eq_true rfl)
  show OwnFin p e below _ (T3.setTop (mkF m 32 #[.val (.ref ar), .val (.int (0 : Int32)), .val (.ref yb), .val (.int (0 : Int32)), .val (.int (2 : Int32)), .val (.int (0 : Int32)), .val (.int c0)] []))
  refine OwnFin.step (fun tT kK => XS.iinc X3.here hx rfl (hb hby d_jdk_52_method_21_32) rfl (l' := #[.val (.ref ar), .val (.int (1 : Int32)), .val (.ref yb), .val (.int (0 : Int32)), .val (.int (2 : Int32)), .val (.int (0 : Int32)), .val (.int c0)]) rfl kK) ?_
  show OwnFin p e below _ (T3.setTop (mkF m 35 #[.val (.ref ar), .val (.int (1 : Int32)), .val (.ref yb), .val (.int (0 : Int32)), .val (.int (2 : Int32)), .val (.int (0 : Int32)), .val (.int c0)] []))
  refine OwnFin.step (fun tT kK => XS.iinc X3.here hx rfl (hb hby d_jdk_52_method_21_35) rfl (l' := #[.val (.ref ar), .val (.int (1 : Int32)), .val (.ref yb), .val (.int (1 : Int32)), .val (.int (2 : Int32)), .val (.int (0 : Int32)), .val (.int c0)]) rfl kK) ?_
  show OwnFin p e below _ (T3.setTop (mkF m 38 #[.val (.ref ar), .val (.int (1 : Int32)), .val (.ref yb), .val (.int (1 : Int32)), .val (.int (2 : Int32)), .val (.int (0 : Int32)), .val (.int c0)] []))
  refine OwnFin.step (fun tT kK => XS.iinc X3.here hx rfl (hb hby d_jdk_52_method_21_38) rfl (l' := #[.val (.ref ar), .val (.int (1 : Int32)), .val (.ref yb), .val (.int (1 : Int32)), .val (.int (2 : Int32)), .val (.int (1 : Int32)), .val (.int c0)]) rfl kK) ?_
  show OwnFin p e below _ (T3.setTop (mkF m 41 #[.val (.ref ar), .val (.int (1 : Int32)), .val (.ref yb), .val (.int (1 : Int32)), .val (.int (2 : Int32)), .val (.int (1 : Int32)), .val (.int c0)] []))
  refine OwnFin.step (fun tT kK => XS.goto X3.here hx rfl (pc0 := 41) (pc' := 3) rfl (hb hby d_jdk_52_method_21_41) (by decide) (by decide) kK) ?_
  show OwnFin p e below _ (T3.setTop (mkF m 3 #[.val (.ref ar), .val (.int (1 : Int32)), .val (.ref yb), .val (.int (1 : Int32)), .val (.int (2 : Int32)), .val (.int (1 : Int32)), .val (.int c0)] []))
  refine OwnFin.step (fun tT kK => XS.iload X3.here hx rfl (hb hby d_jdk_52_method_21_3) rfl kK) ?_
  show OwnFin p e below _ (T3.setTop (mkF m 5 #[.val (.ref ar), .val (.int (1 : Int32)), .val (.ref yb), .val (.int (1 : Int32)), .val (.int (2 : Int32)), .val (.int (1 : Int32)), .val (.int c0)] [(.int (1 : Int32))]))
  refine OwnFin.step (fun tT kK => XS.iload X3.here hx rfl (hb hby d_jdk_52_method_21_5) rfl kK) ?_
  show OwnFin p e below _ (T3.setTop (mkF m 7 #[.val (.ref ar), .val (.int (1 : Int32)), .val (.ref yb), .val (.int (1 : Int32)), .val (.int (2 : Int32)), .val (.int (1 : Int32)), .val (.int c0)] [(.int (2 : Int32)), (.int (1 : Int32))]))
  refine OwnFin.step (fun tT kK => XS.icmpNo X3.here hx rfl (hb hby d_jdk_52_method_21_7) rfl (tlt (by decide : (1 : Int32) < (2 : Int32))).2.1 kK) ?_
  show OwnFin p e below _ (T3.setTop (mkF m 10 #[.val (.ref ar), .val (.int (1 : Int32)), .val (.ref yb), .val (.int (1 : Int32)), .val (.int (2 : Int32)), .val (.int (1 : Int32)), .val (.int c0)] []))
  refine OwnFin.step (fun tT kK => XS.aloadN X3.here hx rfl (hb hby d_jdk_52_method_21_10) rfl rfl kK) ?_
  show OwnFin p e below _ (T3.setTop (mkF m 11 #[.val (.ref ar), .val (.int (1 : Int32)), .val (.ref yb), .val (.int (1 : Int32)), .val (.int (2 : Int32)), .val (.int (1 : Int32)), .val (.int c0)] [(.ref ar)]))
  refine OwnFin.step (fun tT kK => XS.iloadN X3.here hx rfl (hb hby d_jdk_52_method_21_11) rfl kK) ?_
  show OwnFin p e below _ (T3.setTop (mkF m 12 #[.val (.ref ar), .val (.int (1 : Int32)), .val (.ref yb), .val (.int (1 : Int32)), .val (.int (2 : Int32)), .val (.int (1 : Int32)), .val (.int c0)] [(.int (1 : Int32)), (.ref ar)]))
  have f5 : Arv Z h3 ar k .char (2 : Int32) [(.int c0), (.int c1)] (.int (0 : Int32)) := (hp0.other W3 hp5)
  obtain ⟨cl6, Ar6, q6, Sz6, Ng6, H6, G6⟩ := id f5
  have hin6 : ¬ ((1 : Int32) < 0 ∨ cl6.slots.size ≤ ((1 : Int32)).toNatClampNeg) := inb_of Sz6 ⟨by decide, by decide⟩
  refine OwnFin.step (fun tT kK => X3.caload hx (j := (1 : Int32)) (v := (.int c1)) (by rw [e3]; exact Ar6.1) (State.isArrayOf_alike hZ.alike Ar6.2.1) Ar6.2.2 hin6 (H6.at hin6 rfl) (g := (mkF m 12 #[.val (.ref ar), .val (.int (1 : Int32)), .val (.ref yb), .val (.int (1 : Int32)), .val (.int (2 : Int32)), .val (.int (1 : Int32)), .val (.int c0)] [(.int (1 : Int32)), (.ref ar)])) rfl rfl (hb hby d_jdk_52_method_21_12) _ kK) ?_
  show OwnFin p e below _ (T3.setTop (mkF m 13 #[.val (.ref ar), .val (.int (1 : Int32)), .val (.ref yb), .val (.int (1 : Int32)), .val (.int (2 : Int32)), .val (.int (1 : Int32)), .val (.int c0)] [(.int c1)]))
  refine OwnFin.step (fun tT kK => XS.istore X3.here hx rfl (hb hby d_jdk_52_method_21_13) rfl (l' := #[.val (.ref ar), .val (.int (1 : Int32)), .val (.ref yb), .val (.int (1 : Int32)), .val (.int (2 : Int32)), .val (.int (1 : Int32)), .val (.int c1)]) rfl kK) ?_
  show OwnFin p e below _ (T3.setTop (mkF m 15 #[.val (.ref ar), .val (.int (1 : Int32)), .val (.ref yb), .val (.int (1 : Int32)), .val (.int (2 : Int32)), .val (.int (1 : Int32)), .val (.int c1)] []))
  refine OwnFin.step (fun tT kK => XS.iload X3.here hx rfl (hb hby d_jdk_52_method_21_15) rfl kK) ?_
  show OwnFin p e below _ (T3.setTop (mkF m 17 #[.val (.ref ar), .val (.int (1 : Int32)), .val (.ref yb), .val (.int (1 : Int32)), .val (.int (2 : Int32)), .val (.int (1 : Int32)), .val (.int c1)] [(.int c1)]))
  refine OwnFin.step (fun tT kK => XS.sipush X3.here hx rfl (hb hby d_jdk_52_method_21_17) kK) ?_
  show OwnFin p e below _ (T3.setTop (mkF m 20 #[.val (.ref ar), .val (.int (1 : Int32)), .val (.ref yb), .val (.int (1 : Int32)), .val (.int (2 : Int32)), .val (.int (1 : Int32)), .val (.int c1)] [(.int (255 : Int32)), (.int c1)]))
  refine OwnFin.step (fun tT kK => XS.icmpYes X3.here hx rfl (pc0 := 20) (pc' := 26) rfl (hb hby d_jdk_52_method_21_20) rfl (flt (hp3 : ¬ ((255 : Int32) < c1))).2.2.2 (by decide) (by decide) kK) ?_
  show OwnFin p e below _ (T3.setTop (mkF m 26 #[.val (.ref ar), .val (.int (1 : Int32)), .val (.ref yb), .val (.int (1 : Int32)), .val (.int (2 : Int32)), .val (.int (1 : Int32)), .val (.int c1)] []))
  refine OwnFin.step (fun tT kK => XS.aloadN X3.here hx rfl (hb hby d_jdk_52_method_21_26) rfl rfl kK) ?_
  show OwnFin p e below _ (T3.setTop (mkF m 27 #[.val (.ref ar), .val (.int (1 : Int32)), .val (.ref yb), .val (.int (1 : Int32)), .val (.int (2 : Int32)), .val (.int (1 : Int32)), .val (.int c1)] [(.ref yb)]))
  refine OwnFin.step (fun tT kK => XS.iloadN X3.here hx rfl (hb hby d_jdk_52_method_21_27) rfl kK) ?_
  show OwnFin p e below _ (T3.setTop (mkF m 28 #[.val (.ref ar), .val (.int (1 : Int32)), .val (.ref yb), .val (.int (1 : Int32)), .val (.int (2 : Int32)), .val (.int (1 : Int32)), .val (.int c1)] [(.int (1 : Int32)), (.ref yb)]))
  refine OwnFin.step (fun tT kK => XS.iload X3.here hx rfl (hb hby d_jdk_52_method_21_28) rfl kK) ?_
  show OwnFin p e below _ (T3.setTop (mkF m 30 #[.val (.ref ar), .val (.int (1 : Int32)), .val (.ref yb), .val (.int (1 : Int32)), .val (.int (2 : Int32)), .val (.int (1 : Int32)), .val (.int c1)] [(.int c1), (.int (1 : Int32)), (.ref yb)]))
  refine OwnFin.step (fun tT kK => XS.i2b X3.here hx rfl (hb hby d_jdk_52_method_21_30) rfl kK) ?_
  show OwnFin p e below _ (T3.setTop (mkF m 31 #[.val (.ref ar), .val (.int (1 : Int32)), .val (.ref yb), .val (.int (1 : Int32)), .val (.int (2 : Int32)), .val (.int (1 : Int32)), .val (.int c1)] [(.int (c1.toInt8.toInt32)), (.int (1 : Int32)), (.ref yb)]))
  obtain ⟨cl7, Ar7, q7, Sz7, Ng7, H7, G7⟩ := id V3
  have hin7 : ¬ ((1 : Int32) < 0 ∨ cl7.slots.size ≤ ((1 : Int32)).toNatClampNeg) := inb_of Sz7 ⟨by decide, by decide⟩
  obtain ⟨T8, h8, X8, e8, W8, st8⟩ := stB X3 hx hZ e3 Ar7 (j := (1 : Int32)) hin7 (g := (mkF m 31 #[.val (.ref ar), .val (.int (1 : Int32)), .val (.ref yb), .val (.int (1 : Int32)), .val (.int (2 : Int32)), .val (.int (1 : Int32)), .val (.int c1)] [(.int (c1.toInt8.toInt32)), (.int (1 : Int32)), (.ref yb)])) rfl rfl (hb hby d_jdk_52_method_21_31)
  refine OwnFin.step st8 ?_
  have N8 := Fr.snoc X8 N3 hp4
  have V8 : Arv Z h8 yb kb .byte (2 : Int32) [(.int (nar .byte (c0.toInt8.toInt32))), (.int (nar .byte (c1.toInt8.toInt32)))] (.int (0 : Int32)) := Arv.set Ar7 q7 Sz7 Ng7 H7 G7 (fits_nar_byte _) W8 1 rfl (Nat.le_of_ble_eq_true rfl)
  show OwnFin p e below _ (T8.setTop (mkF m 32 #[.val (.ref ar), .val (.int (1 : Int32)), .val (.ref yb), .val (.int (1 : Int32)), .val (.int (2 : Int32)), .val (.int (1 : Int32)), .val (.int c1)] []))
  refine OwnFin.step (fun tT kK => XS.iinc X8.here hx rfl (hb hby d_jdk_52_method_21_32) rfl (l' := #[.val (.ref ar), .val (.int (2 : Int32)), .val (.ref yb), .val (.int (1 : Int32)), .val (.int (2 : Int32)), .val (.int (1 : Int32)), .val (.int c1)]) rfl kK) ?_
  show OwnFin p e below _ (T8.setTop (mkF m 35 #[.val (.ref ar), .val (.int (2 : Int32)), .val (.ref yb), .val (.int (1 : Int32)), .val (.int (2 : Int32)), .val (.int (1 : Int32)), .val (.int c1)] []))
  refine OwnFin.step (fun tT kK => XS.iinc X8.here hx rfl (hb hby d_jdk_52_method_21_35) rfl (l' := #[.val (.ref ar), .val (.int (2 : Int32)), .val (.ref yb), .val (.int (2 : Int32)), .val (.int (2 : Int32)), .val (.int (1 : Int32)), .val (.int c1)]) rfl kK) ?_
  show OwnFin p e below _ (T8.setTop (mkF m 38 #[.val (.ref ar), .val (.int (2 : Int32)), .val (.ref yb), .val (.int (2 : Int32)), .val (.int (2 : Int32)), .val (.int (1 : Int32)), .val (.int c1)] []))
  refine OwnFin.step (fun tT kK => XS.iinc X8.here hx rfl (hb hby d_jdk_52_method_21_38) rfl (l' := #[.val (.ref ar), .val (.int (2 : Int32)), .val (.ref yb), .val (.int (2 : Int32)), .val (.int (2 : Int32)), .val (.int (2 : Int32)), .val (.int c1)]) rfl kK) ?_
  show OwnFin p e below _ (T8.setTop (mkF m 41 #[.val (.ref ar), .val (.int (2 : Int32)), .val (.ref yb), .val (.int (2 : Int32)), .val (.int (2 : Int32)), .val (.int (2 : Int32)), .val (.int c1)] []))
  refine OwnFin.step (fun tT kK => XS.goto X8.here hx rfl (pc0 := 41) (pc' := 3) rfl (hb hby d_jdk_52_method_21_41) (by decide) (by decide) kK) ?_
  show OwnFin p e below _ (T8.setTop (mkF m 3 #[.val (.ref ar), .val (.int (2 : Int32)), .val (.ref yb), .val (.int (2 : Int32)), .val (.int (2 : Int32)), .val (.int (2 : Int32)), .val (.int c1)] []))
  refine OwnFin.step (fun tT kK => XS.iload X8.here hx rfl (hb hby d_jdk_52_method_21_3) rfl kK) ?_
  show OwnFin p e below _ (T8.setTop (mkF m 5 #[.val (.ref ar), .val (.int (2 : Int32)), .val (.ref yb), .val (.int (2 : Int32)), .val (.int (2 : Int32)), .val (.int (2 : Int32)), .val (.int c1)] [(.int (2 : Int32))]))
  refine OwnFin.step (fun tT kK => XS.iload X8.here hx rfl (hb hby d_jdk_52_method_21_5) rfl kK) ?_
  show OwnFin p e below _ (T8.setTop (mkF m 7 #[.val (.ref ar), .val (.int (2 : Int32)), .val (.ref yb), .val (.int (2 : Int32)), .val (.int (2 : Int32)), .val (.int (2 : Int32)), .val (.int c1)] [(.int (2 : Int32)), (.int (2 : Int32))]))
  refine OwnFin.step (fun tT kK => XS.icmpYes X8.here hx rfl (pc0 := 7) (pc' := 44) rfl (hb hby d_jdk_52_method_21_7) rfl (flt (by decide : ¬ ((2 : Int32) < (2 : Int32)))).2.1 (by decide) (by decide) kK) ?_
  show OwnFin p e below _ (T8.setTop (mkF m 44 #[.val (.ref ar), .val (.int (2 : Int32)), .val (.ref yb), .val (.int (2 : Int32)), .val (.int (2 : Int32)), .val (.int (2 : Int32)), .val (.int c1)] []))
  refine OwnFin.step (fun tT kK => XS.iload X8.here hx rfl (hb hby d_jdk_52_method_21_44) rfl kK) ?_
  show OwnFin p e below _ (T8.setTop (mkF m 46 #[.val (.ref ar), .val (.int (2 : Int32)), .val (.ref yb), .val (.int (2 : Int32)), .val (.int (2 : Int32)), .val (.int (2 : Int32)), .val (.int c1)] [(.int (2 : Int32))]))
  obtain ⟨fs9, hr9, hrun9, hended9, hW9, hsame9⟩ := X8.leave (v := (some (.int (2 : Int32)))) (fun h => by rw [Bd.returns] at h; cases h)
  refine ⟨_, _, retOut X8 hx Bd.returns rfl (Or.inl ⟨rfl, Or.inl rfl, _, rfl⟩) (hb hby d_jdk_52_method_21_46) hr9, hrun9, hended9, _, _, rfl, ?_, ⟨_, rfl⟩, hW9, hsame9.mono (by decide) (by decide)⟩
  show Q82a Z ar yb k kb c0 c1 h0 n0 _ T8.heap _
  rw [e8]
  exact ⟨rfl, N8, (((Keep.refl h0 [yb]).wr W3 (Or.inl (List.mem_of_getElem? (i := 0) rfl))).wr W8 (Or.inl (List.mem_of_getElem? (i := 0) rfl))), V8⟩
theorem ef_82b (m : MethodId) (ar : Addr) : entryFrame m #[(.ref ar), (.int (0 : Int32)), (.int (2 : Int32))] 6 = mkF m 0 #[.val (.ref ar), .val (.int (0 : Int32)), .val (.int (2 : Int32)), .unset, .unset, .unset] [] := by first | (simp [entryFrame, mkF, argsToLocals, Value.category]; done) | rfl
def Q82b (Z : State) (ar : Addr) (k : ClassId) (c0 : Int32) (c1 : Int32) (h0 : Heap) (n0 : Nat) (vV : Option Value) (hH : Heap) (LL : List Loc) : Prop := ∃ b : Addr, ∃ kb : ClassId, vV = some (.ref b) ∧ Fr n0 LL ∧ Keep h0 hH [] ∧ h0.size ≤ b ∧ (Arv Z hH b kb .byte (2 : Int32) [(.int (nar .byte (c0.toInt8.toInt32))), (.int (nar .byte (c1.toInt8.toInt32)))] (.int (0 : Int32)))
def R82b (Z : State) (ar : Addr) (k : ClassId) (c0 : Int32) (c1 : Int32) (h0 : Heap) (n0 : Nat) (U : State) (oO : Outcome) (U' : State) : Prop := ∃ vV LL, oO = .returned vV ∧ Q82b Z ar k c0 c1 h0 n0 vV U'.heap LL ∧ FrameEnd U oO U' LL ({ frames := 1, cells := 1, slots := 2, locals := 18 } : Room).cells ({ frames := 1, cells := 1, slots := 2, locals := 18 } : Room).slots
set_option maxRecDepth 65536 in
set_option maxHeartbeats 40000000 in
theorem rm82b (l : Launch) (Z : State) (a0 : Array Value) (hw : ∀ d ∈ tables_1, d.before a0 Z = true) (hEL : EW Z a0 OwnEL) (wS : ∀ a ∈ Bundle.stringAtoms, a.before a0 Z = true) (ws : List Jvm.Cond) (ar : Addr) (k : ClassId) (c0 : Int32) (c1 : Int32) (h0 : Heap) (n0 : Nat) (Z0 : n0 ≤ h0.size) (hp0 : Arv Z h0 ar k .char (2 : Int32) [(.int c0), (.int c1)] (.int (0 : Int32))) (hp1 : ¬ (255 : Int32) < c0) (hp2 : ¬ (255 : Int32) < c1) :
    MetFree l (⟨"java/lang/StringUTF16", "compress", "([CII)[B"⟩ : MethodName) (head1 (Jvm.Cond.code (⟨"java/lang/StringUTF16", "compress", "([CII)[B"⟩ : MethodName) jdk_52_method_16_code 6 (some (.array .byte)) :: ws) ({ frames := 1, cells := 1, slots := 2, locals := 18 } : Room)) (fun aA U => aA = #[(.ref ar), (.int (0 : Int32)), (.int (2 : Int32))] ∧ Z.Warmed39 U.vm ∧ U.heap = h0) (fun _ _ _ _ _ => True) (fun _ U oO U' => ∃ vV LL, oO = .returned vV ∧ Q82b Z ar k c0 c1 h0 n0 vV U'.heap LL ∧ FrameEnd U oO U' LL ({ frames := 1, cells := 1, slots := 2, locals := 18 } : Room).cells ({ frames := 1, cells := 1, slots := 2, locals := 18 } : Room).slots) := by
  refine MetFree.of_bodySF (plainFor_of_name pn_177) hisR ?_
  intro p e s m args below meth cC s₁ Bd hml0 hP hK
  obtain ⟨rfl, hZ, hh⟩ := hP
  have hx := Bd.exec
  have hby := Bd.bytes
  have hml : cC.maxLocals = 6 := hml0
  have hown : s.vm.findClass "java/lang/StringUTF16" = some m.cls := findClass_of_methodNamed Bd.named
  have hnm := (name_of_methodNamed Bd.named Bd.method).1
  have X0 : Stand p l e ({ frames := 1, cells := 1, slots := 2, locals := 18 } : Room) s m #[(.ref ar), (.int (0 : Int32)), (.int (2 : Int32))] below meth cC s₁ [] 0 0 := Stand.of_body Bd
  have e0 : s₁.heap = h0 := by rw [← hh, Bd.state]; rfl
  have N0 := Fr.nil n0
  have Kp0 := Keep.refl h0 []
  show OwnFin p e below (R82b Z ar k c0 c1 h0 n0 s) (s₁.setTop (entryFrame m #[(.ref ar), (.int (0 : Int32)), (.int (2 : Int32))] 6))
  rw [ef_82b m ar]
  refine OwnFin.step (fun tT kK => XS.iloadN X0.here hx rfl (hb hby d_jdk_52_method_16_0) rfl kK) ?_
  show OwnFin p e below _ (s₁.setTop (mkF m 1 #[.val (.ref ar), .val (.int (0 : Int32)), .val (.int (2 : Int32)), .unset, .unset, .unset] [(.int (2 : Int32))]))
  obtain ⟨T1, h1, k1, X1, e1, E1, A1, st1⟩ := newP X0 hx hZ (hw _ (List.mem_of_getElem? (i := 22) rfl)) e0 (g := (mkF m 1 #[.val (.ref ar), .val (.int (0 : Int32)), .val (.int (2 : Int32)), .unset, .unset, .unset] [(.int (2 : Int32))])) rfl (hb hby d_jdk_52_method_16_1) rfl (by decide) (cap := 2) (by decide) (by decide) (by decide) (by decide)
  obtain ⟨b1, g1⟩ : ∃ z, z = h0.size := ⟨_, rfl⟩
  rw [← g1] at A1 st1
  refine OwnFin.step st1 ?_
  have sz_b1 : h0.size ≤ b1 := Nat.le_trans Kp0.1 (Nat.le_of_eq g1.symm)
  have Kp2 := Kp0.ext E1
  have V1 : Arv Z h1 b1 k1 .byte (2 : Int32) [(.int (0 : Int32)), (.int (0 : Int32))] (.int (0 : Int32)) := (Arv.new A1 (by decide)).pad (pad_rep [] (.int (0 : Int32)) 2)
  show OwnFin p e below _ (T1.setTop (mkF m 3 #[.val (.ref ar), .val (.int (0 : Int32)), .val (.int (2 : Int32)), .unset, .unset, .unset] [(.ref b1)]))
  refine OwnFin.step (fun tT kK => XS.astoreN X1.here hx rfl (hb hby d_jdk_52_method_16_3) rfl rfl (l' := #[.val (.ref ar), .val (.int (0 : Int32)), .val (.int (2 : Int32)), .val (.ref b1), .unset, .unset]) rfl kK) ?_
  show OwnFin p e below _ (T1.setTop (mkF m 4 #[.val (.ref ar), .val (.int (0 : Int32)), .val (.int (2 : Int32)), .val (.ref b1), .unset, .unset] []))
  refine OwnFin.step (fun tT kK => XS.aloadN X1.here hx rfl (hb hby d_jdk_52_method_16_4) rfl rfl kK) ?_
  show OwnFin p e below _ (T1.setTop (mkF m 5 #[.val (.ref ar), .val (.int (0 : Int32)), .val (.int (2 : Int32)), .val (.ref b1), .unset, .unset] [(.ref ar)]))
  refine OwnFin.step (fun tT kK => XS.iloadN X1.here hx rfl (hb hby d_jdk_52_method_16_5) rfl kK) ?_
  show OwnFin p e below _ (T1.setTop (mkF m 6 #[.val (.ref ar), .val (.int (0 : Int32)), .val (.int (2 : Int32)), .val (.ref b1), .unset, .unset] [(.int (0 : Int32)), (.ref ar)]))
  refine OwnFin.step (fun tT kK => XS.aloadN X1.here hx rfl (hb hby d_jdk_52_method_16_6) rfl rfl kK) ?_
  show OwnFin p e below _ (T1.setTop (mkF m 7 #[.val (.ref ar), .val (.int (0 : Int32)), .val (.int (2 : Int32)), .val (.ref b1), .unset, .unset] [(.ref b1), (.int (0 : Int32)), (.ref ar)]))
  refine OwnFin.step (fun tT kK => XS.iconst X1.here hx rfl (hb hby d_jdk_52_method_16_7) kK) ?_
  show OwnFin p e below _ (T1.setTop (mkF m 8 #[.val (.ref ar), .val (.int (0 : Int32)), .val (.int (2 : Int32)), .val (.ref b1), .unset, .unset] [(.int (0 : Int32)), (.ref b1), (.int (0 : Int32)), (.ref ar)]))
  refine OwnFin.step (fun tT kK => XS.iloadN X1.here hx rfl (hb hby d_jdk_52_method_16_8) rfl kK) ?_
  show OwnFin p e below _ (T1.setTop (mkF m 9 #[.val (.ref ar), .val (.int (0 : Int32)), .val (.int (2 : Int32)), .val (.ref b1), .unset, .unset] [(.int (2 : Int32)), (.int (0 : Int32)), (.ref b1), (.int (0 : Int32)), (.ref ar)]))
  have f3 : Arv Z h1 ar k .char (2 : Int32) [(.int c0), (.int c1)] (.int (0 : Int32)) := (hp0.keep Kp2 nin0)
  obtain ⟨_, _, ⟨T4, L4, k4, n4⟩, -, X4, ⟨Lc4, hQ4, l4, y4, z4⟩, st4⟩ := Jvm.LawKit.callS X1 hx (y := (⟨"java/lang/StringUTF16", "compress", "([CI[BII)I"⟩ : MethodName)) hown (mvT hZ (hw _ (List.mem_of_getElem? (i := 72) rfl))) (mvT hZ (hw _ (List.mem_of_getElem? (i := 73) rfl))) (mvT hZ (hw _ (List.mem_of_getElem? (i := 70) rfl))) (mvT hZ (hw _ (List.mem_of_getElem? (i := 74) rfl))) (by decide) (backOf (W := 0) (rm82a l Z a0 hw hEL wS [] ar b1 k k1 c0 c1 h1 n0 (Nat.le_trans Z0 Kp2.1) f3 V1 hp1 hp2 (Nat.le_trans Z0 sz_b1) (Nat.ne_of_lt (Nat.lt_of_lt_of_le hp0.lt sz_b1))) hZ (hw _ (List.mem_of_getElem? (i := 74) rfl)) (hw _ (List.mem_of_getElem? (i := 70) rfl)) (by decide) (by decide)) (g := (mkF m 9 #[.val (.ref ar), .val (.int (0 : Int32)), .val (.int (2 : Int32)), .val (.ref b1), .unset, .unset] [(.int (2 : Int32)), (.int (0 : Int32)), (.ref b1), (.int (0 : Int32)), (.ref ar)])) rfl (by rw [hml]; rfl) (argsL := [(.ref ar), (.int (0 : Int32)), (.ref b1), (.int (0 : Int32)), (.int (2 : Int32))]) (rest := []) (lenOf pd_210 rfl) rfl (by show 2 * 0 + _ ≤ _; exact Nat.le_of_eq rfl) (hb hby d_jdk_52_method_16_9) (fun _ _ => ⟨rfl, e1, (by decide : 1 + 0 ≤ _), (by decide : 2 + 0 ≤ _)⟩)
  dsimp only [Pt.U, Pt.locs, Pt.cells, Pt.slots] at X4 l4 y4 z4 st4 hQ4
  subst l4 y4 z4
  obtain ⟨rfl, N4q, K4, P4_0⟩ := hQ4
  have N4 := Fr.app N0 N4q
  refine OwnFin.step st4 ?_
  have Kp5 := Kp2.trans K4 (allS (P := fun x => x ∈ ([] : List Addr) ∨ h0.size ≤ x) (Or.inr sz_b1) all0)
  show OwnFin p e below _ (T4.setTop (mkF m 12 #[.val (.ref ar), .val (.int (0 : Int32)), .val (.int (2 : Int32)), .val (.ref b1), .unset, .unset] [(.int (2 : Int32))]))
  refine OwnFin.step (fun tT kK => XS.istore X4.here hx rfl (hb hby d_jdk_52_method_16_12) rfl (l' := #[.val (.ref ar), .val (.int (0 : Int32)), .val (.int (2 : Int32)), .val (.ref b1), .val (.int (2 : Int32)), .unset]) rfl kK) ?_
  show OwnFin p e below _ (T4.setTop (mkF m 14 #[.val (.ref ar), .val (.int (0 : Int32)), .val (.int (2 : Int32)), .val (.ref b1), .val (.int (2 : Int32)), .unset] []))
  refine OwnFin.step (fun tT kK => XS.iload X4.here hx rfl (hb hby d_jdk_52_method_16_14) rfl kK) ?_
  show OwnFin p e below _ (T4.setTop (mkF m 16 #[.val (.ref ar), .val (.int (0 : Int32)), .val (.int (2 : Int32)), .val (.ref b1), .val (.int (2 : Int32)), .unset] [(.int (2 : Int32))]))
  refine OwnFin.step (fun tT kK => XS.iloadN X4.here hx rfl (hb hby d_jdk_52_method_16_16) rfl kK) ?_
  show OwnFin p e below _ (T4.setTop (mkF m 17 #[.val (.ref ar), .val (.int (0 : Int32)), .val (.int (2 : Int32)), .val (.ref b1), .val (.int (2 : Int32)), .unset] [(.int (2 : Int32)), (.int (2 : Int32))]))
  refine OwnFin.step (fun tT kK => XS.icmpYes X4.here hx rfl (pc0 := 17) (pc' := 57) rfl (hb hby d_jdk_52_method_16_17) rfl (teq (rfl : (2 : Int32) = (2 : Int32))).1 (by decide) (by decide) kK) ?_
  show OwnFin p e below _ (T4.setTop (mkF m 57 #[.val (.ref ar), .val (.int (0 : Int32)), .val (.int (2 : Int32)), .val (.ref b1), .val (.int (2 : Int32)), .unset] []))
  refine OwnFin.step (fun tT kK => XS.aloadN X4.here hx rfl (hb hby d_jdk_52_method_16_57) rfl rfl kK) ?_
  show OwnFin p e below _ (T4.setTop (mkF m 58 #[.val (.ref ar), .val (.int (0 : Int32)), .val (.int (2 : Int32)), .val (.ref b1), .val (.int (2 : Int32)), .unset] [(.ref b1)]))
  obtain ⟨fs6, hr6, hrun6, hended6, hW6, hsame6⟩ := X4.leave (v := (some (.ref b1))) (fun h => by rw [Bd.returns] at h; cases h)
  refine ⟨_, _, retOut X4 hx Bd.returns rfl (Or.inr (Or.inr (Or.inr (Or.inr ⟨rfl, rfl, rfl⟩)))) (hb hby d_jdk_52_method_16_58) hr6, hrun6, hended6, _, _, rfl, ?_, ⟨_, rfl⟩, hW6, hsame6.mono (by decide) (by decide)⟩
  show Q82b Z ar k c0 c1 h0 n0 _ T4.heap _
  exact ⟨b1, k1, rfl, N4, Kp5, sz_b1, P4_0⟩
theorem ef_82c (m : MethodId) (b : Addr) : entryFrame m #[(.ref b), (.int (2 : Int32))] 2 = mkF m 0 #[.val (.ref b), .val (.int (2 : Int32))] [] := by first | (simp [entryFrame, mkF, argsToLocals, Value.category]; done) | rfl
def Q82c (Z : State) (b : Addr) (kb : ClassId) (c0 : Int32) (c1 : Int32) (h0 : Heap) (n0 : Nat) (vV : Option Value) (hH : Heap) (LL : List Loc) : Prop := vV = some (.int (0 : Int32)) ∧ Fr n0 LL ∧ hH = h0
def R82c (Z : State) (b : Addr) (kb : ClassId) (c0 : Int32) (c1 : Int32) (h0 : Heap) (n0 : Nat) (U : State) (oO : Outcome) (U' : State) : Prop := ∃ vV LL, oO = .returned vV ∧ Q82c Z b kb c0 c1 h0 n0 vV U'.heap LL ∧ FrameEnd U oO U' LL ({ frames := 0, cells := 0, slots := 0, locals := 0 } : Room).cells ({ frames := 0, cells := 0, slots := 0, locals := 0 } : Room).slots
set_option maxRecDepth 65536 in
set_option maxHeartbeats 40000000 in
theorem rm82c (l : Launch) (Z : State) (a0 : Array Value) (hw : ∀ d ∈ tables_1, d.before a0 Z = true) (hEL : EW Z a0 OwnEL) (wS : ∀ a ∈ Bundle.stringAtoms, a.before a0 Z = true) (ws : List Jvm.Cond) (b : Addr) (kb : ClassId) (c0 : Int32) (c1 : Int32) (h0 : Heap) (n0 : Nat) (Z0 : n0 ≤ h0.size) (hp0 : Arv Z h0 b kb .byte (2 : Int32) [(.int (nar .byte (c0.toInt8.toInt32))), (.int (nar .byte (c1.toInt8.toInt32)))] (.int (0 : Int32))) :
    MetFree l (⟨"java/lang/StringUTF16", "coderFromArrayLen", "([BI)B"⟩ : MethodName) (head1 (Jvm.Cond.code (⟨"java/lang/StringUTF16", "coderFromArrayLen", "([BI)B"⟩ : MethodName) jdk_52_method_15_code 2 (some .byte) :: ws) ({ frames := 0, cells := 0, slots := 0, locals := 0 } : Room)) (fun aA U => aA = #[(.ref b), (.int (2 : Int32))] ∧ Z.Warmed39 U.vm ∧ U.heap = h0) (fun _ _ _ _ _ => True) (fun _ U oO U' => ∃ vV LL, oO = .returned vV ∧ Q82c Z b kb c0 c1 h0 n0 vV U'.heap LL ∧ FrameEnd U oO U' LL ({ frames := 0, cells := 0, slots := 0, locals := 0 } : Room).cells ({ frames := 0, cells := 0, slots := 0, locals := 0 } : Room).slots) := by
  refine MetFree.of_bodySF (plainFor_of_name pn_177) hisR ?_
  intro p e s m args below meth cC s₁ Bd hml0 hP hK
  obtain ⟨rfl, hZ, hh⟩ := hP
  have hx := Bd.exec
  have hby := Bd.bytes
  have hml : cC.maxLocals = 2 := hml0
  have hown : s.vm.findClass "java/lang/StringUTF16" = some m.cls := findClass_of_methodNamed Bd.named
  have hnm := (name_of_methodNamed Bd.named Bd.method).1
  have X0 : Stand p l e ({ frames := 0, cells := 0, slots := 0, locals := 0 } : Room) s m #[(.ref b), (.int (2 : Int32))] below meth cC s₁ [] 0 0 := Stand.of_body Bd
  have e0 : s₁.heap = h0 := by rw [← hh, Bd.state]; rfl
  have N0 := Fr.nil n0
  have Kp0 := Keep.refl h0 []
  show OwnFin p e below (R82c Z b kb c0 c1 h0 n0 s) (s₁.setTop (entryFrame m #[(.ref b), (.int (2 : Int32))] 2))
  rw [ef_82c m b]
  refine OwnFin.step (fun tT kK => XS.iloadN X0.here hx rfl (hb hby d_jdk_52_method_15_0) rfl kK) ?_
  show OwnFin p e below _ (s₁.setTop (mkF m 1 #[.val (.ref b), .val (.int (2 : Int32))] [(.int (2 : Int32))]))
  refine OwnFin.step (fun tT kK => XS.aloadN X0.here hx rfl (hb hby d_jdk_52_method_15_1) rfl rfl kK) ?_
  show OwnFin p e below _ (s₁.setTop (mkF m 2 #[.val (.ref b), .val (.int (2 : Int32))] [(.ref b), (.int (2 : Int32))]))
  obtain ⟨cl1, Ar1, -, Sz1, Ng1, -, -⟩ := id hp0
  refine OwnFin.step (fun tT kK => own_len X0 hx hZ e0 Ar1 Sz1 Ng1 (g := (mkF m 2 #[.val (.ref b), .val (.int (2 : Int32))] [(.ref b), (.int (2 : Int32))])) rfl rfl (hb hby d_jdk_52_method_15_2) kK) ?_
  show OwnFin p e below _ (s₁.setTop (mkF m 3 #[.val (.ref b), .val (.int (2 : Int32))] [(.int (2 : Int32)), (.int (2 : Int32))]))
  refine OwnFin.step (fun tT kK => XS.isub X0.here hx rfl (hb hby d_jdk_52_method_15_3) rfl kK) ?_
  show OwnFin p e below _ (s₁.setTop (mkF m 4 #[.val (.ref b), .val (.int (2 : Int32))] [(.int (0 : Int32))]))
  refine OwnFin.step (fun tT kK => XS.bipush X0.here hx rfl (hb hby d_jdk_52_method_15_4) kK) ?_
  show OwnFin p e below _ (s₁.setTop (mkF m 6 #[.val (.ref b), .val (.int (2 : Int32))] [(.int (31 : Int32)), (.int (0 : Int32))]))
  refine OwnFin.step (fun tT kK => XS.iushr X0.here hx rfl (hb hby d_jdk_52_method_15_6) rfl kK) ?_
  show OwnFin p e below _ (s₁.setTop (mkF m 7 #[.val (.ref b), .val (.int (2 : Int32))] [(.int (0 : Int32))]))
  refine OwnFin.step (fun tT kK => XS.i2b X0.here hx rfl (hb hby d_jdk_52_method_15_7) rfl kK) ?_
  show OwnFin p e below _ (s₁.setTop (mkF m 8 #[.val (.ref b), .val (.int (2 : Int32))] [(.int (0 : Int32))]))
  obtain ⟨fs2, hr2, hrun2, hended2, hW2, hsame2⟩ := X0.leave (v := (some (.int (0 : Int32)))) (fun h => by rw [Bd.returns] at h; cases h)
  refine ⟨_, _, retN X0 hx (t := .byte) Bd.returns (by simp) (hb hby d_jdk_52_method_15_8) hr2, hrun2, hended2, _, _, rfl, ?_, ⟨_, rfl⟩, hW2, hsame2.mono (by decide) (by decide)⟩
  show Q82c Z b kb c0 c1 h0 n0 _ s₁.heap _
  rw [e0]
  exact ⟨rfl, N0, rfl⟩
theorem ef_82d (m : MethodId) (a : Addr) (ar : Addr) : entryFrame m #[(.ref a), (.ref ar), (.int (0 : Int32)), (.int (2 : Int32)), .null] 6 = mkF m 0 #[.val (.ref a), .val (.ref ar), .val (.int (0 : Int32)), .val (.int (2 : Int32)), .val .null, .unset] [] := by first | (simp [entryFrame, mkF, argsToLocals, Value.category]; done) | rfl
def Q82d (Z : State) (a : Addr) (ar : Addr) (k : ClassId) (cs : Int32) (c0 : Int32) (c1 : Int32) (h0 : Heap) (n0 : Nat) (vV : Option Value) (hH : Heap) (LL : List Loc) : Prop := ∃ b : Addr, ∃ kb : ClassId, vV = none ∧ Fr n0 LL ∧ Keep h0 hH [a] ∧ h0.size ≤ b ∧ (Exa Z hH a "java/lang/String") ∧ (Fld Z hH a "java/lang/String" "value" "[B" (.ref b)) ∧ (Fld Z hH a "java/lang/String" "coder" "B" (.int (0 : Int32))) ∧ (Arv Z hH b kb .byte (2 : Int32) [(.int (nar .byte (c0.toInt8.toInt32))), (.int (nar .byte (c1.toInt8.toInt32)))] (.int (0 : Int32)))
def R82d (Z : State) (a : Addr) (ar : Addr) (k : ClassId) (cs : Int32) (c0 : Int32) (c1 : Int32) (h0 : Heap) (n0 : Nat) (U : State) (oO : Outcome) (U' : State) : Prop := ∃ vV LL, oO = .returned vV ∧ Q82d Z a ar k cs c0 c1 h0 n0 vV U'.heap LL ∧ FrameEnd U oO U' LL ({ frames := 2, cells := 1, slots := 2, locals := 35 } : Room).cells ({ frames := 2, cells := 1, slots := 2, locals := 35 } : Room).slots
set_option maxRecDepth 65536 in
set_option maxHeartbeats 40000000 in
theorem rm82d (l : Launch) (Z : State) (a0 : Array Value) (hw : ∀ d ∈ tables_1, d.before a0 Z = true) (hEL : EW Z a0 OwnEL) (wS : ∀ a ∈ Bundle.stringAtoms, a.before a0 Z = true) (ws : List Jvm.Cond) (a : Addr) (ar : Addr) (k : ClassId) (cs : Int32) (c0 : Int32) (c1 : Int32) (h0 : Heap) (n0 : Nat) (Z0 : n0 ≤ h0.size) (hp0 : Exa Z h0 a "java/lang/String") (hp1 : Fld Z h0 a "java/lang/String" "value" "[B" .null) (hp2 : Fld Z h0 a "java/lang/String" "coder" "B" (.int (0 : Int32))) (hp3 : n0 ≤ a) (hp4 : Arv Z h0 ar k .char (2 : Int32) [(.int c0), (.int c1)] (.int (0 : Int32))) (hp5 : Sta Z h0 "java/lang/String" "COMPACT_STRINGS" "Z" (.int cs)) (hp6 : ¬ cs = (0 : Int32)) (hp7 : ¬ (255 : Int32) < c0) (hp8 : ¬ (255 : Int32) < c1) :
    MetFree l (⟨"java/lang/String", "<init>", "([CIILjava/lang/Void;)V"⟩ : MethodName) (head1 (Jvm.Cond.code (⟨"java/lang/String", "<init>", "([CIILjava/lang/Void;)V"⟩ : MethodName) jdk_42_method_149_code 6 none :: ws) ({ frames := 2, cells := 1, slots := 2, locals := 35 } : Room)) (fun aA U => aA = #[(.ref a), (.ref ar), (.int (0 : Int32)), (.int (2 : Int32)), .null] ∧ Z.Warmed39 U.vm ∧ U.heap = h0) (fun _ _ _ _ _ => True) (fun _ U oO U' => ∃ vV LL, oO = .returned vV ∧ Q82d Z a ar k cs c0 c1 h0 n0 vV U'.heap LL ∧ FrameEnd U oO U' LL ({ frames := 2, cells := 1, slots := 2, locals := 35 } : Room).cells ({ frames := 2, cells := 1, slots := 2, locals := 35 } : Room).slots) := by
  refine MetFree.of_bodySF (plainFor_of_name pn_31) hisR ?_
  intro p e s m args below meth cC s₁ Bd hml0 hP hK
  obtain ⟨rfl, hZ, hh⟩ := hP
  have hx := Bd.exec
  have hby := Bd.bytes
  have hml : cC.maxLocals = 6 := hml0
  have hown : s.vm.findClass "java/lang/String" = some m.cls := findClass_of_methodNamed Bd.named
  have hnm := (name_of_methodNamed Bd.named Bd.method).1
  have X0 : Stand p l e ({ frames := 2, cells := 1, slots := 2, locals := 35 } : Room) s m #[(.ref a), (.ref ar), (.int (0 : Int32)), (.int (2 : Int32)), .null] below meth cC s₁ [] 0 0 := Stand.of_body Bd
  have e0 : s₁.heap = h0 := by rw [← hh, Bd.state]; rfl
  have N0 := Fr.nil n0
  have Kp0 := Keep.refl h0 []
  show OwnFin p e below (R82d Z a ar k cs c0 c1 h0 n0 s) (s₁.setTop (entryFrame m #[(.ref a), (.ref ar), (.int (0 : Int32)), (.int (2 : Int32)), .null] 6))
  rw [ef_82d m a ar]
  refine OwnFin.step (fun tT kK => XS.aloadN X0.here hx rfl (hb hby d_jdk_42_method_149_0) rfl rfl kK) ?_
  show OwnFin p e below _ (s₁.setTop (mkF m 1 #[.val (.ref a), .val (.ref ar), .val (.int (0 : Int32)), .val (.int (2 : Int32)), .val .null, .unset] [(.ref a)]))
  obtain ⟨T1, X1, e1, st1⟩ := initO X0 hx hZ hown (hw _ (List.mem_of_getElem? (i := 18) rfl)) (hw _ (List.mem_of_getElem? (i := 19) rfl)) (hw _ (List.mem_of_getElem? (i := 20) rfl)) e0 (g := (mkF m 1 #[.val (.ref a), .val (.ref ar), .val (.int (0 : Int32)), .val (.int (2 : Int32)), .val .null, .unset] [(.ref a)])) rfl (by rw [hml]; rfl) rfl (hb hby d_jdk_42_method_149_1) (by decide) (W := 0) (by show 2 * 0 + _ ≤ _; exact Nat.le_of_eq rfl) (by decide)
  refine OwnFin.step st1 ?_
  show OwnFin p e below _ (T1.setTop (mkF m 4 #[.val (.ref a), .val (.ref ar), .val (.int (0 : Int32)), .val (.int (2 : Int32)), .val .null, .unset] []))
  refine OwnFin.step (fun tT kK => XS.iloadN X1.here hx rfl (hb hby d_jdk_42_method_149_4) rfl kK) ?_
  show OwnFin p e below _ (T1.setTop (mkF m 5 #[.val (.ref a), .val (.ref ar), .val (.int (0 : Int32)), .val (.int (2 : Int32)), .val .null, .unset] [(.int (2 : Int32))]))
  refine OwnFin.step (fun tT kK => XS.ifYes X1.here hx rfl (pc0 := 5) (pc' := 27) rfl (hb hby d_jdk_42_method_149_5) rfl ((if0 _ _).trans (feq (by decide : ¬ ((2 : Int32) = (0 : Int32)))).2) (by decide) (by decide) kK) ?_
  show OwnFin p e below _ (T1.setTop (mkF m 27 #[.val (.ref a), .val (.ref ar), .val (.int (0 : Int32)), .val (.int (2 : Int32)), .val .null, .unset] []))
  obtain ⟨T2, X2, e2, st2⟩ := getS2 X1 hx hZ hown (host := "") (Or.inl (hw _ (List.mem_of_getElem? (i := 63) rfl))) Via.refl e1 hp5 (g := (mkF m 27 #[.val (.ref a), .val (.ref ar), .val (.int (0 : Int32)), .val (.int (2 : Int32)), .val .null, .unset] [])) rfl (hb hby d_jdk_42_method_149_27)
  refine OwnFin.step st2 ?_
  show OwnFin p e below _ (T2.setTop (mkF m 30 #[.val (.ref a), .val (.ref ar), .val (.int (0 : Int32)), .val (.int (2 : Int32)), .val .null, .unset] [(.int cs)]))
  refine OwnFin.step (fun tT kK => XS.ifNo X2.here hx rfl (hb hby d_jdk_42_method_149_30) rfl ((if0 _ _).trans (feq (hp6 : ¬ (cs = (0 : Int32)))).1) kK) ?_
  show OwnFin p e below _ (T2.setTop (mkF m 33 #[.val (.ref a), .val (.ref ar), .val (.int (0 : Int32)), .val (.int (2 : Int32)), .val .null, .unset] []))
  refine OwnFin.step (fun tT kK => XS.aloadN X2.here hx rfl (hb hby d_jdk_42_method_149_33) rfl rfl kK) ?_
  show OwnFin p e below _ (T2.setTop (mkF m 34 #[.val (.ref a), .val (.ref ar), .val (.int (0 : Int32)), .val (.int (2 : Int32)), .val .null, .unset] [(.ref ar)]))
  refine OwnFin.step (fun tT kK => XS.iloadN X2.here hx rfl (hb hby d_jdk_42_method_149_34) rfl kK) ?_
  show OwnFin p e below _ (T2.setTop (mkF m 35 #[.val (.ref a), .val (.ref ar), .val (.int (0 : Int32)), .val (.int (2 : Int32)), .val .null, .unset] [(.int (0 : Int32)), (.ref ar)]))
  refine OwnFin.step (fun tT kK => XS.iloadN X2.here hx rfl (hb hby d_jdk_42_method_149_35) rfl kK) ?_
  show OwnFin p e below _ (T2.setTop (mkF m 36 #[.val (.ref a), .val (.ref ar), .val (.int (0 : Int32)), .val (.int (2 : Int32)), .val .null, .unset] [(.int (2 : Int32)), (.int (0 : Int32)), (.ref ar)]))
  obtain ⟨_, _, ⟨T3, L3, k3, n3⟩, -, X3, ⟨Lc3, hQ3, l3, y3, z3⟩, st3⟩ := Jvm.LawKit.callS X2 hx (y := (⟨"java/lang/StringUTF16", "compress", "([CII)[B"⟩ : MethodName)) hown (mvT hZ (hw _ (List.mem_of_getElem? (i := 68) rfl))) (mvT hZ (hw _ (List.mem_of_getElem? (i := 69) rfl))) (mvT hZ (hw _ (List.mem_of_getElem? (i := 70) rfl))) (mvT hZ (hw _ (List.mem_of_getElem? (i := 71) rfl))) (by decide) (backOf (W := 0) (rm82b l Z a0 hw hEL wS [] ar k c0 c1 h0 n0 (Nat.le_trans Z0 Kp0.1) hp4 hp7 hp8) hZ (hw _ (List.mem_of_getElem? (i := 71) rfl)) (hw _ (List.mem_of_getElem? (i := 70) rfl)) (by decide) (by decide)) (g := (mkF m 36 #[.val (.ref a), .val (.ref ar), .val (.int (0 : Int32)), .val (.int (2 : Int32)), .val .null, .unset] [(.int (2 : Int32)), (.int (0 : Int32)), (.ref ar)])) rfl (by rw [hml]; rfl) (argsL := [(.ref ar), (.int (0 : Int32)), (.int (2 : Int32))]) (rest := []) (lenOf pd_231 rfl) rfl (by show 2 * 0 + _ ≤ _; exact Nat.le_of_eq rfl) (hb hby d_jdk_42_method_149_36) (fun _ _ => ⟨rfl, e2, (by decide : 0 + 1 ≤ _), (by decide : 0 + 2 ≤ _)⟩)
  dsimp only [Pt.U, Pt.locs, Pt.cells, Pt.slots] at X3 l3 y3 z3 st3 hQ3
  subst l3 y3 z3
  obtain ⟨b4, ⟨kb5, ⟨rfl, N3q, K3, B3_0, P3_0⟩⟩⟩ := hQ3
  have N3 := Fr.app N0 N3q
  refine OwnFin.step st3 ?_
  have E3 : Ext h0 T3.heap := ⟨K3.1, fun x c q => K3.2.1 x c q nin0⟩
  have sz_b4 : h0.size ≤ b4 := Nat.le_trans Kp0.1 B3_0
  have Kp6 := Kp0.ext E3
  show OwnFin p e below _ (T3.setTop (mkF m 39 #[.val (.ref a), .val (.ref ar), .val (.int (0 : Int32)), .val (.int (2 : Int32)), .val .null, .unset] [(.ref b4)]))
  refine OwnFin.step (fun tT kK => XS.astore X3.here hx rfl (hb hby d_jdk_42_method_149_39) rfl rfl (l' := #[.val (.ref a), .val (.ref ar), .val (.int (0 : Int32)), .val (.int (2 : Int32)), .val .null, .val (.ref b4)]) rfl kK) ?_
  show OwnFin p e below _ (T3.setTop (mkF m 41 #[.val (.ref a), .val (.ref ar), .val (.int (0 : Int32)), .val (.int (2 : Int32)), .val .null, .val (.ref b4)] []))
  refine OwnFin.step (fun tT kK => XS.aloadN X3.here hx rfl (hb hby d_jdk_42_method_149_41) rfl rfl kK) ?_
  show OwnFin p e below _ (T3.setTop (mkF m 42 #[.val (.ref a), .val (.ref ar), .val (.int (0 : Int32)), .val (.int (2 : Int32)), .val .null, .val (.ref b4)] [(.ref a)]))
  refine OwnFin.step (fun tT kK => XS.aload X3.here hx rfl (hb hby d_jdk_42_method_149_42) rfl rfl kK) ?_
  show OwnFin p e below _ (T3.setTop (mkF m 44 #[.val (.ref a), .val (.ref ar), .val (.int (0 : Int32)), .val (.int (2 : Int32)), .val .null, .val (.ref b4)] [(.ref b4), (.ref a)]))
  refine OwnFin.step (fun tT kK => XS.iloadN X3.here hx rfl (hb hby d_jdk_42_method_149_44) rfl kK) ?_
  show OwnFin p e below _ (T3.setTop (mkF m 45 #[.val (.ref a), .val (.ref ar), .val (.int (0 : Int32)), .val (.int (2 : Int32)), .val .null, .val (.ref b4)] [(.int (2 : Int32)), (.ref b4), (.ref a)]))
  obtain ⟨_, _, ⟨T7, L7, k7, n7⟩, -, X7, ⟨Lc7, hQ7, l7, y7, z7⟩, st7⟩ := Jvm.LawKit.callS X3 hx (y := (⟨"java/lang/StringUTF16", "coderFromArrayLen", "([BI)B"⟩ : MethodName)) hown (mvT hZ (hw _ (List.mem_of_getElem? (i := 75) rfl))) (mvT hZ (hw _ (List.mem_of_getElem? (i := 76) rfl))) (mvT hZ (hw _ (List.mem_of_getElem? (i := 70) rfl))) (mvT hZ (hw _ (List.mem_of_getElem? (i := 77) rfl))) (by decide) (backOf (W := 1) (rm82c l Z a0 hw hEL wS [] b4 kb5 c0 c1 T3.heap n0 (Nat.le_trans Z0 Kp6.1) P3_0) hZ (hw _ (List.mem_of_getElem? (i := 77) rfl)) (hw _ (List.mem_of_getElem? (i := 70) rfl)) (by decide) (by decide)) (g := (mkF m 45 #[.val (.ref a), .val (.ref ar), .val (.int (0 : Int32)), .val (.int (2 : Int32)), .val .null, .val (.ref b4)] [(.int (2 : Int32)), (.ref b4), (.ref a)])) rfl (by rw [hml]; rfl) (argsL := [(.ref b4), (.int (2 : Int32))]) (rest := [(.ref a)]) (lenOf pd_237 rfl) rfl (by show 2 * 0 + _ ≤ _; exact Nat.le_of_eq rfl) (hb hby d_jdk_42_method_149_45) (fun _ _ => ⟨rfl, rfl, (by decide : 1 + 0 ≤ _), (by decide : 2 + 0 ≤ _)⟩)
  dsimp only [Pt.U, Pt.locs, Pt.cells, Pt.slots] at X7 l7 y7 z7 st7 hQ7
  subst l7 y7 z7
  obtain ⟨rfl, N7q, e7⟩ := hQ7
  have N7 := Fr.app N3 N7q
  refine OwnFin.step st7 ?_
  show OwnFin p e below _ (T7.setTop (mkF m 48 #[.val (.ref a), .val (.ref ar), .val (.int (0 : Int32)), .val (.int (2 : Int32)), .val .null, .val (.ref b4)] [(.int (0 : Int32)), (.ref a)]))
  have f8 : Exa Z T3.heap a "java/lang/String" := (hp0.keep Kp6)
  have f9 : Fld Z T3.heap a "java/lang/String" "coder" "B" (.int (0 : Int32)) := (hp2.keep Kp6 nin0)
  obtain ⟨T10, h10, X10, e10, W10, st10⟩ := putF X7 hx hZ hown (host := "") (Or.inl (hw _ (List.mem_of_getElem? (i := 28) rfl))) Via.refl e7 f9 f8 (Or.inr ⟨(hw _ (List.mem_of_getElem? (i := 24) rfl)), rfl, hnm⟩) (hw _ (List.mem_of_getElem? (i := 9) rfl)) (ty := .byte) (by decide) rfl rfl (g := (mkF m 48 #[.val (.ref a), .val (.ref ar), .val (.int (0 : Int32)), .val (.int (2 : Int32)), .val .null, .val (.ref b4)] [(.int (0 : Int32)), (.ref a)])) rfl rfl (hb hby d_jdk_42_method_149_48)
  refine OwnFin.step st10 ?_
  have N10 := Fr.snoc X10 N7 hp3
  have Fw10 : Fld Z h10 a "java/lang/String" "coder" "B" (.int (0 : Int32)) := f9.same W10
  show OwnFin p e below _ (T10.setTop (mkF m 51 #[.val (.ref a), .val (.ref ar), .val (.int (0 : Int32)), .val (.int (2 : Int32)), .val .null, .val (.ref b4)] []))
  refine OwnFin.step (fun tT kK => XS.aloadN X10.here hx rfl (hb hby d_jdk_42_method_149_51) rfl rfl kK) ?_
  show OwnFin p e below _ (T10.setTop (mkF m 52 #[.val (.ref a), .val (.ref ar), .val (.int (0 : Int32)), .val (.int (2 : Int32)), .val .null, .val (.ref b4)] [(.ref a)]))
  refine OwnFin.step (fun tT kK => XS.aload X10.here hx rfl (hb hby d_jdk_42_method_149_52) rfl rfl kK) ?_
  show OwnFin p e below _ (T10.setTop (mkF m 54 #[.val (.ref a), .val (.ref ar), .val (.int (0 : Int32)), .val (.int (2 : Int32)), .val .null, .val (.ref b4)] [(.ref b4), (.ref a)]))
  have f12 : Exa Z h10 a "java/lang/String" := (f8.wr W10)
  have f13 : Fld Z h10 a "java/lang/String" "value" "[B" .null := ((hp1.ext E3).other W10 (Or.inr (slot_ne (Or.inr (hw _ (List.mem_of_getElem? (i := 23) rfl))) (Or.inr (hw _ (List.mem_of_getElem? (i := 24) rfl))) (by decide) (t := (.array .byte)) (t' := .byte) (by decide) (by decide))))
  obtain ⟨T14, h14, X14, e14, W14, st14⟩ := putF X10 hx hZ hown (host := "") (Or.inl (hw _ (List.mem_of_getElem? (i := 27) rfl))) Via.refl e10 f13 f12 (Or.inr ⟨(hw _ (List.mem_of_getElem? (i := 23) rfl)), rfl, hnm⟩) (hw _ (List.mem_of_getElem? (i := 9) rfl)) (ty := (.array .byte)) (by decide) rfl rfl (g := (mkF m 54 #[.val (.ref a), .val (.ref ar), .val (.int (0 : Int32)), .val (.int (2 : Int32)), .val .null, .val (.ref b4)] [(.ref b4), (.ref a)])) rfl rfl (hb hby d_jdk_42_method_149_54)
  refine OwnFin.step st14 ?_
  have N14 := Fr.snoc X14 N10 hp3
  have Fw14 : Fld Z h14 a "java/lang/String" "value" "[B" (.ref b4) := f13.same W14
  show OwnFin p e below _ (T14.setTop (mkF m 57 #[.val (.ref a), .val (.ref ar), .val (.int (0 : Int32)), .val (.int (2 : Int32)), .val .null, .val (.ref b4)] []))
  have f16 : Exa Z h14 a "java/lang/String" := (f12.wr W14)
  have f17 : Fld Z h14 a "java/lang/String" "coder" "B" (.int (0 : Int32)) := (Fw10.other W14 (Or.inr (slot_ne (Or.inr (hw _ (List.mem_of_getElem? (i := 24) rfl))) (Or.inr (hw _ (List.mem_of_getElem? (i := 23) rfl))) (by decide) (t := .byte) (t' := (.array .byte)) (by decide) (by decide))))
  have f18 : Arv Z h14 b4 kb5 .byte (2 : Int32) [(.int (nar .byte (c0.toInt8.toInt32))), (.int (nar .byte (c1.toInt8.toInt32)))] (.int (0 : Int32)) := ((P3_0.other W10 (Ne.symm (Nat.ne_of_lt (Nat.lt_of_lt_of_le hp0.lt sz_b4)))).other W14 (Ne.symm (Nat.ne_of_lt (Nat.lt_of_lt_of_le hp0.lt sz_b4))))
  obtain ⟨fs15, hr15, hrun15, hended15, hW15, hsame15⟩ := X14.leave (v := none) (fun _ => rfl)
  refine ⟨_, _, X14.returnOut hx Bd.returns (hb hby d_jdk_42_method_149_57) hr15, hrun15, hended15, _, _, rfl, ?_, ⟨_, rfl⟩, hW15, hsame15.mono (by decide) (by decide)⟩
  show Q82d Z a ar k cs c0 c1 h0 n0 _ T14.heap _
  rw [e14]
  exact ⟨b4, kb5, rfl, N14, ((((Keep.refl h0 [a]).ext E3).wr W10 (Or.inl (List.mem_of_getElem? (i := 0) rfl))).wr W14 (Or.inl (List.mem_of_getElem? (i := 0) rfl))), sz_b4, f16, Fw14, f17, f18⟩
theorem ef_82 (m : MethodId) (a : Addr) (ar : Addr) : entryFrame m #[(.ref a), (.ref ar)] 2 = mkF m 0 #[.val (.ref a), .val (.ref ar)] [] := by first | (simp [entryFrame, mkF, argsToLocals, Value.category]; done) | rfl
def Q82 (Z : State) (a : Addr) (ar : Addr) (k : ClassId) (cs : Int32) (c0 : Int32) (c1 : Int32) (h0 : Heap) (n0 : Nat) (vV : Option Value) (hH : Heap) (LL : List Loc) : Prop := ∃ b : Addr, ∃ kb : ClassId, vV = none ∧ Fr n0 LL ∧ Keep h0 hH [a] ∧ h0.size ≤ b ∧ (Exa Z hH a "java/lang/String") ∧ (Fld Z hH a "java/lang/String" "value" "[B" (.ref b)) ∧ (Fld Z hH a "java/lang/String" "coder" "B" (.int (0 : Int32))) ∧ (Arv Z hH b kb .byte (2 : Int32) [(.int (nar .byte (c0.toInt8.toInt32))), (.int (nar .byte (c1.toInt8.toInt32)))] (.int (0 : Int32)))
def R82 (Z : State) (a : Addr) (ar : Addr) (k : ClassId) (cs : Int32) (c0 : Int32) (c1 : Int32) (h0 : Heap) (n0 : Nat) (U : State) (oO : Outcome) (U' : State) : Prop := ∃ vV LL, oO = .returned vV ∧ Q82 Z a ar k cs c0 c1 h0 n0 vV U'.heap LL ∧ FrameEnd U oO U' LL ({ frames := 3, cells := 1, slots := 2, locals := 52 } : Room).cells ({ frames := 3, cells := 1, slots := 2, locals := 52 } : Room).slots
set_option maxRecDepth 65536 in
set_option maxHeartbeats 40000000 in
theorem rm82 (l : Launch) (Z : State) (a0 : Array Value) (hw : ∀ d ∈ tables_1, d.before a0 Z = true) (hEL : EW Z a0 OwnEL) (wS : ∀ a ∈ Bundle.stringAtoms, a.before a0 Z = true) (ws : List Jvm.Cond) (a : Addr) (ar : Addr) (k : ClassId) (cs : Int32) (c0 : Int32) (c1 : Int32) (h0 : Heap) (n0 : Nat) (Z0 : n0 ≤ h0.size) (hp0 : Exa Z h0 a "java/lang/String") (hp1 : Fld Z h0 a "java/lang/String" "value" "[B" .null) (hp2 : Fld Z h0 a "java/lang/String" "coder" "B" (.int (0 : Int32))) (hp3 : n0 ≤ a) (hp4 : Arv Z h0 ar k .char (2 : Int32) [(.int c0), (.int c1)] (.int (0 : Int32))) (hp5 : Sta Z h0 "java/lang/String" "COMPACT_STRINGS" "Z" (.int cs)) (hp6 : ¬ cs = (0 : Int32)) (hp7 : ¬ (255 : Int32) < c0) (hp8 : ¬ (255 : Int32) < c1) :
    MetFree l (⟨"java/lang/String", "<init>", "([C)V"⟩ : MethodName) (head1 (Jvm.Cond.code (⟨"java/lang/String", "<init>", "([C)V"⟩ : MethodName) jdk_42_method_3_code 2 none :: ws) ({ frames := 3, cells := 1, slots := 2, locals := 52 } : Room)) (fun aA U => aA = #[(.ref a), (.ref ar)] ∧ Z.Warmed39 U.vm ∧ U.heap = h0) (fun _ _ _ _ _ => True) (fun _ U oO U' => ∃ vV LL, oO = .returned vV ∧ Q82 Z a ar k cs c0 c1 h0 n0 vV U'.heap LL ∧ FrameEnd U oO U' LL ({ frames := 3, cells := 1, slots := 2, locals := 52 } : Room).cells ({ frames := 3, cells := 1, slots := 2, locals := 52 } : Room).slots) := by
  refine MetFree.of_bodySF (plainFor_of_name pn_31) hisR ?_
  intro p e s m args below meth cC s₁ Bd hml0 hP hK
  obtain ⟨rfl, hZ, hh⟩ := hP
  have hx := Bd.exec
  have hby := Bd.bytes
  have hml : cC.maxLocals = 2 := hml0
  have hown : s.vm.findClass "java/lang/String" = some m.cls := findClass_of_methodNamed Bd.named
  have hnm := (name_of_methodNamed Bd.named Bd.method).1
  have X0 : Stand p l e ({ frames := 3, cells := 1, slots := 2, locals := 52 } : Room) s m #[(.ref a), (.ref ar)] below meth cC s₁ [] 0 0 := Stand.of_body Bd
  have e0 : s₁.heap = h0 := by rw [← hh, Bd.state]; rfl
  have N0 := Fr.nil n0
  have Kp0 := Keep.refl h0 []
  show OwnFin p e below (R82 Z a ar k cs c0 c1 h0 n0 s) (s₁.setTop (entryFrame m #[(.ref a), (.ref ar)] 2))
  rw [ef_82 m a ar]
  refine OwnFin.step (fun tT kK => XS.aloadN X0.here hx rfl (hb hby d_jdk_42_method_3_0) rfl rfl kK) ?_
  show OwnFin p e below _ (s₁.setTop (mkF m 1 #[.val (.ref a), .val (.ref ar)] [(.ref a)]))
  refine OwnFin.step (fun tT kK => XS.aloadN X0.here hx rfl (hb hby d_jdk_42_method_3_1) rfl rfl kK) ?_
  show OwnFin p e below _ (s₁.setTop (mkF m 2 #[.val (.ref a), .val (.ref ar)] [(.ref ar), (.ref a)]))
  refine OwnFin.step (fun tT kK => XS.iconst X0.here hx rfl (hb hby d_jdk_42_method_3_2) kK) ?_
  show OwnFin p e below _ (s₁.setTop (mkF m 3 #[.val (.ref a), .val (.ref ar)] [(.int (0 : Int32)), (.ref ar), (.ref a)]))
  refine OwnFin.step (fun tT kK => XS.aloadN X0.here hx rfl (hb hby d_jdk_42_method_3_3) rfl rfl kK) ?_
  show OwnFin p e below _ (s₁.setTop (mkF m 4 #[.val (.ref a), .val (.ref ar)] [(.ref ar), (.int (0 : Int32)), (.ref ar), (.ref a)]))
  obtain ⟨cl1, Ar1, -, Sz1, Ng1, -, -⟩ := id hp4
  refine OwnFin.step (fun tT kK => own_len X0 hx hZ e0 Ar1 Sz1 Ng1 (g := (mkF m 4 #[.val (.ref a), .val (.ref ar)] [(.ref ar), (.int (0 : Int32)), (.ref ar), (.ref a)])) rfl rfl (hb hby d_jdk_42_method_3_4) kK) ?_
  show OwnFin p e below _ (s₁.setTop (mkF m 5 #[.val (.ref a), .val (.ref ar)] [(.int (2 : Int32)), (.int (0 : Int32)), (.ref ar), (.ref a)]))
  refine OwnFin.step (fun tT kK => XS.aconstNull X0.here hx rfl (hb hby d_jdk_42_method_3_5) kK) ?_
  show OwnFin p e below _ (s₁.setTop (mkF m 6 #[.val (.ref a), .val (.ref ar)] [.null, (.int (2 : Int32)), (.int (0 : Int32)), (.ref ar), (.ref a)]))
  obtain ⟨_, _, ⟨T2, L2, k2, n2⟩, -, X2, ⟨Lc2, hQ2, l2, y2, z2⟩, st2⟩ := X0.specialBack hx (y := (⟨"java/lang/String", "<init>", "([CIILjava/lang/Void;)V"⟩ : MethodName)) rfl hown (mvT hZ (hw _ (List.mem_of_getElem? (i := 14) rfl))) (mvT hZ (hw _ (List.mem_of_getElem? (i := 15) rfl))) (mvT hZ (hw _ (List.mem_of_getElem? (i := 17) rfl))) (by decide) (backOf (W := 0) (rm82d l Z a0 hw hEL wS [] a ar k cs c0 c1 h0 n0 (Nat.le_trans Z0 Kp0.1) hp0 hp1 hp2 hp3 hp4 hp5 hp6 hp7 hp8) hZ (hw _ (List.mem_of_getElem? (i := 17) rfl)) (hw _ (List.mem_of_getElem? (i := 10) rfl)) (by decide) (by decide)) (g := (mkF m 6 #[.val (.ref a), .val (.ref ar)] [.null, (.int (2 : Int32)), (.int (0 : Int32)), (.ref ar), (.ref a)])) rfl (by rw [hml]; rfl) (Steps.refl _) (a := a) (argsL := [(.ref ar), (.int (0 : Int32)), (.int (2 : Int32)), .null]) (rest := []) (lenOf pd_175 rfl) rfl (by show 2 * 0 + _ ≤ _; exact Nat.le_of_eq rfl) (hb hby d_jdk_42_method_3_6) (fun _ _ => ⟨rfl, e0, (by decide : 0 + 1 ≤ _), (by decide : 0 + 2 ≤ _)⟩)
  dsimp only [Pt.U, Pt.locs, Pt.cells, Pt.slots] at X2 l2 y2 z2 st2 hQ2
  subst l2 y2 z2
  obtain ⟨b3, ⟨kb4, ⟨rfl, N2q, K2, B2_0, P2_0, P2_1, P2_2, P2_3⟩⟩⟩ := hQ2
  have N2 := Fr.app N0 N2q
  refine OwnFin.step (fun tT kK => st2.trans kK) ?_
  have sz_b3 : h0.size ≤ b3 := Nat.le_trans Kp0.1 B2_0
  show OwnFin p e below _ (T2.setTop (mkF m 9 #[.val (.ref a), .val (.ref ar)] []))
  obtain ⟨fs6, hr6, hrun6, hended6, hW6, hsame6⟩ := X2.leave (v := none) (fun _ => rfl)
  refine ⟨_, _, X2.returnOut hx Bd.returns (hb hby d_jdk_42_method_3_9) hr6, hrun6, hended6, _, _, rfl, ?_, ⟨_, rfl⟩, hW6, hsame6.mono (by decide) (by decide)⟩
  show Q82 Z a ar k cs c0 c1 h0 n0 _ T2.heap _
  exact ⟨b3, kb4, rfl, N2, ((Keep.refl h0 [a]).trans K2 (allS (P := fun x => x ∈ [a] ∨ h0.size ≤ x) (Or.inl (List.mem_of_getElem? (i := 0) rfl)) all0)), sz_b3, P2_0, P2_1, P2_2, P2_3⟩
theorem d_method_3_0 : decode method_3_code 0 = .ok (.iload_n 0, 1) := by decide +kernel
theorem d_method_3_1 : decode method_3_code 1 = .ok (.invokestatic 7, 3) := by decide +kernel
theorem d_method_3_4 : decode method_3_code 4 = .ok (.istore_n 1, 1) := by decide +kernel
theorem d_method_3_5 : decode method_3_code 5 = .ok (.iload_n 1, 1) := by decide +kernel
theorem d_method_3_6 : decode method_3_code 6 = .ok (.newarray .char, 2) := by decide +kernel
theorem d_method_3_8 : decode method_3_code 8 = .ok (.astore_n 2, 1) := by decide +kernel
theorem d_method_3_9 : decode method_3_code 9 = .ok (.iload_n 1, 1) := by decide +kernel
theorem d_method_3_10 : decode method_3_code 10 = .ok (.ifCond .le 12, 3) := by decide +kernel
theorem d_method_3_22 : decode method_3_code 22 = .ok (.iload_n 1, 1) := by decide +kernel
theorem d_method_3_23 : decode method_3_code 23 = .ok (.iconst 1, 1) := by decide +kernel
theorem d_method_3_24 : decode method_3_code 24 = .ok (.if_icmp .le 15, 3) := by decide +kernel
theorem d_method_3_39 : decode method_3_code 39 = .ok (.new 13, 3) := by decide +kernel
theorem d_method_3_42 : decode method_3_code 42 = .ok (.dup, 1) := by decide +kernel
theorem d_method_3_43 : decode method_3_code 43 = .ok (.aload_n 2, 1) := by decide +kernel
theorem d_method_3_44 : decode method_3_code 44 = .ok (.invokespecial 15, 3) := by decide +kernel
theorem pd_258 : parseMethodDescriptor "([C)V" = some ⟨[(.array .char)], none⟩ := by decide +kernel
theorem d_method_3_47 : decode method_3_code 47 = .ok (.areturn, 1) := by decide +kernel
theorem d_method_3_13 : decode method_3_code 13 = .ok (.aload_n 2, 1) := by decide +kernel
theorem d_method_3_14 : decode method_3_code 14 = .ok (.iconst 0, 1) := by decide +kernel
theorem d_method_3_15 : decode method_3_code 15 = .ok (.iload_n 0, 1) := by decide +kernel
theorem d_method_3_16 : decode method_3_code 16 = .ok (.sipush 255, 3) := by decide +kernel
theorem d_method_3_19 : decode method_3_code 19 = .ok (.iand, 1) := by decide +kernel
theorem d_method_3_20 : decode method_3_code 20 = .ok (.i2c, 1) := by decide +kernel
theorem d_method_3_21 : decode method_3_code 21 = .ok (.castore, 1) := by decide +kernel
theorem d_method_3_27 : decode method_3_code 27 = .ok (.aload_n 2, 1) := by decide +kernel
theorem d_method_3_28 : decode method_3_code 28 = .ok (.iconst 1, 1) := by decide +kernel
theorem d_method_3_29 : decode method_3_code 29 = .ok (.iload_n 0, 1) := by decide +kernel
theorem d_method_3_30 : decode method_3_code 30 = .ok (.bipush 8, 2) := by decide +kernel
theorem d_method_3_32 : decode method_3_code 32 = .ok (.iushr, 1) := by decide +kernel
theorem d_method_3_33 : decode method_3_code 33 = .ok (.sipush 255, 3) := by decide +kernel
theorem d_method_3_36 : decode method_3_code 36 = .ok (.iand, 1) := by decide +kernel
theorem d_method_3_37 : decode method_3_code 37 = .ok (.i2c, 1) := by decide +kernel
theorem d_method_3_38 : decode method_3_code 38 = .ok (.castore, 1) := by decide +kernel
theorem ef_9 (m : MethodId) (x : Int32) : entryFrame m #[(.int x)] 3 = mkF m 0 #[.val (.int x), .unset, .unset] [] := by first | (simp [entryFrame, mkF, argsToLocals, Value.category]; done) | rfl
def Q9 (Z : State) (x : Int32) (cs : Int32) (h0 : Heap) (n0 : Nat) (vV : Option Value) (hH : Heap) (LL : List Loc) : Prop := ∃ b : Addr, ∃ d : Addr, ∃ kd : ClassId, vV = some (.ref b) ∧ Fr n0 LL ∧ Keep h0 hH [] ∧ h0.size ≤ b ∧ (Exa Z hH b "java/lang/String") ∧ (Fld Z hH b "java/lang/String" "value" "[B" (.ref d)) ∧ (Fld Z hH b "java/lang/String" "coder" "B" (.int (0 : Int32))) ∧ (Arv Z hH d kd .byte (OwnL x) (OwnV x) (.int (0 : Int32))) ∧ (OwnB (OwnL x) (OwnV x))
def R9 (Z : State) (x : Int32) (cs : Int32) (h0 : Heap) (n0 : Nat) (U : State) (oO : Outcome) (U' : State) : Prop := ∃ vV LL, oO = .returned vV ∧ Q9 Z x cs h0 n0 vV U'.heap LL ∧ CHr Z OwnEL U.vm U.heap U'.vm U'.heap ∧ ReturnedEndW U oO U' LL ({ frames := 4, cells := 6, slots := 12, locals := 66 } : Room).cells ({ frames := 4, cells := 6, slots := 12, locals := 66 } : Room).slots
set_option maxRecDepth 65536 in
set_option maxHeartbeats 40000000 in
theorem rm9 (l : Launch) (Z : State) (a0 : Array Value) (hw : ∀ d ∈ tables_1, d.before a0 Z = true) (hEL : EW Z a0 OwnEL) (wS : ∀ a ∈ Bundle.stringAtoms, a.before a0 Z = true) (ws : List Jvm.Cond) (x : Int32) (cs : Int32) (h0 : Heap) (n0 : Nat) (Z0 : n0 ≤ h0.size) (hp0 : Sta Z h0 "java/lang/String" "COMPACT_STRINGS" "Z" (.int cs)) (hp1 : ¬ cs = (0 : Int32)) :
    MetFree l (⟨"com/example/limpet/limpet/HoldEqualsPinLaw", "mk", "(I)Ljava/lang/String;"⟩ : MethodName) (head1 (Jvm.Cond.code (⟨"com/example/limpet/limpet/HoldEqualsPinLaw", "mk", "(I)Ljava/lang/String;"⟩ : MethodName) method_3_code 3 (some (.object "java/lang/String")) :: ws) ({ frames := 4, cells := 6, slots := 12, locals := 66 } : Room)) (fun aA U => aA = #[(.int x)] ∧ Z.Warmed39 U.vm ∧ U.heap = h0 ∧ CHv Z OwnEL U.vm h0) (fun _ _ _ _ _ => True) (fun _ U oO U' => ∃ vV LL, oO = .returned vV ∧ Q9 Z x cs h0 n0 vV U'.heap LL ∧ CHr Z OwnEL U.vm U.heap U'.vm U'.heap ∧ ReturnedEndW U oO U' LL ({ frames := 4, cells := 6, slots := 12, locals := 66 } : Room).cells ({ frames := 4, cells := 6, slots := 12, locals := 66 } : Room).slots) := by
  refine MetFree.of_bodySF (plainFor_of_name pn_104) hisR ?_
  intro p e s m args below meth cC s₁ Bd hml0 hP hK
  obtain ⟨rfl, hZ, hh, hCH⟩ := hP
  have hx := Bd.exec
  have hby := Bd.bytes
  have hml : cC.maxLocals = 3 := hml0
  have hown : s.vm.findClass "com/example/limpet/limpet/HoldEqualsPinLaw" = some m.cls := findClass_of_methodNamed Bd.named
  have hnm := (name_of_methodNamed Bd.named Bd.method).1
  have X0 : Stand p l e ({ frames := 4, cells := 6, slots := 12, locals := 66 } : Room) (s.setVm s.vm) m #[(.int x)] below meth cC s₁ [] 0 0 := Stand.of_body Bd
  have e0 : s₁.heap = h0 := by rw [← hh, Bd.state]; rfl
  have N0 := Fr.nil n0
  have Kp0 := Keep.refl h0 []
  have C0 : CHr Z OwnEL s.vm h0 s.vm h0 := CHr.refl hCH
  have hS0 : s.Since s.vm h0.size := (State.WarmedH.refl s).since _
  have hk0 : h0.size ≤ h0.size := Nat.le_refl _
  show OwnFin p e below (R9 Z x cs h0 n0 s) (s₁.setTop (entryFrame m #[(.int x)] 3))
  rw [ef_9 m x]
  refine OwnFin.step (fun tT kK => XS.iloadN X0.here hx rfl (hb hby d_method_3_0) rfl kK) ?_
  show OwnFin p e below _ (s₁.setTop (mkF m 1 #[.val (.int x), .unset, .unset] [(.int x)]))
  obtain ⟨_, _, ⟨T1, L1, k1, n1⟩, -, X1, ⟨Lc1, hQ1, l1, y1, z1⟩, st1⟩ := Jvm.LawKit.callS X0 hx (y := (⟨"com/example/limpet/limpet/HoldEqualsPinLaw", "len", "(I)I"⟩ : MethodName)) hown (mvT hZ (hw _ (List.mem_of_getElem? (i := 4) rfl))) (mvT hZ (hw _ (List.mem_of_getElem? (i := 5) rfl))) (mvT hZ (hw _ (List.mem_of_getElem? (i := 2) rfl))) (mvT hZ (hw _ (List.mem_of_getElem? (i := 6) rfl))) (by decide) (backOf (W := 0) (rm6 l Z a0 hw hEL wS [] x h0 n0 (Nat.le_trans Z0 Kp0.1) ) hZ (hw _ (List.mem_of_getElem? (i := 6) rfl)) (hw _ (List.mem_of_getElem? (i := 2) rfl)) (by decide) (by decide)) (g := (mkF m 1 #[.val (.int x), .unset, .unset] [(.int x)])) rfl (by rw [hml]; rfl) (argsL := [(.int x)]) (rest := []) (lenOf pd_115 rfl) rfl (by show 2 * 0 + _ ≤ _; exact Nat.le_of_eq rfl) (hb hby d_method_3_1) (fun _ _ => ⟨rfl, e0, (by decide : 0 + 0 ≤ _), (by decide : 0 + 0 ≤ _)⟩)
  dsimp only [Pt.U, Pt.locs, Pt.cells, Pt.slots] at X1 l1 y1 z1 st1 hQ1
  subst l1 y1 z1
  obtain ⟨rfl, N1q, e1⟩ := hQ1
  have N1 := Fr.app N0 N1q
  refine OwnFin.step st1 ?_
  show OwnFin p e below _ (T1.setTop (mkF m 4 #[.val (.int x), .unset, .unset] [(.int (OwnL x))]))
  refine OwnFin.step (fun tT kK => XS.istoreN X1.here hx rfl (hb hby d_method_3_4) rfl (l' := #[.val (.int x), .val (.int (OwnL x)), .unset]) rfl kK) ?_
  show OwnFin p e below _ (T1.setTop (mkF m 5 #[.val (.int x), .val (.int (OwnL x)), .unset] []))
  refine OwnFin.step (fun tT kK => XS.iloadN X1.here hx rfl (hb hby d_method_3_5) rfl kK) ?_
  show OwnFin p e below _ (T1.setTop (mkF m 6 #[.val (.int x), .val (.int (OwnL x)), .unset] [(.int (OwnL x))]))
  rcases own_len3 x with h3x | h3x | h3x
  · skip
    rw [h3x]
    show OwnFin p e below _ (T1.setTop (mkF m 6 #[.val (.int x), .val (.int (0 : Int32)), .unset] [(.int (0 : Int32))]))
    obtain ⟨T2, h2, k2, X2, e2, E2, A2, st2⟩ := newP X1 hx hZ (hw _ (List.mem_of_getElem? (i := 7) rfl)) e1 (g := (mkF m 6 #[.val (.int x), .val (.int (0 : Int32)), .unset] [(.int (0 : Int32))])) rfl (hb hby d_method_3_6) rfl (by decide) (cap := 0) (by decide) (by decide) (by decide) (by decide)
    obtain ⟨b2, g2⟩ : ∃ z, z = h0.size := ⟨_, rfl⟩
    rw [← g2] at A2 st2
    refine OwnFin.step st2 ?_
    have sz_b2 : h0.size ≤ b2 := Nat.le_trans Kp0.1 (Nat.le_of_eq g2.symm)
    have Kp3 := Kp0.ext E2
    have cp4 := (CHr.ext E2 C0.1)
    have C4 := C0.trans cp4
    have sf_b2 := (Safe.new (Nat.le_of_eq g2.symm)).ext E2 C0.1
    have V2 : Arv Z h2 b2 k2 .char (0 : Int32) [] (.int (0 : Int32)) := (Arv.new A2 (by decide)).pad (pad_rep [] (.int (0 : Int32)) 0)
    show OwnFin p e below _ (T2.setTop (mkF m 8 #[.val (.int x), .val (.int (0 : Int32)), .unset] [(.ref b2)]))
    refine OwnFin.step (fun tT kK => XS.astoreN X2.here hx rfl (hb hby d_method_3_8) rfl rfl (l' := #[.val (.int x), .val (.int (0 : Int32)), .val (.ref b2)]) rfl kK) ?_
    show OwnFin p e below _ (T2.setTop (mkF m 9 #[.val (.int x), .val (.int (0 : Int32)), .val (.ref b2)] []))
    refine OwnFin.step (fun tT kK => XS.iloadN X2.here hx rfl (hb hby d_method_3_9) rfl kK) ?_
    show OwnFin p e below _ (T2.setTop (mkF m 10 #[.val (.int x), .val (.int (0 : Int32)), .val (.ref b2)] [(.int (0 : Int32))]))
    refine OwnFin.step (fun tT kK => XS.ifYes X2.here hx rfl (pc0 := 10) (pc' := 22) rfl (hb hby d_method_3_10) rfl ((if0 _ _).trans (flt (by decide : ¬ ((0 : Int32) < (0 : Int32)))).2.2.2) (by decide) (by decide) kK) ?_
    show OwnFin p e below _ (T2.setTop (mkF m 22 #[.val (.int x), .val (.int (0 : Int32)), .val (.ref b2)] []))
    refine OwnFin.step (fun tT kK => XS.iloadN X2.here hx rfl (hb hby d_method_3_22) rfl kK) ?_
    show OwnFin p e below _ (T2.setTop (mkF m 23 #[.val (.int x), .val (.int (0 : Int32)), .val (.ref b2)] [(.int (0 : Int32))]))
    refine OwnFin.step (fun tT kK => XS.iconst X2.here hx rfl (hb hby d_method_3_23) kK) ?_
    show OwnFin p e below _ (T2.setTop (mkF m 24 #[.val (.int x), .val (.int (0 : Int32)), .val (.ref b2)] [(.int (1 : Int32)), (.int (0 : Int32))]))
    refine OwnFin.step (fun tT kK => XS.icmpYes X2.here hx rfl (pc0 := 24) (pc' := 39) rfl (hb hby d_method_3_24) rfl (flt (by decide : ¬ ((1 : Int32) < (0 : Int32)))).2.2.2 (by decide) (by decide) kK) ?_
    show OwnFin p e below _ (T2.setTop (mkF m 39 #[.val (.int x), .val (.int (0 : Int32)), .val (.ref b2)] []))
    obtain ⟨T5, h5, X5, e5, E5, A5, D5, -, st5⟩ := newO X2 hx hZ hown (hw _ (List.mem_of_getElem? (i := 8) rfl)) (hw _ (List.mem_of_getElem? (i := 9) rfl)) (hw _ (List.mem_of_getElem? (i := 10) rfl)) e2 (g := (mkF m 39 #[.val (.int x), .val (.int (0 : Int32)), .val (.ref b2)] [])) rfl (hb hby d_method_3_39) (by decide) (by decide)
    obtain ⟨b5, g5⟩ : ∃ z, z = h2.size := ⟨_, rfl⟩
    rw [← g5] at A5 D5 st5
    refine OwnFin.step st5 ?_
    have sz_b5 : h0.size ≤ b5 := Nat.le_trans Kp3.1 (Nat.le_of_eq g5.symm)
    have Kp6 := Kp3.ext E5
    have cp7 := (CHr.ext E5 C4.1)
    have C7 := C4.trans cp7
    have sf_b5 := (Safe.new (Nat.le_of_eq g5.symm)).ext E5 C4.1
    have Fz8 : Fld Z h5 b5 "java/lang/String" "value" "[B" .null := D5 (Or.inr (hw _ (List.mem_of_getElem? (i := 23) rfl))) (ty := (.array .byte)) (by decide)
    have Fz9 : Fld Z h5 b5 "java/lang/String" "coder" "B" (.int (0 : Int32)) := D5 (Or.inr (hw _ (List.mem_of_getElem? (i := 24) rfl))) (ty := .byte) (by decide)
    show OwnFin p e below _ (T5.setTop (mkF m 42 #[.val (.int x), .val (.int (0 : Int32)), .val (.ref b2)] [(.ref b5)]))
    refine OwnFin.step (fun tT kK => XS.dup X5.here hx rfl (hb hby d_method_3_42) rfl rfl kK) ?_
    show OwnFin p e below _ (T5.setTop (mkF m 43 #[.val (.int x), .val (.int (0 : Int32)), .val (.ref b2)] [(.ref b5), (.ref b5)]))
    refine OwnFin.step (fun tT kK => XS.aloadN X5.here hx rfl (hb hby d_method_3_43) rfl rfl kK) ?_
    show OwnFin p e below _ (T5.setTop (mkF m 44 #[.val (.int x), .val (.int (0 : Int32)), .val (.ref b2)] [(.ref b2), (.ref b5), (.ref b5)]))
    have f10 : Arv Z h5 b2 k2 .char (0 : Int32) [] (.int (0 : Int32)) := (V2.ext E5)
    obtain ⟨_, _, ⟨T11, L11, k11, n11⟩, -, X11', hs11, hg11, ⟨Lc11, hQ11, l11, y11, z11, cq11⟩, st11⟩ := X5.specialBackS hx (y := (⟨"java/lang/String", "<init>", "([C)V"⟩ : MethodName)) rfl hown (mvT hZ (hw _ (List.mem_of_getElem? (i := 11) rfl))) (mvT hZ (hw _ (List.mem_of_getElem? (i := 12) rfl))) (mvT hZ (hw _ (List.mem_of_getElem? (i := 13) rfl))) (by decide) (backOfSH (W := 1) (rm80 l Z a0 hw hEL wS [] b5 b2 k2 h5 n0 (Nat.le_trans Z0 Kp6.1) A5 Fz8 Fz9 (Nat.le_trans Z0 sz_b5) f10) hZ (hw _ (List.mem_of_getElem? (i := 13) rfl)) (hw _ (List.mem_of_getElem? (i := 10) rfl)) (by decide) (by decide) hEL C7.1) (g := (mkF m 44 #[.val (.int x), .val (.int (0 : Int32)), .val (.ref b2)] [(.ref b2), (.ref b5), (.ref b5)])) rfl (by rw [hml]; rfl) (Steps.refl _) (a := b5) (argsL := [(.ref b2)]) (rest := [(.ref b5)]) (lenOf pd_258 rfl) rfl (by show 2 * 0 + _ ≤ _; exact Nat.le_of_eq rfl) (hb hby d_method_3_44) (fun _ _ => ⟨rfl, e5, (by decide : 2 + 4 ≤ _), (by decide : 4 + 8 ≤ _)⟩)
    dsimp only [Pt.U, Pt.locs, Pt.cells, Pt.slots] at X11' hs11 hg11 l11 y11 z11 st11 hQ11 cq11
    subst l11 y11 z11
    obtain ⟨X11, hS11, hZ, hown⟩ := rebS hS0 (by rw [e5]; exact (Nat.le_trans hk0 (Nat.le_trans (Nat.le_trans (Nat.le_refl _) E2.1) E5.1))) X11' hs11 hg11 hZ hown
    obtain ⟨b12, ⟨kb13, ⟨rfl, N11q, K11, P11_0, P11_1, P11_2, P11_3⟩⟩⟩ := hQ11
    have N11 := Fr.app N1 N11q
    refine OwnFin.step (fun tT kK => st11.trans kK) ?_
    have Kp14 := Kp6.trans K11 (allS (P := fun x => x ∈ ([] : List Addr) ∨ h0.size ≤ x) (Or.inr sz_b5) all0)
    have cp15 := cq11
    have C15 := C7.trans cp15
    show OwnFin p e below _ (T11.setTop (mkF m 47 #[.val (.int x), .val (.int (0 : Int32)), .val (.ref b2)] [(.ref b5)]))
    have hV : OwnV x = [] := by simp [OwnV, h3x]
    obtain ⟨fs16, hr16, hrun16, hended16, hW16⟩ := X11.leaveW (s := s) hS11 (Nat.le_trans (Nat.le_refl T11.heap.size) (Nat.le_refl _)) (v := (some (.ref b5))) (fun h => by rw [Bd.returns] at h; cases h)
    refine ⟨_, _, retOut X11 hx Bd.returns rfl (Or.inr (Or.inr (Or.inr (Or.inr ⟨rfl, rfl, rfl⟩)))) (hb hby d_method_3_47) hr16, hrun16, hended16, _, _, rfl, ?_, (by show CHr Z OwnEL s.vm s.heap T11.vm T11.heap; rw [hh]; exact C15.trans (CHv.at X11 hZ hEL C15.1)), hW16.1, hW16.2.1, hW16.2.2.1, hW16.2.2.2.mono (by decide) (by decide)⟩
    show Q9 Z x cs h0 n0 _ T11.heap _
    exact ⟨b5, b12, kb13, rfl, N11, Kp14, sz_b5, P11_0, P11_1, P11_2, (by rw [hV, h3x]; exact P11_3), own_obv x⟩
  · skip
    rw [h3x]
    show OwnFin p e below _ (T1.setTop (mkF m 6 #[.val (.int x), .val (.int (1 : Int32)), .unset] [(.int (1 : Int32))]))
    obtain ⟨T17, h17, k17, X17, e17, E17, A17, st17⟩ := newP X1 hx hZ (hw _ (List.mem_of_getElem? (i := 7) rfl)) e1 (g := (mkF m 6 #[.val (.int x), .val (.int (1 : Int32)), .unset] [(.int (1 : Int32))])) rfl (hb hby d_method_3_6) rfl (by decide) (cap := 1) (by decide) (by decide) (by decide) (by decide)
    obtain ⟨b17, g17⟩ : ∃ z, z = h0.size := ⟨_, rfl⟩
    rw [← g17] at A17 st17
    refine OwnFin.step st17 ?_
    have sz_b17 : h0.size ≤ b17 := Nat.le_trans Kp0.1 (Nat.le_of_eq g17.symm)
    have Kp18 := Kp0.ext E17
    have cp19 := (CHr.ext E17 C0.1)
    have C19 := C0.trans cp19
    have sf_b17 := (Safe.new (Nat.le_of_eq g17.symm)).ext E17 C0.1
    have V17 : Arv Z h17 b17 k17 .char (1 : Int32) [(.int (0 : Int32))] (.int (0 : Int32)) := (Arv.new A17 (by decide)).pad (pad_rep [] (.int (0 : Int32)) 1)
    show OwnFin p e below _ (T17.setTop (mkF m 8 #[.val (.int x), .val (.int (1 : Int32)), .unset] [(.ref b17)]))
    refine OwnFin.step (fun tT kK => XS.astoreN X17.here hx rfl (hb hby d_method_3_8) rfl rfl (l' := #[.val (.int x), .val (.int (1 : Int32)), .val (.ref b17)]) rfl kK) ?_
    show OwnFin p e below _ (T17.setTop (mkF m 9 #[.val (.int x), .val (.int (1 : Int32)), .val (.ref b17)] []))
    refine OwnFin.step (fun tT kK => XS.iloadN X17.here hx rfl (hb hby d_method_3_9) rfl kK) ?_
    show OwnFin p e below _ (T17.setTop (mkF m 10 #[.val (.int x), .val (.int (1 : Int32)), .val (.ref b17)] [(.int (1 : Int32))]))
    refine OwnFin.step (fun tT kK => XS.ifNo X17.here hx rfl (hb hby d_method_3_10) rfl ((if0 _ _).trans (tlt (by decide : (0 : Int32) < (1 : Int32))).2.2.2) kK) ?_
    show OwnFin p e below _ (T17.setTop (mkF m 13 #[.val (.int x), .val (.int (1 : Int32)), .val (.ref b17)] []))
    refine OwnFin.step (fun tT kK => XS.aloadN X17.here hx rfl (hb hby d_method_3_13) rfl rfl kK) ?_
    show OwnFin p e below _ (T17.setTop (mkF m 14 #[.val (.int x), .val (.int (1 : Int32)), .val (.ref b17)] [(.ref b17)]))
    refine OwnFin.step (fun tT kK => XS.iconst X17.here hx rfl (hb hby d_method_3_14) kK) ?_
    show OwnFin p e below _ (T17.setTop (mkF m 15 #[.val (.int x), .val (.int (1 : Int32)), .val (.ref b17)] [(.int (0 : Int32)), (.ref b17)]))
    refine OwnFin.step (fun tT kK => XS.iloadN X17.here hx rfl (hb hby d_method_3_15) rfl kK) ?_
    show OwnFin p e below _ (T17.setTop (mkF m 16 #[.val (.int x), .val (.int (1 : Int32)), .val (.ref b17)] [(.int x), (.int (0 : Int32)), (.ref b17)]))
    refine OwnFin.step (fun tT kK => XS.sipush X17.here hx rfl (hb hby d_method_3_16) kK) ?_
    show OwnFin p e below _ (T17.setTop (mkF m 19 #[.val (.int x), .val (.int (1 : Int32)), .val (.ref b17)] [(.int (255 : Int32)), (.int x), (.int (0 : Int32)), (.ref b17)]))
    refine OwnFin.step (fun tT kK => XS.iand X17.here hx rfl (hb hby d_method_3_19) rfl kK) ?_
    show OwnFin p e below _ (T17.setTop (mkF m 20 #[.val (.int x), .val (.int (1 : Int32)), .val (.ref b17)] [(.int (x &&& (255 : Int32))), (.int (0 : Int32)), (.ref b17)]))
    refine OwnFin.step (fun tT kK => XS.i2c X17.here hx rfl (hb hby d_method_3_20) rfl kK) ?_
    show OwnFin p e below _ (T17.setTop (mkF m 21 #[.val (.int x), .val (.int (1 : Int32)), .val (.ref b17)] [(.int ((x &&& (255 : Int32)).toUInt32.toUInt16.toUInt32.toInt32)), (.int (0 : Int32)), (.ref b17)]))
    obtain ⟨cl20, Ar20, q20, Sz20, Ng20, H20, G20⟩ := id V17
    have hin20 : ¬ ((0 : Int32) < 0 ∨ cl20.slots.size ≤ ((0 : Int32)).toNatClampNeg) := inb_of Sz20 ⟨by decide, by decide⟩
    obtain ⟨T21, h21, X21, e21, W21, st21⟩ := stC X17 hx hZ e17 Ar20 (j := (0 : Int32)) hin20 (g := (mkF m 21 #[.val (.int x), .val (.int (1 : Int32)), .val (.ref b17)] [(.int ((x &&& (255 : Int32)).toUInt32.toUInt16.toUInt32.toInt32)), (.int (0 : Int32)), (.ref b17)])) rfl rfl (hb hby d_method_3_21)
    refine OwnFin.step st21 ?_
    have N21 := Fr.snoc X21 N1 (Nat.le_trans Z0 sz_b17)
    have Kp22 := Kp18.wr W21 (Or.inr sz_b17)
    have cp23 := (CHr.wr W21 (Safe.arv hZ.alike V17 (by decide)) C19.1)
    have C23 := C19.trans cp23
    have V21 : Arv Z h21 b17 k17 .char (1 : Int32) [(.int (nar .char ((x &&& (255 : Int32)).toUInt32.toUInt16.toUInt32.toInt32)))] (.int (0 : Int32)) := Arv.set Ar20 q20 Sz20 Ng20 H20 G20 (fits_nar_char _) W21 0 rfl (Nat.le_of_ble_eq_true rfl)
    show OwnFin p e below _ (T21.setTop (mkF m 22 #[.val (.int x), .val (.int (1 : Int32)), .val (.ref b17)] []))
    refine OwnFin.step (fun tT kK => XS.iloadN X21.here hx rfl (hb hby d_method_3_22) rfl kK) ?_
    show OwnFin p e below _ (T21.setTop (mkF m 23 #[.val (.int x), .val (.int (1 : Int32)), .val (.ref b17)] [(.int (1 : Int32))]))
    refine OwnFin.step (fun tT kK => XS.iconst X21.here hx rfl (hb hby d_method_3_23) kK) ?_
    show OwnFin p e below _ (T21.setTop (mkF m 24 #[.val (.int x), .val (.int (1 : Int32)), .val (.ref b17)] [(.int (1 : Int32)), (.int (1 : Int32))]))
    refine OwnFin.step (fun tT kK => XS.icmpYes X21.here hx rfl (pc0 := 24) (pc' := 39) rfl (hb hby d_method_3_24) rfl (flt (by decide : ¬ ((1 : Int32) < (1 : Int32)))).2.2.2 (by decide) (by decide) kK) ?_
    show OwnFin p e below _ (T21.setTop (mkF m 39 #[.val (.int x), .val (.int (1 : Int32)), .val (.ref b17)] []))
    obtain ⟨T24, h24, X24, e24, E24, A24, D24, -, st24⟩ := newO X21 hx hZ hown (hw _ (List.mem_of_getElem? (i := 8) rfl)) (hw _ (List.mem_of_getElem? (i := 9) rfl)) (hw _ (List.mem_of_getElem? (i := 10) rfl)) e21 (g := (mkF m 39 #[.val (.int x), .val (.int (1 : Int32)), .val (.ref b17)] [])) rfl (hb hby d_method_3_39) (by decide) (by decide)
    obtain ⟨b24, g24⟩ : ∃ z, z = h21.size := ⟨_, rfl⟩
    rw [← g24] at A24 D24 st24
    refine OwnFin.step st24 ?_
    have sz_b24 : h0.size ≤ b24 := Nat.le_trans Kp22.1 (Nat.le_of_eq g24.symm)
    have Kp25 := Kp22.ext E24
    have cp26 := (CHr.ext E24 C23.1)
    have C26 := C23.trans cp26
    have sf_b24 := (Safe.new (Nat.le_of_eq g24.symm)).ext E24 C23.1
    have Fz27 : Fld Z h24 b24 "java/lang/String" "value" "[B" .null := D24 (Or.inr (hw _ (List.mem_of_getElem? (i := 23) rfl))) (ty := (.array .byte)) (by decide)
    have Fz28 : Fld Z h24 b24 "java/lang/String" "coder" "B" (.int (0 : Int32)) := D24 (Or.inr (hw _ (List.mem_of_getElem? (i := 24) rfl))) (ty := .byte) (by decide)
    show OwnFin p e below _ (T24.setTop (mkF m 42 #[.val (.int x), .val (.int (1 : Int32)), .val (.ref b17)] [(.ref b24)]))
    refine OwnFin.step (fun tT kK => XS.dup X24.here hx rfl (hb hby d_method_3_42) rfl rfl kK) ?_
    show OwnFin p e below _ (T24.setTop (mkF m 43 #[.val (.int x), .val (.int (1 : Int32)), .val (.ref b17)] [(.ref b24), (.ref b24)]))
    refine OwnFin.step (fun tT kK => XS.aloadN X24.here hx rfl (hb hby d_method_3_43) rfl rfl kK) ?_
    show OwnFin p e below _ (T24.setTop (mkF m 44 #[.val (.int x), .val (.int (1 : Int32)), .val (.ref b17)] [(.ref b17), (.ref b24), (.ref b24)]))
    have f29 : Arv Z h24 b17 k17 .char (1 : Int32) [(.int (nar .char ((x &&& (255 : Int32)).toUInt32.toUInt16.toUInt32.toInt32)))] (.int (0 : Int32)) := (V21.ext E24)
    have f30 : Sta Z h24 "java/lang/String" "COMPACT_STRINGS" "Z" (.int cs) := (own_sta_keep hp0 Kp25 all0)
    obtain ⟨_, _, ⟨T31, L31, k31, n31⟩, -, X31, ⟨Lc31, hQ31, l31, y31, z31⟩, st31⟩ := X24.specialBack hx (y := (⟨"java/lang/String", "<init>", "([C)V"⟩ : MethodName)) rfl hown (mvT hZ (hw _ (List.mem_of_getElem? (i := 11) rfl))) (mvT hZ (hw _ (List.mem_of_getElem? (i := 12) rfl))) (mvT hZ (hw _ (List.mem_of_getElem? (i := 13) rfl))) (by decide) (backOf (W := 1) (rm81 l Z a0 hw hEL wS [] b24 b17 k17 cs (nar .char ((x &&& (255 : Int32)).toUInt32.toUInt16.toUInt32.toInt32)) h24 n0 (Nat.le_trans Z0 Kp25.1) A24 Fz27 Fz28 (Nat.le_trans Z0 sz_b24) f29 f30 hp1 (own_nar255 (own_c8 _).1 (own_c8 _).2)) hZ (hw _ (List.mem_of_getElem? (i := 13) rfl)) (hw _ (List.mem_of_getElem? (i := 10) rfl)) (by decide) (by decide)) (g := (mkF m 44 #[.val (.int x), .val (.int (1 : Int32)), .val (.ref b17)] [(.ref b17), (.ref b24), (.ref b24)])) rfl (by rw [hml]; rfl) (Steps.refl _) (a := b24) (argsL := [(.ref b17)]) (rest := [(.ref b24)]) (lenOf pd_258 rfl) rfl (by show 2 * 0 + _ ≤ _; exact Nat.le_of_eq rfl) (hb hby d_method_3_44) (fun _ _ => ⟨rfl, e24, (by decide : 2 + 1 ≤ _), (by decide : 5 + 1 ≤ _)⟩)
    dsimp only [Pt.U, Pt.locs, Pt.cells, Pt.slots] at X31 l31 y31 z31 st31 hQ31
    subst l31 y31 z31
    obtain ⟨b32, ⟨kb33, ⟨rfl, N31q, K31, B31_0, P31_0, P31_1, P31_2, P31_3⟩⟩⟩ := hQ31
    have N31 := Fr.app N21 N31q
    refine OwnFin.step (fun tT kK => st31.trans kK) ?_
    have sz_b32 : h0.size ≤ b32 := Nat.le_trans Kp25.1 B31_0
    have Kp34 := Kp25.trans K31 (allS (P := fun x => x ∈ ([] : List Addr) ∨ h0.size ≤ x) (Or.inr sz_b24) all0)
    have cp35 := (CHr.keep K31 (sfS sf_b24 sf0) C26.1)
    have C35 := C26.trans cp35
    show OwnFin p e below _ (T31.setTop (mkF m 47 #[.val (.int x), .val (.int (1 : Int32)), .val (.ref b17)] [(.ref b24)]))
    have hV : OwnV x = [BB (OwnM1 x)] := by simp [OwnV, h3x]
    obtain ⟨fs36, hr36, hrun36, hended36, hW36⟩ := X31.leaveW (s := s) hS0 (Nat.le_trans hk0 (Nat.le_trans (Nat.le_trans (Nat.le_trans (Nat.le_trans (Nat.le_refl _) E17.1) (Keep.of_wr W21).1) E24.1) K31.1)) (v := (some (.ref b24))) (fun h => by rw [Bd.returns] at h; cases h)
    refine ⟨_, _, retOut X31 hx Bd.returns rfl (Or.inr (Or.inr (Or.inr (Or.inr ⟨rfl, rfl, rfl⟩)))) (hb hby d_method_3_47) hr36, hrun36, hended36, _, _, rfl, ?_, (by show CHr Z OwnEL s.vm s.heap T31.vm T31.heap; rw [hh]; exact C35.trans (CHv.at X31 hZ hEL C35.1)), hW36.1, hW36.2.1, hW36.2.2.1, hW36.2.2.2.mono (by decide) (by decide)⟩
    show Q9 Z x cs h0 n0 _ T31.heap _
    exact ⟨b24, b32, kb33, rfl, N31, Kp34, sz_b24, P31_0, P31_1, P31_2, (by rw [hV, h3x]; exact P31_3), own_obv x⟩
  · skip
    rw [h3x]
    show OwnFin p e below _ (T1.setTop (mkF m 6 #[.val (.int x), .val (.int (2 : Int32)), .unset] [(.int (2 : Int32))]))
    obtain ⟨T37, h37, k37, X37, e37, E37, A37, st37⟩ := newP X1 hx hZ (hw _ (List.mem_of_getElem? (i := 7) rfl)) e1 (g := (mkF m 6 #[.val (.int x), .val (.int (2 : Int32)), .unset] [(.int (2 : Int32))])) rfl (hb hby d_method_3_6) rfl (by decide) (cap := 2) (by decide) (by decide) (by decide) (by decide)
    obtain ⟨b37, g37⟩ : ∃ z, z = h0.size := ⟨_, rfl⟩
    rw [← g37] at A37 st37
    refine OwnFin.step st37 ?_
    have sz_b37 : h0.size ≤ b37 := Nat.le_trans Kp0.1 (Nat.le_of_eq g37.symm)
    have Kp38 := Kp0.ext E37
    have cp39 := (CHr.ext E37 C0.1)
    have C39 := C0.trans cp39
    have sf_b37 := (Safe.new (Nat.le_of_eq g37.symm)).ext E37 C0.1
    have V37 : Arv Z h37 b37 k37 .char (2 : Int32) [(.int (0 : Int32)), (.int (0 : Int32))] (.int (0 : Int32)) := (Arv.new A37 (by decide)).pad (pad_rep [] (.int (0 : Int32)) 2)
    show OwnFin p e below _ (T37.setTop (mkF m 8 #[.val (.int x), .val (.int (2 : Int32)), .unset] [(.ref b37)]))
    refine OwnFin.step (fun tT kK => XS.astoreN X37.here hx rfl (hb hby d_method_3_8) rfl rfl (l' := #[.val (.int x), .val (.int (2 : Int32)), .val (.ref b37)]) rfl kK) ?_
    show OwnFin p e below _ (T37.setTop (mkF m 9 #[.val (.int x), .val (.int (2 : Int32)), .val (.ref b37)] []))
    refine OwnFin.step (fun tT kK => XS.iloadN X37.here hx rfl (hb hby d_method_3_9) rfl kK) ?_
    show OwnFin p e below _ (T37.setTop (mkF m 10 #[.val (.int x), .val (.int (2 : Int32)), .val (.ref b37)] [(.int (2 : Int32))]))
    refine OwnFin.step (fun tT kK => XS.ifNo X37.here hx rfl (hb hby d_method_3_10) rfl ((if0 _ _).trans (tlt (by decide : (0 : Int32) < (2 : Int32))).2.2.2) kK) ?_
    show OwnFin p e below _ (T37.setTop (mkF m 13 #[.val (.int x), .val (.int (2 : Int32)), .val (.ref b37)] []))
    refine OwnFin.step (fun tT kK => XS.aloadN X37.here hx rfl (hb hby d_method_3_13) rfl rfl kK) ?_
    show OwnFin p e below _ (T37.setTop (mkF m 14 #[.val (.int x), .val (.int (2 : Int32)), .val (.ref b37)] [(.ref b37)]))
    refine OwnFin.step (fun tT kK => XS.iconst X37.here hx rfl (hb hby d_method_3_14) kK) ?_
    show OwnFin p e below _ (T37.setTop (mkF m 15 #[.val (.int x), .val (.int (2 : Int32)), .val (.ref b37)] [(.int (0 : Int32)), (.ref b37)]))
    refine OwnFin.step (fun tT kK => XS.iloadN X37.here hx rfl (hb hby d_method_3_15) rfl kK) ?_
    show OwnFin p e below _ (T37.setTop (mkF m 16 #[.val (.int x), .val (.int (2 : Int32)), .val (.ref b37)] [(.int x), (.int (0 : Int32)), (.ref b37)]))
    refine OwnFin.step (fun tT kK => XS.sipush X37.here hx rfl (hb hby d_method_3_16) kK) ?_
    show OwnFin p e below _ (T37.setTop (mkF m 19 #[.val (.int x), .val (.int (2 : Int32)), .val (.ref b37)] [(.int (255 : Int32)), (.int x), (.int (0 : Int32)), (.ref b37)]))
    refine OwnFin.step (fun tT kK => XS.iand X37.here hx rfl (hb hby d_method_3_19) rfl kK) ?_
    show OwnFin p e below _ (T37.setTop (mkF m 20 #[.val (.int x), .val (.int (2 : Int32)), .val (.ref b37)] [(.int (x &&& (255 : Int32))), (.int (0 : Int32)), (.ref b37)]))
    refine OwnFin.step (fun tT kK => XS.i2c X37.here hx rfl (hb hby d_method_3_20) rfl kK) ?_
    show OwnFin p e below _ (T37.setTop (mkF m 21 #[.val (.int x), .val (.int (2 : Int32)), .val (.ref b37)] [(.int ((x &&& (255 : Int32)).toUInt32.toUInt16.toUInt32.toInt32)), (.int (0 : Int32)), (.ref b37)]))
    obtain ⟨cl40, Ar40, q40, Sz40, Ng40, H40, G40⟩ := id V37
    have hin40 : ¬ ((0 : Int32) < 0 ∨ cl40.slots.size ≤ ((0 : Int32)).toNatClampNeg) := inb_of Sz40 ⟨by decide, by decide⟩
    obtain ⟨T41, h41, X41, e41, W41, st41⟩ := stC X37 hx hZ e37 Ar40 (j := (0 : Int32)) hin40 (g := (mkF m 21 #[.val (.int x), .val (.int (2 : Int32)), .val (.ref b37)] [(.int ((x &&& (255 : Int32)).toUInt32.toUInt16.toUInt32.toInt32)), (.int (0 : Int32)), (.ref b37)])) rfl rfl (hb hby d_method_3_21)
    refine OwnFin.step st41 ?_
    have N41 := Fr.snoc X41 N1 (Nat.le_trans Z0 sz_b37)
    have Kp42 := Kp38.wr W41 (Or.inr sz_b37)
    have cp43 := (CHr.wr W41 (Safe.arv hZ.alike V37 (by decide)) C39.1)
    have C43 := C39.trans cp43
    have V41 : Arv Z h41 b37 k37 .char (2 : Int32) [(.int (nar .char ((x &&& (255 : Int32)).toUInt32.toUInt16.toUInt32.toInt32))), (.int (0 : Int32))] (.int (0 : Int32)) := Arv.set Ar40 q40 Sz40 Ng40 H40 G40 (fits_nar_char _) W41 0 rfl (Nat.le_of_ble_eq_true rfl)
    show OwnFin p e below _ (T41.setTop (mkF m 22 #[.val (.int x), .val (.int (2 : Int32)), .val (.ref b37)] []))
    refine OwnFin.step (fun tT kK => XS.iloadN X41.here hx rfl (hb hby d_method_3_22) rfl kK) ?_
    show OwnFin p e below _ (T41.setTop (mkF m 23 #[.val (.int x), .val (.int (2 : Int32)), .val (.ref b37)] [(.int (2 : Int32))]))
    refine OwnFin.step (fun tT kK => XS.iconst X41.here hx rfl (hb hby d_method_3_23) kK) ?_
    show OwnFin p e below _ (T41.setTop (mkF m 24 #[.val (.int x), .val (.int (2 : Int32)), .val (.ref b37)] [(.int (1 : Int32)), (.int (2 : Int32))]))
    refine OwnFin.step (fun tT kK => XS.icmpNo X41.here hx rfl (hb hby d_method_3_24) rfl (tlt (by decide : (1 : Int32) < (2 : Int32))).2.2.2 kK) ?_
    show OwnFin p e below _ (T41.setTop (mkF m 27 #[.val (.int x), .val (.int (2 : Int32)), .val (.ref b37)] []))
    refine OwnFin.step (fun tT kK => XS.aloadN X41.here hx rfl (hb hby d_method_3_27) rfl rfl kK) ?_
    show OwnFin p e below _ (T41.setTop (mkF m 28 #[.val (.int x), .val (.int (2 : Int32)), .val (.ref b37)] [(.ref b37)]))
    refine OwnFin.step (fun tT kK => XS.iconst X41.here hx rfl (hb hby d_method_3_28) kK) ?_
    show OwnFin p e below _ (T41.setTop (mkF m 29 #[.val (.int x), .val (.int (2 : Int32)), .val (.ref b37)] [(.int (1 : Int32)), (.ref b37)]))
    refine OwnFin.step (fun tT kK => XS.iloadN X41.here hx rfl (hb hby d_method_3_29) rfl kK) ?_
    show OwnFin p e below _ (T41.setTop (mkF m 30 #[.val (.int x), .val (.int (2 : Int32)), .val (.ref b37)] [(.int x), (.int (1 : Int32)), (.ref b37)]))
    refine OwnFin.step (fun tT kK => XS.bipush X41.here hx rfl (hb hby d_method_3_30) kK) ?_
    show OwnFin p e below _ (T41.setTop (mkF m 32 #[.val (.int x), .val (.int (2 : Int32)), .val (.ref b37)] [(.int (8 : Int32)), (.int x), (.int (1 : Int32)), (.ref b37)]))
    refine OwnFin.step (fun tT kK => XS.iushr X41.here hx rfl (hb hby d_method_3_32) rfl kK) ?_
    show OwnFin p e below _ (T41.setTop (mkF m 33 #[.val (.int x), .val (.int (2 : Int32)), .val (.ref b37)] [(.int ((x.toUInt32 >>> ((8 : Int32) &&& 31).toUInt32).toInt32)), (.int (1 : Int32)), (.ref b37)]))
    refine OwnFin.step (fun tT kK => XS.sipush X41.here hx rfl (hb hby d_method_3_33) kK) ?_
    show OwnFin p e below _ (T41.setTop (mkF m 36 #[.val (.int x), .val (.int (2 : Int32)), .val (.ref b37)] [(.int (255 : Int32)), (.int ((x.toUInt32 >>> ((8 : Int32) &&& 31).toUInt32).toInt32)), (.int (1 : Int32)), (.ref b37)]))
    refine OwnFin.step (fun tT kK => XS.iand X41.here hx rfl (hb hby d_method_3_36) rfl kK) ?_
    show OwnFin p e below _ (T41.setTop (mkF m 37 #[.val (.int x), .val (.int (2 : Int32)), .val (.ref b37)] [(.int (((x.toUInt32 >>> ((8 : Int32) &&& 31).toUInt32).toInt32) &&& (255 : Int32))), (.int (1 : Int32)), (.ref b37)]))
    refine OwnFin.step (fun tT kK => XS.i2c X41.here hx rfl (hb hby d_method_3_37) rfl kK) ?_
    show OwnFin p e below _ (T41.setTop (mkF m 38 #[.val (.int x), .val (.int (2 : Int32)), .val (.ref b37)] [(.int ((((x.toUInt32 >>> ((8 : Int32) &&& 31).toUInt32).toInt32) &&& (255 : Int32)).toUInt32.toUInt16.toUInt32.toInt32)), (.int (1 : Int32)), (.ref b37)]))
    obtain ⟨cl44, Ar44, q44, Sz44, Ng44, H44, G44⟩ := id V41
    have hin44 : ¬ ((1 : Int32) < 0 ∨ cl44.slots.size ≤ ((1 : Int32)).toNatClampNeg) := inb_of Sz44 ⟨by decide, by decide⟩
    obtain ⟨T45, h45, X45, e45, W45, st45⟩ := stC X41 hx hZ e41 Ar44 (j := (1 : Int32)) hin44 (g := (mkF m 38 #[.val (.int x), .val (.int (2 : Int32)), .val (.ref b37)] [(.int ((((x.toUInt32 >>> ((8 : Int32) &&& 31).toUInt32).toInt32) &&& (255 : Int32)).toUInt32.toUInt16.toUInt32.toInt32)), (.int (1 : Int32)), (.ref b37)])) rfl rfl (hb hby d_method_3_38)
    refine OwnFin.step st45 ?_
    have N45 := Fr.snoc X45 N41 (Nat.le_trans Z0 sz_b37)
    have Kp46 := Kp42.wr W45 (Or.inr sz_b37)
    have cp47 := (CHr.wr W45 (Safe.arv hZ.alike V41 (by decide)) C43.1)
    have C47 := C43.trans cp47
    have V45 : Arv Z h45 b37 k37 .char (2 : Int32) [(.int (nar .char ((x &&& (255 : Int32)).toUInt32.toUInt16.toUInt32.toInt32))), (.int (nar .char ((((x.toUInt32 >>> ((8 : Int32) &&& 31).toUInt32).toInt32) &&& (255 : Int32)).toUInt32.toUInt16.toUInt32.toInt32)))] (.int (0 : Int32)) := Arv.set Ar44 q44 Sz44 Ng44 H44 G44 (fits_nar_char _) W45 1 rfl (Nat.le_of_ble_eq_true rfl)
    show OwnFin p e below _ (T45.setTop (mkF m 39 #[.val (.int x), .val (.int (2 : Int32)), .val (.ref b37)] []))
    obtain ⟨T48, h48, X48, e48, E48, A48, D48, -, st48⟩ := newO X45 hx hZ hown (hw _ (List.mem_of_getElem? (i := 8) rfl)) (hw _ (List.mem_of_getElem? (i := 9) rfl)) (hw _ (List.mem_of_getElem? (i := 10) rfl)) e45 (g := (mkF m 39 #[.val (.int x), .val (.int (2 : Int32)), .val (.ref b37)] [])) rfl (hb hby d_method_3_39) (by decide) (by decide)
    obtain ⟨b48, g48⟩ : ∃ z, z = h45.size := ⟨_, rfl⟩
    rw [← g48] at A48 D48 st48
    refine OwnFin.step st48 ?_
    have sz_b48 : h0.size ≤ b48 := Nat.le_trans Kp46.1 (Nat.le_of_eq g48.symm)
    have Kp49 := Kp46.ext E48
    have cp50 := (CHr.ext E48 C47.1)
    have C50 := C47.trans cp50
    have sf_b48 := (Safe.new (Nat.le_of_eq g48.symm)).ext E48 C47.1
    have Fz51 : Fld Z h48 b48 "java/lang/String" "value" "[B" .null := D48 (Or.inr (hw _ (List.mem_of_getElem? (i := 23) rfl))) (ty := (.array .byte)) (by decide)
    have Fz52 : Fld Z h48 b48 "java/lang/String" "coder" "B" (.int (0 : Int32)) := D48 (Or.inr (hw _ (List.mem_of_getElem? (i := 24) rfl))) (ty := .byte) (by decide)
    show OwnFin p e below _ (T48.setTop (mkF m 42 #[.val (.int x), .val (.int (2 : Int32)), .val (.ref b37)] [(.ref b48)]))
    refine OwnFin.step (fun tT kK => XS.dup X48.here hx rfl (hb hby d_method_3_42) rfl rfl kK) ?_
    show OwnFin p e below _ (T48.setTop (mkF m 43 #[.val (.int x), .val (.int (2 : Int32)), .val (.ref b37)] [(.ref b48), (.ref b48)]))
    refine OwnFin.step (fun tT kK => XS.aloadN X48.here hx rfl (hb hby d_method_3_43) rfl rfl kK) ?_
    show OwnFin p e below _ (T48.setTop (mkF m 44 #[.val (.int x), .val (.int (2 : Int32)), .val (.ref b37)] [(.ref b37), (.ref b48), (.ref b48)]))
    have f53 : Arv Z h48 b37 k37 .char (2 : Int32) [(.int (nar .char ((x &&& (255 : Int32)).toUInt32.toUInt16.toUInt32.toInt32))), (.int (nar .char ((((x.toUInt32 >>> ((8 : Int32) &&& 31).toUInt32).toInt32) &&& (255 : Int32)).toUInt32.toUInt16.toUInt32.toInt32)))] (.int (0 : Int32)) := (V45.ext E48)
    have f54 : Sta Z h48 "java/lang/String" "COMPACT_STRINGS" "Z" (.int cs) := (own_sta_keep hp0 Kp49 all0)
    obtain ⟨_, _, ⟨T55, L55, k55, n55⟩, -, X55, ⟨Lc55, hQ55, l55, y55, z55⟩, st55⟩ := X48.specialBack hx (y := (⟨"java/lang/String", "<init>", "([C)V"⟩ : MethodName)) rfl hown (mvT hZ (hw _ (List.mem_of_getElem? (i := 11) rfl))) (mvT hZ (hw _ (List.mem_of_getElem? (i := 12) rfl))) (mvT hZ (hw _ (List.mem_of_getElem? (i := 13) rfl))) (by decide) (backOf (W := 1) (rm82 l Z a0 hw hEL wS [] b48 b37 k37 cs (nar .char ((x &&& (255 : Int32)).toUInt32.toUInt16.toUInt32.toInt32)) (nar .char ((((x.toUInt32 >>> ((8 : Int32) &&& 31).toUInt32).toInt32) &&& (255 : Int32)).toUInt32.toUInt16.toUInt32.toInt32)) h48 n0 (Nat.le_trans Z0 Kp49.1) A48 Fz51 Fz52 (Nat.le_trans Z0 sz_b48) f53 f54 hp1 (own_nar255 (own_c8 _).1 (own_c8 _).2) (own_nar255 (own_c8 _).1 (own_c8 _).2)) hZ (hw _ (List.mem_of_getElem? (i := 13) rfl)) (hw _ (List.mem_of_getElem? (i := 10) rfl)) (by decide) (by decide)) (g := (mkF m 44 #[.val (.int x), .val (.int (2 : Int32)), .val (.ref b37)] [(.ref b37), (.ref b48), (.ref b48)])) rfl (by rw [hml]; rfl) (Steps.refl _) (a := b48) (argsL := [(.ref b37)]) (rest := [(.ref b48)]) (lenOf pd_258 rfl) rfl (by show 2 * 0 + _ ≤ _; exact Nat.le_of_eq rfl) (hb hby d_method_3_44) (fun _ _ => ⟨rfl, e48, (by decide : 2 + 1 ≤ _), (by decide : 6 + 2 ≤ _)⟩)
    dsimp only [Pt.U, Pt.locs, Pt.cells, Pt.slots] at X55 l55 y55 z55 st55 hQ55
    subst l55 y55 z55
    obtain ⟨b56, ⟨kb57, ⟨rfl, N55q, K55, B55_0, P55_0, P55_1, P55_2, P55_3⟩⟩⟩ := hQ55
    have N55 := Fr.app N45 N55q
    refine OwnFin.step (fun tT kK => st55.trans kK) ?_
    have sz_b56 : h0.size ≤ b56 := Nat.le_trans Kp49.1 B55_0
    have Kp58 := Kp49.trans K55 (allS (P := fun x => x ∈ ([] : List Addr) ∨ h0.size ≤ x) (Or.inr sz_b48) all0)
    have cp59 := (CHr.keep K55 (sfS sf_b48 sf0) C50.1)
    have C59 := C50.trans cp59
    show OwnFin p e below _ (T55.setTop (mkF m 47 #[.val (.int x), .val (.int (2 : Int32)), .val (.ref b37)] [(.ref b48)]))
    have hV : OwnV x = [BB (OwnM1 x), BB (OwnM2 x)] := by simp [OwnV, h3x]
    obtain ⟨fs60, hr60, hrun60, hended60, hW60⟩ := X55.leaveW (s := s) hS0 (Nat.le_trans hk0 (Nat.le_trans (Nat.le_trans (Nat.le_trans (Nat.le_trans (Nat.le_trans (Nat.le_refl _) E37.1) (Keep.of_wr W41).1) (Keep.of_wr W45).1) E48.1) K55.1)) (v := (some (.ref b48))) (fun h => by rw [Bd.returns] at h; cases h)
    refine ⟨_, _, retOut X55 hx Bd.returns rfl (Or.inr (Or.inr (Or.inr (Or.inr ⟨rfl, rfl, rfl⟩)))) (hb hby d_method_3_47) hr60, hrun60, hended60, _, _, rfl, ?_, (by show CHr Z OwnEL s.vm s.heap T55.vm T55.heap; rw [hh]; exact C59.trans (CHv.at X55 hZ hEL C59.1)), hW60.1, hW60.2.1, hW60.2.2.1, hW60.2.2.2.mono (by decide) (by decide)⟩
    show Q9 Z x cs h0 n0 _ T55.heap _
    exact ⟨b48, b56, kb57, rfl, N55, Kp58, sz_b48, P55_0, P55_1, P55_2, (by rw [hV, h3x]; exact P55_3), own_obv x⟩
theorem pd_276 : parseMethodDescriptor "(I)Ljava/lang/String;" = some ⟨[.int], some (.object "java/lang/String")⟩ := by decide +kernel
theorem pd_277 : parseMethodDescriptor "(Ljava/lang/String;Ljava/lang/String;Ljava/lang/String;)V" = some ⟨[(.object "java/lang/String"), (.object "java/lang/String"), (.object "java/lang/String")], none⟩ := by decide +kernel
theorem pd_278 : parseMethodDescriptor "(II)Z" = some ⟨[.int, .int], some .boolean⟩ := by decide +kernel
theorem ef_0 (m : MethodId) (l_ : Int32) (k_ : Int32) (f_ : Int32) (d_ : Int32) (e_ : Int32) (mo : Int32) : entryFrame m #[(.int l_), (.int k_), (.int f_), (.int d_), (.int e_), (.int mo)] maxLocals = mkF m 0 #[.val (.int l_), .val (.int k_), .val (.int f_), .val (.int d_), .val (.int e_), .val (.int mo), .unset, .unset, .unset, .unset, .unset, .unset, .unset, .unset, .unset, .unset] [] := by first | (simp [entryFrame, mkF, argsToLocals, Value.category, maxLocals]; done) | rfl
def Q0 (Z : State) (l_ : Int32) (k_ : Int32) (f_ : Int32) (d_ : Int32) (e_ : Int32) (mo : Int32) (cs : Int32) (h0 : Heap) (n0 : Nat) (vV : Option Value) (hH : Heap) (LL : List Loc) : Prop := vV = some (.int (1 : Int32)) ∧ Fr n0 LL ∧ Keep h0 hH []
def R0 (Z : State) (l_ : Int32) (k_ : Int32) (f_ : Int32) (d_ : Int32) (e_ : Int32) (mo : Int32) (cs : Int32) (h0 : Heap) (n0 : Nat) (U : State) (oO : Outcome) (U' : State) : Prop := ∃ vV LL, oO = .returned vV ∧ Q0 Z l_ k_ f_ d_ e_ mo cs h0 n0 vV U'.heap LL ∧ CHr Z OwnEL U.vm U.heap U'.vm U'.heap ∧ ReturnedEndW U oO U' LL room_1.cells room_1.slots
set_option maxRecDepth 65536 in
set_option maxHeartbeats 40000000 in
theorem rm0 (l : Launch) (Z : State) (a0 : Array Value) (hw : ∀ d ∈ tables_1, d.before a0 Z = true) (hEL : EW Z a0 OwnEL) (wS : ∀ a ∈ Bundle.stringAtoms, a.before a0 Z = true) (ws : List Jvm.Cond) (l_ : Int32) (k_ : Int32) (f_ : Int32) (d_ : Int32) (e_ : Int32) (mo : Int32) (cs : Int32) (h0 : Heap) (n0 : Nat) (Z0 : n0 ≤ h0.size) (hp0 : Sta Z h0 "java/lang/String" "COMPACT_STRINGS" "Z" (.int cs)) (hp1 : ¬ cs = (0 : Int32)) :
    MetFree l x (head1 (Jvm.Cond.code x code maxLocals ret :: ws) room_1) (fun aA U => aA = #[(.int l_), (.int k_), (.int f_), (.int d_), (.int e_), (.int mo)] ∧ Z.Warmed39 U.vm ∧ U.heap = h0 ∧ CHv Z OwnEL U.vm h0) (fun _ _ _ _ _ => True) (fun _ U oO U' => ∃ vV LL, oO = .returned vV ∧ Q0 Z l_ k_ f_ d_ e_ mo cs h0 n0 vV U'.heap LL ∧ CHr Z OwnEL U.vm U.heap U'.vm U'.heap ∧ ReturnedEndW U oO U' LL room_1.cells room_1.slots) := by
  refine MetFree.of_bodySF (plainFor_of_name pn_104) hisR ?_
  intro p e s m args below meth cC s₁ Bd hml0 hP hK
  obtain ⟨rfl, hZ, hh, hCH⟩ := hP
  have hx := Bd.exec
  have hby := Bd.bytes
  have hml : cC.maxLocals = 16 := hml0
  have hown : s.vm.findClass "com/example/limpet/limpet/HoldEqualsPinLaw" = some m.cls := findClass_of_methodNamed Bd.named
  have hnm := (name_of_methodNamed Bd.named Bd.method).1
  have X0 : Stand p l e room_1 (s.setVm s.vm) m #[(.int l_), (.int k_), (.int f_), (.int d_), (.int e_), (.int mo)] below meth cC s₁ [] 0 0 := Stand.of_body Bd
  have e0 : s₁.heap = h0 := by rw [← hh, Bd.state]; rfl
  have N0 := Fr.nil n0
  have Kp0 := Keep.refl h0 []
  have C0 : CHr Z OwnEL s.vm h0 s.vm h0 := CHr.refl hCH
  have hS0 : s.Since s.vm h0.size := (State.WarmedH.refl s).since _
  have hk0 : h0.size ≤ h0.size := Nat.le_refl _
  show OwnFin p e below (R0 Z l_ k_ f_ d_ e_ mo cs h0 n0 s) (s₁.setTop (entryFrame m #[(.int l_), (.int k_), (.int f_), (.int d_), (.int e_), (.int mo)] maxLocals))
  rw [ef_0 m l_ k_ f_ d_ e_ mo]
  refine OwnFin.step (fun tT kK => XS.iload X0.here hx rfl (hb hby at_0) rfl kK) ?_
  show OwnFin p e below _ (s₁.setTop (mkF m 2 #[.val (.int l_), .val (.int k_), .val (.int f_), .val (.int d_), .val (.int e_), .val (.int mo), .unset, .unset, .unset, .unset, .unset, .unset, .unset, .unset, .unset, .unset] [(.int mo)]))
  refine OwnFin.step (fun tT kK => XS.iconst X0.here hx rfl (hb hby at_2) kK) ?_
  show OwnFin p e below _ (s₁.setTop (mkF m 3 #[.val (.int l_), .val (.int k_), .val (.int f_), .val (.int d_), .val (.int e_), .val (.int mo), .unset, .unset, .unset, .unset, .unset, .unset, .unset, .unset, .unset, .unset] [(.int (1 : Int32)), (.int mo)]))
  refine OwnFin.step (fun tT kK => XS.iand X0.here hx rfl (hb hby at_3) rfl kK) ?_
  show OwnFin p e below _ (s₁.setTop (mkF m 4 #[.val (.int l_), .val (.int k_), .val (.int f_), .val (.int d_), .val (.int e_), .val (.int mo), .unset, .unset, .unset, .unset, .unset, .unset, .unset, .unset, .unset, .unset] [(.int (mo &&& (1 : Int32)))]))
  have key1 : ∀ (l2 : Int32), OwnFin p e below (R0 Z l_ k_ f_ d_ e_ mo cs h0 n0 s) (s₁.setTop (mkF m 14 #[.val (.int l_), .val (.int k_), .val (.int f_), .val (.int d_), .val (.int e_), .val (.int mo), .unset, .unset, .unset, .unset, .unset, .unset, .unset, .unset, .unset, .unset] [(.int l2)])) := by
    intro l2
    refine OwnFin.step (fun tT kK => XS.istore X0.here hx rfl (hb hby at_14) rfl (l' := #[.val (.int l_), .val (.int k_), .val (.int f_), .val (.int d_), .val (.int e_), .val (.int mo), .val (.int l2), .unset, .unset, .unset, .unset, .unset, .unset, .unset, .unset, .unset]) rfl kK) ?_
    show OwnFin p e below _ (s₁.setTop (mkF m 16 #[.val (.int l_), .val (.int k_), .val (.int f_), .val (.int d_), .val (.int e_), .val (.int mo), .val (.int l2), .unset, .unset, .unset, .unset, .unset, .unset, .unset, .unset, .unset] []))
    refine OwnFin.step (fun tT kK => XS.iload X0.here hx rfl (hb hby at_16) rfl kK) ?_
    show OwnFin p e below _ (s₁.setTop (mkF m 18 #[.val (.int l_), .val (.int k_), .val (.int f_), .val (.int d_), .val (.int e_), .val (.int mo), .val (.int l2), .unset, .unset, .unset, .unset, .unset, .unset, .unset, .unset, .unset] [(.int mo)]))
    refine OwnFin.step (fun tT kK => XS.iconst X0.here hx rfl (hb hby at_18) kK) ?_
    show OwnFin p e below _ (s₁.setTop (mkF m 19 #[.val (.int l_), .val (.int k_), .val (.int f_), .val (.int d_), .val (.int e_), .val (.int mo), .val (.int l2), .unset, .unset, .unset, .unset, .unset, .unset, .unset, .unset, .unset] [(.int (2 : Int32)), (.int mo)]))
    refine OwnFin.step (fun tT kK => XS.iand X0.here hx rfl (hb hby at_19) rfl kK) ?_
    show OwnFin p e below _ (s₁.setTop (mkF m 20 #[.val (.int l_), .val (.int k_), .val (.int f_), .val (.int d_), .val (.int e_), .val (.int mo), .val (.int l2), .unset, .unset, .unset, .unset, .unset, .unset, .unset, .unset, .unset] [(.int (mo &&& (2 : Int32)))]))
    have key2 : ∀ (k2 : Int32), OwnFin p e below (R0 Z l_ k_ f_ d_ e_ mo cs h0 n0 s) (s₁.setTop (mkF m 31 #[.val (.int l_), .val (.int k_), .val (.int f_), .val (.int d_), .val (.int e_), .val (.int mo), .val (.int l2), .unset, .unset, .unset, .unset, .unset, .unset, .unset, .unset, .unset] [(.int k2)])) := by
      intro k2
      refine OwnFin.step (fun tT kK => XS.istore X0.here hx rfl (hb hby at_31) rfl (l' := #[.val (.int l_), .val (.int k_), .val (.int f_), .val (.int d_), .val (.int e_), .val (.int mo), .val (.int l2), .val (.int k2), .unset, .unset, .unset, .unset, .unset, .unset, .unset, .unset]) rfl kK) ?_
      show OwnFin p e below _ (s₁.setTop (mkF m 33 #[.val (.int l_), .val (.int k_), .val (.int f_), .val (.int d_), .val (.int e_), .val (.int mo), .val (.int l2), .val (.int k2), .unset, .unset, .unset, .unset, .unset, .unset, .unset, .unset] []))
      refine OwnFin.step (fun tT kK => XS.iload X0.here hx rfl (hb hby at_33) rfl kK) ?_
      show OwnFin p e below _ (s₁.setTop (mkF m 35 #[.val (.int l_), .val (.int k_), .val (.int f_), .val (.int d_), .val (.int e_), .val (.int mo), .val (.int l2), .val (.int k2), .unset, .unset, .unset, .unset, .unset, .unset, .unset, .unset] [(.int mo)]))
      refine OwnFin.step (fun tT kK => XS.iconst X0.here hx rfl (hb hby at_35) kK) ?_
      show OwnFin p e below _ (s₁.setTop (mkF m 36 #[.val (.int l_), .val (.int k_), .val (.int f_), .val (.int d_), .val (.int e_), .val (.int mo), .val (.int l2), .val (.int k2), .unset, .unset, .unset, .unset, .unset, .unset, .unset, .unset] [(.int (4 : Int32)), (.int mo)]))
      refine OwnFin.step (fun tT kK => XS.iand X0.here hx rfl (hb hby at_36) rfl kK) ?_
      show OwnFin p e below _ (s₁.setTop (mkF m 37 #[.val (.int l_), .val (.int k_), .val (.int f_), .val (.int d_), .val (.int e_), .val (.int mo), .val (.int l2), .val (.int k2), .unset, .unset, .unset, .unset, .unset, .unset, .unset, .unset] [(.int (mo &&& (4 : Int32)))]))
      have key3 : ∀ (f2 : Int32), OwnFin p e below (R0 Z l_ k_ f_ d_ e_ mo cs h0 n0 s) (s₁.setTop (mkF m 50 #[.val (.int l_), .val (.int k_), .val (.int f_), .val (.int d_), .val (.int e_), .val (.int mo), .val (.int l2), .val (.int k2), .unset, .unset, .unset, .unset, .unset, .unset, .unset, .unset] [(.int f2)])) := by
        intro f2
        refine OwnFin.step (fun tT kK => XS.istore X0.here hx rfl (hb hby at_50) rfl (l' := #[.val (.int l_), .val (.int k_), .val (.int f_), .val (.int d_), .val (.int e_), .val (.int mo), .val (.int l2), .val (.int k2), .val (.int f2), .unset, .unset, .unset, .unset, .unset, .unset, .unset]) rfl kK) ?_
        show OwnFin p e below _ (s₁.setTop (mkF m 52 #[.val (.int l_), .val (.int k_), .val (.int f_), .val (.int d_), .val (.int e_), .val (.int mo), .val (.int l2), .val (.int k2), .val (.int f2), .unset, .unset, .unset, .unset, .unset, .unset, .unset] []))
        refine OwnFin.step (fun tT kK => XS.iload X0.here hx rfl (hb hby at_52) rfl kK) ?_
        show OwnFin p e below _ (s₁.setTop (mkF m 54 #[.val (.int l_), .val (.int k_), .val (.int f_), .val (.int d_), .val (.int e_), .val (.int mo), .val (.int l2), .val (.int k2), .val (.int f2), .unset, .unset, .unset, .unset, .unset, .unset, .unset] [(.int mo)]))
        refine OwnFin.step (fun tT kK => XS.iconst X0.here hx rfl (hb hby at_54) kK) ?_
        show OwnFin p e below _ (s₁.setTop (mkF m 55 #[.val (.int l_), .val (.int k_), .val (.int f_), .val (.int d_), .val (.int e_), .val (.int mo), .val (.int l2), .val (.int k2), .val (.int f2), .unset, .unset, .unset, .unset, .unset, .unset, .unset] [(.int (3 : Int32)), (.int mo)]))
        refine OwnFin.step (fun tT kK => XS.iushr X0.here hx rfl (hb hby at_55) rfl kK) ?_
        show OwnFin p e below _ (s₁.setTop (mkF m 56 #[.val (.int l_), .val (.int k_), .val (.int f_), .val (.int d_), .val (.int e_), .val (.int mo), .val (.int l2), .val (.int k2), .val (.int f2), .unset, .unset, .unset, .unset, .unset, .unset, .unset] [(.int ((mo.toUInt32 >>> ((3 : Int32) &&& 31).toUInt32).toInt32))]))
        refine OwnFin.step (fun tT kK => XS.iconst X0.here hx rfl (hb hby at_56) kK) ?_
        show OwnFin p e below _ (s₁.setTop (mkF m 57 #[.val (.int l_), .val (.int k_), .val (.int f_), .val (.int d_), .val (.int e_), .val (.int mo), .val (.int l2), .val (.int k2), .val (.int f2), .unset, .unset, .unset, .unset, .unset, .unset, .unset] [(.int (3 : Int32)), (.int ((mo.toUInt32 >>> ((3 : Int32) &&& 31).toUInt32).toInt32))]))
        refine OwnFin.step (fun tT kK => XS.iand X0.here hx rfl (hb hby at_57) rfl kK) ?_
        show OwnFin p e below _ (s₁.setTop (mkF m 58 #[.val (.int l_), .val (.int k_), .val (.int f_), .val (.int d_), .val (.int e_), .val (.int mo), .val (.int l2), .val (.int k2), .val (.int f2), .unset, .unset, .unset, .unset, .unset, .unset, .unset] [(.int (((mo.toUInt32 >>> ((3 : Int32) &&& 31).toUInt32).toInt32) &&& (3 : Int32)))]))
        refine OwnFin.step (fun tT kK => XS.istore X0.here hx rfl (hb hby at_58) rfl (l' := #[.val (.int l_), .val (.int k_), .val (.int f_), .val (.int d_), .val (.int e_), .val (.int mo), .val (.int l2), .val (.int k2), .val (.int f2), .val (.int (((mo.toUInt32 >>> ((3 : Int32) &&& 31).toUInt32).toInt32) &&& (3 : Int32))), .unset, .unset, .unset, .unset, .unset, .unset]) rfl kK) ?_
        show OwnFin p e below _ (s₁.setTop (mkF m 60 #[.val (.int l_), .val (.int k_), .val (.int f_), .val (.int d_), .val (.int e_), .val (.int mo), .val (.int l2), .val (.int k2), .val (.int f2), .val (.int (((mo.toUInt32 >>> ((3 : Int32) &&& 31).toUInt32).toInt32) &&& (3 : Int32))), .unset, .unset, .unset, .unset, .unset, .unset] []))
        refine OwnFin.step (fun tT kK => XS.iloadN X0.here hx rfl (hb hby at_60) rfl kK) ?_
        show OwnFin p e below _ (s₁.setTop (mkF m 61 #[.val (.int l_), .val (.int k_), .val (.int f_), .val (.int d_), .val (.int e_), .val (.int mo), .val (.int l2), .val (.int k2), .val (.int f2), .val (.int (((mo.toUInt32 >>> ((3 : Int32) &&& 31).toUInt32).toInt32) &&& (3 : Int32))), .unset, .unset, .unset, .unset, .unset, .unset] [(.int k_)]))
        obtain ⟨_, _, ⟨T4, L4, k4, n4⟩, -, X4', hs4, hg4, ⟨Lc4, hQ4, l4, y4, z4, cq4⟩, st4⟩ := callSS X0 hx (y := (⟨"com/example/limpet/limpet/HoldEqualsPinLaw", "mk", "(I)Ljava/lang/String;"⟩ : MethodName)) hown (mvT hZ (hw _ (List.mem_of_getElem? (i := 0) rfl))) (mvT hZ (hw _ (List.mem_of_getElem? (i := 1) rfl))) (mvT hZ (hw _ (List.mem_of_getElem? (i := 2) rfl))) (mvT hZ (hw _ (List.mem_of_getElem? (i := 3) rfl))) (by decide) (backOfSH (W := 0) (rm9 l Z a0 hw hEL wS [] k_ cs h0 n0 (Nat.le_trans Z0 Kp0.1) hp0 hp1) hZ (hw _ (List.mem_of_getElem? (i := 3) rfl)) (hw _ (List.mem_of_getElem? (i := 2) rfl)) (by decide) (by decide) hEL C0.1) (g := (mkF m 61 #[.val (.int l_), .val (.int k_), .val (.int f_), .val (.int d_), .val (.int e_), .val (.int mo), .val (.int l2), .val (.int k2), .val (.int f2), .val (.int (((mo.toUInt32 >>> ((3 : Int32) &&& 31).toUInt32).toInt32) &&& (3 : Int32))), .unset, .unset, .unset, .unset, .unset, .unset] [(.int k_)])) rfl (by rw [hml]; rfl) (argsL := [(.int k_)]) (rest := []) (lenOf pd_276 rfl) rfl (by show 2 * 0 + _ ≤ _; exact Nat.le_of_eq rfl) (hb hby at_61) (fun _ _ => ⟨rfl, e0, (by decide : 0 + 6 ≤ _), (by decide : 0 + 12 ≤ _)⟩)
        dsimp only [Pt.U, Pt.locs, Pt.cells, Pt.slots] at X4' hs4 hg4 l4 y4 z4 st4 hQ4 cq4
        subst l4 y4 z4
        obtain ⟨X4, hS4, hZ, hown⟩ := rebS hS0 (by rw [e0]; exact (Nat.le_trans hk0 (Nat.le_refl _))) X4' hs4 hg4 hZ hown
        obtain ⟨b5, ⟨d6, ⟨kd7, ⟨rfl, N4q, K4, B4_0, P4_0, P4_1, P4_2, P4_3, P4_4⟩⟩⟩⟩ := hQ4
        have N4 := Fr.app N0 N4q
        refine OwnFin.step (fun tT kK => st4.trans kK) ?_
        have E4 : Ext h0 T4.heap := ⟨K4.1, fun x c q => K4.2.1 x c q nin0⟩
        have sz_b5 : h0.size ≤ b5 := Nat.le_trans Kp0.1 B4_0
        have Kp8 := Kp0.ext E4
        have cp9 := cq4
        have C9 := C0.trans cp9
        show OwnFin p e below _ (T4.setTop (mkF m 64 #[.val (.int l_), .val (.int k_), .val (.int f_), .val (.int d_), .val (.int e_), .val (.int mo), .val (.int l2), .val (.int k2), .val (.int f2), .val (.int (((mo.toUInt32 >>> ((3 : Int32) &&& 31).toUInt32).toInt32) &&& (3 : Int32))), .unset, .unset, .unset, .unset, .unset, .unset] [(.ref b5)]))
        refine OwnFin.step (fun tT kK => XS.astore X4.here hx rfl (hb hby at_64) rfl rfl (l' := #[.val (.int l_), .val (.int k_), .val (.int f_), .val (.int d_), .val (.int e_), .val (.int mo), .val (.int l2), .val (.int k2), .val (.int f2), .val (.int (((mo.toUInt32 >>> ((3 : Int32) &&& 31).toUInt32).toInt32) &&& (3 : Int32))), .val (.ref b5), .unset, .unset, .unset, .unset, .unset]) rfl kK) ?_
        show OwnFin p e below _ (T4.setTop (mkF m 66 #[.val (.int l_), .val (.int k_), .val (.int f_), .val (.int d_), .val (.int e_), .val (.int mo), .val (.int l2), .val (.int k2), .val (.int f2), .val (.int (((mo.toUInt32 >>> ((3 : Int32) &&& 31).toUInt32).toInt32) &&& (3 : Int32))), .val (.ref b5), .unset, .unset, .unset, .unset, .unset] []))
        obtain ⟨T10, h10, X10, e10, E10, A10, D10, -, st10⟩ := newO X4 hx hZ hown (hw _ (List.mem_of_getElem? (i := 29) rfl)) (hw _ (List.mem_of_getElem? (i := 30) rfl)) (hw _ (List.mem_of_getElem? (i := 31) rfl)) rfl (g := (mkF m 66 #[.val (.int l_), .val (.int k_), .val (.int f_), .val (.int d_), .val (.int e_), .val (.int mo), .val (.int l2), .val (.int k2), .val (.int f2), .val (.int (((mo.toUInt32 >>> ((3 : Int32) &&& 31).toUInt32).toInt32) &&& (3 : Int32))), .val (.ref b5), .unset, .unset, .unset, .unset, .unset] [])) rfl (hb hby at_66) (by decide) (by decide)
        obtain ⟨b10, g10⟩ : ∃ z, z = T4.heap.size := ⟨_, rfl⟩
        rw [← g10] at A10 D10 st10
        refine OwnFin.step st10 ?_
        have sz_b10 : h0.size ≤ b10 := Nat.le_trans Kp8.1 (Nat.le_of_eq g10.symm)
        have Kp11 := Kp8.ext E10
        have cp12 := (CHr.ext E10 C9.1)
        have C12 := C9.trans cp12
        have sf_b10 := (Safe.new (Nat.le_of_eq g10.symm)).ext E10 C9.1
        have Fz13 : Fld Z h10 b10 "com/example/limpet/limpet/Hold" "lockName" "Ljava/lang/String;" .null := D10 (Or.inr (hw _ (List.mem_of_getElem? (i := 42) rfl))) (ty := (.object "java/lang/String")) (by decide)
        have Fz14 : Fld Z h10 b10 "com/example/limpet/limpet/Hold" "key" "Ljava/lang/String;" .null := D10 (Or.inr (hw _ (List.mem_of_getElem? (i := 44) rfl))) (ty := (.object "java/lang/String")) (by decide)
        have Fz15 : Fld Z h10 b10 "com/example/limpet/limpet/Hold" "field" "Ljava/lang/String;" .null := D10 (Or.inr (hw _ (List.mem_of_getElem? (i := 46) rfl))) (ty := (.object "java/lang/String")) (by decide)
        show OwnFin p e below _ (T10.setTop (mkF m 69 #[.val (.int l_), .val (.int k_), .val (.int f_), .val (.int d_), .val (.int e_), .val (.int mo), .val (.int l2), .val (.int k2), .val (.int f2), .val (.int (((mo.toUInt32 >>> ((3 : Int32) &&& 31).toUInt32).toInt32) &&& (3 : Int32))), .val (.ref b5), .unset, .unset, .unset, .unset, .unset] [(.ref b10)]))
        refine OwnFin.step (fun tT kK => XS.dup X10.here hx rfl (hb hby at_69) rfl rfl kK) ?_
        show OwnFin p e below _ (T10.setTop (mkF m 70 #[.val (.int l_), .val (.int k_), .val (.int f_), .val (.int d_), .val (.int e_), .val (.int mo), .val (.int l2), .val (.int k2), .val (.int f2), .val (.int (((mo.toUInt32 >>> ((3 : Int32) &&& 31).toUInt32).toInt32) &&& (3 : Int32))), .val (.ref b5), .unset, .unset, .unset, .unset, .unset] [(.ref b10), (.ref b10)]))
        refine OwnFin.step (fun tT kK => XS.iloadN X10.here hx rfl (hb hby at_70) rfl kK) ?_
        show OwnFin p e below _ (T10.setTop (mkF m 71 #[.val (.int l_), .val (.int k_), .val (.int f_), .val (.int d_), .val (.int e_), .val (.int mo), .val (.int l2), .val (.int k2), .val (.int f2), .val (.int (((mo.toUInt32 >>> ((3 : Int32) &&& 31).toUInt32).toInt32) &&& (3 : Int32))), .val (.ref b5), .unset, .unset, .unset, .unset, .unset] [(.int l_), (.ref b10), (.ref b10)]))
        have f16 : Sta Z h10 "java/lang/String" "COMPACT_STRINGS" "Z" (.int cs) := (own_sta_keep hp0 Kp11 all0)
        obtain ⟨_, _, ⟨T17, L17, k17, n17⟩, -, X17', hs17, hg17, ⟨Lc17, hQ17, l17, y17, z17, cq17⟩, st17⟩ := callSS X10 hx (y := (⟨"com/example/limpet/limpet/HoldEqualsPinLaw", "mk", "(I)Ljava/lang/String;"⟩ : MethodName)) hown (mvT hZ (hw _ (List.mem_of_getElem? (i := 0) rfl))) (mvT hZ (hw _ (List.mem_of_getElem? (i := 1) rfl))) (mvT hZ (hw _ (List.mem_of_getElem? (i := 2) rfl))) (mvT hZ (hw _ (List.mem_of_getElem? (i := 3) rfl))) (by decide) (backOfSH (W := 2) (rm9 l Z a0 hw hEL wS [] l_ cs h10 n0 (Nat.le_trans Z0 Kp11.1) f16 hp1) hZ (hw _ (List.mem_of_getElem? (i := 3) rfl)) (hw _ (List.mem_of_getElem? (i := 2) rfl)) (by decide) (by decide) hEL C12.1) (g := (mkF m 71 #[.val (.int l_), .val (.int k_), .val (.int f_), .val (.int d_), .val (.int e_), .val (.int mo), .val (.int l2), .val (.int k2), .val (.int f2), .val (.int (((mo.toUInt32 >>> ((3 : Int32) &&& 31).toUInt32).toInt32) &&& (3 : Int32))), .val (.ref b5), .unset, .unset, .unset, .unset, .unset] [(.int l_), (.ref b10), (.ref b10)])) rfl (by rw [hml]; rfl) (argsL := [(.int l_)]) (rest := [(.ref b10), (.ref b10)]) (lenOf pd_276 rfl) rfl (by show 2 * 0 + _ ≤ _; exact Nat.le_of_eq rfl) (hb hby at_71) (fun _ _ => ⟨rfl, e10, (by decide : 7 + 6 ≤ _), (by decide : 15 + 12 ≤ _)⟩)
        dsimp only [Pt.U, Pt.locs, Pt.cells, Pt.slots] at X17' hs17 hg17 l17 y17 z17 st17 hQ17 cq17
        subst l17 y17 z17
        obtain ⟨X17, hS17, hZ, hown⟩ := rebS hS4 (by rw [e10]; exact (Nat.le_trans (Nat.le_refl T4.heap.size) (Nat.le_trans (Nat.le_refl _) E10.1))) X17' hs17 hg17 hZ hown
        obtain ⟨b18, ⟨d19, ⟨kd20, ⟨rfl, N17q, K17, B17_0, P17_0, P17_1, P17_2, P17_3, P17_4⟩⟩⟩⟩ := hQ17
        have N17 := Fr.app N4 N17q
        refine OwnFin.step (fun tT kK => st17.trans kK) ?_
        have E17 : Ext h10 T17.heap := ⟨K17.1, fun x c q => K17.2.1 x c q nin0⟩
        have sz_b18 : h0.size ≤ b18 := Nat.le_trans Kp11.1 B17_0
        have Kp21 := Kp11.ext E17
        have cp22 := cq17
        have C22 := C12.trans cp22
        show OwnFin p e below _ (T17.setTop (mkF m 74 #[.val (.int l_), .val (.int k_), .val (.int f_), .val (.int d_), .val (.int e_), .val (.int mo), .val (.int l2), .val (.int k2), .val (.int f2), .val (.int (((mo.toUInt32 >>> ((3 : Int32) &&& 31).toUInt32).toInt32) &&& (3 : Int32))), .val (.ref b5), .unset, .unset, .unset, .unset, .unset] [(.ref b18), (.ref b10), (.ref b10)]))
        refine OwnFin.step (fun tT kK => XS.aload X17.here hx rfl (hb hby at_74) rfl rfl kK) ?_
        show OwnFin p e below _ (T17.setTop (mkF m 76 #[.val (.int l_), .val (.int k_), .val (.int f_), .val (.int d_), .val (.int e_), .val (.int mo), .val (.int l2), .val (.int k2), .val (.int f2), .val (.int (((mo.toUInt32 >>> ((3 : Int32) &&& 31).toUInt32).toInt32) &&& (3 : Int32))), .val (.ref b5), .unset, .unset, .unset, .unset, .unset] [(.ref b5), (.ref b18), (.ref b10), (.ref b10)]))
        refine OwnFin.step (fun tT kK => XS.iloadN X17.here hx rfl (hb hby at_76) rfl kK) ?_
        show OwnFin p e below _ (T17.setTop (mkF m 77 #[.val (.int l_), .val (.int k_), .val (.int f_), .val (.int d_), .val (.int e_), .val (.int mo), .val (.int l2), .val (.int k2), .val (.int f2), .val (.int (((mo.toUInt32 >>> ((3 : Int32) &&& 31).toUInt32).toInt32) &&& (3 : Int32))), .val (.ref b5), .unset, .unset, .unset, .unset, .unset] [(.int f_), (.ref b5), (.ref b18), (.ref b10), (.ref b10)]))
        have f23 : Sta Z T17.heap "java/lang/String" "COMPACT_STRINGS" "Z" (.int cs) := (f16.ext E17)
        obtain ⟨_, _, ⟨T24, L24, k24, n24⟩, -, X24', hs24, hg24, ⟨Lc24, hQ24, l24, y24, z24, cq24⟩, st24⟩ := callSS X17 hx (y := (⟨"com/example/limpet/limpet/HoldEqualsPinLaw", "mk", "(I)Ljava/lang/String;"⟩ : MethodName)) hown (mvT hZ (hw _ (List.mem_of_getElem? (i := 0) rfl))) (mvT hZ (hw _ (List.mem_of_getElem? (i := 1) rfl))) (mvT hZ (hw _ (List.mem_of_getElem? (i := 2) rfl))) (mvT hZ (hw _ (List.mem_of_getElem? (i := 3) rfl))) (by decide) (backOfSH (W := 4) (rm9 l Z a0 hw hEL wS [] f_ cs T17.heap n0 (Nat.le_trans Z0 Kp21.1) f23 hp1) hZ (hw _ (List.mem_of_getElem? (i := 3) rfl)) (hw _ (List.mem_of_getElem? (i := 2) rfl)) (by decide) (by decide) hEL C22.1) (g := (mkF m 77 #[.val (.int l_), .val (.int k_), .val (.int f_), .val (.int d_), .val (.int e_), .val (.int mo), .val (.int l2), .val (.int k2), .val (.int f2), .val (.int (((mo.toUInt32 >>> ((3 : Int32) &&& 31).toUInt32).toInt32) &&& (3 : Int32))), .val (.ref b5), .unset, .unset, .unset, .unset, .unset] [(.int f_), (.ref b5), (.ref b18), (.ref b10), (.ref b10)])) rfl (by rw [hml]; rfl) (argsL := [(.int f_)]) (rest := [(.ref b5), (.ref b18), (.ref b10), (.ref b10)]) (lenOf pd_276 rfl) rfl (by show 2 * 0 + _ ≤ _; exact Nat.le_of_eq rfl) (hb hby at_77) (fun _ _ => ⟨rfl, rfl, (by decide : 13 + 6 ≤ _), (by decide : 27 + 12 ≤ _)⟩)
        dsimp only [Pt.U, Pt.locs, Pt.cells, Pt.slots] at X24' hs24 hg24 l24 y24 z24 st24 hQ24 cq24
        subst l24 y24 z24
        obtain ⟨X24, hS24, hZ, hown⟩ := rebS hS17 (Nat.le_trans (Nat.le_refl T17.heap.size) (Nat.le_refl _)) X24' hs24 hg24 hZ hown
        obtain ⟨b25, ⟨d26, ⟨kd27, ⟨rfl, N24q, K24, B24_0, P24_0, P24_1, P24_2, P24_3, P24_4⟩⟩⟩⟩ := hQ24
        have N24 := Fr.app N17 N24q
        refine OwnFin.step (fun tT kK => st24.trans kK) ?_
        have E24 : Ext T17.heap T24.heap := ⟨K24.1, fun x c q => K24.2.1 x c q nin0⟩
        have sz_b25 : h0.size ≤ b25 := Nat.le_trans Kp21.1 B24_0
        have Kp28 := Kp21.ext E24
        have cp29 := cq24
        have C29 := C22.trans cp29
        show OwnFin p e below _ (T24.setTop (mkF m 80 #[.val (.int l_), .val (.int k_), .val (.int f_), .val (.int d_), .val (.int e_), .val (.int mo), .val (.int l2), .val (.int k2), .val (.int f2), .val (.int (((mo.toUInt32 >>> ((3 : Int32) &&& 31).toUInt32).toInt32) &&& (3 : Int32))), .val (.ref b5), .unset, .unset, .unset, .unset, .unset] [(.ref b25), (.ref b5), (.ref b18), (.ref b10), (.ref b10)]))
        have f30 : Exa Z T24.heap b10 "com/example/limpet/limpet/Hold" := ((A10.ext E17).ext E24)
        have f31 : Fld Z T24.heap b10 "com/example/limpet/limpet/Hold" "lockName" "Ljava/lang/String;" .null := ((Fz13.ext E17).ext E24)
        have f32 : Fld Z T24.heap b10 "com/example/limpet/limpet/Hold" "key" "Ljava/lang/String;" .null := ((Fz14.ext E17).ext E24)
        have f33 : Fld Z T24.heap b10 "com/example/limpet/limpet/Hold" "field" "Ljava/lang/String;" .null := ((Fz15.ext E17).ext E24)
        obtain ⟨_, _, ⟨T34, L34, k34, n34⟩, -, X34, ⟨Lc34, hQ34, l34, y34, z34⟩, st34⟩ := X24.specialBack hx (y := (⟨"com/example/limpet/limpet/Hold", "<init>", "(Ljava/lang/String;Ljava/lang/String;Ljava/lang/String;)V"⟩ : MethodName)) rfl hown (mvT hZ (hw _ (List.mem_of_getElem? (i := 32) rfl))) (mvT hZ (hw _ (List.mem_of_getElem? (i := 33) rfl))) (mvT hZ (hw _ (List.mem_of_getElem? (i := 34) rfl))) (by decide) (backOf (W := 1) (rm4 l Z a0 hw hEL wS [] b10 b18 b5 b25 T24.heap n0 (Nat.le_trans Z0 Kp28.1) f30 f31 f32 f33 (Nat.le_trans Z0 sz_b10)) hZ (hw _ (List.mem_of_getElem? (i := 34) rfl)) (hw _ (List.mem_of_getElem? (i := 31) rfl)) (by decide) (by decide)) (g := (mkF m 80 #[.val (.int l_), .val (.int k_), .val (.int f_), .val (.int d_), .val (.int e_), .val (.int mo), .val (.int l2), .val (.int k2), .val (.int f2), .val (.int (((mo.toUInt32 >>> ((3 : Int32) &&& 31).toUInt32).toInt32) &&& (3 : Int32))), .val (.ref b5), .unset, .unset, .unset, .unset, .unset] [(.ref b25), (.ref b5), (.ref b18), (.ref b10), (.ref b10)])) rfl (by rw [hml]; rfl) (Steps.refl _) (a := b10) (argsL := [(.ref b18), (.ref b5), (.ref b25)]) (rest := [(.ref b10)]) (lenOf pd_277 rfl) rfl (by show 2 * 0 + _ ≤ _; exact Nat.le_of_eq rfl) (hb hby at_80) (fun _ _ => ⟨rfl, rfl, (by decide : 19 + 0 ≤ _), (by decide : 39 + 0 ≤ _)⟩)
        dsimp only [Pt.U, Pt.locs, Pt.cells, Pt.slots] at X34 l34 y34 z34 st34 hQ34
        subst l34 y34 z34
        obtain ⟨rfl, N34q, K34, P34_0, P34_1, P34_2, P34_3⟩ := hQ34
        have N34 := Fr.app N24 N34q
        refine OwnFin.step (fun tT kK => st34.trans kK) ?_
        have Kp35 := Kp28.trans K34 (allS (P := fun x => x ∈ ([] : List Addr) ∨ h0.size ≤ x) (Or.inr sz_b10) all0)
        have cp36 := (CHr.keep K34 (sfS (Safe.exa hZ.alike f30 (by decide) (by decide)) sf0) C29.1)
        have C36 := C29.trans cp36
        show OwnFin p e below _ (T34.setTop (mkF m 83 #[.val (.int l_), .val (.int k_), .val (.int f_), .val (.int d_), .val (.int e_), .val (.int mo), .val (.int l2), .val (.int k2), .val (.int f2), .val (.int (((mo.toUInt32 >>> ((3 : Int32) &&& 31).toUInt32).toInt32) &&& (3 : Int32))), .val (.ref b5), .unset, .unset, .unset, .unset, .unset] [(.ref b10)]))
        refine OwnFin.step (fun tT kK => XS.astore X34.here hx rfl (hb hby at_83) rfl rfl (l' := #[.val (.int l_), .val (.int k_), .val (.int f_), .val (.int d_), .val (.int e_), .val (.int mo), .val (.int l2), .val (.int k2), .val (.int f2), .val (.int (((mo.toUInt32 >>> ((3 : Int32) &&& 31).toUInt32).toInt32) &&& (3 : Int32))), .val (.ref b5), .val (.ref b10), .unset, .unset, .unset, .unset]) rfl kK) ?_
        show OwnFin p e below _ (T34.setTop (mkF m 85 #[.val (.int l_), .val (.int k_), .val (.int f_), .val (.int d_), .val (.int e_), .val (.int mo), .val (.int l2), .val (.int k2), .val (.int f2), .val (.int (((mo.toUInt32 >>> ((3 : Int32) &&& 31).toUInt32).toInt32) &&& (3 : Int32))), .val (.ref b5), .val (.ref b10), .unset, .unset, .unset, .unset] []))
        obtain ⟨T37, h37, X37, e37, E37, A37, D37, -, st37⟩ := newO X34 hx hZ hown (hw _ (List.mem_of_getElem? (i := 29) rfl)) (hw _ (List.mem_of_getElem? (i := 30) rfl)) (hw _ (List.mem_of_getElem? (i := 31) rfl)) rfl (g := (mkF m 85 #[.val (.int l_), .val (.int k_), .val (.int f_), .val (.int d_), .val (.int e_), .val (.int mo), .val (.int l2), .val (.int k2), .val (.int f2), .val (.int (((mo.toUInt32 >>> ((3 : Int32) &&& 31).toUInt32).toInt32) &&& (3 : Int32))), .val (.ref b5), .val (.ref b10), .unset, .unset, .unset, .unset] [])) rfl (hb hby at_85) (by decide) (by decide)
        obtain ⟨b37, g37⟩ : ∃ z, z = T34.heap.size := ⟨_, rfl⟩
        rw [← g37] at A37 D37 st37
        refine OwnFin.step st37 ?_
        have sz_b37 : h0.size ≤ b37 := Nat.le_trans Kp35.1 (Nat.le_of_eq g37.symm)
        have Kp38 := Kp35.ext E37
        have cp39 := (CHr.ext E37 C36.1)
        have C39 := C36.trans cp39
        have sf_b37 := (Safe.new (Nat.le_of_eq g37.symm)).ext E37 C36.1
        have Fz40 : Fld Z h37 b37 "com/example/limpet/limpet/Hold" "lockName" "Ljava/lang/String;" .null := D37 (Or.inr (hw _ (List.mem_of_getElem? (i := 42) rfl))) (ty := (.object "java/lang/String")) (by decide)
        have Fz41 : Fld Z h37 b37 "com/example/limpet/limpet/Hold" "key" "Ljava/lang/String;" .null := D37 (Or.inr (hw _ (List.mem_of_getElem? (i := 44) rfl))) (ty := (.object "java/lang/String")) (by decide)
        have Fz42 : Fld Z h37 b37 "com/example/limpet/limpet/Hold" "field" "Ljava/lang/String;" .null := D37 (Or.inr (hw _ (List.mem_of_getElem? (i := 46) rfl))) (ty := (.object "java/lang/String")) (by decide)
        show OwnFin p e below _ (T37.setTop (mkF m 88 #[.val (.int l_), .val (.int k_), .val (.int f_), .val (.int d_), .val (.int e_), .val (.int mo), .val (.int l2), .val (.int k2), .val (.int f2), .val (.int (((mo.toUInt32 >>> ((3 : Int32) &&& 31).toUInt32).toInt32) &&& (3 : Int32))), .val (.ref b5), .val (.ref b10), .unset, .unset, .unset, .unset] [(.ref b37)]))
        refine OwnFin.step (fun tT kK => XS.dup X37.here hx rfl (hb hby at_88) rfl rfl kK) ?_
        show OwnFin p e below _ (T37.setTop (mkF m 89 #[.val (.int l_), .val (.int k_), .val (.int f_), .val (.int d_), .val (.int e_), .val (.int mo), .val (.int l2), .val (.int k2), .val (.int f2), .val (.int (((mo.toUInt32 >>> ((3 : Int32) &&& 31).toUInt32).toInt32) &&& (3 : Int32))), .val (.ref b5), .val (.ref b10), .unset, .unset, .unset, .unset] [(.ref b37), (.ref b37)]))
        refine OwnFin.step (fun tT kK => XS.iload X37.here hx rfl (hb hby at_89) rfl kK) ?_
        show OwnFin p e below _ (T37.setTop (mkF m 91 #[.val (.int l_), .val (.int k_), .val (.int f_), .val (.int d_), .val (.int e_), .val (.int mo), .val (.int l2), .val (.int k2), .val (.int f2), .val (.int (((mo.toUInt32 >>> ((3 : Int32) &&& 31).toUInt32).toInt32) &&& (3 : Int32))), .val (.ref b5), .val (.ref b10), .unset, .unset, .unset, .unset] [(.int l2), (.ref b37), (.ref b37)]))
        have f43 : Sta Z h37 "java/lang/String" "COMPACT_STRINGS" "Z" (.int cs) := ((own_sta_keep (f23.ext E24) K34 (allS (own_nonsta f30) all0)).ext E37)
        obtain ⟨_, _, ⟨T44, L44, k44, n44⟩, -, X44', hs44, hg44, ⟨Lc44, hQ44, l44, y44, z44, cq44⟩, st44⟩ := callSS X37 hx (y := (⟨"com/example/limpet/limpet/HoldEqualsPinLaw", "mk", "(I)Ljava/lang/String;"⟩ : MethodName)) hown (mvT hZ (hw _ (List.mem_of_getElem? (i := 0) rfl))) (mvT hZ (hw _ (List.mem_of_getElem? (i := 1) rfl))) (mvT hZ (hw _ (List.mem_of_getElem? (i := 2) rfl))) (mvT hZ (hw _ (List.mem_of_getElem? (i := 3) rfl))) (by decide) (backOfSH (W := 2) (rm9 l Z a0 hw hEL wS [] l2 cs h37 n0 (Nat.le_trans Z0 Kp38.1) f43 hp1) hZ (hw _ (List.mem_of_getElem? (i := 3) rfl)) (hw _ (List.mem_of_getElem? (i := 2) rfl)) (by decide) (by decide) hEL C39.1) (g := (mkF m 91 #[.val (.int l_), .val (.int k_), .val (.int f_), .val (.int d_), .val (.int e_), .val (.int mo), .val (.int l2), .val (.int k2), .val (.int f2), .val (.int (((mo.toUInt32 >>> ((3 : Int32) &&& 31).toUInt32).toInt32) &&& (3 : Int32))), .val (.ref b5), .val (.ref b10), .unset, .unset, .unset, .unset] [(.int l2), (.ref b37), (.ref b37)])) rfl (by rw [hml]; rfl) (argsL := [(.int l2)]) (rest := [(.ref b37), (.ref b37)]) (lenOf pd_276 rfl) rfl (by show 2 * 0 + _ ≤ _; exact Nat.le_of_eq rfl) (hb hby at_91) (fun _ _ => ⟨rfl, e37, (by decide : 20 + 6 ≤ _), (by decide : 42 + 12 ≤ _)⟩)
        dsimp only [Pt.U, Pt.locs, Pt.cells, Pt.slots] at X44' hs44 hg44 l44 y44 z44 st44 hQ44 cq44
        subst l44 y44 z44
        obtain ⟨X44, hS44, hZ, hown⟩ := rebS hS24 (by rw [e37]; exact (Nat.le_trans (Nat.le_refl T24.heap.size) (Nat.le_trans (Nat.le_trans (Nat.le_refl _) K34.1) E37.1))) X44' hs44 hg44 hZ hown
        obtain ⟨b45, ⟨d46, ⟨kd47, ⟨rfl, N44q, K44, B44_0, P44_0, P44_1, P44_2, P44_3, P44_4⟩⟩⟩⟩ := hQ44
        have N44 := Fr.app N34 N44q
        refine OwnFin.step (fun tT kK => st44.trans kK) ?_
        have E44 : Ext h37 T44.heap := ⟨K44.1, fun x c q => K44.2.1 x c q nin0⟩
        have sz_b45 : h0.size ≤ b45 := Nat.le_trans Kp38.1 B44_0
        have Kp48 := Kp38.ext E44
        have cp49 := cq44
        have C49 := C39.trans cp49
        show OwnFin p e below _ (T44.setTop (mkF m 94 #[.val (.int l_), .val (.int k_), .val (.int f_), .val (.int d_), .val (.int e_), .val (.int mo), .val (.int l2), .val (.int k2), .val (.int f2), .val (.int (((mo.toUInt32 >>> ((3 : Int32) &&& 31).toUInt32).toInt32) &&& (3 : Int32))), .val (.ref b5), .val (.ref b10), .unset, .unset, .unset, .unset] [(.ref b45), (.ref b37), (.ref b37)]))
        refine OwnFin.step (fun tT kK => XS.iload X44.here hx rfl (hb hby at_94) rfl kK) ?_
        show OwnFin p e below _ (T44.setTop (mkF m 96 #[.val (.int l_), .val (.int k_), .val (.int f_), .val (.int d_), .val (.int e_), .val (.int mo), .val (.int l2), .val (.int k2), .val (.int f2), .val (.int (((mo.toUInt32 >>> ((3 : Int32) &&& 31).toUInt32).toInt32) &&& (3 : Int32))), .val (.ref b5), .val (.ref b10), .unset, .unset, .unset, .unset] [(.int k2), (.ref b45), (.ref b37), (.ref b37)]))
        have f50 : Sta Z T44.heap "java/lang/String" "COMPACT_STRINGS" "Z" (.int cs) := (f43.ext E44)
        obtain ⟨_, _, ⟨T51, L51, k51, n51⟩, -, X51', hs51, hg51, ⟨Lc51, hQ51, l51, y51, z51, cq51⟩, st51⟩ := callSS X44 hx (y := (⟨"com/example/limpet/limpet/HoldEqualsPinLaw", "mk", "(I)Ljava/lang/String;"⟩ : MethodName)) hown (mvT hZ (hw _ (List.mem_of_getElem? (i := 0) rfl))) (mvT hZ (hw _ (List.mem_of_getElem? (i := 1) rfl))) (mvT hZ (hw _ (List.mem_of_getElem? (i := 2) rfl))) (mvT hZ (hw _ (List.mem_of_getElem? (i := 3) rfl))) (by decide) (backOfSH (W := 3) (rm9 l Z a0 hw hEL wS [] k2 cs T44.heap n0 (Nat.le_trans Z0 Kp48.1) f50 hp1) hZ (hw _ (List.mem_of_getElem? (i := 3) rfl)) (hw _ (List.mem_of_getElem? (i := 2) rfl)) (by decide) (by decide) hEL C49.1) (g := (mkF m 96 #[.val (.int l_), .val (.int k_), .val (.int f_), .val (.int d_), .val (.int e_), .val (.int mo), .val (.int l2), .val (.int k2), .val (.int f2), .val (.int (((mo.toUInt32 >>> ((3 : Int32) &&& 31).toUInt32).toInt32) &&& (3 : Int32))), .val (.ref b5), .val (.ref b10), .unset, .unset, .unset, .unset] [(.int k2), (.ref b45), (.ref b37), (.ref b37)])) rfl (by rw [hml]; rfl) (argsL := [(.int k2)]) (rest := [(.ref b45), (.ref b37), (.ref b37)]) (lenOf pd_276 rfl) rfl (by show 2 * 0 + _ ≤ _; exact Nat.le_of_eq rfl) (hb hby at_96) (fun _ _ => ⟨rfl, rfl, (by decide : 26 + 6 ≤ _), (by decide : 54 + 12 ≤ _)⟩)
        dsimp only [Pt.U, Pt.locs, Pt.cells, Pt.slots] at X51' hs51 hg51 l51 y51 z51 st51 hQ51 cq51
        subst l51 y51 z51
        obtain ⟨X51, hS51, hZ, hown⟩ := rebS hS44 (Nat.le_trans (Nat.le_refl T44.heap.size) (Nat.le_refl _)) X51' hs51 hg51 hZ hown
        obtain ⟨b52, ⟨d53, ⟨kd54, ⟨rfl, N51q, K51, B51_0, P51_0, P51_1, P51_2, P51_3, P51_4⟩⟩⟩⟩ := hQ51
        have N51 := Fr.app N44 N51q
        refine OwnFin.step (fun tT kK => st51.trans kK) ?_
        have E51 : Ext T44.heap T51.heap := ⟨K51.1, fun x c q => K51.2.1 x c q nin0⟩
        have sz_b52 : h0.size ≤ b52 := Nat.le_trans Kp48.1 B51_0
        have Kp55 := Kp48.ext E51
        have cp56 := cq51
        have C56 := C49.trans cp56
        show OwnFin p e below _ (T51.setTop (mkF m 99 #[.val (.int l_), .val (.int k_), .val (.int f_), .val (.int d_), .val (.int e_), .val (.int mo), .val (.int l2), .val (.int k2), .val (.int f2), .val (.int (((mo.toUInt32 >>> ((3 : Int32) &&& 31).toUInt32).toInt32) &&& (3 : Int32))), .val (.ref b5), .val (.ref b10), .unset, .unset, .unset, .unset] [(.ref b52), (.ref b45), (.ref b37), (.ref b37)]))
        refine OwnFin.step (fun tT kK => XS.iload X51.here hx rfl (hb hby at_99) rfl kK) ?_
        show OwnFin p e below _ (T51.setTop (mkF m 101 #[.val (.int l_), .val (.int k_), .val (.int f_), .val (.int d_), .val (.int e_), .val (.int mo), .val (.int l2), .val (.int k2), .val (.int f2), .val (.int (((mo.toUInt32 >>> ((3 : Int32) &&& 31).toUInt32).toInt32) &&& (3 : Int32))), .val (.ref b5), .val (.ref b10), .unset, .unset, .unset, .unset] [(.int f2), (.ref b52), (.ref b45), (.ref b37), (.ref b37)]))
        have f57 : Sta Z T51.heap "java/lang/String" "COMPACT_STRINGS" "Z" (.int cs) := (f50.ext E51)
        obtain ⟨_, _, ⟨T58, L58, k58, n58⟩, -, X58', hs58, hg58, ⟨Lc58, hQ58, l58, y58, z58, cq58⟩, st58⟩ := callSS X51 hx (y := (⟨"com/example/limpet/limpet/HoldEqualsPinLaw", "mk", "(I)Ljava/lang/String;"⟩ : MethodName)) hown (mvT hZ (hw _ (List.mem_of_getElem? (i := 0) rfl))) (mvT hZ (hw _ (List.mem_of_getElem? (i := 1) rfl))) (mvT hZ (hw _ (List.mem_of_getElem? (i := 2) rfl))) (mvT hZ (hw _ (List.mem_of_getElem? (i := 3) rfl))) (by decide) (backOfSH (W := 4) (rm9 l Z a0 hw hEL wS [] f2 cs T51.heap n0 (Nat.le_trans Z0 Kp55.1) f57 hp1) hZ (hw _ (List.mem_of_getElem? (i := 3) rfl)) (hw _ (List.mem_of_getElem? (i := 2) rfl)) (by decide) (by decide) hEL C56.1) (g := (mkF m 101 #[.val (.int l_), .val (.int k_), .val (.int f_), .val (.int d_), .val (.int e_), .val (.int mo), .val (.int l2), .val (.int k2), .val (.int f2), .val (.int (((mo.toUInt32 >>> ((3 : Int32) &&& 31).toUInt32).toInt32) &&& (3 : Int32))), .val (.ref b5), .val (.ref b10), .unset, .unset, .unset, .unset] [(.int f2), (.ref b52), (.ref b45), (.ref b37), (.ref b37)])) rfl (by rw [hml]; rfl) (argsL := [(.int f2)]) (rest := [(.ref b52), (.ref b45), (.ref b37), (.ref b37)]) (lenOf pd_276 rfl) rfl (by show 2 * 0 + _ ≤ _; exact Nat.le_of_eq rfl) (hb hby at_101) (fun _ _ => ⟨rfl, rfl, (by decide : 32 + 6 ≤ _), (by decide : 66 + 12 ≤ _)⟩)
        dsimp only [Pt.U, Pt.locs, Pt.cells, Pt.slots] at X58' hs58 hg58 l58 y58 z58 st58 hQ58 cq58
        subst l58 y58 z58
        obtain ⟨X58, hS58, hZ, hown⟩ := rebS hS51 (Nat.le_trans (Nat.le_refl T51.heap.size) (Nat.le_refl _)) X58' hs58 hg58 hZ hown
        obtain ⟨b59, ⟨d60, ⟨kd61, ⟨rfl, N58q, K58, B58_0, P58_0, P58_1, P58_2, P58_3, P58_4⟩⟩⟩⟩ := hQ58
        have N58 := Fr.app N51 N58q
        refine OwnFin.step (fun tT kK => st58.trans kK) ?_
        have E58 : Ext T51.heap T58.heap := ⟨K58.1, fun x c q => K58.2.1 x c q nin0⟩
        have sz_b59 : h0.size ≤ b59 := Nat.le_trans Kp55.1 B58_0
        have Kp62 := Kp55.ext E58
        have cp63 := cq58
        have C63 := C56.trans cp63
        show OwnFin p e below _ (T58.setTop (mkF m 104 #[.val (.int l_), .val (.int k_), .val (.int f_), .val (.int d_), .val (.int e_), .val (.int mo), .val (.int l2), .val (.int k2), .val (.int f2), .val (.int (((mo.toUInt32 >>> ((3 : Int32) &&& 31).toUInt32).toInt32) &&& (3 : Int32))), .val (.ref b5), .val (.ref b10), .unset, .unset, .unset, .unset] [(.ref b59), (.ref b52), (.ref b45), (.ref b37), (.ref b37)]))
        have f64 : Exa Z T58.heap b37 "com/example/limpet/limpet/Hold" := (((A37.ext E44).ext E51).ext E58)
        have f65 : Fld Z T58.heap b37 "com/example/limpet/limpet/Hold" "lockName" "Ljava/lang/String;" .null := (((Fz40.ext E44).ext E51).ext E58)
        have f66 : Fld Z T58.heap b37 "com/example/limpet/limpet/Hold" "key" "Ljava/lang/String;" .null := (((Fz41.ext E44).ext E51).ext E58)
        have f67 : Fld Z T58.heap b37 "com/example/limpet/limpet/Hold" "field" "Ljava/lang/String;" .null := (((Fz42.ext E44).ext E51).ext E58)
        obtain ⟨_, _, ⟨T68, L68, k68, n68⟩, -, X68, ⟨Lc68, hQ68, l68, y68, z68⟩, st68⟩ := X58.specialBack hx (y := (⟨"com/example/limpet/limpet/Hold", "<init>", "(Ljava/lang/String;Ljava/lang/String;Ljava/lang/String;)V"⟩ : MethodName)) rfl hown (mvT hZ (hw _ (List.mem_of_getElem? (i := 32) rfl))) (mvT hZ (hw _ (List.mem_of_getElem? (i := 33) rfl))) (mvT hZ (hw _ (List.mem_of_getElem? (i := 34) rfl))) (by decide) (backOf (W := 1) (rm4 l Z a0 hw hEL wS [] b37 b45 b52 b59 T58.heap n0 (Nat.le_trans Z0 Kp62.1) f64 f65 f66 f67 (Nat.le_trans Z0 sz_b37)) hZ (hw _ (List.mem_of_getElem? (i := 34) rfl)) (hw _ (List.mem_of_getElem? (i := 31) rfl)) (by decide) (by decide)) (g := (mkF m 104 #[.val (.int l_), .val (.int k_), .val (.int f_), .val (.int d_), .val (.int e_), .val (.int mo), .val (.int l2), .val (.int k2), .val (.int f2), .val (.int (((mo.toUInt32 >>> ((3 : Int32) &&& 31).toUInt32).toInt32) &&& (3 : Int32))), .val (.ref b5), .val (.ref b10), .unset, .unset, .unset, .unset] [(.ref b59), (.ref b52), (.ref b45), (.ref b37), (.ref b37)])) rfl (by rw [hml]; rfl) (Steps.refl _) (a := b37) (argsL := [(.ref b45), (.ref b52), (.ref b59)]) (rest := [(.ref b37)]) (lenOf pd_277 rfl) rfl (by show 2 * 0 + _ ≤ _; exact Nat.le_of_eq rfl) (hb hby at_104) (fun _ _ => ⟨rfl, rfl, (by decide : 38 + 0 ≤ _), (by decide : 78 + 0 ≤ _)⟩)
        dsimp only [Pt.U, Pt.locs, Pt.cells, Pt.slots] at X68 l68 y68 z68 st68 hQ68
        subst l68 y68 z68
        obtain ⟨rfl, N68q, K68, P68_0, P68_1, P68_2, P68_3⟩ := hQ68
        have N68 := Fr.app N58 N68q
        refine OwnFin.step (fun tT kK => st68.trans kK) ?_
        have Kp69 := Kp62.trans K68 (allS (P := fun x => x ∈ ([] : List Addr) ∨ h0.size ≤ x) (Or.inr sz_b37) all0)
        have cp70 := (CHr.keep K68 (sfS (Safe.exa hZ.alike f64 (by decide) (by decide)) sf0) C63.1)
        have C70 := C63.trans cp70
        show OwnFin p e below _ (T68.setTop (mkF m 107 #[.val (.int l_), .val (.int k_), .val (.int f_), .val (.int d_), .val (.int e_), .val (.int mo), .val (.int l2), .val (.int k2), .val (.int f2), .val (.int (((mo.toUInt32 >>> ((3 : Int32) &&& 31).toUInt32).toInt32) &&& (3 : Int32))), .val (.ref b5), .val (.ref b10), .unset, .unset, .unset, .unset] [(.ref b37)]))
        refine OwnFin.step (fun tT kK => XS.astore X68.here hx rfl (hb hby at_107) rfl rfl (l' := #[.val (.int l_), .val (.int k_), .val (.int f_), .val (.int d_), .val (.int e_), .val (.int mo), .val (.int l2), .val (.int k2), .val (.int f2), .val (.int (((mo.toUInt32 >>> ((3 : Int32) &&& 31).toUInt32).toInt32) &&& (3 : Int32))), .val (.ref b5), .val (.ref b10), .val (.ref b37), .unset, .unset, .unset]) rfl kK) ?_
        show OwnFin p e below _ (T68.setTop (mkF m 109 #[.val (.int l_), .val (.int k_), .val (.int f_), .val (.int d_), .val (.int e_), .val (.int mo), .val (.int l2), .val (.int k2), .val (.int f2), .val (.int (((mo.toUInt32 >>> ((3 : Int32) &&& 31).toUInt32).toInt32) &&& (3 : Int32))), .val (.ref b5), .val (.ref b10), .val (.ref b37), .unset, .unset, .unset] []))
        refine OwnFin.step (fun tT kK => XS.iload X68.here hx rfl (hb hby at_109) rfl kK) ?_
        show OwnFin p e below _ (T68.setTop (mkF m 111 #[.val (.int l_), .val (.int k_), .val (.int f_), .val (.int d_), .val (.int e_), .val (.int mo), .val (.int l2), .val (.int k2), .val (.int f2), .val (.int (((mo.toUInt32 >>> ((3 : Int32) &&& 31).toUInt32).toInt32) &&& (3 : Int32))), .val (.ref b5), .val (.ref b10), .val (.ref b37), .unset, .unset, .unset] [(.int (((mo.toUInt32 >>> ((3 : Int32) &&& 31).toUInt32).toInt32) &&& (3 : Int32)))]))
        refine OwnFin.step (fun tT kK => XS.iconst X68.here hx rfl (hb hby at_111) kK) ?_
        show OwnFin p e below _ (T68.setTop (mkF m 112 #[.val (.int l_), .val (.int k_), .val (.int f_), .val (.int d_), .val (.int e_), .val (.int mo), .val (.int l2), .val (.int k2), .val (.int f2), .val (.int (((mo.toUInt32 >>> ((3 : Int32) &&& 31).toUInt32).toInt32) &&& (3 : Int32))), .val (.ref b5), .val (.ref b10), .val (.ref b37), .unset, .unset, .unset] [(.int (1 : Int32)), (.int (((mo.toUInt32 >>> ((3 : Int32) &&& 31).toUInt32).toInt32) &&& (3 : Int32)))]))
        by_cases hc71 : (((mo.toUInt32 >>> ((3 : Int32) &&& 31).toUInt32).toInt32) &&& (3 : Int32)) = (1 : Int32)
        · skip
          refine OwnFin.step (fun tT kK => XS.icmpNo X68.here hx rfl (hb hby at_112) rfl (teq (hc71 : (((mo.toUInt32 >>> ((3 : Int32) &&& 31).toUInt32).toInt32) &&& (3 : Int32)) = (1 : Int32))).2 kK) ?_
          show OwnFin p e below _ (T68.setTop (mkF m 115 #[.val (.int l_), .val (.int k_), .val (.int f_), .val (.int d_), .val (.int e_), .val (.int mo), .val (.int l2), .val (.int k2), .val (.int f2), .val (.int (((mo.toUInt32 >>> ((3 : Int32) &&& 31).toUInt32).toInt32) &&& (3 : Int32))), .val (.ref b5), .val (.ref b10), .val (.ref b37), .unset, .unset, .unset] []))
          refine OwnFin.step (fun tT kK => XS.aload X68.here hx rfl (hb hby at_115) rfl rfl kK) ?_
          show OwnFin p e below _ (T68.setTop (mkF m 117 #[.val (.int l_), .val (.int k_), .val (.int f_), .val (.int d_), .val (.int e_), .val (.int mo), .val (.int l2), .val (.int k2), .val (.int f2), .val (.int (((mo.toUInt32 >>> ((3 : Int32) &&& 31).toUInt32).toInt32) &&& (3 : Int32))), .val (.ref b5), .val (.ref b10), .val (.ref b37), .unset, .unset, .unset] [(.ref b10)]))
          refine OwnFin.step (fun tT kK => XS.aconstNull X68.here hx rfl (hb hby at_117) kK) ?_
          show OwnFin p e below _ (T68.setTop (mkF m 118 #[.val (.int l_), .val (.int k_), .val (.int f_), .val (.int d_), .val (.int e_), .val (.int mo), .val (.int l2), .val (.int k2), .val (.int f2), .val (.int (((mo.toUInt32 >>> ((3 : Int32) &&& 31).toUInt32).toInt32) &&& (3 : Int32))), .val (.ref b5), .val (.ref b10), .val (.ref b37), .unset, .unset, .unset] [.null, (.ref b10)]))
          have f73 : Exa Z T68.heap b10 "com/example/limpet/limpet/Hold" := (((((P34_0.ext E37).ext E44).ext E51).ext E58).keep K68)
          obtain ⟨cq72, kq72, q72a, q72b, q72c⟩ := isOf hZ rfl f73
          obtain ⟨_, _, ⟨T72, L72, k72, n72⟩, -, X72, ⟨Lc72, hQ72, l72, y72, z72⟩, st72⟩ := X68.virtualBack hx (y := (⟨"com/example/limpet/limpet/Hold", "equals", "(Ljava/lang/Object;)Z"⟩ : MethodName)) (z := (⟨"com/example/limpet/limpet/Hold", "equals", "(Ljava/lang/Object;)Z"⟩ : MethodName)) hown (mvT hZ (hw _ (List.mem_of_getElem? (i := 50) rfl))) (mvT hZ (hw _ (List.mem_of_getElem? (i := 51) rfl))) (notFace_of_selects (args := #[]) (mvT hZ (hw _ (List.mem_of_getElem? (i := 53) rfl)))) (mvT hZ (hw _ (List.mem_of_getElem? (i := 53) rfl))) (mvT hZ (hw _ (List.mem_of_getElem? (i := 52) rfl))) (by decide) (backOf (W := 0) (rm5n l Z a0 hw hEL wS [] b10 T68.heap n0 (Nat.le_trans Z0 Kp69.1) ) hZ (hw _ (List.mem_of_getElem? (i := 54) rfl)) (hw _ (List.mem_of_getElem? (i := 31) rfl)) (by decide) (by decide)) q72a q72c (g := (mkF m 118 #[.val (.int l_), .val (.int k_), .val (.int f_), .val (.int d_), .val (.int e_), .val (.int mo), .val (.int l2), .val (.int k2), .val (.int f2), .val (.int (((mo.toUInt32 >>> ((3 : Int32) &&& 31).toUInt32).toInt32) &&& (3 : Int32))), .val (.ref b5), .val (.ref b10), .val (.ref b37), .unset, .unset, .unset] [.null, (.ref b10)])) rfl (by rw [hml]; rfl) (Steps.refl _) (argsL := [.null]) (rest := []) (lenOf pd_86 rfl) rfl (by show 2 * 0 + _ ≤ _; exact Nat.le_of_eq rfl) (hb hby at_118) (fun _ _ => ⟨rfl, rfl, (by decide : 38 + 0 ≤ _), (by decide : 78 + 0 ≤ _)⟩)
          dsimp only [Pt.U, Pt.locs, Pt.cells, Pt.slots] at X72 l72 y72 z72 st72 hQ72
          subst l72 y72 z72
          obtain ⟨rfl, N72q, e72⟩ := hQ72
          have N72 := Fr.app N68 N72q
          refine OwnFin.step (fun tT kK => st72.trans kK) ?_
          show OwnFin p e below _ (T72.setTop (mkF m 121 #[.val (.int l_), .val (.int k_), .val (.int f_), .val (.int d_), .val (.int e_), .val (.int mo), .val (.int l2), .val (.int k2), .val (.int f2), .val (.int (((mo.toUInt32 >>> ((3 : Int32) &&& 31).toUInt32).toInt32) &&& (3 : Int32))), .val (.ref b5), .val (.ref b10), .val (.ref b37), .unset, .unset, .unset] [(.int (0 : Int32))]))
          refine OwnFin.step (fun tT kK => XS.ifNo X72.here hx rfl (hb hby at_121) rfl ((if0 _ _).trans (teq (rfl : (0 : Int32) = (0 : Int32))).2) kK) ?_
          show OwnFin p e below _ (T72.setTop (mkF m 124 #[.val (.int l_), .val (.int k_), .val (.int f_), .val (.int d_), .val (.int e_), .val (.int mo), .val (.int l2), .val (.int k2), .val (.int f2), .val (.int (((mo.toUInt32 >>> ((3 : Int32) &&& 31).toUInt32).toInt32) &&& (3 : Int32))), .val (.ref b5), .val (.ref b10), .val (.ref b37), .unset, .unset, .unset] []))
          refine OwnFin.step (fun tT kK => XS.iconst X72.here hx rfl (hb hby at_124) kK) ?_
          show OwnFin p e below _ (T72.setTop (mkF m 125 #[.val (.int l_), .val (.int k_), .val (.int f_), .val (.int d_), .val (.int e_), .val (.int mo), .val (.int l2), .val (.int k2), .val (.int f2), .val (.int (((mo.toUInt32 >>> ((3 : Int32) &&& 31).toUInt32).toInt32) &&& (3 : Int32))), .val (.ref b5), .val (.ref b10), .val (.ref b37), .unset, .unset, .unset] [(.int (1 : Int32))]))
          refine OwnFin.step (fun tT kK => XS.goto X72.here hx rfl (pc0 := 125) (pc' := 129) rfl (hb hby at_125) (by decide) (by decide) kK) ?_
          show OwnFin p e below _ (T72.setTop (mkF m 129 #[.val (.int l_), .val (.int k_), .val (.int f_), .val (.int d_), .val (.int e_), .val (.int mo), .val (.int l2), .val (.int k2), .val (.int f2), .val (.int (((mo.toUInt32 >>> ((3 : Int32) &&& 31).toUInt32).toInt32) &&& (3 : Int32))), .val (.ref b5), .val (.ref b10), .val (.ref b37), .unset, .unset, .unset] [(.int (1 : Int32))]))
          obtain ⟨fs74, hr74, hrun74, hended74, hW74⟩ := X72.leaveW (s := s) hS58 (by rw [e72]; exact (Nat.le_trans (Nat.le_refl T58.heap.size) (Nat.le_trans (Nat.le_refl _) K68.1))) (v := (some (.int (1 : Int32)))) (fun h => by rw [Bd.returns] at h; cases h)
          refine ⟨_, _, retN X72 hx (t := .boolean) Bd.returns (by simp) (hb hby at_129) hr74, hrun74, hended74, _, _, rfl, ?_, (by show CHr Z OwnEL s.vm s.heap T72.vm T72.heap; rw [hh, e72]; exact C70.trans (CHv.at X72 hZ hEL C70.1)), hW74.1, hW74.2.1, hW74.2.2.1, hW74.2.2.2.mono (by decide) (by decide)⟩
          show Q0 Z l_ k_ f_ d_ e_ mo cs h0 n0 _ T72.heap _
          rw [e72]
          exact ⟨rfl, N72, Kp69⟩
        · skip
          refine OwnFin.step (fun tT kK => XS.icmpYes X68.here hx rfl (pc0 := 112) (pc' := 130) rfl (hb hby at_112) rfl (feq (hc71 : ¬ ((((mo.toUInt32 >>> ((3 : Int32) &&& 31).toUInt32).toInt32) &&& (3 : Int32)) = (1 : Int32)))).2 (by decide) (by decide) kK) ?_
          show OwnFin p e below _ (T68.setTop (mkF m 130 #[.val (.int l_), .val (.int k_), .val (.int f_), .val (.int d_), .val (.int e_), .val (.int mo), .val (.int l2), .val (.int k2), .val (.int f2), .val (.int (((mo.toUInt32 >>> ((3 : Int32) &&& 31).toUInt32).toInt32) &&& (3 : Int32))), .val (.ref b5), .val (.ref b10), .val (.ref b37), .unset, .unset, .unset] []))
          refine OwnFin.step (fun tT kK => XS.iload X68.here hx rfl (hb hby at_130) rfl kK) ?_
          show OwnFin p e below _ (T68.setTop (mkF m 132 #[.val (.int l_), .val (.int k_), .val (.int f_), .val (.int d_), .val (.int e_), .val (.int mo), .val (.int l2), .val (.int k2), .val (.int f2), .val (.int (((mo.toUInt32 >>> ((3 : Int32) &&& 31).toUInt32).toInt32) &&& (3 : Int32))), .val (.ref b5), .val (.ref b10), .val (.ref b37), .unset, .unset, .unset] [(.int (((mo.toUInt32 >>> ((3 : Int32) &&& 31).toUInt32).toInt32) &&& (3 : Int32)))]))
          refine OwnFin.step (fun tT kK => XS.iconst X68.here hx rfl (hb hby at_132) kK) ?_
          show OwnFin p e below _ (T68.setTop (mkF m 133 #[.val (.int l_), .val (.int k_), .val (.int f_), .val (.int d_), .val (.int e_), .val (.int mo), .val (.int l2), .val (.int k2), .val (.int f2), .val (.int (((mo.toUInt32 >>> ((3 : Int32) &&& 31).toUInt32).toInt32) &&& (3 : Int32))), .val (.ref b5), .val (.ref b10), .val (.ref b37), .unset, .unset, .unset] [(.int (2 : Int32)), (.int (((mo.toUInt32 >>> ((3 : Int32) &&& 31).toUInt32).toInt32) &&& (3 : Int32)))]))
          by_cases hc75 : (((mo.toUInt32 >>> ((3 : Int32) &&& 31).toUInt32).toInt32) &&& (3 : Int32)) = (2 : Int32)
          · skip
            refine OwnFin.step (fun tT kK => XS.icmpNo X68.here hx rfl (hb hby at_133) rfl (teq (hc75 : (((mo.toUInt32 >>> ((3 : Int32) &&& 31).toUInt32).toInt32) &&& (3 : Int32)) = (2 : Int32))).2 kK) ?_
            show OwnFin p e below _ (T68.setTop (mkF m 136 #[.val (.int l_), .val (.int k_), .val (.int f_), .val (.int d_), .val (.int e_), .val (.int mo), .val (.int l2), .val (.int k2), .val (.int f2), .val (.int (((mo.toUInt32 >>> ((3 : Int32) &&& 31).toUInt32).toInt32) &&& (3 : Int32))), .val (.ref b5), .val (.ref b10), .val (.ref b37), .unset, .unset, .unset] []))
            refine OwnFin.step (fun tT kK => XS.aload X68.here hx rfl (hb hby at_136) rfl rfl kK) ?_
            show OwnFin p e below _ (T68.setTop (mkF m 138 #[.val (.int l_), .val (.int k_), .val (.int f_), .val (.int d_), .val (.int e_), .val (.int mo), .val (.int l2), .val (.int k2), .val (.int f2), .val (.int (((mo.toUInt32 >>> ((3 : Int32) &&& 31).toUInt32).toInt32) &&& (3 : Int32))), .val (.ref b5), .val (.ref b10), .val (.ref b37), .unset, .unset, .unset] [(.ref b10)]))
            refine OwnFin.step (fun tT kK => XS.aload X68.here hx rfl (hb hby at_138) rfl rfl kK) ?_
            show OwnFin p e below _ (T68.setTop (mkF m 140 #[.val (.int l_), .val (.int k_), .val (.int f_), .val (.int d_), .val (.int e_), .val (.int mo), .val (.int l2), .val (.int k2), .val (.int f2), .val (.int (((mo.toUInt32 >>> ((3 : Int32) &&& 31).toUInt32).toInt32) &&& (3 : Int32))), .val (.ref b5), .val (.ref b10), .val (.ref b37), .unset, .unset, .unset] [(.ref b5), (.ref b10)]))
            have f76 : Exa Z T68.heap b5 "java/lang/String" := (((((((((P4_0.ext E10).ext E17).ext E24).keep K34).ext E37).ext E44).ext E51).ext E58).keep K68)
            have f78 : Exa Z T68.heap b10 "com/example/limpet/limpet/Hold" := (((((P34_0.ext E37).ext E44).ext E51).ext E58).keep K68)
            obtain ⟨cq77, kq77, q77a, q77b, q77c⟩ := isOf hZ rfl f78
            obtain ⟨_, _, ⟨T77, L77, k77, n77⟩, -, X77, ⟨Lc77, hQ77, l77, y77, z77⟩, st77⟩ := X68.virtualBack hx (y := (⟨"com/example/limpet/limpet/Hold", "equals", "(Ljava/lang/Object;)Z"⟩ : MethodName)) (z := (⟨"com/example/limpet/limpet/Hold", "equals", "(Ljava/lang/Object;)Z"⟩ : MethodName)) hown (mvT hZ (hw _ (List.mem_of_getElem? (i := 50) rfl))) (mvT hZ (hw _ (List.mem_of_getElem? (i := 51) rfl))) (notFace_of_selects (args := #[]) (mvT hZ (hw _ (List.mem_of_getElem? (i := 53) rfl)))) (mvT hZ (hw _ (List.mem_of_getElem? (i := 53) rfl))) (mvT hZ (hw _ (List.mem_of_getElem? (i := 52) rfl))) (by decide) (backOf (W := 0) (rm5s l Z a0 hw hEL wS [] b10 b5 T68.heap n0 (Nat.le_trans Z0 Kp69.1) f76) hZ (hw _ (List.mem_of_getElem? (i := 54) rfl)) (hw _ (List.mem_of_getElem? (i := 31) rfl)) (by decide) (by decide)) q77a q77c (g := (mkF m 140 #[.val (.int l_), .val (.int k_), .val (.int f_), .val (.int d_), .val (.int e_), .val (.int mo), .val (.int l2), .val (.int k2), .val (.int f2), .val (.int (((mo.toUInt32 >>> ((3 : Int32) &&& 31).toUInt32).toInt32) &&& (3 : Int32))), .val (.ref b5), .val (.ref b10), .val (.ref b37), .unset, .unset, .unset] [(.ref b5), (.ref b10)])) rfl (by rw [hml]; rfl) (Steps.refl _) (argsL := [(.ref b5)]) (rest := []) (lenOf pd_86 rfl) rfl (by show 2 * 0 + _ ≤ _; exact Nat.le_of_eq rfl) (hb hby at_140) (fun _ _ => ⟨rfl, rfl, (by decide : 38 + 0 ≤ _), (by decide : 78 + 0 ≤ _)⟩)
            dsimp only [Pt.U, Pt.locs, Pt.cells, Pt.slots] at X77 l77 y77 z77 st77 hQ77
            subst l77 y77 z77
            obtain ⟨rfl, N77q, e77⟩ := hQ77
            have N77 := Fr.app N68 N77q
            refine OwnFin.step (fun tT kK => st77.trans kK) ?_
            show OwnFin p e below _ (T77.setTop (mkF m 143 #[.val (.int l_), .val (.int k_), .val (.int f_), .val (.int d_), .val (.int e_), .val (.int mo), .val (.int l2), .val (.int k2), .val (.int f2), .val (.int (((mo.toUInt32 >>> ((3 : Int32) &&& 31).toUInt32).toInt32) &&& (3 : Int32))), .val (.ref b5), .val (.ref b10), .val (.ref b37), .unset, .unset, .unset] [(.int (0 : Int32))]))
            refine OwnFin.step (fun tT kK => XS.ifNo X77.here hx rfl (hb hby at_143) rfl ((if0 _ _).trans (teq (rfl : (0 : Int32) = (0 : Int32))).2) kK) ?_
            show OwnFin p e below _ (T77.setTop (mkF m 146 #[.val (.int l_), .val (.int k_), .val (.int f_), .val (.int d_), .val (.int e_), .val (.int mo), .val (.int l2), .val (.int k2), .val (.int f2), .val (.int (((mo.toUInt32 >>> ((3 : Int32) &&& 31).toUInt32).toInt32) &&& (3 : Int32))), .val (.ref b5), .val (.ref b10), .val (.ref b37), .unset, .unset, .unset] []))
            refine OwnFin.step (fun tT kK => XS.iconst X77.here hx rfl (hb hby at_146) kK) ?_
            show OwnFin p e below _ (T77.setTop (mkF m 147 #[.val (.int l_), .val (.int k_), .val (.int f_), .val (.int d_), .val (.int e_), .val (.int mo), .val (.int l2), .val (.int k2), .val (.int f2), .val (.int (((mo.toUInt32 >>> ((3 : Int32) &&& 31).toUInt32).toInt32) &&& (3 : Int32))), .val (.ref b5), .val (.ref b10), .val (.ref b37), .unset, .unset, .unset] [(.int (1 : Int32))]))
            refine OwnFin.step (fun tT kK => XS.goto X77.here hx rfl (pc0 := 147) (pc' := 151) rfl (hb hby at_147) (by decide) (by decide) kK) ?_
            show OwnFin p e below _ (T77.setTop (mkF m 151 #[.val (.int l_), .val (.int k_), .val (.int f_), .val (.int d_), .val (.int e_), .val (.int mo), .val (.int l2), .val (.int k2), .val (.int f2), .val (.int (((mo.toUInt32 >>> ((3 : Int32) &&& 31).toUInt32).toInt32) &&& (3 : Int32))), .val (.ref b5), .val (.ref b10), .val (.ref b37), .unset, .unset, .unset] [(.int (1 : Int32))]))
            obtain ⟨fs79, hr79, hrun79, hended79, hW79⟩ := X77.leaveW (s := s) hS58 (by rw [e77]; exact (Nat.le_trans (Nat.le_refl T58.heap.size) (Nat.le_trans (Nat.le_refl _) K68.1))) (v := (some (.int (1 : Int32)))) (fun h => by rw [Bd.returns] at h; cases h)
            refine ⟨_, _, retN X77 hx (t := .boolean) Bd.returns (by simp) (hb hby at_151) hr79, hrun79, hended79, _, _, rfl, ?_, (by show CHr Z OwnEL s.vm s.heap T77.vm T77.heap; rw [hh, e77]; exact C70.trans (CHv.at X77 hZ hEL C70.1)), hW79.1, hW79.2.1, hW79.2.2.1, hW79.2.2.2.mono (by decide) (by decide)⟩
            show Q0 Z l_ k_ f_ d_ e_ mo cs h0 n0 _ T77.heap _
            rw [e77]
            exact ⟨rfl, N77, Kp69⟩
          · skip
            refine OwnFin.step (fun tT kK => XS.icmpYes X68.here hx rfl (pc0 := 133) (pc' := 152) rfl (hb hby at_133) rfl (feq (hc75 : ¬ ((((mo.toUInt32 >>> ((3 : Int32) &&& 31).toUInt32).toInt32) &&& (3 : Int32)) = (2 : Int32)))).2 (by decide) (by decide) kK) ?_
            show OwnFin p e below _ (T68.setTop (mkF m 152 #[.val (.int l_), .val (.int k_), .val (.int f_), .val (.int d_), .val (.int e_), .val (.int mo), .val (.int l2), .val (.int k2), .val (.int f2), .val (.int (((mo.toUInt32 >>> ((3 : Int32) &&& 31).toUInt32).toInt32) &&& (3 : Int32))), .val (.ref b5), .val (.ref b10), .val (.ref b37), .unset, .unset, .unset] []))
            refine OwnFin.step (fun tT kK => XS.iload X68.here hx rfl (hb hby at_152) rfl kK) ?_
            show OwnFin p e below _ (T68.setTop (mkF m 154 #[.val (.int l_), .val (.int k_), .val (.int f_), .val (.int d_), .val (.int e_), .val (.int mo), .val (.int l2), .val (.int k2), .val (.int f2), .val (.int (((mo.toUInt32 >>> ((3 : Int32) &&& 31).toUInt32).toInt32) &&& (3 : Int32))), .val (.ref b5), .val (.ref b10), .val (.ref b37), .unset, .unset, .unset] [(.int (((mo.toUInt32 >>> ((3 : Int32) &&& 31).toUInt32).toInt32) &&& (3 : Int32)))]))
            refine OwnFin.step (fun tT kK => XS.iconst X68.here hx rfl (hb hby at_154) kK) ?_
            show OwnFin p e below _ (T68.setTop (mkF m 155 #[.val (.int l_), .val (.int k_), .val (.int f_), .val (.int d_), .val (.int e_), .val (.int mo), .val (.int l2), .val (.int k2), .val (.int f2), .val (.int (((mo.toUInt32 >>> ((3 : Int32) &&& 31).toUInt32).toInt32) &&& (3 : Int32))), .val (.ref b5), .val (.ref b10), .val (.ref b37), .unset, .unset, .unset] [(.int (3 : Int32)), (.int (((mo.toUInt32 >>> ((3 : Int32) &&& 31).toUInt32).toInt32) &&& (3 : Int32)))]))
            by_cases hc80 : (((mo.toUInt32 >>> ((3 : Int32) &&& 31).toUInt32).toInt32) &&& (3 : Int32)) = (3 : Int32)
            · skip
              refine OwnFin.step (fun tT kK => XS.icmpNo X68.here hx rfl (hb hby at_155) rfl (teq (hc80 : (((mo.toUInt32 >>> ((3 : Int32) &&& 31).toUInt32).toInt32) &&& (3 : Int32)) = (3 : Int32))).2 kK) ?_
              show OwnFin p e below _ (T68.setTop (mkF m 158 #[.val (.int l_), .val (.int k_), .val (.int f_), .val (.int d_), .val (.int e_), .val (.int mo), .val (.int l2), .val (.int k2), .val (.int f2), .val (.int (((mo.toUInt32 >>> ((3 : Int32) &&& 31).toUInt32).toInt32) &&& (3 : Int32))), .val (.ref b5), .val (.ref b10), .val (.ref b37), .unset, .unset, .unset] []))
              refine OwnFin.step (fun tT kK => XS.aload X68.here hx rfl (hb hby at_158) rfl rfl kK) ?_
              show OwnFin p e below _ (T68.setTop (mkF m 160 #[.val (.int l_), .val (.int k_), .val (.int f_), .val (.int d_), .val (.int e_), .val (.int mo), .val (.int l2), .val (.int k2), .val (.int f2), .val (.int (((mo.toUInt32 >>> ((3 : Int32) &&& 31).toUInt32).toInt32) &&& (3 : Int32))), .val (.ref b5), .val (.ref b10), .val (.ref b37), .unset, .unset, .unset] [(.ref b10)]))
              refine OwnFin.step (fun tT kK => XS.aload X68.here hx rfl (hb hby at_160) rfl rfl kK) ?_
              show OwnFin p e below _ (T68.setTop (mkF m 162 #[.val (.int l_), .val (.int k_), .val (.int f_), .val (.int d_), .val (.int e_), .val (.int mo), .val (.int l2), .val (.int k2), .val (.int f2), .val (.int (((mo.toUInt32 >>> ((3 : Int32) &&& 31).toUInt32).toInt32) &&& (3 : Int32))), .val (.ref b5), .val (.ref b10), .val (.ref b37), .unset, .unset, .unset] [(.ref b10), (.ref b10)]))
              have f81 : Exa Z T68.heap b10 "com/example/limpet/limpet/Hold" := (((((P34_0.ext E37).ext E44).ext E51).ext E58).keep K68)
              have f82 : Fld Z T68.heap b10 "com/example/limpet/limpet/Hold" "lockName" "Ljava/lang/String;" (.ref b18) := (((((P34_1.ext E37).ext E44).ext E51).ext E58).keep K68 (ninS (Nat.ne_of_lt (Nat.lt_of_lt_of_le (Nat.lt_of_lt_of_le P34_0.lt (Nat.le_refl _)) (Nat.le_of_eq g37.symm))) nin0))
              have f83 : Fld Z T68.heap b10 "com/example/limpet/limpet/Hold" "key" "Ljava/lang/String;" (.ref b5) := (((((P34_2.ext E37).ext E44).ext E51).ext E58).keep K68 (ninS (Nat.ne_of_lt (Nat.lt_of_lt_of_le (Nat.lt_of_lt_of_le P34_0.lt (Nat.le_refl _)) (Nat.le_of_eq g37.symm))) nin0))
              have f84 : Fld Z T68.heap b10 "com/example/limpet/limpet/Hold" "field" "Ljava/lang/String;" (.ref b25) := (((((P34_3.ext E37).ext E44).ext E51).ext E58).keep K68 (ninS (Nat.ne_of_lt (Nat.lt_of_lt_of_le (Nat.lt_of_lt_of_le P34_0.lt (Nat.le_refl _)) (Nat.le_of_eq g37.symm))) nin0))
              have f85 : Exa Z T68.heap b18 "java/lang/String" := (((((((P17_0.ext E24).keep K34).ext E37).ext E44).ext E51).ext E58).keep K68)
              have f86 : Fld Z T68.heap b18 "java/lang/String" "value" "[B" (.ref d19) := (((((((P17_1.ext E24).keep K34 (ninS (Ne.symm (Nat.ne_of_lt (Nat.lt_of_lt_of_le (Nat.lt_of_lt_of_le A10.lt (Nat.le_refl _)) B17_0))) nin0)).ext E37).ext E44).ext E51).ext E58).keep K68 (ninS (Nat.ne_of_lt (Nat.lt_of_lt_of_le (Nat.lt_of_lt_of_le P17_0.lt (Nat.le_trans (Nat.le_trans (Nat.le_refl _) E24.1) K34.1)) (Nat.le_of_eq g37.symm))) nin0))
              have f87 : Fld Z T68.heap b18 "java/lang/String" "coder" "B" (.int (0 : Int32)) := (((((((P17_2.ext E24).keep K34 (ninS (Ne.symm (Nat.ne_of_lt (Nat.lt_of_lt_of_le (Nat.lt_of_lt_of_le A10.lt (Nat.le_refl _)) B17_0))) nin0)).ext E37).ext E44).ext E51).ext E58).keep K68 (ninS (Nat.ne_of_lt (Nat.lt_of_lt_of_le (Nat.lt_of_lt_of_le P17_0.lt (Nat.le_trans (Nat.le_trans (Nat.le_refl _) E24.1) K34.1)) (Nat.le_of_eq g37.symm))) nin0))
              have f88 : Arv Z T68.heap d19 kd20 .byte (OwnL l_) (OwnV l_) (.int (0 : Int32)) := (((((((P17_3.ext E24).keep K34 (ninS (Ne.symm (Exa.neArv (A10.ext E17) P17_3 (hw _ (List.mem_of_getElem? (i := 30) rfl)))) nin0)).ext E37).ext E44).ext E51).ext E58).keep K68 (ninS (Nat.ne_of_lt (Nat.lt_of_lt_of_le (Nat.lt_of_lt_of_le P17_3.lt (Nat.le_trans (Nat.le_trans (Nat.le_refl _) E24.1) K34.1)) (Nat.le_of_eq g37.symm))) nin0))
              have f89 : Exa Z T68.heap b5 "java/lang/String" := (((((((((P4_0.ext E10).ext E17).ext E24).keep K34).ext E37).ext E44).ext E51).ext E58).keep K68)
              have f90 : Fld Z T68.heap b5 "java/lang/String" "value" "[B" (.ref d6) := (((((((((P4_1.ext E10).ext E17).ext E24).keep K34 (ninS (Nat.ne_of_lt (Nat.lt_of_lt_of_le (Nat.lt_of_lt_of_le P4_0.lt (Nat.le_refl _)) (Nat.le_of_eq g10.symm))) nin0)).ext E37).ext E44).ext E51).ext E58).keep K68 (ninS (Nat.ne_of_lt (Nat.lt_of_lt_of_le (Nat.lt_of_lt_of_le P4_0.lt (Nat.le_trans (Nat.le_trans (Nat.le_trans (Nat.le_trans (Nat.le_refl _) E10.1) E17.1) E24.1) K34.1)) (Nat.le_of_eq g37.symm))) nin0))
              have f91 : Fld Z T68.heap b5 "java/lang/String" "coder" "B" (.int (0 : Int32)) := (((((((((P4_2.ext E10).ext E17).ext E24).keep K34 (ninS (Nat.ne_of_lt (Nat.lt_of_lt_of_le (Nat.lt_of_lt_of_le P4_0.lt (Nat.le_refl _)) (Nat.le_of_eq g10.symm))) nin0)).ext E37).ext E44).ext E51).ext E58).keep K68 (ninS (Nat.ne_of_lt (Nat.lt_of_lt_of_le (Nat.lt_of_lt_of_le P4_0.lt (Nat.le_trans (Nat.le_trans (Nat.le_trans (Nat.le_trans (Nat.le_refl _) E10.1) E17.1) E24.1) K34.1)) (Nat.le_of_eq g37.symm))) nin0))
              have f92 : Arv Z T68.heap d6 kd7 .byte (OwnL k_) (OwnV k_) (.int (0 : Int32)) := (((((((((P4_3.ext E10).ext E17).ext E24).keep K34 (ninS (Nat.ne_of_lt (Nat.lt_of_lt_of_le (Nat.lt_of_lt_of_le P4_3.lt (Nat.le_refl _)) (Nat.le_of_eq g10.symm))) nin0)).ext E37).ext E44).ext E51).ext E58).keep K68 (ninS (Nat.ne_of_lt (Nat.lt_of_lt_of_le (Nat.lt_of_lt_of_le P4_3.lt (Nat.le_trans (Nat.le_trans (Nat.le_trans (Nat.le_trans (Nat.le_refl _) E10.1) E17.1) E24.1) K34.1)) (Nat.le_of_eq g37.symm))) nin0))
              have f93 : Exa Z T68.heap b25 "java/lang/String" := ((((((P24_0.keep K34).ext E37).ext E44).ext E51).ext E58).keep K68)
              have f94 : Fld Z T68.heap b25 "java/lang/String" "value" "[B" (.ref d26) := ((((((P24_1.keep K34 (ninS (Ne.symm (Nat.ne_of_lt (Nat.lt_of_lt_of_le (Nat.lt_of_lt_of_le A10.lt (Nat.le_trans (Nat.le_refl _) E17.1)) B24_0))) nin0)).ext E37).ext E44).ext E51).ext E58).keep K68 (ninS (Nat.ne_of_lt (Nat.lt_of_lt_of_le (Nat.lt_of_lt_of_le P24_0.lt (Nat.le_trans (Nat.le_refl _) K34.1)) (Nat.le_of_eq g37.symm))) nin0))
              have f95 : Fld Z T68.heap b25 "java/lang/String" "coder" "B" (.int (0 : Int32)) := ((((((P24_2.keep K34 (ninS (Ne.symm (Nat.ne_of_lt (Nat.lt_of_lt_of_le (Nat.lt_of_lt_of_le A10.lt (Nat.le_trans (Nat.le_refl _) E17.1)) B24_0))) nin0)).ext E37).ext E44).ext E51).ext E58).keep K68 (ninS (Nat.ne_of_lt (Nat.lt_of_lt_of_le (Nat.lt_of_lt_of_le P24_0.lt (Nat.le_trans (Nat.le_refl _) K34.1)) (Nat.le_of_eq g37.symm))) nin0))
              have f96 : Arv Z T68.heap d26 kd27 .byte (OwnL f_) (OwnV f_) (.int (0 : Int32)) := ((((((P24_3.keep K34 (ninS (Ne.symm (Exa.neArv f30 P24_3 (hw _ (List.mem_of_getElem? (i := 30) rfl)))) nin0)).ext E37).ext E44).ext E51).ext E58).keep K68 (ninS (Nat.ne_of_lt (Nat.lt_of_lt_of_le (Nat.lt_of_lt_of_le P24_3.lt (Nat.le_trans (Nat.le_refl _) K34.1)) (Nat.le_of_eq g37.symm))) nin0))
              have f97 : Sta Z T68.heap "java/lang/String" "COMPACT_STRINGS" "Z" (.int cs) := (own_sta_keep (f57.ext E58) K68 (allS (own_nonsta f64) all0))
              obtain ⟨cq98, kq98, q98a, q98b, q98c⟩ := isOf hZ rfl f81
              obtain ⟨_, _, ⟨T98, L98, k98, n98⟩, -, X98, ⟨Lc98, hQ98, l98, y98, z98⟩, st98⟩ := X68.virtualBack hx (y := (⟨"com/example/limpet/limpet/Hold", "equals", "(Ljava/lang/Object;)Z"⟩ : MethodName)) (z := (⟨"com/example/limpet/limpet/Hold", "equals", "(Ljava/lang/Object;)Z"⟩ : MethodName)) hown (mvT hZ (hw _ (List.mem_of_getElem? (i := 50) rfl))) (mvT hZ (hw _ (List.mem_of_getElem? (i := 51) rfl))) (notFace_of_selects (args := #[]) (mvT hZ (hw _ (List.mem_of_getElem? (i := 53) rfl)))) (mvT hZ (hw _ (List.mem_of_getElem? (i := 53) rfl))) (mvT hZ (hw _ (List.mem_of_getElem? (i := 52) rfl))) (by decide) (backOf (W := 0) (rm5 l Z a0 hw hEL wS [] b10 b10 b18 d19 kd20 (OwnL l_) (OwnV l_) b5 d6 kd7 (OwnL k_) (OwnV k_) b25 d26 kd27 (OwnL f_) (OwnV f_) b18 d19 kd20 (OwnL l_) (OwnV l_) b5 d6 kd7 (OwnL k_) (OwnV k_) b25 d26 kd27 (OwnL f_) (OwnV f_) cs T68.heap n0 (Nat.le_trans Z0 Kp69.1) f81 f82 f83 f84 f82 f83 f84 f85 f86 f87 f88 f89 f90 f91 f92 f93 f94 f95 f96 f85 f86 f87 f88 f89 f90 f91 f92 f93 f94 f95 f96 P17_4 P4_4 P24_4 P17_4 P4_4 P24_4 f97 hp1) hZ (hw _ (List.mem_of_getElem? (i := 54) rfl)) (hw _ (List.mem_of_getElem? (i := 31) rfl)) (by decide) (by decide)) q98a q98c (g := (mkF m 162 #[.val (.int l_), .val (.int k_), .val (.int f_), .val (.int d_), .val (.int e_), .val (.int mo), .val (.int l2), .val (.int k2), .val (.int f2), .val (.int (((mo.toUInt32 >>> ((3 : Int32) &&& 31).toUInt32).toInt32) &&& (3 : Int32))), .val (.ref b5), .val (.ref b10), .val (.ref b37), .unset, .unset, .unset] [(.ref b10), (.ref b10)])) rfl (by rw [hml]; rfl) (Steps.refl _) (argsL := [(.ref b10)]) (rest := []) (lenOf pd_86 rfl) rfl (by show 2 * 0 + _ ≤ _; exact Nat.le_of_eq rfl) (hb hby at_162) (fun _ _ => ⟨rfl, rfl, (by decide : 38 + 0 ≤ _), (by decide : 78 + 0 ≤ _)⟩)
              dsimp only [Pt.U, Pt.locs, Pt.cells, Pt.slots] at X98 l98 y98 z98 st98 hQ98
              subst l98 y98 z98
              obtain ⟨rfl, N98q, e98⟩ := hQ98
              have N98 := Fr.app N68 N98q
              refine OwnFin.step (fun tT kK => st98.trans kK) ?_
              show OwnFin p e below _ (T98.setTop (mkF m 165 #[.val (.int l_), .val (.int k_), .val (.int f_), .val (.int d_), .val (.int e_), .val (.int mo), .val (.int l2), .val (.int k2), .val (.int f2), .val (.int (((mo.toUInt32 >>> ((3 : Int32) &&& 31).toUInt32).toInt32) &&& (3 : Int32))), .val (.ref b5), .val (.ref b10), .val (.ref b37), .unset, .unset, .unset] [(.int (if ((OwnV k_) = (OwnV k_) ∧ (OwnV f_) = (OwnV f_) ∧ (OwnV l_) = (OwnV l_)) then 1 else 0))]))
              rw [if_pos (⟨rfl, rfl, rfl⟩ : _ ∧ _ ∧ _)]
              show OwnFin p e below _ (T98.setTop (mkF m 165 #[.val (.int l_), .val (.int k_), .val (.int f_), .val (.int d_), .val (.int e_), .val (.int mo), .val (.int l2), .val (.int k2), .val (.int f2), .val (.int (((mo.toUInt32 >>> ((3 : Int32) &&& 31).toUInt32).toInt32) &&& (3 : Int32))), .val (.ref b5), .val (.ref b10), .val (.ref b37), .unset, .unset, .unset] [(.int (1 : Int32))]))
              obtain ⟨fs99, hr99, hrun99, hended99, hW99⟩ := X98.leaveW (s := s) hS58 (by rw [e98]; exact (Nat.le_trans (Nat.le_refl T58.heap.size) (Nat.le_trans (Nat.le_refl _) K68.1))) (v := (some (.int (1 : Int32)))) (fun h => by rw [Bd.returns] at h; cases h)
              refine ⟨_, _, retN X98 hx (t := .boolean) Bd.returns (by simp) (hb hby at_165) hr99, hrun99, hended99, _, _, rfl, ?_, (by show CHr Z OwnEL s.vm s.heap T98.vm T98.heap; rw [hh, e98]; exact C70.trans (CHv.at X98 hZ hEL C70.1)), hW99.1, hW99.2.1, hW99.2.2.1, hW99.2.2.2.mono (by decide) (by decide)⟩
              show Q0 Z l_ k_ f_ d_ e_ mo cs h0 n0 _ T98.heap _
              rw [e98]
              exact ⟨rfl, N98, Kp69⟩
            · skip
              refine OwnFin.step (fun tT kK => XS.icmpYes X68.here hx rfl (pc0 := 155) (pc' := 166) rfl (hb hby at_155) rfl (feq (hc80 : ¬ ((((mo.toUInt32 >>> ((3 : Int32) &&& 31).toUInt32).toInt32) &&& (3 : Int32)) = (3 : Int32)))).2 (by decide) (by decide) kK) ?_
              show OwnFin p e below _ (T68.setTop (mkF m 166 #[.val (.int l_), .val (.int k_), .val (.int f_), .val (.int d_), .val (.int e_), .val (.int mo), .val (.int l2), .val (.int k2), .val (.int f2), .val (.int (((mo.toUInt32 >>> ((3 : Int32) &&& 31).toUInt32).toInt32) &&& (3 : Int32))), .val (.ref b5), .val (.ref b10), .val (.ref b37), .unset, .unset, .unset] []))
              refine OwnFin.step (fun tT kK => XS.iloadN X68.here hx rfl (hb hby at_166) rfl kK) ?_
              show OwnFin p e below _ (T68.setTop (mkF m 167 #[.val (.int l_), .val (.int k_), .val (.int f_), .val (.int d_), .val (.int e_), .val (.int mo), .val (.int l2), .val (.int k2), .val (.int f2), .val (.int (((mo.toUInt32 >>> ((3 : Int32) &&& 31).toUInt32).toInt32) &&& (3 : Int32))), .val (.ref b5), .val (.ref b10), .val (.ref b37), .unset, .unset, .unset] [(.int l_)]))
              refine OwnFin.step (fun tT kK => XS.iload X68.here hx rfl (hb hby at_167) rfl kK) ?_
              show OwnFin p e below _ (T68.setTop (mkF m 169 #[.val (.int l_), .val (.int k_), .val (.int f_), .val (.int d_), .val (.int e_), .val (.int mo), .val (.int l2), .val (.int k2), .val (.int f2), .val (.int (((mo.toUInt32 >>> ((3 : Int32) &&& 31).toUInt32).toInt32) &&& (3 : Int32))), .val (.ref b5), .val (.ref b10), .val (.ref b37), .unset, .unset, .unset] [(.int l2), (.int l_)]))
              obtain ⟨_, _, ⟨T100, L100, k100, n100⟩, -, X100, ⟨Lc100, hQ100, l100, y100, z100⟩, st100⟩ := Jvm.LawKit.callS X68 hx (y := (⟨"com/example/limpet/limpet/HoldEqualsPinLaw", "same", "(II)Z"⟩ : MethodName)) hown (mvT hZ (hw _ (List.mem_of_getElem? (i := 47) rfl))) (mvT hZ (hw _ (List.mem_of_getElem? (i := 48) rfl))) (mvT hZ (hw _ (List.mem_of_getElem? (i := 2) rfl))) (mvT hZ (hw _ (List.mem_of_getElem? (i := 49) rfl))) (by decide) (backOf (W := 0) (rm7 l Z a0 hw hEL wS [] l_ l2 T68.heap n0 (Nat.le_trans Z0 Kp69.1) ) hZ (hw _ (List.mem_of_getElem? (i := 49) rfl)) (hw _ (List.mem_of_getElem? (i := 2) rfl)) (by decide) (by decide)) (g := (mkF m 169 #[.val (.int l_), .val (.int k_), .val (.int f_), .val (.int d_), .val (.int e_), .val (.int mo), .val (.int l2), .val (.int k2), .val (.int f2), .val (.int (((mo.toUInt32 >>> ((3 : Int32) &&& 31).toUInt32).toInt32) &&& (3 : Int32))), .val (.ref b5), .val (.ref b10), .val (.ref b37), .unset, .unset, .unset] [(.int l2), (.int l_)])) rfl (by rw [hml]; rfl) (argsL := [(.int l_), (.int l2)]) (rest := []) (lenOf pd_278 rfl) rfl (by show 2 * 0 + _ ≤ _; exact Nat.le_of_eq rfl) (hb hby at_169) (fun _ _ => ⟨rfl, rfl, (by decide : 38 + 0 ≤ _), (by decide : 78 + 0 ≤ _)⟩)
              dsimp only [Pt.U, Pt.locs, Pt.cells, Pt.slots] at X100 l100 y100 z100 st100 hQ100
              subst l100 y100 z100
              obtain ⟨rfl, N100q, e100⟩ := hQ100
              have N100 := Fr.app N68 N100q
              refine OwnFin.step st100 ?_
              show OwnFin p e below _ (T100.setTop (mkF m 172 #[.val (.int l_), .val (.int k_), .val (.int f_), .val (.int d_), .val (.int e_), .val (.int mo), .val (.int l2), .val (.int k2), .val (.int f2), .val (.int (((mo.toUInt32 >>> ((3 : Int32) &&& 31).toUInt32).toInt32) &&& (3 : Int32))), .val (.ref b5), .val (.ref b10), .val (.ref b37), .unset, .unset, .unset] [(.int (if OwnV l_ = OwnV l2 then 1 else 0))]))
              by_cases hc101 : OwnV l_ = OwnV l2
              · skip
                rw [if_pos hc101]
                show OwnFin p e below _ (T100.setTop (mkF m 172 #[.val (.int l_), .val (.int k_), .val (.int f_), .val (.int d_), .val (.int e_), .val (.int mo), .val (.int l2), .val (.int k2), .val (.int f2), .val (.int (((mo.toUInt32 >>> ((3 : Int32) &&& 31).toUInt32).toInt32) &&& (3 : Int32))), .val (.ref b5), .val (.ref b10), .val (.ref b37), .unset, .unset, .unset] [(.int (1 : Int32))]))
                refine OwnFin.step (fun tT kK => XS.ifNo X100.here hx rfl (hb hby at_172) rfl ((if0 _ _).trans (feq (by decide : ¬ ((1 : Int32) = (0 : Int32)))).1) kK) ?_
                show OwnFin p e below _ (T100.setTop (mkF m 175 #[.val (.int l_), .val (.int k_), .val (.int f_), .val (.int d_), .val (.int e_), .val (.int mo), .val (.int l2), .val (.int k2), .val (.int f2), .val (.int (((mo.toUInt32 >>> ((3 : Int32) &&& 31).toUInt32).toInt32) &&& (3 : Int32))), .val (.ref b5), .val (.ref b10), .val (.ref b37), .unset, .unset, .unset] []))
                refine OwnFin.step (fun tT kK => XS.iloadN X100.here hx rfl (hb hby at_175) rfl kK) ?_
                show OwnFin p e below _ (T100.setTop (mkF m 176 #[.val (.int l_), .val (.int k_), .val (.int f_), .val (.int d_), .val (.int e_), .val (.int mo), .val (.int l2), .val (.int k2), .val (.int f2), .val (.int (((mo.toUInt32 >>> ((3 : Int32) &&& 31).toUInt32).toInt32) &&& (3 : Int32))), .val (.ref b5), .val (.ref b10), .val (.ref b37), .unset, .unset, .unset] [(.int k_)]))
                refine OwnFin.step (fun tT kK => XS.iload X100.here hx rfl (hb hby at_176) rfl kK) ?_
                show OwnFin p e below _ (T100.setTop (mkF m 178 #[.val (.int l_), .val (.int k_), .val (.int f_), .val (.int d_), .val (.int e_), .val (.int mo), .val (.int l2), .val (.int k2), .val (.int f2), .val (.int (((mo.toUInt32 >>> ((3 : Int32) &&& 31).toUInt32).toInt32) &&& (3 : Int32))), .val (.ref b5), .val (.ref b10), .val (.ref b37), .unset, .unset, .unset] [(.int k2), (.int k_)]))
                obtain ⟨_, _, ⟨T102, L102, k102, n102⟩, -, X102, ⟨Lc102, hQ102, l102, y102, z102⟩, st102⟩ := Jvm.LawKit.callS X100 hx (y := (⟨"com/example/limpet/limpet/HoldEqualsPinLaw", "same", "(II)Z"⟩ : MethodName)) hown (mvT hZ (hw _ (List.mem_of_getElem? (i := 47) rfl))) (mvT hZ (hw _ (List.mem_of_getElem? (i := 48) rfl))) (mvT hZ (hw _ (List.mem_of_getElem? (i := 2) rfl))) (mvT hZ (hw _ (List.mem_of_getElem? (i := 49) rfl))) (by decide) (backOf (W := 0) (rm7 l Z a0 hw hEL wS [] k_ k2 T68.heap n0 (Nat.le_trans Z0 Kp69.1) ) hZ (hw _ (List.mem_of_getElem? (i := 49) rfl)) (hw _ (List.mem_of_getElem? (i := 2) rfl)) (by decide) (by decide)) (g := (mkF m 178 #[.val (.int l_), .val (.int k_), .val (.int f_), .val (.int d_), .val (.int e_), .val (.int mo), .val (.int l2), .val (.int k2), .val (.int f2), .val (.int (((mo.toUInt32 >>> ((3 : Int32) &&& 31).toUInt32).toInt32) &&& (3 : Int32))), .val (.ref b5), .val (.ref b10), .val (.ref b37), .unset, .unset, .unset] [(.int k2), (.int k_)])) rfl (by rw [hml]; rfl) (argsL := [(.int k_), (.int k2)]) (rest := []) (lenOf pd_278 rfl) rfl (by show 2 * 0 + _ ≤ _; exact Nat.le_of_eq rfl) (hb hby at_178) (fun _ _ => ⟨rfl, e100, (by decide : 38 + 0 ≤ _), (by decide : 78 + 0 ≤ _)⟩)
                dsimp only [Pt.U, Pt.locs, Pt.cells, Pt.slots] at X102 l102 y102 z102 st102 hQ102
                subst l102 y102 z102
                obtain ⟨rfl, N102q, e102⟩ := hQ102
                have N102 := Fr.app N100 N102q
                refine OwnFin.step st102 ?_
                show OwnFin p e below _ (T102.setTop (mkF m 181 #[.val (.int l_), .val (.int k_), .val (.int f_), .val (.int d_), .val (.int e_), .val (.int mo), .val (.int l2), .val (.int k2), .val (.int f2), .val (.int (((mo.toUInt32 >>> ((3 : Int32) &&& 31).toUInt32).toInt32) &&& (3 : Int32))), .val (.ref b5), .val (.ref b10), .val (.ref b37), .unset, .unset, .unset] [(.int (if OwnV k_ = OwnV k2 then 1 else 0))]))
                by_cases hc103 : OwnV k_ = OwnV k2
                · skip
                  rw [if_pos hc103]
                  show OwnFin p e below _ (T102.setTop (mkF m 181 #[.val (.int l_), .val (.int k_), .val (.int f_), .val (.int d_), .val (.int e_), .val (.int mo), .val (.int l2), .val (.int k2), .val (.int f2), .val (.int (((mo.toUInt32 >>> ((3 : Int32) &&& 31).toUInt32).toInt32) &&& (3 : Int32))), .val (.ref b5), .val (.ref b10), .val (.ref b37), .unset, .unset, .unset] [(.int (1 : Int32))]))
                  refine OwnFin.step (fun tT kK => XS.ifNo X102.here hx rfl (hb hby at_181) rfl ((if0 _ _).trans (feq (by decide : ¬ ((1 : Int32) = (0 : Int32)))).1) kK) ?_
                  show OwnFin p e below _ (T102.setTop (mkF m 184 #[.val (.int l_), .val (.int k_), .val (.int f_), .val (.int d_), .val (.int e_), .val (.int mo), .val (.int l2), .val (.int k2), .val (.int f2), .val (.int (((mo.toUInt32 >>> ((3 : Int32) &&& 31).toUInt32).toInt32) &&& (3 : Int32))), .val (.ref b5), .val (.ref b10), .val (.ref b37), .unset, .unset, .unset] []))
                  refine OwnFin.step (fun tT kK => XS.iloadN X102.here hx rfl (hb hby at_184) rfl kK) ?_
                  show OwnFin p e below _ (T102.setTop (mkF m 185 #[.val (.int l_), .val (.int k_), .val (.int f_), .val (.int d_), .val (.int e_), .val (.int mo), .val (.int l2), .val (.int k2), .val (.int f2), .val (.int (((mo.toUInt32 >>> ((3 : Int32) &&& 31).toUInt32).toInt32) &&& (3 : Int32))), .val (.ref b5), .val (.ref b10), .val (.ref b37), .unset, .unset, .unset] [(.int f_)]))
                  refine OwnFin.step (fun tT kK => XS.iload X102.here hx rfl (hb hby at_185) rfl kK) ?_
                  show OwnFin p e below _ (T102.setTop (mkF m 187 #[.val (.int l_), .val (.int k_), .val (.int f_), .val (.int d_), .val (.int e_), .val (.int mo), .val (.int l2), .val (.int k2), .val (.int f2), .val (.int (((mo.toUInt32 >>> ((3 : Int32) &&& 31).toUInt32).toInt32) &&& (3 : Int32))), .val (.ref b5), .val (.ref b10), .val (.ref b37), .unset, .unset, .unset] [(.int f2), (.int f_)]))
                  obtain ⟨_, _, ⟨T104, L104, k104, n104⟩, -, X104, ⟨Lc104, hQ104, l104, y104, z104⟩, st104⟩ := Jvm.LawKit.callS X102 hx (y := (⟨"com/example/limpet/limpet/HoldEqualsPinLaw", "same", "(II)Z"⟩ : MethodName)) hown (mvT hZ (hw _ (List.mem_of_getElem? (i := 47) rfl))) (mvT hZ (hw _ (List.mem_of_getElem? (i := 48) rfl))) (mvT hZ (hw _ (List.mem_of_getElem? (i := 2) rfl))) (mvT hZ (hw _ (List.mem_of_getElem? (i := 49) rfl))) (by decide) (backOf (W := 0) (rm7 l Z a0 hw hEL wS [] f_ f2 T68.heap n0 (Nat.le_trans Z0 Kp69.1) ) hZ (hw _ (List.mem_of_getElem? (i := 49) rfl)) (hw _ (List.mem_of_getElem? (i := 2) rfl)) (by decide) (by decide)) (g := (mkF m 187 #[.val (.int l_), .val (.int k_), .val (.int f_), .val (.int d_), .val (.int e_), .val (.int mo), .val (.int l2), .val (.int k2), .val (.int f2), .val (.int (((mo.toUInt32 >>> ((3 : Int32) &&& 31).toUInt32).toInt32) &&& (3 : Int32))), .val (.ref b5), .val (.ref b10), .val (.ref b37), .unset, .unset, .unset] [(.int f2), (.int f_)])) rfl (by rw [hml]; rfl) (argsL := [(.int f_), (.int f2)]) (rest := []) (lenOf pd_278 rfl) rfl (by show 2 * 0 + _ ≤ _; exact Nat.le_of_eq rfl) (hb hby at_187) (fun _ _ => ⟨rfl, e102, (by decide : 38 + 0 ≤ _), (by decide : 78 + 0 ≤ _)⟩)
                  dsimp only [Pt.U, Pt.locs, Pt.cells, Pt.slots] at X104 l104 y104 z104 st104 hQ104
                  subst l104 y104 z104
                  obtain ⟨rfl, N104q, e104⟩ := hQ104
                  have N104 := Fr.app N102 N104q
                  refine OwnFin.step st104 ?_
                  show OwnFin p e below _ (T104.setTop (mkF m 190 #[.val (.int l_), .val (.int k_), .val (.int f_), .val (.int d_), .val (.int e_), .val (.int mo), .val (.int l2), .val (.int k2), .val (.int f2), .val (.int (((mo.toUInt32 >>> ((3 : Int32) &&& 31).toUInt32).toInt32) &&& (3 : Int32))), .val (.ref b5), .val (.ref b10), .val (.ref b37), .unset, .unset, .unset] [(.int (if OwnV f_ = OwnV f2 then 1 else 0))]))
                  by_cases hc105 : OwnV f_ = OwnV f2
                  · skip
                    rw [if_pos hc105]
                    show OwnFin p e below _ (T104.setTop (mkF m 190 #[.val (.int l_), .val (.int k_), .val (.int f_), .val (.int d_), .val (.int e_), .val (.int mo), .val (.int l2), .val (.int k2), .val (.int f2), .val (.int (((mo.toUInt32 >>> ((3 : Int32) &&& 31).toUInt32).toInt32) &&& (3 : Int32))), .val (.ref b5), .val (.ref b10), .val (.ref b37), .unset, .unset, .unset] [(.int (1 : Int32))]))
                    refine OwnFin.step (fun tT kK => XS.ifNo X104.here hx rfl (hb hby at_190) rfl ((if0 _ _).trans (feq (by decide : ¬ ((1 : Int32) = (0 : Int32)))).1) kK) ?_
                    show OwnFin p e below _ (T104.setTop (mkF m 193 #[.val (.int l_), .val (.int k_), .val (.int f_), .val (.int d_), .val (.int e_), .val (.int mo), .val (.int l2), .val (.int k2), .val (.int f2), .val (.int (((mo.toUInt32 >>> ((3 : Int32) &&& 31).toUInt32).toInt32) &&& (3 : Int32))), .val (.ref b5), .val (.ref b10), .val (.ref b37), .unset, .unset, .unset] []))
                    refine OwnFin.step (fun tT kK => XS.iconst X104.here hx rfl (hb hby at_193) kK) ?_
                    show OwnFin p e below _ (T104.setTop (mkF m 194 #[.val (.int l_), .val (.int k_), .val (.int f_), .val (.int d_), .val (.int e_), .val (.int mo), .val (.int l2), .val (.int k2), .val (.int f2), .val (.int (((mo.toUInt32 >>> ((3 : Int32) &&& 31).toUInt32).toInt32) &&& (3 : Int32))), .val (.ref b5), .val (.ref b10), .val (.ref b37), .unset, .unset, .unset] [(.int (1 : Int32))]))
                    refine OwnFin.step (fun tT kK => XS.goto X104.here hx rfl (pc0 := 194) (pc' := 198) rfl (hb hby at_194) (by decide) (by decide) kK) ?_
                    show OwnFin p e below _ (T104.setTop (mkF m 198 #[.val (.int l_), .val (.int k_), .val (.int f_), .val (.int d_), .val (.int e_), .val (.int mo), .val (.int l2), .val (.int k2), .val (.int f2), .val (.int (((mo.toUInt32 >>> ((3 : Int32) &&& 31).toUInt32).toInt32) &&& (3 : Int32))), .val (.ref b5), .val (.ref b10), .val (.ref b37), .unset, .unset, .unset] [(.int (1 : Int32))]))
                    refine OwnFin.step (fun tT kK => XS.istore X104.here hx rfl (hb hby at_198) rfl (l' := #[.val (.int l_), .val (.int k_), .val (.int f_), .val (.int d_), .val (.int e_), .val (.int mo), .val (.int l2), .val (.int k2), .val (.int f2), .val (.int (((mo.toUInt32 >>> ((3 : Int32) &&& 31).toUInt32).toInt32) &&& (3 : Int32))), .val (.ref b5), .val (.ref b10), .val (.ref b37), .val (.int (1 : Int32)), .unset, .unset]) rfl kK) ?_
                    show OwnFin p e below _ (T104.setTop (mkF m 200 #[.val (.int l_), .val (.int k_), .val (.int f_), .val (.int d_), .val (.int e_), .val (.int mo), .val (.int l2), .val (.int k2), .val (.int f2), .val (.int (((mo.toUInt32 >>> ((3 : Int32) &&& 31).toUInt32).toInt32) &&& (3 : Int32))), .val (.ref b5), .val (.ref b10), .val (.ref b37), .val (.int (1 : Int32)), .unset, .unset] []))
                    refine OwnFin.step (fun tT kK => XS.aload X104.here hx rfl (hb hby at_200) rfl rfl kK) ?_
                    show OwnFin p e below _ (T104.setTop (mkF m 202 #[.val (.int l_), .val (.int k_), .val (.int f_), .val (.int d_), .val (.int e_), .val (.int mo), .val (.int l2), .val (.int k2), .val (.int f2), .val (.int (((mo.toUInt32 >>> ((3 : Int32) &&& 31).toUInt32).toInt32) &&& (3 : Int32))), .val (.ref b5), .val (.ref b10), .val (.ref b37), .val (.int (1 : Int32)), .unset, .unset] [(.ref b10)]))
                    refine OwnFin.step (fun tT kK => XS.aload X104.here hx rfl (hb hby at_202) rfl rfl kK) ?_
                    show OwnFin p e below _ (T104.setTop (mkF m 204 #[.val (.int l_), .val (.int k_), .val (.int f_), .val (.int d_), .val (.int e_), .val (.int mo), .val (.int l2), .val (.int k2), .val (.int f2), .val (.int (((mo.toUInt32 >>> ((3 : Int32) &&& 31).toUInt32).toInt32) &&& (3 : Int32))), .val (.ref b5), .val (.ref b10), .val (.ref b37), .val (.int (1 : Int32)), .unset, .unset] [(.ref b37), (.ref b10)]))
                    have f106 : Fld Z T68.heap b10 "com/example/limpet/limpet/Hold" "lockName" "Ljava/lang/String;" (.ref b18) := (((((P34_1.ext E37).ext E44).ext E51).ext E58).keep K68 (ninS (Nat.ne_of_lt (Nat.lt_of_lt_of_le (Nat.lt_of_lt_of_le P34_0.lt (Nat.le_refl _)) (Nat.le_of_eq g37.symm))) nin0))
                    have f107 : Fld Z T68.heap b10 "com/example/limpet/limpet/Hold" "key" "Ljava/lang/String;" (.ref b5) := (((((P34_2.ext E37).ext E44).ext E51).ext E58).keep K68 (ninS (Nat.ne_of_lt (Nat.lt_of_lt_of_le (Nat.lt_of_lt_of_le P34_0.lt (Nat.le_refl _)) (Nat.le_of_eq g37.symm))) nin0))
                    have f108 : Fld Z T68.heap b10 "com/example/limpet/limpet/Hold" "field" "Ljava/lang/String;" (.ref b25) := (((((P34_3.ext E37).ext E44).ext E51).ext E58).keep K68 (ninS (Nat.ne_of_lt (Nat.lt_of_lt_of_le (Nat.lt_of_lt_of_le P34_0.lt (Nat.le_refl _)) (Nat.le_of_eq g37.symm))) nin0))
                    have f109 : Exa Z T68.heap b18 "java/lang/String" := (((((((P17_0.ext E24).keep K34).ext E37).ext E44).ext E51).ext E58).keep K68)
                    have f110 : Fld Z T68.heap b18 "java/lang/String" "value" "[B" (.ref d19) := (((((((P17_1.ext E24).keep K34 (ninS (Ne.symm (Nat.ne_of_lt (Nat.lt_of_lt_of_le (Nat.lt_of_lt_of_le A10.lt (Nat.le_refl _)) B17_0))) nin0)).ext E37).ext E44).ext E51).ext E58).keep K68 (ninS (Nat.ne_of_lt (Nat.lt_of_lt_of_le (Nat.lt_of_lt_of_le P17_0.lt (Nat.le_trans (Nat.le_trans (Nat.le_refl _) E24.1) K34.1)) (Nat.le_of_eq g37.symm))) nin0))
                    have f111 : Fld Z T68.heap b18 "java/lang/String" "coder" "B" (.int (0 : Int32)) := (((((((P17_2.ext E24).keep K34 (ninS (Ne.symm (Nat.ne_of_lt (Nat.lt_of_lt_of_le (Nat.lt_of_lt_of_le A10.lt (Nat.le_refl _)) B17_0))) nin0)).ext E37).ext E44).ext E51).ext E58).keep K68 (ninS (Nat.ne_of_lt (Nat.lt_of_lt_of_le (Nat.lt_of_lt_of_le P17_0.lt (Nat.le_trans (Nat.le_trans (Nat.le_refl _) E24.1) K34.1)) (Nat.le_of_eq g37.symm))) nin0))
                    have f112 : Arv Z T68.heap d19 kd20 .byte (OwnL l_) (OwnV l_) (.int (0 : Int32)) := (((((((P17_3.ext E24).keep K34 (ninS (Ne.symm (Exa.neArv (A10.ext E17) P17_3 (hw _ (List.mem_of_getElem? (i := 30) rfl)))) nin0)).ext E37).ext E44).ext E51).ext E58).keep K68 (ninS (Nat.ne_of_lt (Nat.lt_of_lt_of_le (Nat.lt_of_lt_of_le P17_3.lt (Nat.le_trans (Nat.le_trans (Nat.le_refl _) E24.1) K34.1)) (Nat.le_of_eq g37.symm))) nin0))
                    have f113 : Exa Z T68.heap b5 "java/lang/String" := (((((((((P4_0.ext E10).ext E17).ext E24).keep K34).ext E37).ext E44).ext E51).ext E58).keep K68)
                    have f114 : Fld Z T68.heap b5 "java/lang/String" "value" "[B" (.ref d6) := (((((((((P4_1.ext E10).ext E17).ext E24).keep K34 (ninS (Nat.ne_of_lt (Nat.lt_of_lt_of_le (Nat.lt_of_lt_of_le P4_0.lt (Nat.le_refl _)) (Nat.le_of_eq g10.symm))) nin0)).ext E37).ext E44).ext E51).ext E58).keep K68 (ninS (Nat.ne_of_lt (Nat.lt_of_lt_of_le (Nat.lt_of_lt_of_le P4_0.lt (Nat.le_trans (Nat.le_trans (Nat.le_trans (Nat.le_trans (Nat.le_refl _) E10.1) E17.1) E24.1) K34.1)) (Nat.le_of_eq g37.symm))) nin0))
                    have f115 : Fld Z T68.heap b5 "java/lang/String" "coder" "B" (.int (0 : Int32)) := (((((((((P4_2.ext E10).ext E17).ext E24).keep K34 (ninS (Nat.ne_of_lt (Nat.lt_of_lt_of_le (Nat.lt_of_lt_of_le P4_0.lt (Nat.le_refl _)) (Nat.le_of_eq g10.symm))) nin0)).ext E37).ext E44).ext E51).ext E58).keep K68 (ninS (Nat.ne_of_lt (Nat.lt_of_lt_of_le (Nat.lt_of_lt_of_le P4_0.lt (Nat.le_trans (Nat.le_trans (Nat.le_trans (Nat.le_trans (Nat.le_refl _) E10.1) E17.1) E24.1) K34.1)) (Nat.le_of_eq g37.symm))) nin0))
                    have f116 : Arv Z T68.heap d6 kd7 .byte (OwnL k_) (OwnV k_) (.int (0 : Int32)) := (((((((((P4_3.ext E10).ext E17).ext E24).keep K34 (ninS (Nat.ne_of_lt (Nat.lt_of_lt_of_le (Nat.lt_of_lt_of_le P4_3.lt (Nat.le_refl _)) (Nat.le_of_eq g10.symm))) nin0)).ext E37).ext E44).ext E51).ext E58).keep K68 (ninS (Nat.ne_of_lt (Nat.lt_of_lt_of_le (Nat.lt_of_lt_of_le P4_3.lt (Nat.le_trans (Nat.le_trans (Nat.le_trans (Nat.le_trans (Nat.le_refl _) E10.1) E17.1) E24.1) K34.1)) (Nat.le_of_eq g37.symm))) nin0))
                    have f117 : Exa Z T68.heap b25 "java/lang/String" := ((((((P24_0.keep K34).ext E37).ext E44).ext E51).ext E58).keep K68)
                    have f118 : Fld Z T68.heap b25 "java/lang/String" "value" "[B" (.ref d26) := ((((((P24_1.keep K34 (ninS (Ne.symm (Nat.ne_of_lt (Nat.lt_of_lt_of_le (Nat.lt_of_lt_of_le A10.lt (Nat.le_trans (Nat.le_refl _) E17.1)) B24_0))) nin0)).ext E37).ext E44).ext E51).ext E58).keep K68 (ninS (Nat.ne_of_lt (Nat.lt_of_lt_of_le (Nat.lt_of_lt_of_le P24_0.lt (Nat.le_trans (Nat.le_refl _) K34.1)) (Nat.le_of_eq g37.symm))) nin0))
                    have f119 : Fld Z T68.heap b25 "java/lang/String" "coder" "B" (.int (0 : Int32)) := ((((((P24_2.keep K34 (ninS (Ne.symm (Nat.ne_of_lt (Nat.lt_of_lt_of_le (Nat.lt_of_lt_of_le A10.lt (Nat.le_trans (Nat.le_refl _) E17.1)) B24_0))) nin0)).ext E37).ext E44).ext E51).ext E58).keep K68 (ninS (Nat.ne_of_lt (Nat.lt_of_lt_of_le (Nat.lt_of_lt_of_le P24_0.lt (Nat.le_trans (Nat.le_refl _) K34.1)) (Nat.le_of_eq g37.symm))) nin0))
                    have f120 : Arv Z T68.heap d26 kd27 .byte (OwnL f_) (OwnV f_) (.int (0 : Int32)) := ((((((P24_3.keep K34 (ninS (Ne.symm (Exa.neArv f30 P24_3 (hw _ (List.mem_of_getElem? (i := 30) rfl)))) nin0)).ext E37).ext E44).ext E51).ext E58).keep K68 (ninS (Nat.ne_of_lt (Nat.lt_of_lt_of_le (Nat.lt_of_lt_of_le P24_3.lt (Nat.le_trans (Nat.le_refl _) K34.1)) (Nat.le_of_eq g37.symm))) nin0))
                    have f121 : Exa Z T68.heap b45 "java/lang/String" := (((P44_0.ext E51).ext E58).keep K68)
                    have f122 : Fld Z T68.heap b45 "java/lang/String" "value" "[B" (.ref d46) := (((P44_1.ext E51).ext E58).keep K68 (ninS (Ne.symm (Nat.ne_of_lt (Nat.lt_of_lt_of_le (Nat.lt_of_lt_of_le A37.lt (Nat.le_refl _)) B44_0))) nin0))
                    have f123 : Fld Z T68.heap b45 "java/lang/String" "coder" "B" (.int (0 : Int32)) := (((P44_2.ext E51).ext E58).keep K68 (ninS (Ne.symm (Nat.ne_of_lt (Nat.lt_of_lt_of_le (Nat.lt_of_lt_of_le A37.lt (Nat.le_refl _)) B44_0))) nin0))
                    have f124 : Arv Z T68.heap d46 kd47 .byte (OwnL l2) (OwnV l2) (.int (0 : Int32)) := (((P44_3.ext E51).ext E58).keep K68 (ninS (Ne.symm (Exa.neArv (A37.ext E44) P44_3 (hw _ (List.mem_of_getElem? (i := 30) rfl)))) nin0))
                    have f125 : Exa Z T68.heap b52 "java/lang/String" := ((P51_0.ext E58).keep K68)
                    have f126 : Fld Z T68.heap b52 "java/lang/String" "value" "[B" (.ref d53) := ((P51_1.ext E58).keep K68 (ninS (Ne.symm (Nat.ne_of_lt (Nat.lt_of_lt_of_le (Nat.lt_of_lt_of_le A37.lt (Nat.le_trans (Nat.le_refl _) E44.1)) B51_0))) nin0))
                    have f127 : Fld Z T68.heap b52 "java/lang/String" "coder" "B" (.int (0 : Int32)) := ((P51_2.ext E58).keep K68 (ninS (Ne.symm (Nat.ne_of_lt (Nat.lt_of_lt_of_le (Nat.lt_of_lt_of_le A37.lt (Nat.le_trans (Nat.le_refl _) E44.1)) B51_0))) nin0))
                    have f128 : Arv Z T68.heap d53 kd54 .byte (OwnL k2) (OwnV k2) (.int (0 : Int32)) := ((P51_3.ext E58).keep K68 (ninS (Ne.symm (Exa.neArv ((A37.ext E44).ext E51) P51_3 (hw _ (List.mem_of_getElem? (i := 30) rfl)))) nin0))
                    have f129 : Exa Z T68.heap b59 "java/lang/String" := (P58_0.keep K68)
                    have f130 : Fld Z T68.heap b59 "java/lang/String" "value" "[B" (.ref d60) := (P58_1.keep K68 (ninS (Ne.symm (Nat.ne_of_lt (Nat.lt_of_lt_of_le (Nat.lt_of_lt_of_le A37.lt (Nat.le_trans (Nat.le_trans (Nat.le_refl _) E44.1) E51.1)) B58_0))) nin0))
                    have f131 : Fld Z T68.heap b59 "java/lang/String" "coder" "B" (.int (0 : Int32)) := (P58_2.keep K68 (ninS (Ne.symm (Nat.ne_of_lt (Nat.lt_of_lt_of_le (Nat.lt_of_lt_of_le A37.lt (Nat.le_trans (Nat.le_trans (Nat.le_refl _) E44.1) E51.1)) B58_0))) nin0))
                    have f132 : Arv Z T68.heap d60 kd61 .byte (OwnL f2) (OwnV f2) (.int (0 : Int32)) := (P58_3.keep K68 (ninS (Ne.symm (Exa.neArv f64 P58_3 (hw _ (List.mem_of_getElem? (i := 30) rfl)))) nin0))
                    have f133 : Sta Z T68.heap "java/lang/String" "COMPACT_STRINGS" "Z" (.int cs) := (own_sta_keep (f57.ext E58) K68 (allS (own_nonsta f64) all0))
                    have f135 : Exa Z T68.heap b10 "com/example/limpet/limpet/Hold" := (((((P34_0.ext E37).ext E44).ext E51).ext E58).keep K68)
                    obtain ⟨cq134, kq134, q134a, q134b, q134c⟩ := isOf hZ e104 f135
                    obtain ⟨_, _, ⟨T134, L134, k134, n134⟩, -, X134, ⟨Lc134, hQ134, l134, y134, z134⟩, st134⟩ := X104.virtualBack hx (y := (⟨"com/example/limpet/limpet/Hold", "equals", "(Ljava/lang/Object;)Z"⟩ : MethodName)) (z := (⟨"com/example/limpet/limpet/Hold", "equals", "(Ljava/lang/Object;)Z"⟩ : MethodName)) hown (mvT hZ (hw _ (List.mem_of_getElem? (i := 50) rfl))) (mvT hZ (hw _ (List.mem_of_getElem? (i := 51) rfl))) (notFace_of_selects (args := #[]) (mvT hZ (hw _ (List.mem_of_getElem? (i := 53) rfl)))) (mvT hZ (hw _ (List.mem_of_getElem? (i := 53) rfl))) (mvT hZ (hw _ (List.mem_of_getElem? (i := 52) rfl))) (by decide) (backOf (W := 0) (rm5 l Z a0 hw hEL wS [] b10 b37 b18 d19 kd20 (OwnL l_) (OwnV l_) b5 d6 kd7 (OwnL k_) (OwnV k_) b25 d26 kd27 (OwnL f_) (OwnV f_) b45 d46 kd47 (OwnL l2) (OwnV l2) b52 d53 kd54 (OwnL k2) (OwnV k2) b59 d60 kd61 (OwnL f2) (OwnV f2) cs T68.heap n0 (Nat.le_trans Z0 Kp69.1) P68_0 f106 f107 f108 P68_1 P68_2 P68_3 f109 f110 f111 f112 f113 f114 f115 f116 f117 f118 f119 f120 f121 f122 f123 f124 f125 f126 f127 f128 f129 f130 f131 f132 P17_4 P4_4 P24_4 P44_4 P51_4 P58_4 f133 hp1) hZ (hw _ (List.mem_of_getElem? (i := 54) rfl)) (hw _ (List.mem_of_getElem? (i := 31) rfl)) (by decide) (by decide)) q134a q134c (g := (mkF m 204 #[.val (.int l_), .val (.int k_), .val (.int f_), .val (.int d_), .val (.int e_), .val (.int mo), .val (.int l2), .val (.int k2), .val (.int f2), .val (.int (((mo.toUInt32 >>> ((3 : Int32) &&& 31).toUInt32).toInt32) &&& (3 : Int32))), .val (.ref b5), .val (.ref b10), .val (.ref b37), .val (.int (1 : Int32)), .unset, .unset] [(.ref b37), (.ref b10)])) rfl (by rw [hml]; rfl) (Steps.refl _) (argsL := [(.ref b37)]) (rest := []) (lenOf pd_86 rfl) rfl (by show 2 * 0 + _ ≤ _; exact Nat.le_of_eq rfl) (hb hby at_204) (fun _ _ => ⟨rfl, e104, (by decide : 38 + 0 ≤ _), (by decide : 78 + 0 ≤ _)⟩)
                    dsimp only [Pt.U, Pt.locs, Pt.cells, Pt.slots] at X134 l134 y134 z134 st134 hQ134
                    subst l134 y134 z134
                    obtain ⟨rfl, N134q, e134⟩ := hQ134
                    have N134 := Fr.app N104 N134q
                    refine OwnFin.step (fun tT kK => st134.trans kK) ?_
                    show OwnFin p e below _ (T134.setTop (mkF m 207 #[.val (.int l_), .val (.int k_), .val (.int f_), .val (.int d_), .val (.int e_), .val (.int mo), .val (.int l2), .val (.int k2), .val (.int f2), .val (.int (((mo.toUInt32 >>> ((3 : Int32) &&& 31).toUInt32).toInt32) &&& (3 : Int32))), .val (.ref b5), .val (.ref b10), .val (.ref b37), .val (.int (1 : Int32)), .unset, .unset] [(.int (if ((OwnV k_) = (OwnV k2) ∧ (OwnV f_) = (OwnV f2) ∧ (OwnV l_) = (OwnV l2)) then 1 else 0))]))
                    rw [if_pos ⟨hc103, hc105, hc101⟩]
                    show OwnFin p e below _ (T134.setTop (mkF m 207 #[.val (.int l_), .val (.int k_), .val (.int f_), .val (.int d_), .val (.int e_), .val (.int mo), .val (.int l2), .val (.int k2), .val (.int f2), .val (.int (((mo.toUInt32 >>> ((3 : Int32) &&& 31).toUInt32).toInt32) &&& (3 : Int32))), .val (.ref b5), .val (.ref b10), .val (.ref b37), .val (.int (1 : Int32)), .unset, .unset] [(.int (1 : Int32))]))
                    refine OwnFin.step (fun tT kK => XS.istore X134.here hx rfl (hb hby at_207) rfl (l' := #[.val (.int l_), .val (.int k_), .val (.int f_), .val (.int d_), .val (.int e_), .val (.int mo), .val (.int l2), .val (.int k2), .val (.int f2), .val (.int (((mo.toUInt32 >>> ((3 : Int32) &&& 31).toUInt32).toInt32) &&& (3 : Int32))), .val (.ref b5), .val (.ref b10), .val (.ref b37), .val (.int (1 : Int32)), .val (.int (1 : Int32)), .unset]) rfl kK) ?_
                    show OwnFin p e below _ (T134.setTop (mkF m 209 #[.val (.int l_), .val (.int k_), .val (.int f_), .val (.int d_), .val (.int e_), .val (.int mo), .val (.int l2), .val (.int k2), .val (.int f2), .val (.int (((mo.toUInt32 >>> ((3 : Int32) &&& 31).toUInt32).toInt32) &&& (3 : Int32))), .val (.ref b5), .val (.ref b10), .val (.ref b37), .val (.int (1 : Int32)), .val (.int (1 : Int32)), .unset] []))
                    refine OwnFin.step (fun tT kK => XS.aload X134.here hx rfl (hb hby at_209) rfl rfl kK) ?_
                    show OwnFin p e below _ (T134.setTop (mkF m 211 #[.val (.int l_), .val (.int k_), .val (.int f_), .val (.int d_), .val (.int e_), .val (.int mo), .val (.int l2), .val (.int k2), .val (.int f2), .val (.int (((mo.toUInt32 >>> ((3 : Int32) &&& 31).toUInt32).toInt32) &&& (3 : Int32))), .val (.ref b5), .val (.ref b10), .val (.ref b37), .val (.int (1 : Int32)), .val (.int (1 : Int32)), .unset] [(.ref b37)]))
                    refine OwnFin.step (fun tT kK => XS.aload X134.here hx rfl (hb hby at_211) rfl rfl kK) ?_
                    show OwnFin p e below _ (T134.setTop (mkF m 213 #[.val (.int l_), .val (.int k_), .val (.int f_), .val (.int d_), .val (.int e_), .val (.int mo), .val (.int l2), .val (.int k2), .val (.int f2), .val (.int (((mo.toUInt32 >>> ((3 : Int32) &&& 31).toUInt32).toInt32) &&& (3 : Int32))), .val (.ref b5), .val (.ref b10), .val (.ref b37), .val (.int (1 : Int32)), .val (.int (1 : Int32)), .unset] [(.ref b10), (.ref b37)]))
                    obtain ⟨cq136, kq136, q136a, q136b, q136c⟩ := isOf hZ e134 P68_0
                    obtain ⟨_, _, ⟨T136, L136, k136, n136⟩, -, X136, ⟨Lc136, hQ136, l136, y136, z136⟩, st136⟩ := X134.virtualBack hx (y := (⟨"com/example/limpet/limpet/Hold", "equals", "(Ljava/lang/Object;)Z"⟩ : MethodName)) (z := (⟨"com/example/limpet/limpet/Hold", "equals", "(Ljava/lang/Object;)Z"⟩ : MethodName)) hown (mvT hZ (hw _ (List.mem_of_getElem? (i := 50) rfl))) (mvT hZ (hw _ (List.mem_of_getElem? (i := 51) rfl))) (notFace_of_selects (args := #[]) (mvT hZ (hw _ (List.mem_of_getElem? (i := 53) rfl)))) (mvT hZ (hw _ (List.mem_of_getElem? (i := 53) rfl))) (mvT hZ (hw _ (List.mem_of_getElem? (i := 52) rfl))) (by decide) (backOf (W := 0) (rm5 l Z a0 hw hEL wS [] b37 b10 b45 d46 kd47 (OwnL l2) (OwnV l2) b52 d53 kd54 (OwnL k2) (OwnV k2) b59 d60 kd61 (OwnL f2) (OwnV f2) b18 d19 kd20 (OwnL l_) (OwnV l_) b5 d6 kd7 (OwnL k_) (OwnV k_) b25 d26 kd27 (OwnL f_) (OwnV f_) cs T68.heap n0 (Nat.le_trans Z0 Kp69.1) f135 P68_1 P68_2 P68_3 f106 f107 f108 f121 f122 f123 f124 f125 f126 f127 f128 f129 f130 f131 f132 f109 f110 f111 f112 f113 f114 f115 f116 f117 f118 f119 f120 P44_4 P51_4 P58_4 P17_4 P4_4 P24_4 f133 hp1) hZ (hw _ (List.mem_of_getElem? (i := 54) rfl)) (hw _ (List.mem_of_getElem? (i := 31) rfl)) (by decide) (by decide)) q136a q136c (g := (mkF m 213 #[.val (.int l_), .val (.int k_), .val (.int f_), .val (.int d_), .val (.int e_), .val (.int mo), .val (.int l2), .val (.int k2), .val (.int f2), .val (.int (((mo.toUInt32 >>> ((3 : Int32) &&& 31).toUInt32).toInt32) &&& (3 : Int32))), .val (.ref b5), .val (.ref b10), .val (.ref b37), .val (.int (1 : Int32)), .val (.int (1 : Int32)), .unset] [(.ref b10), (.ref b37)])) rfl (by rw [hml]; rfl) (Steps.refl _) (argsL := [(.ref b10)]) (rest := []) (lenOf pd_86 rfl) rfl (by show 2 * 0 + _ ≤ _; exact Nat.le_of_eq rfl) (hb hby at_213) (fun _ _ => ⟨rfl, e134, (by decide : 38 + 0 ≤ _), (by decide : 78 + 0 ≤ _)⟩)
                    dsimp only [Pt.U, Pt.locs, Pt.cells, Pt.slots] at X136 l136 y136 z136 st136 hQ136
                    subst l136 y136 z136
                    obtain ⟨rfl, N136q, e136⟩ := hQ136
                    have N136 := Fr.app N134 N136q
                    refine OwnFin.step (fun tT kK => st136.trans kK) ?_
                    show OwnFin p e below _ (T136.setTop (mkF m 216 #[.val (.int l_), .val (.int k_), .val (.int f_), .val (.int d_), .val (.int e_), .val (.int mo), .val (.int l2), .val (.int k2), .val (.int f2), .val (.int (((mo.toUInt32 >>> ((3 : Int32) &&& 31).toUInt32).toInt32) &&& (3 : Int32))), .val (.ref b5), .val (.ref b10), .val (.ref b37), .val (.int (1 : Int32)), .val (.int (1 : Int32)), .unset] [(.int (if ((OwnV k2) = (OwnV k_) ∧ (OwnV f2) = (OwnV f_) ∧ (OwnV l2) = (OwnV l_)) then 1 else 0))]))
                    rw [if_pos ⟨hc103.symm, hc105.symm, hc101.symm⟩]
                    show OwnFin p e below _ (T136.setTop (mkF m 216 #[.val (.int l_), .val (.int k_), .val (.int f_), .val (.int d_), .val (.int e_), .val (.int mo), .val (.int l2), .val (.int k2), .val (.int f2), .val (.int (((mo.toUInt32 >>> ((3 : Int32) &&& 31).toUInt32).toInt32) &&& (3 : Int32))), .val (.ref b5), .val (.ref b10), .val (.ref b37), .val (.int (1 : Int32)), .val (.int (1 : Int32)), .unset] [(.int (1 : Int32))]))
                    refine OwnFin.step (fun tT kK => XS.istore X136.here hx rfl (hb hby at_216) rfl (l' := #[.val (.int l_), .val (.int k_), .val (.int f_), .val (.int d_), .val (.int e_), .val (.int mo), .val (.int l2), .val (.int k2), .val (.int f2), .val (.int (((mo.toUInt32 >>> ((3 : Int32) &&& 31).toUInt32).toInt32) &&& (3 : Int32))), .val (.ref b5), .val (.ref b10), .val (.ref b37), .val (.int (1 : Int32)), .val (.int (1 : Int32)), .val (.int (1 : Int32))]) rfl kK) ?_
                    show OwnFin p e below _ (T136.setTop (mkF m 218 #[.val (.int l_), .val (.int k_), .val (.int f_), .val (.int d_), .val (.int e_), .val (.int mo), .val (.int l2), .val (.int k2), .val (.int f2), .val (.int (((mo.toUInt32 >>> ((3 : Int32) &&& 31).toUInt32).toInt32) &&& (3 : Int32))), .val (.ref b5), .val (.ref b10), .val (.ref b37), .val (.int (1 : Int32)), .val (.int (1 : Int32)), .val (.int (1 : Int32))] []))
                    refine OwnFin.step (fun tT kK => XS.iload X136.here hx rfl (hb hby at_218) rfl kK) ?_
                    show OwnFin p e below _ (T136.setTop (mkF m 220 #[.val (.int l_), .val (.int k_), .val (.int f_), .val (.int d_), .val (.int e_), .val (.int mo), .val (.int l2), .val (.int k2), .val (.int f2), .val (.int (((mo.toUInt32 >>> ((3 : Int32) &&& 31).toUInt32).toInt32) &&& (3 : Int32))), .val (.ref b5), .val (.ref b10), .val (.ref b37), .val (.int (1 : Int32)), .val (.int (1 : Int32)), .val (.int (1 : Int32))] [(.int (1 : Int32))]))
                    refine OwnFin.step (fun tT kK => XS.iload X136.here hx rfl (hb hby at_220) rfl kK) ?_
                    show OwnFin p e below _ (T136.setTop (mkF m 222 #[.val (.int l_), .val (.int k_), .val (.int f_), .val (.int d_), .val (.int e_), .val (.int mo), .val (.int l2), .val (.int k2), .val (.int f2), .val (.int (((mo.toUInt32 >>> ((3 : Int32) &&& 31).toUInt32).toInt32) &&& (3 : Int32))), .val (.ref b5), .val (.ref b10), .val (.ref b37), .val (.int (1 : Int32)), .val (.int (1 : Int32)), .val (.int (1 : Int32))] [(.int (1 : Int32)), (.int (1 : Int32))]))
                    refine OwnFin.step (fun tT kK => XS.icmpNo X136.here hx rfl (hb hby at_222) rfl (teq (rfl : (1 : Int32) = (1 : Int32))).2 kK) ?_
                    show OwnFin p e below _ (T136.setTop (mkF m 225 #[.val (.int l_), .val (.int k_), .val (.int f_), .val (.int d_), .val (.int e_), .val (.int mo), .val (.int l2), .val (.int k2), .val (.int f2), .val (.int (((mo.toUInt32 >>> ((3 : Int32) &&& 31).toUInt32).toInt32) &&& (3 : Int32))), .val (.ref b5), .val (.ref b10), .val (.ref b37), .val (.int (1 : Int32)), .val (.int (1 : Int32)), .val (.int (1 : Int32))] []))
                    refine OwnFin.step (fun tT kK => XS.iload X136.here hx rfl (hb hby at_225) rfl kK) ?_
                    show OwnFin p e below _ (T136.setTop (mkF m 227 #[.val (.int l_), .val (.int k_), .val (.int f_), .val (.int d_), .val (.int e_), .val (.int mo), .val (.int l2), .val (.int k2), .val (.int f2), .val (.int (((mo.toUInt32 >>> ((3 : Int32) &&& 31).toUInt32).toInt32) &&& (3 : Int32))), .val (.ref b5), .val (.ref b10), .val (.ref b37), .val (.int (1 : Int32)), .val (.int (1 : Int32)), .val (.int (1 : Int32))] [(.int (1 : Int32))]))
                    refine OwnFin.step (fun tT kK => XS.iload X136.here hx rfl (hb hby at_227) rfl kK) ?_
                    show OwnFin p e below _ (T136.setTop (mkF m 229 #[.val (.int l_), .val (.int k_), .val (.int f_), .val (.int d_), .val (.int e_), .val (.int mo), .val (.int l2), .val (.int k2), .val (.int f2), .val (.int (((mo.toUInt32 >>> ((3 : Int32) &&& 31).toUInt32).toInt32) &&& (3 : Int32))), .val (.ref b5), .val (.ref b10), .val (.ref b37), .val (.int (1 : Int32)), .val (.int (1 : Int32)), .val (.int (1 : Int32))] [(.int (1 : Int32)), (.int (1 : Int32))]))
                    refine OwnFin.step (fun tT kK => XS.icmpNo X136.here hx rfl (hb hby at_229) rfl (teq (rfl : (1 : Int32) = (1 : Int32))).2 kK) ?_
                    show OwnFin p e below _ (T136.setTop (mkF m 232 #[.val (.int l_), .val (.int k_), .val (.int f_), .val (.int d_), .val (.int e_), .val (.int mo), .val (.int l2), .val (.int k2), .val (.int f2), .val (.int (((mo.toUInt32 >>> ((3 : Int32) &&& 31).toUInt32).toInt32) &&& (3 : Int32))), .val (.ref b5), .val (.ref b10), .val (.ref b37), .val (.int (1 : Int32)), .val (.int (1 : Int32)), .val (.int (1 : Int32))] []))
                    refine OwnFin.step (fun tT kK => XS.iconst X136.here hx rfl (hb hby at_232) kK) ?_
                    show OwnFin p e below _ (T136.setTop (mkF m 233 #[.val (.int l_), .val (.int k_), .val (.int f_), .val (.int d_), .val (.int e_), .val (.int mo), .val (.int l2), .val (.int k2), .val (.int f2), .val (.int (((mo.toUInt32 >>> ((3 : Int32) &&& 31).toUInt32).toInt32) &&& (3 : Int32))), .val (.ref b5), .val (.ref b10), .val (.ref b37), .val (.int (1 : Int32)), .val (.int (1 : Int32)), .val (.int (1 : Int32))] [(.int (1 : Int32))]))
                    refine OwnFin.step (fun tT kK => XS.goto X136.here hx rfl (pc0 := 233) (pc' := 237) rfl (hb hby at_233) (by decide) (by decide) kK) ?_
                    show OwnFin p e below _ (T136.setTop (mkF m 237 #[.val (.int l_), .val (.int k_), .val (.int f_), .val (.int d_), .val (.int e_), .val (.int mo), .val (.int l2), .val (.int k2), .val (.int f2), .val (.int (((mo.toUInt32 >>> ((3 : Int32) &&& 31).toUInt32).toInt32) &&& (3 : Int32))), .val (.ref b5), .val (.ref b10), .val (.ref b37), .val (.int (1 : Int32)), .val (.int (1 : Int32)), .val (.int (1 : Int32))] [(.int (1 : Int32))]))
                    obtain ⟨fs137, hr137, hrun137, hended137, hW137⟩ := X136.leaveW (s := s) hS58 (by rw [e136]; exact (Nat.le_trans (Nat.le_refl T58.heap.size) (Nat.le_trans (Nat.le_refl _) K68.1))) (v := (some (.int (1 : Int32)))) (fun h => by rw [Bd.returns] at h; cases h)
                    refine ⟨_, _, retN X136 hx (t := .boolean) Bd.returns (by simp) (hb hby at_237) hr137, hrun137, hended137, _, _, rfl, ?_, (by show CHr Z OwnEL s.vm s.heap T136.vm T136.heap; rw [hh, e136]; exact C70.trans (CHv.at X136 hZ hEL C70.1)), hW137.1, hW137.2.1, hW137.2.2.1, hW137.2.2.2.mono (by decide) (by decide)⟩
                    show Q0 Z l_ k_ f_ d_ e_ mo cs h0 n0 _ T136.heap _
                    rw [e136]
                    exact ⟨rfl, N136, Kp69⟩
                  · skip
                    rw [if_neg hc105]
                    show OwnFin p e below _ (T104.setTop (mkF m 190 #[.val (.int l_), .val (.int k_), .val (.int f_), .val (.int d_), .val (.int e_), .val (.int mo), .val (.int l2), .val (.int k2), .val (.int f2), .val (.int (((mo.toUInt32 >>> ((3 : Int32) &&& 31).toUInt32).toInt32) &&& (3 : Int32))), .val (.ref b5), .val (.ref b10), .val (.ref b37), .unset, .unset, .unset] [(.int (0 : Int32))]))
                    refine OwnFin.step (fun tT kK => XS.ifYes X104.here hx rfl (pc0 := 190) (pc' := 197) rfl (hb hby at_190) rfl ((if0 _ _).trans (teq (rfl : (0 : Int32) = (0 : Int32))).1) (by decide) (by decide) kK) ?_
                    show OwnFin p e below _ (T104.setTop (mkF m 197 #[.val (.int l_), .val (.int k_), .val (.int f_), .val (.int d_), .val (.int e_), .val (.int mo), .val (.int l2), .val (.int k2), .val (.int f2), .val (.int (((mo.toUInt32 >>> ((3 : Int32) &&& 31).toUInt32).toInt32) &&& (3 : Int32))), .val (.ref b5), .val (.ref b10), .val (.ref b37), .unset, .unset, .unset] []))
                    refine OwnFin.step (fun tT kK => XS.iconst X104.here hx rfl (hb hby at_197) kK) ?_
                    show OwnFin p e below _ (T104.setTop (mkF m 198 #[.val (.int l_), .val (.int k_), .val (.int f_), .val (.int d_), .val (.int e_), .val (.int mo), .val (.int l2), .val (.int k2), .val (.int f2), .val (.int (((mo.toUInt32 >>> ((3 : Int32) &&& 31).toUInt32).toInt32) &&& (3 : Int32))), .val (.ref b5), .val (.ref b10), .val (.ref b37), .unset, .unset, .unset] [(.int (0 : Int32))]))
                    refine OwnFin.step (fun tT kK => XS.istore X104.here hx rfl (hb hby at_198) rfl (l' := #[.val (.int l_), .val (.int k_), .val (.int f_), .val (.int d_), .val (.int e_), .val (.int mo), .val (.int l2), .val (.int k2), .val (.int f2), .val (.int (((mo.toUInt32 >>> ((3 : Int32) &&& 31).toUInt32).toInt32) &&& (3 : Int32))), .val (.ref b5), .val (.ref b10), .val (.ref b37), .val (.int (0 : Int32)), .unset, .unset]) rfl kK) ?_
                    show OwnFin p e below _ (T104.setTop (mkF m 200 #[.val (.int l_), .val (.int k_), .val (.int f_), .val (.int d_), .val (.int e_), .val (.int mo), .val (.int l2), .val (.int k2), .val (.int f2), .val (.int (((mo.toUInt32 >>> ((3 : Int32) &&& 31).toUInt32).toInt32) &&& (3 : Int32))), .val (.ref b5), .val (.ref b10), .val (.ref b37), .val (.int (0 : Int32)), .unset, .unset] []))
                    refine OwnFin.step (fun tT kK => XS.aload X104.here hx rfl (hb hby at_200) rfl rfl kK) ?_
                    show OwnFin p e below _ (T104.setTop (mkF m 202 #[.val (.int l_), .val (.int k_), .val (.int f_), .val (.int d_), .val (.int e_), .val (.int mo), .val (.int l2), .val (.int k2), .val (.int f2), .val (.int (((mo.toUInt32 >>> ((3 : Int32) &&& 31).toUInt32).toInt32) &&& (3 : Int32))), .val (.ref b5), .val (.ref b10), .val (.ref b37), .val (.int (0 : Int32)), .unset, .unset] [(.ref b10)]))
                    refine OwnFin.step (fun tT kK => XS.aload X104.here hx rfl (hb hby at_202) rfl rfl kK) ?_
                    show OwnFin p e below _ (T104.setTop (mkF m 204 #[.val (.int l_), .val (.int k_), .val (.int f_), .val (.int d_), .val (.int e_), .val (.int mo), .val (.int l2), .val (.int k2), .val (.int f2), .val (.int (((mo.toUInt32 >>> ((3 : Int32) &&& 31).toUInt32).toInt32) &&& (3 : Int32))), .val (.ref b5), .val (.ref b10), .val (.ref b37), .val (.int (0 : Int32)), .unset, .unset] [(.ref b37), (.ref b10)]))
                    have f138 : Fld Z T68.heap b10 "com/example/limpet/limpet/Hold" "lockName" "Ljava/lang/String;" (.ref b18) := (((((P34_1.ext E37).ext E44).ext E51).ext E58).keep K68 (ninS (Nat.ne_of_lt (Nat.lt_of_lt_of_le (Nat.lt_of_lt_of_le P34_0.lt (Nat.le_refl _)) (Nat.le_of_eq g37.symm))) nin0))
                    have f139 : Fld Z T68.heap b10 "com/example/limpet/limpet/Hold" "key" "Ljava/lang/String;" (.ref b5) := (((((P34_2.ext E37).ext E44).ext E51).ext E58).keep K68 (ninS (Nat.ne_of_lt (Nat.lt_of_lt_of_le (Nat.lt_of_lt_of_le P34_0.lt (Nat.le_refl _)) (Nat.le_of_eq g37.symm))) nin0))
                    have f140 : Fld Z T68.heap b10 "com/example/limpet/limpet/Hold" "field" "Ljava/lang/String;" (.ref b25) := (((((P34_3.ext E37).ext E44).ext E51).ext E58).keep K68 (ninS (Nat.ne_of_lt (Nat.lt_of_lt_of_le (Nat.lt_of_lt_of_le P34_0.lt (Nat.le_refl _)) (Nat.le_of_eq g37.symm))) nin0))
                    have f141 : Exa Z T68.heap b18 "java/lang/String" := (((((((P17_0.ext E24).keep K34).ext E37).ext E44).ext E51).ext E58).keep K68)
                    have f142 : Fld Z T68.heap b18 "java/lang/String" "value" "[B" (.ref d19) := (((((((P17_1.ext E24).keep K34 (ninS (Ne.symm (Nat.ne_of_lt (Nat.lt_of_lt_of_le (Nat.lt_of_lt_of_le A10.lt (Nat.le_refl _)) B17_0))) nin0)).ext E37).ext E44).ext E51).ext E58).keep K68 (ninS (Nat.ne_of_lt (Nat.lt_of_lt_of_le (Nat.lt_of_lt_of_le P17_0.lt (Nat.le_trans (Nat.le_trans (Nat.le_refl _) E24.1) K34.1)) (Nat.le_of_eq g37.symm))) nin0))
                    have f143 : Fld Z T68.heap b18 "java/lang/String" "coder" "B" (.int (0 : Int32)) := (((((((P17_2.ext E24).keep K34 (ninS (Ne.symm (Nat.ne_of_lt (Nat.lt_of_lt_of_le (Nat.lt_of_lt_of_le A10.lt (Nat.le_refl _)) B17_0))) nin0)).ext E37).ext E44).ext E51).ext E58).keep K68 (ninS (Nat.ne_of_lt (Nat.lt_of_lt_of_le (Nat.lt_of_lt_of_le P17_0.lt (Nat.le_trans (Nat.le_trans (Nat.le_refl _) E24.1) K34.1)) (Nat.le_of_eq g37.symm))) nin0))
                    have f144 : Arv Z T68.heap d19 kd20 .byte (OwnL l_) (OwnV l_) (.int (0 : Int32)) := (((((((P17_3.ext E24).keep K34 (ninS (Ne.symm (Exa.neArv (A10.ext E17) P17_3 (hw _ (List.mem_of_getElem? (i := 30) rfl)))) nin0)).ext E37).ext E44).ext E51).ext E58).keep K68 (ninS (Nat.ne_of_lt (Nat.lt_of_lt_of_le (Nat.lt_of_lt_of_le P17_3.lt (Nat.le_trans (Nat.le_trans (Nat.le_refl _) E24.1) K34.1)) (Nat.le_of_eq g37.symm))) nin0))
                    have f145 : Exa Z T68.heap b5 "java/lang/String" := (((((((((P4_0.ext E10).ext E17).ext E24).keep K34).ext E37).ext E44).ext E51).ext E58).keep K68)
                    have f146 : Fld Z T68.heap b5 "java/lang/String" "value" "[B" (.ref d6) := (((((((((P4_1.ext E10).ext E17).ext E24).keep K34 (ninS (Nat.ne_of_lt (Nat.lt_of_lt_of_le (Nat.lt_of_lt_of_le P4_0.lt (Nat.le_refl _)) (Nat.le_of_eq g10.symm))) nin0)).ext E37).ext E44).ext E51).ext E58).keep K68 (ninS (Nat.ne_of_lt (Nat.lt_of_lt_of_le (Nat.lt_of_lt_of_le P4_0.lt (Nat.le_trans (Nat.le_trans (Nat.le_trans (Nat.le_trans (Nat.le_refl _) E10.1) E17.1) E24.1) K34.1)) (Nat.le_of_eq g37.symm))) nin0))
                    have f147 : Fld Z T68.heap b5 "java/lang/String" "coder" "B" (.int (0 : Int32)) := (((((((((P4_2.ext E10).ext E17).ext E24).keep K34 (ninS (Nat.ne_of_lt (Nat.lt_of_lt_of_le (Nat.lt_of_lt_of_le P4_0.lt (Nat.le_refl _)) (Nat.le_of_eq g10.symm))) nin0)).ext E37).ext E44).ext E51).ext E58).keep K68 (ninS (Nat.ne_of_lt (Nat.lt_of_lt_of_le (Nat.lt_of_lt_of_le P4_0.lt (Nat.le_trans (Nat.le_trans (Nat.le_trans (Nat.le_trans (Nat.le_refl _) E10.1) E17.1) E24.1) K34.1)) (Nat.le_of_eq g37.symm))) nin0))
                    have f148 : Arv Z T68.heap d6 kd7 .byte (OwnL k_) (OwnV k_) (.int (0 : Int32)) := (((((((((P4_3.ext E10).ext E17).ext E24).keep K34 (ninS (Nat.ne_of_lt (Nat.lt_of_lt_of_le (Nat.lt_of_lt_of_le P4_3.lt (Nat.le_refl _)) (Nat.le_of_eq g10.symm))) nin0)).ext E37).ext E44).ext E51).ext E58).keep K68 (ninS (Nat.ne_of_lt (Nat.lt_of_lt_of_le (Nat.lt_of_lt_of_le P4_3.lt (Nat.le_trans (Nat.le_trans (Nat.le_trans (Nat.le_trans (Nat.le_refl _) E10.1) E17.1) E24.1) K34.1)) (Nat.le_of_eq g37.symm))) nin0))
                    have f149 : Exa Z T68.heap b25 "java/lang/String" := ((((((P24_0.keep K34).ext E37).ext E44).ext E51).ext E58).keep K68)
                    have f150 : Fld Z T68.heap b25 "java/lang/String" "value" "[B" (.ref d26) := ((((((P24_1.keep K34 (ninS (Ne.symm (Nat.ne_of_lt (Nat.lt_of_lt_of_le (Nat.lt_of_lt_of_le A10.lt (Nat.le_trans (Nat.le_refl _) E17.1)) B24_0))) nin0)).ext E37).ext E44).ext E51).ext E58).keep K68 (ninS (Nat.ne_of_lt (Nat.lt_of_lt_of_le (Nat.lt_of_lt_of_le P24_0.lt (Nat.le_trans (Nat.le_refl _) K34.1)) (Nat.le_of_eq g37.symm))) nin0))
                    have f151 : Fld Z T68.heap b25 "java/lang/String" "coder" "B" (.int (0 : Int32)) := ((((((P24_2.keep K34 (ninS (Ne.symm (Nat.ne_of_lt (Nat.lt_of_lt_of_le (Nat.lt_of_lt_of_le A10.lt (Nat.le_trans (Nat.le_refl _) E17.1)) B24_0))) nin0)).ext E37).ext E44).ext E51).ext E58).keep K68 (ninS (Nat.ne_of_lt (Nat.lt_of_lt_of_le (Nat.lt_of_lt_of_le P24_0.lt (Nat.le_trans (Nat.le_refl _) K34.1)) (Nat.le_of_eq g37.symm))) nin0))
                    have f152 : Arv Z T68.heap d26 kd27 .byte (OwnL f_) (OwnV f_) (.int (0 : Int32)) := ((((((P24_3.keep K34 (ninS (Ne.symm (Exa.neArv f30 P24_3 (hw _ (List.mem_of_getElem? (i := 30) rfl)))) nin0)).ext E37).ext E44).ext E51).ext E58).keep K68 (ninS (Nat.ne_of_lt (Nat.lt_of_lt_of_le (Nat.lt_of_lt_of_le P24_3.lt (Nat.le_trans (Nat.le_refl _) K34.1)) (Nat.le_of_eq g37.symm))) nin0))
                    have f153 : Exa Z T68.heap b45 "java/lang/String" := (((P44_0.ext E51).ext E58).keep K68)
                    have f154 : Fld Z T68.heap b45 "java/lang/String" "value" "[B" (.ref d46) := (((P44_1.ext E51).ext E58).keep K68 (ninS (Ne.symm (Nat.ne_of_lt (Nat.lt_of_lt_of_le (Nat.lt_of_lt_of_le A37.lt (Nat.le_refl _)) B44_0))) nin0))
                    have f155 : Fld Z T68.heap b45 "java/lang/String" "coder" "B" (.int (0 : Int32)) := (((P44_2.ext E51).ext E58).keep K68 (ninS (Ne.symm (Nat.ne_of_lt (Nat.lt_of_lt_of_le (Nat.lt_of_lt_of_le A37.lt (Nat.le_refl _)) B44_0))) nin0))
                    have f156 : Arv Z T68.heap d46 kd47 .byte (OwnL l2) (OwnV l2) (.int (0 : Int32)) := (((P44_3.ext E51).ext E58).keep K68 (ninS (Ne.symm (Exa.neArv (A37.ext E44) P44_3 (hw _ (List.mem_of_getElem? (i := 30) rfl)))) nin0))
                    have f157 : Exa Z T68.heap b52 "java/lang/String" := ((P51_0.ext E58).keep K68)
                    have f158 : Fld Z T68.heap b52 "java/lang/String" "value" "[B" (.ref d53) := ((P51_1.ext E58).keep K68 (ninS (Ne.symm (Nat.ne_of_lt (Nat.lt_of_lt_of_le (Nat.lt_of_lt_of_le A37.lt (Nat.le_trans (Nat.le_refl _) E44.1)) B51_0))) nin0))
                    have f159 : Fld Z T68.heap b52 "java/lang/String" "coder" "B" (.int (0 : Int32)) := ((P51_2.ext E58).keep K68 (ninS (Ne.symm (Nat.ne_of_lt (Nat.lt_of_lt_of_le (Nat.lt_of_lt_of_le A37.lt (Nat.le_trans (Nat.le_refl _) E44.1)) B51_0))) nin0))
                    have f160 : Arv Z T68.heap d53 kd54 .byte (OwnL k2) (OwnV k2) (.int (0 : Int32)) := ((P51_3.ext E58).keep K68 (ninS (Ne.symm (Exa.neArv ((A37.ext E44).ext E51) P51_3 (hw _ (List.mem_of_getElem? (i := 30) rfl)))) nin0))
                    have f161 : Exa Z T68.heap b59 "java/lang/String" := (P58_0.keep K68)
                    have f162 : Fld Z T68.heap b59 "java/lang/String" "value" "[B" (.ref d60) := (P58_1.keep K68 (ninS (Ne.symm (Nat.ne_of_lt (Nat.lt_of_lt_of_le (Nat.lt_of_lt_of_le A37.lt (Nat.le_trans (Nat.le_trans (Nat.le_refl _) E44.1) E51.1)) B58_0))) nin0))
                    have f163 : Fld Z T68.heap b59 "java/lang/String" "coder" "B" (.int (0 : Int32)) := (P58_2.keep K68 (ninS (Ne.symm (Nat.ne_of_lt (Nat.lt_of_lt_of_le (Nat.lt_of_lt_of_le A37.lt (Nat.le_trans (Nat.le_trans (Nat.le_refl _) E44.1) E51.1)) B58_0))) nin0))
                    have f164 : Arv Z T68.heap d60 kd61 .byte (OwnL f2) (OwnV f2) (.int (0 : Int32)) := (P58_3.keep K68 (ninS (Ne.symm (Exa.neArv f64 P58_3 (hw _ (List.mem_of_getElem? (i := 30) rfl)))) nin0))
                    have f165 : Sta Z T68.heap "java/lang/String" "COMPACT_STRINGS" "Z" (.int cs) := (own_sta_keep (f57.ext E58) K68 (allS (own_nonsta f64) all0))
                    have f167 : Exa Z T68.heap b10 "com/example/limpet/limpet/Hold" := (((((P34_0.ext E37).ext E44).ext E51).ext E58).keep K68)
                    obtain ⟨cq166, kq166, q166a, q166b, q166c⟩ := isOf hZ e104 f167
                    obtain ⟨_, _, ⟨T166, L166, k166, n166⟩, -, X166, ⟨Lc166, hQ166, l166, y166, z166⟩, st166⟩ := X104.virtualBack hx (y := (⟨"com/example/limpet/limpet/Hold", "equals", "(Ljava/lang/Object;)Z"⟩ : MethodName)) (z := (⟨"com/example/limpet/limpet/Hold", "equals", "(Ljava/lang/Object;)Z"⟩ : MethodName)) hown (mvT hZ (hw _ (List.mem_of_getElem? (i := 50) rfl))) (mvT hZ (hw _ (List.mem_of_getElem? (i := 51) rfl))) (notFace_of_selects (args := #[]) (mvT hZ (hw _ (List.mem_of_getElem? (i := 53) rfl)))) (mvT hZ (hw _ (List.mem_of_getElem? (i := 53) rfl))) (mvT hZ (hw _ (List.mem_of_getElem? (i := 52) rfl))) (by decide) (backOf (W := 0) (rm5 l Z a0 hw hEL wS [] b10 b37 b18 d19 kd20 (OwnL l_) (OwnV l_) b5 d6 kd7 (OwnL k_) (OwnV k_) b25 d26 kd27 (OwnL f_) (OwnV f_) b45 d46 kd47 (OwnL l2) (OwnV l2) b52 d53 kd54 (OwnL k2) (OwnV k2) b59 d60 kd61 (OwnL f2) (OwnV f2) cs T68.heap n0 (Nat.le_trans Z0 Kp69.1) P68_0 f138 f139 f140 P68_1 P68_2 P68_3 f141 f142 f143 f144 f145 f146 f147 f148 f149 f150 f151 f152 f153 f154 f155 f156 f157 f158 f159 f160 f161 f162 f163 f164 P17_4 P4_4 P24_4 P44_4 P51_4 P58_4 f165 hp1) hZ (hw _ (List.mem_of_getElem? (i := 54) rfl)) (hw _ (List.mem_of_getElem? (i := 31) rfl)) (by decide) (by decide)) q166a q166c (g := (mkF m 204 #[.val (.int l_), .val (.int k_), .val (.int f_), .val (.int d_), .val (.int e_), .val (.int mo), .val (.int l2), .val (.int k2), .val (.int f2), .val (.int (((mo.toUInt32 >>> ((3 : Int32) &&& 31).toUInt32).toInt32) &&& (3 : Int32))), .val (.ref b5), .val (.ref b10), .val (.ref b37), .val (.int (0 : Int32)), .unset, .unset] [(.ref b37), (.ref b10)])) rfl (by rw [hml]; rfl) (Steps.refl _) (argsL := [(.ref b37)]) (rest := []) (lenOf pd_86 rfl) rfl (by show 2 * 0 + _ ≤ _; exact Nat.le_of_eq rfl) (hb hby at_204) (fun _ _ => ⟨rfl, e104, (by decide : 38 + 0 ≤ _), (by decide : 78 + 0 ≤ _)⟩)
                    dsimp only [Pt.U, Pt.locs, Pt.cells, Pt.slots] at X166 l166 y166 z166 st166 hQ166
                    subst l166 y166 z166
                    obtain ⟨rfl, N166q, e166⟩ := hQ166
                    have N166 := Fr.app N104 N166q
                    refine OwnFin.step (fun tT kK => st166.trans kK) ?_
                    show OwnFin p e below _ (T166.setTop (mkF m 207 #[.val (.int l_), .val (.int k_), .val (.int f_), .val (.int d_), .val (.int e_), .val (.int mo), .val (.int l2), .val (.int k2), .val (.int f2), .val (.int (((mo.toUInt32 >>> ((3 : Int32) &&& 31).toUInt32).toInt32) &&& (3 : Int32))), .val (.ref b5), .val (.ref b10), .val (.ref b37), .val (.int (0 : Int32)), .unset, .unset] [(.int (if ((OwnV k_) = (OwnV k2) ∧ (OwnV f_) = (OwnV f2) ∧ (OwnV l_) = (OwnV l2)) then 1 else 0))]))
                    rw [if_neg (fun q => hc105 q.2.1)]
                    show OwnFin p e below _ (T166.setTop (mkF m 207 #[.val (.int l_), .val (.int k_), .val (.int f_), .val (.int d_), .val (.int e_), .val (.int mo), .val (.int l2), .val (.int k2), .val (.int f2), .val (.int (((mo.toUInt32 >>> ((3 : Int32) &&& 31).toUInt32).toInt32) &&& (3 : Int32))), .val (.ref b5), .val (.ref b10), .val (.ref b37), .val (.int (0 : Int32)), .unset, .unset] [(.int (0 : Int32))]))
                    refine OwnFin.step (fun tT kK => XS.istore X166.here hx rfl (hb hby at_207) rfl (l' := #[.val (.int l_), .val (.int k_), .val (.int f_), .val (.int d_), .val (.int e_), .val (.int mo), .val (.int l2), .val (.int k2), .val (.int f2), .val (.int (((mo.toUInt32 >>> ((3 : Int32) &&& 31).toUInt32).toInt32) &&& (3 : Int32))), .val (.ref b5), .val (.ref b10), .val (.ref b37), .val (.int (0 : Int32)), .val (.int (0 : Int32)), .unset]) rfl kK) ?_
                    show OwnFin p e below _ (T166.setTop (mkF m 209 #[.val (.int l_), .val (.int k_), .val (.int f_), .val (.int d_), .val (.int e_), .val (.int mo), .val (.int l2), .val (.int k2), .val (.int f2), .val (.int (((mo.toUInt32 >>> ((3 : Int32) &&& 31).toUInt32).toInt32) &&& (3 : Int32))), .val (.ref b5), .val (.ref b10), .val (.ref b37), .val (.int (0 : Int32)), .val (.int (0 : Int32)), .unset] []))
                    refine OwnFin.step (fun tT kK => XS.aload X166.here hx rfl (hb hby at_209) rfl rfl kK) ?_
                    show OwnFin p e below _ (T166.setTop (mkF m 211 #[.val (.int l_), .val (.int k_), .val (.int f_), .val (.int d_), .val (.int e_), .val (.int mo), .val (.int l2), .val (.int k2), .val (.int f2), .val (.int (((mo.toUInt32 >>> ((3 : Int32) &&& 31).toUInt32).toInt32) &&& (3 : Int32))), .val (.ref b5), .val (.ref b10), .val (.ref b37), .val (.int (0 : Int32)), .val (.int (0 : Int32)), .unset] [(.ref b37)]))
                    refine OwnFin.step (fun tT kK => XS.aload X166.here hx rfl (hb hby at_211) rfl rfl kK) ?_
                    show OwnFin p e below _ (T166.setTop (mkF m 213 #[.val (.int l_), .val (.int k_), .val (.int f_), .val (.int d_), .val (.int e_), .val (.int mo), .val (.int l2), .val (.int k2), .val (.int f2), .val (.int (((mo.toUInt32 >>> ((3 : Int32) &&& 31).toUInt32).toInt32) &&& (3 : Int32))), .val (.ref b5), .val (.ref b10), .val (.ref b37), .val (.int (0 : Int32)), .val (.int (0 : Int32)), .unset] [(.ref b10), (.ref b37)]))
                    obtain ⟨cq168, kq168, q168a, q168b, q168c⟩ := isOf hZ e166 P68_0
                    obtain ⟨_, _, ⟨T168, L168, k168, n168⟩, -, X168, ⟨Lc168, hQ168, l168, y168, z168⟩, st168⟩ := X166.virtualBack hx (y := (⟨"com/example/limpet/limpet/Hold", "equals", "(Ljava/lang/Object;)Z"⟩ : MethodName)) (z := (⟨"com/example/limpet/limpet/Hold", "equals", "(Ljava/lang/Object;)Z"⟩ : MethodName)) hown (mvT hZ (hw _ (List.mem_of_getElem? (i := 50) rfl))) (mvT hZ (hw _ (List.mem_of_getElem? (i := 51) rfl))) (notFace_of_selects (args := #[]) (mvT hZ (hw _ (List.mem_of_getElem? (i := 53) rfl)))) (mvT hZ (hw _ (List.mem_of_getElem? (i := 53) rfl))) (mvT hZ (hw _ (List.mem_of_getElem? (i := 52) rfl))) (by decide) (backOf (W := 0) (rm5 l Z a0 hw hEL wS [] b37 b10 b45 d46 kd47 (OwnL l2) (OwnV l2) b52 d53 kd54 (OwnL k2) (OwnV k2) b59 d60 kd61 (OwnL f2) (OwnV f2) b18 d19 kd20 (OwnL l_) (OwnV l_) b5 d6 kd7 (OwnL k_) (OwnV k_) b25 d26 kd27 (OwnL f_) (OwnV f_) cs T68.heap n0 (Nat.le_trans Z0 Kp69.1) f167 P68_1 P68_2 P68_3 f138 f139 f140 f153 f154 f155 f156 f157 f158 f159 f160 f161 f162 f163 f164 f141 f142 f143 f144 f145 f146 f147 f148 f149 f150 f151 f152 P44_4 P51_4 P58_4 P17_4 P4_4 P24_4 f165 hp1) hZ (hw _ (List.mem_of_getElem? (i := 54) rfl)) (hw _ (List.mem_of_getElem? (i := 31) rfl)) (by decide) (by decide)) q168a q168c (g := (mkF m 213 #[.val (.int l_), .val (.int k_), .val (.int f_), .val (.int d_), .val (.int e_), .val (.int mo), .val (.int l2), .val (.int k2), .val (.int f2), .val (.int (((mo.toUInt32 >>> ((3 : Int32) &&& 31).toUInt32).toInt32) &&& (3 : Int32))), .val (.ref b5), .val (.ref b10), .val (.ref b37), .val (.int (0 : Int32)), .val (.int (0 : Int32)), .unset] [(.ref b10), (.ref b37)])) rfl (by rw [hml]; rfl) (Steps.refl _) (argsL := [(.ref b10)]) (rest := []) (lenOf pd_86 rfl) rfl (by show 2 * 0 + _ ≤ _; exact Nat.le_of_eq rfl) (hb hby at_213) (fun _ _ => ⟨rfl, e166, (by decide : 38 + 0 ≤ _), (by decide : 78 + 0 ≤ _)⟩)
                    dsimp only [Pt.U, Pt.locs, Pt.cells, Pt.slots] at X168 l168 y168 z168 st168 hQ168
                    subst l168 y168 z168
                    obtain ⟨rfl, N168q, e168⟩ := hQ168
                    have N168 := Fr.app N166 N168q
                    refine OwnFin.step (fun tT kK => st168.trans kK) ?_
                    show OwnFin p e below _ (T168.setTop (mkF m 216 #[.val (.int l_), .val (.int k_), .val (.int f_), .val (.int d_), .val (.int e_), .val (.int mo), .val (.int l2), .val (.int k2), .val (.int f2), .val (.int (((mo.toUInt32 >>> ((3 : Int32) &&& 31).toUInt32).toInt32) &&& (3 : Int32))), .val (.ref b5), .val (.ref b10), .val (.ref b37), .val (.int (0 : Int32)), .val (.int (0 : Int32)), .unset] [(.int (if ((OwnV k2) = (OwnV k_) ∧ (OwnV f2) = (OwnV f_) ∧ (OwnV l2) = (OwnV l_)) then 1 else 0))]))
                    rw [if_neg (fun q => hc105 q.2.1.symm)]
                    show OwnFin p e below _ (T168.setTop (mkF m 216 #[.val (.int l_), .val (.int k_), .val (.int f_), .val (.int d_), .val (.int e_), .val (.int mo), .val (.int l2), .val (.int k2), .val (.int f2), .val (.int (((mo.toUInt32 >>> ((3 : Int32) &&& 31).toUInt32).toInt32) &&& (3 : Int32))), .val (.ref b5), .val (.ref b10), .val (.ref b37), .val (.int (0 : Int32)), .val (.int (0 : Int32)), .unset] [(.int (0 : Int32))]))
                    refine OwnFin.step (fun tT kK => XS.istore X168.here hx rfl (hb hby at_216) rfl (l' := #[.val (.int l_), .val (.int k_), .val (.int f_), .val (.int d_), .val (.int e_), .val (.int mo), .val (.int l2), .val (.int k2), .val (.int f2), .val (.int (((mo.toUInt32 >>> ((3 : Int32) &&& 31).toUInt32).toInt32) &&& (3 : Int32))), .val (.ref b5), .val (.ref b10), .val (.ref b37), .val (.int (0 : Int32)), .val (.int (0 : Int32)), .val (.int (0 : Int32))]) rfl kK) ?_
                    show OwnFin p e below _ (T168.setTop (mkF m 218 #[.val (.int l_), .val (.int k_), .val (.int f_), .val (.int d_), .val (.int e_), .val (.int mo), .val (.int l2), .val (.int k2), .val (.int f2), .val (.int (((mo.toUInt32 >>> ((3 : Int32) &&& 31).toUInt32).toInt32) &&& (3 : Int32))), .val (.ref b5), .val (.ref b10), .val (.ref b37), .val (.int (0 : Int32)), .val (.int (0 : Int32)), .val (.int (0 : Int32))] []))
                    refine OwnFin.step (fun tT kK => XS.iload X168.here hx rfl (hb hby at_218) rfl kK) ?_
                    show OwnFin p e below _ (T168.setTop (mkF m 220 #[.val (.int l_), .val (.int k_), .val (.int f_), .val (.int d_), .val (.int e_), .val (.int mo), .val (.int l2), .val (.int k2), .val (.int f2), .val (.int (((mo.toUInt32 >>> ((3 : Int32) &&& 31).toUInt32).toInt32) &&& (3 : Int32))), .val (.ref b5), .val (.ref b10), .val (.ref b37), .val (.int (0 : Int32)), .val (.int (0 : Int32)), .val (.int (0 : Int32))] [(.int (0 : Int32))]))
                    refine OwnFin.step (fun tT kK => XS.iload X168.here hx rfl (hb hby at_220) rfl kK) ?_
                    show OwnFin p e below _ (T168.setTop (mkF m 222 #[.val (.int l_), .val (.int k_), .val (.int f_), .val (.int d_), .val (.int e_), .val (.int mo), .val (.int l2), .val (.int k2), .val (.int f2), .val (.int (((mo.toUInt32 >>> ((3 : Int32) &&& 31).toUInt32).toInt32) &&& (3 : Int32))), .val (.ref b5), .val (.ref b10), .val (.ref b37), .val (.int (0 : Int32)), .val (.int (0 : Int32)), .val (.int (0 : Int32))] [(.int (0 : Int32)), (.int (0 : Int32))]))
                    refine OwnFin.step (fun tT kK => XS.icmpNo X168.here hx rfl (hb hby at_222) rfl (teq (rfl : (0 : Int32) = (0 : Int32))).2 kK) ?_
                    show OwnFin p e below _ (T168.setTop (mkF m 225 #[.val (.int l_), .val (.int k_), .val (.int f_), .val (.int d_), .val (.int e_), .val (.int mo), .val (.int l2), .val (.int k2), .val (.int f2), .val (.int (((mo.toUInt32 >>> ((3 : Int32) &&& 31).toUInt32).toInt32) &&& (3 : Int32))), .val (.ref b5), .val (.ref b10), .val (.ref b37), .val (.int (0 : Int32)), .val (.int (0 : Int32)), .val (.int (0 : Int32))] []))
                    refine OwnFin.step (fun tT kK => XS.iload X168.here hx rfl (hb hby at_225) rfl kK) ?_
                    show OwnFin p e below _ (T168.setTop (mkF m 227 #[.val (.int l_), .val (.int k_), .val (.int f_), .val (.int d_), .val (.int e_), .val (.int mo), .val (.int l2), .val (.int k2), .val (.int f2), .val (.int (((mo.toUInt32 >>> ((3 : Int32) &&& 31).toUInt32).toInt32) &&& (3 : Int32))), .val (.ref b5), .val (.ref b10), .val (.ref b37), .val (.int (0 : Int32)), .val (.int (0 : Int32)), .val (.int (0 : Int32))] [(.int (0 : Int32))]))
                    refine OwnFin.step (fun tT kK => XS.iload X168.here hx rfl (hb hby at_227) rfl kK) ?_
                    show OwnFin p e below _ (T168.setTop (mkF m 229 #[.val (.int l_), .val (.int k_), .val (.int f_), .val (.int d_), .val (.int e_), .val (.int mo), .val (.int l2), .val (.int k2), .val (.int f2), .val (.int (((mo.toUInt32 >>> ((3 : Int32) &&& 31).toUInt32).toInt32) &&& (3 : Int32))), .val (.ref b5), .val (.ref b10), .val (.ref b37), .val (.int (0 : Int32)), .val (.int (0 : Int32)), .val (.int (0 : Int32))] [(.int (0 : Int32)), (.int (0 : Int32))]))
                    refine OwnFin.step (fun tT kK => XS.icmpNo X168.here hx rfl (hb hby at_229) rfl (teq (rfl : (0 : Int32) = (0 : Int32))).2 kK) ?_
                    show OwnFin p e below _ (T168.setTop (mkF m 232 #[.val (.int l_), .val (.int k_), .val (.int f_), .val (.int d_), .val (.int e_), .val (.int mo), .val (.int l2), .val (.int k2), .val (.int f2), .val (.int (((mo.toUInt32 >>> ((3 : Int32) &&& 31).toUInt32).toInt32) &&& (3 : Int32))), .val (.ref b5), .val (.ref b10), .val (.ref b37), .val (.int (0 : Int32)), .val (.int (0 : Int32)), .val (.int (0 : Int32))] []))
                    refine OwnFin.step (fun tT kK => XS.iconst X168.here hx rfl (hb hby at_232) kK) ?_
                    show OwnFin p e below _ (T168.setTop (mkF m 233 #[.val (.int l_), .val (.int k_), .val (.int f_), .val (.int d_), .val (.int e_), .val (.int mo), .val (.int l2), .val (.int k2), .val (.int f2), .val (.int (((mo.toUInt32 >>> ((3 : Int32) &&& 31).toUInt32).toInt32) &&& (3 : Int32))), .val (.ref b5), .val (.ref b10), .val (.ref b37), .val (.int (0 : Int32)), .val (.int (0 : Int32)), .val (.int (0 : Int32))] [(.int (1 : Int32))]))
                    refine OwnFin.step (fun tT kK => XS.goto X168.here hx rfl (pc0 := 233) (pc' := 237) rfl (hb hby at_233) (by decide) (by decide) kK) ?_
                    show OwnFin p e below _ (T168.setTop (mkF m 237 #[.val (.int l_), .val (.int k_), .val (.int f_), .val (.int d_), .val (.int e_), .val (.int mo), .val (.int l2), .val (.int k2), .val (.int f2), .val (.int (((mo.toUInt32 >>> ((3 : Int32) &&& 31).toUInt32).toInt32) &&& (3 : Int32))), .val (.ref b5), .val (.ref b10), .val (.ref b37), .val (.int (0 : Int32)), .val (.int (0 : Int32)), .val (.int (0 : Int32))] [(.int (1 : Int32))]))
                    obtain ⟨fs169, hr169, hrun169, hended169, hW169⟩ := X168.leaveW (s := s) hS58 (by rw [e168]; exact (Nat.le_trans (Nat.le_refl T58.heap.size) (Nat.le_trans (Nat.le_refl _) K68.1))) (v := (some (.int (1 : Int32)))) (fun h => by rw [Bd.returns] at h; cases h)
                    refine ⟨_, _, retN X168 hx (t := .boolean) Bd.returns (by simp) (hb hby at_237) hr169, hrun169, hended169, _, _, rfl, ?_, (by show CHr Z OwnEL s.vm s.heap T168.vm T168.heap; rw [hh, e168]; exact C70.trans (CHv.at X168 hZ hEL C70.1)), hW169.1, hW169.2.1, hW169.2.2.1, hW169.2.2.2.mono (by decide) (by decide)⟩
                    show Q0 Z l_ k_ f_ d_ e_ mo cs h0 n0 _ T168.heap _
                    rw [e168]
                    exact ⟨rfl, N168, Kp69⟩
                · skip
                  rw [if_neg hc103]
                  show OwnFin p e below _ (T102.setTop (mkF m 181 #[.val (.int l_), .val (.int k_), .val (.int f_), .val (.int d_), .val (.int e_), .val (.int mo), .val (.int l2), .val (.int k2), .val (.int f2), .val (.int (((mo.toUInt32 >>> ((3 : Int32) &&& 31).toUInt32).toInt32) &&& (3 : Int32))), .val (.ref b5), .val (.ref b10), .val (.ref b37), .unset, .unset, .unset] [(.int (0 : Int32))]))
                  refine OwnFin.step (fun tT kK => XS.ifYes X102.here hx rfl (pc0 := 181) (pc' := 197) rfl (hb hby at_181) rfl ((if0 _ _).trans (teq (rfl : (0 : Int32) = (0 : Int32))).1) (by decide) (by decide) kK) ?_
                  show OwnFin p e below _ (T102.setTop (mkF m 197 #[.val (.int l_), .val (.int k_), .val (.int f_), .val (.int d_), .val (.int e_), .val (.int mo), .val (.int l2), .val (.int k2), .val (.int f2), .val (.int (((mo.toUInt32 >>> ((3 : Int32) &&& 31).toUInt32).toInt32) &&& (3 : Int32))), .val (.ref b5), .val (.ref b10), .val (.ref b37), .unset, .unset, .unset] []))
                  refine OwnFin.step (fun tT kK => XS.iconst X102.here hx rfl (hb hby at_197) kK) ?_
                  show OwnFin p e below _ (T102.setTop (mkF m 198 #[.val (.int l_), .val (.int k_), .val (.int f_), .val (.int d_), .val (.int e_), .val (.int mo), .val (.int l2), .val (.int k2), .val (.int f2), .val (.int (((mo.toUInt32 >>> ((3 : Int32) &&& 31).toUInt32).toInt32) &&& (3 : Int32))), .val (.ref b5), .val (.ref b10), .val (.ref b37), .unset, .unset, .unset] [(.int (0 : Int32))]))
                  refine OwnFin.step (fun tT kK => XS.istore X102.here hx rfl (hb hby at_198) rfl (l' := #[.val (.int l_), .val (.int k_), .val (.int f_), .val (.int d_), .val (.int e_), .val (.int mo), .val (.int l2), .val (.int k2), .val (.int f2), .val (.int (((mo.toUInt32 >>> ((3 : Int32) &&& 31).toUInt32).toInt32) &&& (3 : Int32))), .val (.ref b5), .val (.ref b10), .val (.ref b37), .val (.int (0 : Int32)), .unset, .unset]) rfl kK) ?_
                  show OwnFin p e below _ (T102.setTop (mkF m 200 #[.val (.int l_), .val (.int k_), .val (.int f_), .val (.int d_), .val (.int e_), .val (.int mo), .val (.int l2), .val (.int k2), .val (.int f2), .val (.int (((mo.toUInt32 >>> ((3 : Int32) &&& 31).toUInt32).toInt32) &&& (3 : Int32))), .val (.ref b5), .val (.ref b10), .val (.ref b37), .val (.int (0 : Int32)), .unset, .unset] []))
                  refine OwnFin.step (fun tT kK => XS.aload X102.here hx rfl (hb hby at_200) rfl rfl kK) ?_
                  show OwnFin p e below _ (T102.setTop (mkF m 202 #[.val (.int l_), .val (.int k_), .val (.int f_), .val (.int d_), .val (.int e_), .val (.int mo), .val (.int l2), .val (.int k2), .val (.int f2), .val (.int (((mo.toUInt32 >>> ((3 : Int32) &&& 31).toUInt32).toInt32) &&& (3 : Int32))), .val (.ref b5), .val (.ref b10), .val (.ref b37), .val (.int (0 : Int32)), .unset, .unset] [(.ref b10)]))
                  refine OwnFin.step (fun tT kK => XS.aload X102.here hx rfl (hb hby at_202) rfl rfl kK) ?_
                  show OwnFin p e below _ (T102.setTop (mkF m 204 #[.val (.int l_), .val (.int k_), .val (.int f_), .val (.int d_), .val (.int e_), .val (.int mo), .val (.int l2), .val (.int k2), .val (.int f2), .val (.int (((mo.toUInt32 >>> ((3 : Int32) &&& 31).toUInt32).toInt32) &&& (3 : Int32))), .val (.ref b5), .val (.ref b10), .val (.ref b37), .val (.int (0 : Int32)), .unset, .unset] [(.ref b37), (.ref b10)]))
                  have f170 : Fld Z T68.heap b10 "com/example/limpet/limpet/Hold" "lockName" "Ljava/lang/String;" (.ref b18) := (((((P34_1.ext E37).ext E44).ext E51).ext E58).keep K68 (ninS (Nat.ne_of_lt (Nat.lt_of_lt_of_le (Nat.lt_of_lt_of_le P34_0.lt (Nat.le_refl _)) (Nat.le_of_eq g37.symm))) nin0))
                  have f171 : Fld Z T68.heap b10 "com/example/limpet/limpet/Hold" "key" "Ljava/lang/String;" (.ref b5) := (((((P34_2.ext E37).ext E44).ext E51).ext E58).keep K68 (ninS (Nat.ne_of_lt (Nat.lt_of_lt_of_le (Nat.lt_of_lt_of_le P34_0.lt (Nat.le_refl _)) (Nat.le_of_eq g37.symm))) nin0))
                  have f172 : Fld Z T68.heap b10 "com/example/limpet/limpet/Hold" "field" "Ljava/lang/String;" (.ref b25) := (((((P34_3.ext E37).ext E44).ext E51).ext E58).keep K68 (ninS (Nat.ne_of_lt (Nat.lt_of_lt_of_le (Nat.lt_of_lt_of_le P34_0.lt (Nat.le_refl _)) (Nat.le_of_eq g37.symm))) nin0))
                  have f173 : Exa Z T68.heap b18 "java/lang/String" := (((((((P17_0.ext E24).keep K34).ext E37).ext E44).ext E51).ext E58).keep K68)
                  have f174 : Fld Z T68.heap b18 "java/lang/String" "value" "[B" (.ref d19) := (((((((P17_1.ext E24).keep K34 (ninS (Ne.symm (Nat.ne_of_lt (Nat.lt_of_lt_of_le (Nat.lt_of_lt_of_le A10.lt (Nat.le_refl _)) B17_0))) nin0)).ext E37).ext E44).ext E51).ext E58).keep K68 (ninS (Nat.ne_of_lt (Nat.lt_of_lt_of_le (Nat.lt_of_lt_of_le P17_0.lt (Nat.le_trans (Nat.le_trans (Nat.le_refl _) E24.1) K34.1)) (Nat.le_of_eq g37.symm))) nin0))
                  have f175 : Fld Z T68.heap b18 "java/lang/String" "coder" "B" (.int (0 : Int32)) := (((((((P17_2.ext E24).keep K34 (ninS (Ne.symm (Nat.ne_of_lt (Nat.lt_of_lt_of_le (Nat.lt_of_lt_of_le A10.lt (Nat.le_refl _)) B17_0))) nin0)).ext E37).ext E44).ext E51).ext E58).keep K68 (ninS (Nat.ne_of_lt (Nat.lt_of_lt_of_le (Nat.lt_of_lt_of_le P17_0.lt (Nat.le_trans (Nat.le_trans (Nat.le_refl _) E24.1) K34.1)) (Nat.le_of_eq g37.symm))) nin0))
                  have f176 : Arv Z T68.heap d19 kd20 .byte (OwnL l_) (OwnV l_) (.int (0 : Int32)) := (((((((P17_3.ext E24).keep K34 (ninS (Ne.symm (Exa.neArv (A10.ext E17) P17_3 (hw _ (List.mem_of_getElem? (i := 30) rfl)))) nin0)).ext E37).ext E44).ext E51).ext E58).keep K68 (ninS (Nat.ne_of_lt (Nat.lt_of_lt_of_le (Nat.lt_of_lt_of_le P17_3.lt (Nat.le_trans (Nat.le_trans (Nat.le_refl _) E24.1) K34.1)) (Nat.le_of_eq g37.symm))) nin0))
                  have f177 : Exa Z T68.heap b5 "java/lang/String" := (((((((((P4_0.ext E10).ext E17).ext E24).keep K34).ext E37).ext E44).ext E51).ext E58).keep K68)
                  have f178 : Fld Z T68.heap b5 "java/lang/String" "value" "[B" (.ref d6) := (((((((((P4_1.ext E10).ext E17).ext E24).keep K34 (ninS (Nat.ne_of_lt (Nat.lt_of_lt_of_le (Nat.lt_of_lt_of_le P4_0.lt (Nat.le_refl _)) (Nat.le_of_eq g10.symm))) nin0)).ext E37).ext E44).ext E51).ext E58).keep K68 (ninS (Nat.ne_of_lt (Nat.lt_of_lt_of_le (Nat.lt_of_lt_of_le P4_0.lt (Nat.le_trans (Nat.le_trans (Nat.le_trans (Nat.le_trans (Nat.le_refl _) E10.1) E17.1) E24.1) K34.1)) (Nat.le_of_eq g37.symm))) nin0))
                  have f179 : Fld Z T68.heap b5 "java/lang/String" "coder" "B" (.int (0 : Int32)) := (((((((((P4_2.ext E10).ext E17).ext E24).keep K34 (ninS (Nat.ne_of_lt (Nat.lt_of_lt_of_le (Nat.lt_of_lt_of_le P4_0.lt (Nat.le_refl _)) (Nat.le_of_eq g10.symm))) nin0)).ext E37).ext E44).ext E51).ext E58).keep K68 (ninS (Nat.ne_of_lt (Nat.lt_of_lt_of_le (Nat.lt_of_lt_of_le P4_0.lt (Nat.le_trans (Nat.le_trans (Nat.le_trans (Nat.le_trans (Nat.le_refl _) E10.1) E17.1) E24.1) K34.1)) (Nat.le_of_eq g37.symm))) nin0))
                  have f180 : Arv Z T68.heap d6 kd7 .byte (OwnL k_) (OwnV k_) (.int (0 : Int32)) := (((((((((P4_3.ext E10).ext E17).ext E24).keep K34 (ninS (Nat.ne_of_lt (Nat.lt_of_lt_of_le (Nat.lt_of_lt_of_le P4_3.lt (Nat.le_refl _)) (Nat.le_of_eq g10.symm))) nin0)).ext E37).ext E44).ext E51).ext E58).keep K68 (ninS (Nat.ne_of_lt (Nat.lt_of_lt_of_le (Nat.lt_of_lt_of_le P4_3.lt (Nat.le_trans (Nat.le_trans (Nat.le_trans (Nat.le_trans (Nat.le_refl _) E10.1) E17.1) E24.1) K34.1)) (Nat.le_of_eq g37.symm))) nin0))
                  have f181 : Exa Z T68.heap b25 "java/lang/String" := ((((((P24_0.keep K34).ext E37).ext E44).ext E51).ext E58).keep K68)
                  have f182 : Fld Z T68.heap b25 "java/lang/String" "value" "[B" (.ref d26) := ((((((P24_1.keep K34 (ninS (Ne.symm (Nat.ne_of_lt (Nat.lt_of_lt_of_le (Nat.lt_of_lt_of_le A10.lt (Nat.le_trans (Nat.le_refl _) E17.1)) B24_0))) nin0)).ext E37).ext E44).ext E51).ext E58).keep K68 (ninS (Nat.ne_of_lt (Nat.lt_of_lt_of_le (Nat.lt_of_lt_of_le P24_0.lt (Nat.le_trans (Nat.le_refl _) K34.1)) (Nat.le_of_eq g37.symm))) nin0))
                  have f183 : Fld Z T68.heap b25 "java/lang/String" "coder" "B" (.int (0 : Int32)) := ((((((P24_2.keep K34 (ninS (Ne.symm (Nat.ne_of_lt (Nat.lt_of_lt_of_le (Nat.lt_of_lt_of_le A10.lt (Nat.le_trans (Nat.le_refl _) E17.1)) B24_0))) nin0)).ext E37).ext E44).ext E51).ext E58).keep K68 (ninS (Nat.ne_of_lt (Nat.lt_of_lt_of_le (Nat.lt_of_lt_of_le P24_0.lt (Nat.le_trans (Nat.le_refl _) K34.1)) (Nat.le_of_eq g37.symm))) nin0))
                  have f184 : Arv Z T68.heap d26 kd27 .byte (OwnL f_) (OwnV f_) (.int (0 : Int32)) := ((((((P24_3.keep K34 (ninS (Ne.symm (Exa.neArv f30 P24_3 (hw _ (List.mem_of_getElem? (i := 30) rfl)))) nin0)).ext E37).ext E44).ext E51).ext E58).keep K68 (ninS (Nat.ne_of_lt (Nat.lt_of_lt_of_le (Nat.lt_of_lt_of_le P24_3.lt (Nat.le_trans (Nat.le_refl _) K34.1)) (Nat.le_of_eq g37.symm))) nin0))
                  have f185 : Exa Z T68.heap b45 "java/lang/String" := (((P44_0.ext E51).ext E58).keep K68)
                  have f186 : Fld Z T68.heap b45 "java/lang/String" "value" "[B" (.ref d46) := (((P44_1.ext E51).ext E58).keep K68 (ninS (Ne.symm (Nat.ne_of_lt (Nat.lt_of_lt_of_le (Nat.lt_of_lt_of_le A37.lt (Nat.le_refl _)) B44_0))) nin0))
                  have f187 : Fld Z T68.heap b45 "java/lang/String" "coder" "B" (.int (0 : Int32)) := (((P44_2.ext E51).ext E58).keep K68 (ninS (Ne.symm (Nat.ne_of_lt (Nat.lt_of_lt_of_le (Nat.lt_of_lt_of_le A37.lt (Nat.le_refl _)) B44_0))) nin0))
                  have f188 : Arv Z T68.heap d46 kd47 .byte (OwnL l2) (OwnV l2) (.int (0 : Int32)) := (((P44_3.ext E51).ext E58).keep K68 (ninS (Ne.symm (Exa.neArv (A37.ext E44) P44_3 (hw _ (List.mem_of_getElem? (i := 30) rfl)))) nin0))
                  have f189 : Exa Z T68.heap b52 "java/lang/String" := ((P51_0.ext E58).keep K68)
                  have f190 : Fld Z T68.heap b52 "java/lang/String" "value" "[B" (.ref d53) := ((P51_1.ext E58).keep K68 (ninS (Ne.symm (Nat.ne_of_lt (Nat.lt_of_lt_of_le (Nat.lt_of_lt_of_le A37.lt (Nat.le_trans (Nat.le_refl _) E44.1)) B51_0))) nin0))
                  have f191 : Fld Z T68.heap b52 "java/lang/String" "coder" "B" (.int (0 : Int32)) := ((P51_2.ext E58).keep K68 (ninS (Ne.symm (Nat.ne_of_lt (Nat.lt_of_lt_of_le (Nat.lt_of_lt_of_le A37.lt (Nat.le_trans (Nat.le_refl _) E44.1)) B51_0))) nin0))
                  have f192 : Arv Z T68.heap d53 kd54 .byte (OwnL k2) (OwnV k2) (.int (0 : Int32)) := ((P51_3.ext E58).keep K68 (ninS (Ne.symm (Exa.neArv ((A37.ext E44).ext E51) P51_3 (hw _ (List.mem_of_getElem? (i := 30) rfl)))) nin0))
                  have f193 : Exa Z T68.heap b59 "java/lang/String" := (P58_0.keep K68)
                  have f194 : Fld Z T68.heap b59 "java/lang/String" "value" "[B" (.ref d60) := (P58_1.keep K68 (ninS (Ne.symm (Nat.ne_of_lt (Nat.lt_of_lt_of_le (Nat.lt_of_lt_of_le A37.lt (Nat.le_trans (Nat.le_trans (Nat.le_refl _) E44.1) E51.1)) B58_0))) nin0))
                  have f195 : Fld Z T68.heap b59 "java/lang/String" "coder" "B" (.int (0 : Int32)) := (P58_2.keep K68 (ninS (Ne.symm (Nat.ne_of_lt (Nat.lt_of_lt_of_le (Nat.lt_of_lt_of_le A37.lt (Nat.le_trans (Nat.le_trans (Nat.le_refl _) E44.1) E51.1)) B58_0))) nin0))
                  have f196 : Arv Z T68.heap d60 kd61 .byte (OwnL f2) (OwnV f2) (.int (0 : Int32)) := (P58_3.keep K68 (ninS (Ne.symm (Exa.neArv f64 P58_3 (hw _ (List.mem_of_getElem? (i := 30) rfl)))) nin0))
                  have f197 : Sta Z T68.heap "java/lang/String" "COMPACT_STRINGS" "Z" (.int cs) := (own_sta_keep (f57.ext E58) K68 (allS (own_nonsta f64) all0))
                  have f199 : Exa Z T68.heap b10 "com/example/limpet/limpet/Hold" := (((((P34_0.ext E37).ext E44).ext E51).ext E58).keep K68)
                  obtain ⟨cq198, kq198, q198a, q198b, q198c⟩ := isOf hZ e102 f199
                  obtain ⟨_, _, ⟨T198, L198, k198, n198⟩, -, X198, ⟨Lc198, hQ198, l198, y198, z198⟩, st198⟩ := X102.virtualBack hx (y := (⟨"com/example/limpet/limpet/Hold", "equals", "(Ljava/lang/Object;)Z"⟩ : MethodName)) (z := (⟨"com/example/limpet/limpet/Hold", "equals", "(Ljava/lang/Object;)Z"⟩ : MethodName)) hown (mvT hZ (hw _ (List.mem_of_getElem? (i := 50) rfl))) (mvT hZ (hw _ (List.mem_of_getElem? (i := 51) rfl))) (notFace_of_selects (args := #[]) (mvT hZ (hw _ (List.mem_of_getElem? (i := 53) rfl)))) (mvT hZ (hw _ (List.mem_of_getElem? (i := 53) rfl))) (mvT hZ (hw _ (List.mem_of_getElem? (i := 52) rfl))) (by decide) (backOf (W := 0) (rm5 l Z a0 hw hEL wS [] b10 b37 b18 d19 kd20 (OwnL l_) (OwnV l_) b5 d6 kd7 (OwnL k_) (OwnV k_) b25 d26 kd27 (OwnL f_) (OwnV f_) b45 d46 kd47 (OwnL l2) (OwnV l2) b52 d53 kd54 (OwnL k2) (OwnV k2) b59 d60 kd61 (OwnL f2) (OwnV f2) cs T68.heap n0 (Nat.le_trans Z0 Kp69.1) P68_0 f170 f171 f172 P68_1 P68_2 P68_3 f173 f174 f175 f176 f177 f178 f179 f180 f181 f182 f183 f184 f185 f186 f187 f188 f189 f190 f191 f192 f193 f194 f195 f196 P17_4 P4_4 P24_4 P44_4 P51_4 P58_4 f197 hp1) hZ (hw _ (List.mem_of_getElem? (i := 54) rfl)) (hw _ (List.mem_of_getElem? (i := 31) rfl)) (by decide) (by decide)) q198a q198c (g := (mkF m 204 #[.val (.int l_), .val (.int k_), .val (.int f_), .val (.int d_), .val (.int e_), .val (.int mo), .val (.int l2), .val (.int k2), .val (.int f2), .val (.int (((mo.toUInt32 >>> ((3 : Int32) &&& 31).toUInt32).toInt32) &&& (3 : Int32))), .val (.ref b5), .val (.ref b10), .val (.ref b37), .val (.int (0 : Int32)), .unset, .unset] [(.ref b37), (.ref b10)])) rfl (by rw [hml]; rfl) (Steps.refl _) (argsL := [(.ref b37)]) (rest := []) (lenOf pd_86 rfl) rfl (by show 2 * 0 + _ ≤ _; exact Nat.le_of_eq rfl) (hb hby at_204) (fun _ _ => ⟨rfl, e102, (by decide : 38 + 0 ≤ _), (by decide : 78 + 0 ≤ _)⟩)
                  dsimp only [Pt.U, Pt.locs, Pt.cells, Pt.slots] at X198 l198 y198 z198 st198 hQ198
                  subst l198 y198 z198
                  obtain ⟨rfl, N198q, e198⟩ := hQ198
                  have N198 := Fr.app N102 N198q
                  refine OwnFin.step (fun tT kK => st198.trans kK) ?_
                  show OwnFin p e below _ (T198.setTop (mkF m 207 #[.val (.int l_), .val (.int k_), .val (.int f_), .val (.int d_), .val (.int e_), .val (.int mo), .val (.int l2), .val (.int k2), .val (.int f2), .val (.int (((mo.toUInt32 >>> ((3 : Int32) &&& 31).toUInt32).toInt32) &&& (3 : Int32))), .val (.ref b5), .val (.ref b10), .val (.ref b37), .val (.int (0 : Int32)), .unset, .unset] [(.int (if ((OwnV k_) = (OwnV k2) ∧ (OwnV f_) = (OwnV f2) ∧ (OwnV l_) = (OwnV l2)) then 1 else 0))]))
                  rw [if_neg (fun q => hc103 q.1)]
                  show OwnFin p e below _ (T198.setTop (mkF m 207 #[.val (.int l_), .val (.int k_), .val (.int f_), .val (.int d_), .val (.int e_), .val (.int mo), .val (.int l2), .val (.int k2), .val (.int f2), .val (.int (((mo.toUInt32 >>> ((3 : Int32) &&& 31).toUInt32).toInt32) &&& (3 : Int32))), .val (.ref b5), .val (.ref b10), .val (.ref b37), .val (.int (0 : Int32)), .unset, .unset] [(.int (0 : Int32))]))
                  refine OwnFin.step (fun tT kK => XS.istore X198.here hx rfl (hb hby at_207) rfl (l' := #[.val (.int l_), .val (.int k_), .val (.int f_), .val (.int d_), .val (.int e_), .val (.int mo), .val (.int l2), .val (.int k2), .val (.int f2), .val (.int (((mo.toUInt32 >>> ((3 : Int32) &&& 31).toUInt32).toInt32) &&& (3 : Int32))), .val (.ref b5), .val (.ref b10), .val (.ref b37), .val (.int (0 : Int32)), .val (.int (0 : Int32)), .unset]) rfl kK) ?_
                  show OwnFin p e below _ (T198.setTop (mkF m 209 #[.val (.int l_), .val (.int k_), .val (.int f_), .val (.int d_), .val (.int e_), .val (.int mo), .val (.int l2), .val (.int k2), .val (.int f2), .val (.int (((mo.toUInt32 >>> ((3 : Int32) &&& 31).toUInt32).toInt32) &&& (3 : Int32))), .val (.ref b5), .val (.ref b10), .val (.ref b37), .val (.int (0 : Int32)), .val (.int (0 : Int32)), .unset] []))
                  refine OwnFin.step (fun tT kK => XS.aload X198.here hx rfl (hb hby at_209) rfl rfl kK) ?_
                  show OwnFin p e below _ (T198.setTop (mkF m 211 #[.val (.int l_), .val (.int k_), .val (.int f_), .val (.int d_), .val (.int e_), .val (.int mo), .val (.int l2), .val (.int k2), .val (.int f2), .val (.int (((mo.toUInt32 >>> ((3 : Int32) &&& 31).toUInt32).toInt32) &&& (3 : Int32))), .val (.ref b5), .val (.ref b10), .val (.ref b37), .val (.int (0 : Int32)), .val (.int (0 : Int32)), .unset] [(.ref b37)]))
                  refine OwnFin.step (fun tT kK => XS.aload X198.here hx rfl (hb hby at_211) rfl rfl kK) ?_
                  show OwnFin p e below _ (T198.setTop (mkF m 213 #[.val (.int l_), .val (.int k_), .val (.int f_), .val (.int d_), .val (.int e_), .val (.int mo), .val (.int l2), .val (.int k2), .val (.int f2), .val (.int (((mo.toUInt32 >>> ((3 : Int32) &&& 31).toUInt32).toInt32) &&& (3 : Int32))), .val (.ref b5), .val (.ref b10), .val (.ref b37), .val (.int (0 : Int32)), .val (.int (0 : Int32)), .unset] [(.ref b10), (.ref b37)]))
                  obtain ⟨cq200, kq200, q200a, q200b, q200c⟩ := isOf hZ e198 P68_0
                  obtain ⟨_, _, ⟨T200, L200, k200, n200⟩, -, X200, ⟨Lc200, hQ200, l200, y200, z200⟩, st200⟩ := X198.virtualBack hx (y := (⟨"com/example/limpet/limpet/Hold", "equals", "(Ljava/lang/Object;)Z"⟩ : MethodName)) (z := (⟨"com/example/limpet/limpet/Hold", "equals", "(Ljava/lang/Object;)Z"⟩ : MethodName)) hown (mvT hZ (hw _ (List.mem_of_getElem? (i := 50) rfl))) (mvT hZ (hw _ (List.mem_of_getElem? (i := 51) rfl))) (notFace_of_selects (args := #[]) (mvT hZ (hw _ (List.mem_of_getElem? (i := 53) rfl)))) (mvT hZ (hw _ (List.mem_of_getElem? (i := 53) rfl))) (mvT hZ (hw _ (List.mem_of_getElem? (i := 52) rfl))) (by decide) (backOf (W := 0) (rm5 l Z a0 hw hEL wS [] b37 b10 b45 d46 kd47 (OwnL l2) (OwnV l2) b52 d53 kd54 (OwnL k2) (OwnV k2) b59 d60 kd61 (OwnL f2) (OwnV f2) b18 d19 kd20 (OwnL l_) (OwnV l_) b5 d6 kd7 (OwnL k_) (OwnV k_) b25 d26 kd27 (OwnL f_) (OwnV f_) cs T68.heap n0 (Nat.le_trans Z0 Kp69.1) f199 P68_1 P68_2 P68_3 f170 f171 f172 f185 f186 f187 f188 f189 f190 f191 f192 f193 f194 f195 f196 f173 f174 f175 f176 f177 f178 f179 f180 f181 f182 f183 f184 P44_4 P51_4 P58_4 P17_4 P4_4 P24_4 f197 hp1) hZ (hw _ (List.mem_of_getElem? (i := 54) rfl)) (hw _ (List.mem_of_getElem? (i := 31) rfl)) (by decide) (by decide)) q200a q200c (g := (mkF m 213 #[.val (.int l_), .val (.int k_), .val (.int f_), .val (.int d_), .val (.int e_), .val (.int mo), .val (.int l2), .val (.int k2), .val (.int f2), .val (.int (((mo.toUInt32 >>> ((3 : Int32) &&& 31).toUInt32).toInt32) &&& (3 : Int32))), .val (.ref b5), .val (.ref b10), .val (.ref b37), .val (.int (0 : Int32)), .val (.int (0 : Int32)), .unset] [(.ref b10), (.ref b37)])) rfl (by rw [hml]; rfl) (Steps.refl _) (argsL := [(.ref b10)]) (rest := []) (lenOf pd_86 rfl) rfl (by show 2 * 0 + _ ≤ _; exact Nat.le_of_eq rfl) (hb hby at_213) (fun _ _ => ⟨rfl, e198, (by decide : 38 + 0 ≤ _), (by decide : 78 + 0 ≤ _)⟩)
                  dsimp only [Pt.U, Pt.locs, Pt.cells, Pt.slots] at X200 l200 y200 z200 st200 hQ200
                  subst l200 y200 z200
                  obtain ⟨rfl, N200q, e200⟩ := hQ200
                  have N200 := Fr.app N198 N200q
                  refine OwnFin.step (fun tT kK => st200.trans kK) ?_
                  show OwnFin p e below _ (T200.setTop (mkF m 216 #[.val (.int l_), .val (.int k_), .val (.int f_), .val (.int d_), .val (.int e_), .val (.int mo), .val (.int l2), .val (.int k2), .val (.int f2), .val (.int (((mo.toUInt32 >>> ((3 : Int32) &&& 31).toUInt32).toInt32) &&& (3 : Int32))), .val (.ref b5), .val (.ref b10), .val (.ref b37), .val (.int (0 : Int32)), .val (.int (0 : Int32)), .unset] [(.int (if ((OwnV k2) = (OwnV k_) ∧ (OwnV f2) = (OwnV f_) ∧ (OwnV l2) = (OwnV l_)) then 1 else 0))]))
                  rw [if_neg (fun q => hc103 q.1.symm)]
                  show OwnFin p e below _ (T200.setTop (mkF m 216 #[.val (.int l_), .val (.int k_), .val (.int f_), .val (.int d_), .val (.int e_), .val (.int mo), .val (.int l2), .val (.int k2), .val (.int f2), .val (.int (((mo.toUInt32 >>> ((3 : Int32) &&& 31).toUInt32).toInt32) &&& (3 : Int32))), .val (.ref b5), .val (.ref b10), .val (.ref b37), .val (.int (0 : Int32)), .val (.int (0 : Int32)), .unset] [(.int (0 : Int32))]))
                  refine OwnFin.step (fun tT kK => XS.istore X200.here hx rfl (hb hby at_216) rfl (l' := #[.val (.int l_), .val (.int k_), .val (.int f_), .val (.int d_), .val (.int e_), .val (.int mo), .val (.int l2), .val (.int k2), .val (.int f2), .val (.int (((mo.toUInt32 >>> ((3 : Int32) &&& 31).toUInt32).toInt32) &&& (3 : Int32))), .val (.ref b5), .val (.ref b10), .val (.ref b37), .val (.int (0 : Int32)), .val (.int (0 : Int32)), .val (.int (0 : Int32))]) rfl kK) ?_
                  show OwnFin p e below _ (T200.setTop (mkF m 218 #[.val (.int l_), .val (.int k_), .val (.int f_), .val (.int d_), .val (.int e_), .val (.int mo), .val (.int l2), .val (.int k2), .val (.int f2), .val (.int (((mo.toUInt32 >>> ((3 : Int32) &&& 31).toUInt32).toInt32) &&& (3 : Int32))), .val (.ref b5), .val (.ref b10), .val (.ref b37), .val (.int (0 : Int32)), .val (.int (0 : Int32)), .val (.int (0 : Int32))] []))
                  refine OwnFin.step (fun tT kK => XS.iload X200.here hx rfl (hb hby at_218) rfl kK) ?_
                  show OwnFin p e below _ (T200.setTop (mkF m 220 #[.val (.int l_), .val (.int k_), .val (.int f_), .val (.int d_), .val (.int e_), .val (.int mo), .val (.int l2), .val (.int k2), .val (.int f2), .val (.int (((mo.toUInt32 >>> ((3 : Int32) &&& 31).toUInt32).toInt32) &&& (3 : Int32))), .val (.ref b5), .val (.ref b10), .val (.ref b37), .val (.int (0 : Int32)), .val (.int (0 : Int32)), .val (.int (0 : Int32))] [(.int (0 : Int32))]))
                  refine OwnFin.step (fun tT kK => XS.iload X200.here hx rfl (hb hby at_220) rfl kK) ?_
                  show OwnFin p e below _ (T200.setTop (mkF m 222 #[.val (.int l_), .val (.int k_), .val (.int f_), .val (.int d_), .val (.int e_), .val (.int mo), .val (.int l2), .val (.int k2), .val (.int f2), .val (.int (((mo.toUInt32 >>> ((3 : Int32) &&& 31).toUInt32).toInt32) &&& (3 : Int32))), .val (.ref b5), .val (.ref b10), .val (.ref b37), .val (.int (0 : Int32)), .val (.int (0 : Int32)), .val (.int (0 : Int32))] [(.int (0 : Int32)), (.int (0 : Int32))]))
                  refine OwnFin.step (fun tT kK => XS.icmpNo X200.here hx rfl (hb hby at_222) rfl (teq (rfl : (0 : Int32) = (0 : Int32))).2 kK) ?_
                  show OwnFin p e below _ (T200.setTop (mkF m 225 #[.val (.int l_), .val (.int k_), .val (.int f_), .val (.int d_), .val (.int e_), .val (.int mo), .val (.int l2), .val (.int k2), .val (.int f2), .val (.int (((mo.toUInt32 >>> ((3 : Int32) &&& 31).toUInt32).toInt32) &&& (3 : Int32))), .val (.ref b5), .val (.ref b10), .val (.ref b37), .val (.int (0 : Int32)), .val (.int (0 : Int32)), .val (.int (0 : Int32))] []))
                  refine OwnFin.step (fun tT kK => XS.iload X200.here hx rfl (hb hby at_225) rfl kK) ?_
                  show OwnFin p e below _ (T200.setTop (mkF m 227 #[.val (.int l_), .val (.int k_), .val (.int f_), .val (.int d_), .val (.int e_), .val (.int mo), .val (.int l2), .val (.int k2), .val (.int f2), .val (.int (((mo.toUInt32 >>> ((3 : Int32) &&& 31).toUInt32).toInt32) &&& (3 : Int32))), .val (.ref b5), .val (.ref b10), .val (.ref b37), .val (.int (0 : Int32)), .val (.int (0 : Int32)), .val (.int (0 : Int32))] [(.int (0 : Int32))]))
                  refine OwnFin.step (fun tT kK => XS.iload X200.here hx rfl (hb hby at_227) rfl kK) ?_
                  show OwnFin p e below _ (T200.setTop (mkF m 229 #[.val (.int l_), .val (.int k_), .val (.int f_), .val (.int d_), .val (.int e_), .val (.int mo), .val (.int l2), .val (.int k2), .val (.int f2), .val (.int (((mo.toUInt32 >>> ((3 : Int32) &&& 31).toUInt32).toInt32) &&& (3 : Int32))), .val (.ref b5), .val (.ref b10), .val (.ref b37), .val (.int (0 : Int32)), .val (.int (0 : Int32)), .val (.int (0 : Int32))] [(.int (0 : Int32)), (.int (0 : Int32))]))
                  refine OwnFin.step (fun tT kK => XS.icmpNo X200.here hx rfl (hb hby at_229) rfl (teq (rfl : (0 : Int32) = (0 : Int32))).2 kK) ?_
                  show OwnFin p e below _ (T200.setTop (mkF m 232 #[.val (.int l_), .val (.int k_), .val (.int f_), .val (.int d_), .val (.int e_), .val (.int mo), .val (.int l2), .val (.int k2), .val (.int f2), .val (.int (((mo.toUInt32 >>> ((3 : Int32) &&& 31).toUInt32).toInt32) &&& (3 : Int32))), .val (.ref b5), .val (.ref b10), .val (.ref b37), .val (.int (0 : Int32)), .val (.int (0 : Int32)), .val (.int (0 : Int32))] []))
                  refine OwnFin.step (fun tT kK => XS.iconst X200.here hx rfl (hb hby at_232) kK) ?_
                  show OwnFin p e below _ (T200.setTop (mkF m 233 #[.val (.int l_), .val (.int k_), .val (.int f_), .val (.int d_), .val (.int e_), .val (.int mo), .val (.int l2), .val (.int k2), .val (.int f2), .val (.int (((mo.toUInt32 >>> ((3 : Int32) &&& 31).toUInt32).toInt32) &&& (3 : Int32))), .val (.ref b5), .val (.ref b10), .val (.ref b37), .val (.int (0 : Int32)), .val (.int (0 : Int32)), .val (.int (0 : Int32))] [(.int (1 : Int32))]))
                  refine OwnFin.step (fun tT kK => XS.goto X200.here hx rfl (pc0 := 233) (pc' := 237) rfl (hb hby at_233) (by decide) (by decide) kK) ?_
                  show OwnFin p e below _ (T200.setTop (mkF m 237 #[.val (.int l_), .val (.int k_), .val (.int f_), .val (.int d_), .val (.int e_), .val (.int mo), .val (.int l2), .val (.int k2), .val (.int f2), .val (.int (((mo.toUInt32 >>> ((3 : Int32) &&& 31).toUInt32).toInt32) &&& (3 : Int32))), .val (.ref b5), .val (.ref b10), .val (.ref b37), .val (.int (0 : Int32)), .val (.int (0 : Int32)), .val (.int (0 : Int32))] [(.int (1 : Int32))]))
                  obtain ⟨fs201, hr201, hrun201, hended201, hW201⟩ := X200.leaveW (s := s) hS58 (by rw [e200]; exact (Nat.le_trans (Nat.le_refl T58.heap.size) (Nat.le_trans (Nat.le_refl _) K68.1))) (v := (some (.int (1 : Int32)))) (fun h => by rw [Bd.returns] at h; cases h)
                  refine ⟨_, _, retN X200 hx (t := .boolean) Bd.returns (by simp) (hb hby at_237) hr201, hrun201, hended201, _, _, rfl, ?_, (by show CHr Z OwnEL s.vm s.heap T200.vm T200.heap; rw [hh, e200]; exact C70.trans (CHv.at X200 hZ hEL C70.1)), hW201.1, hW201.2.1, hW201.2.2.1, hW201.2.2.2.mono (by decide) (by decide)⟩
                  show Q0 Z l_ k_ f_ d_ e_ mo cs h0 n0 _ T200.heap _
                  rw [e200]
                  exact ⟨rfl, N200, Kp69⟩
              · skip
                rw [if_neg hc101]
                show OwnFin p e below _ (T100.setTop (mkF m 172 #[.val (.int l_), .val (.int k_), .val (.int f_), .val (.int d_), .val (.int e_), .val (.int mo), .val (.int l2), .val (.int k2), .val (.int f2), .val (.int (((mo.toUInt32 >>> ((3 : Int32) &&& 31).toUInt32).toInt32) &&& (3 : Int32))), .val (.ref b5), .val (.ref b10), .val (.ref b37), .unset, .unset, .unset] [(.int (0 : Int32))]))
                refine OwnFin.step (fun tT kK => XS.ifYes X100.here hx rfl (pc0 := 172) (pc' := 197) rfl (hb hby at_172) rfl ((if0 _ _).trans (teq (rfl : (0 : Int32) = (0 : Int32))).1) (by decide) (by decide) kK) ?_
                show OwnFin p e below _ (T100.setTop (mkF m 197 #[.val (.int l_), .val (.int k_), .val (.int f_), .val (.int d_), .val (.int e_), .val (.int mo), .val (.int l2), .val (.int k2), .val (.int f2), .val (.int (((mo.toUInt32 >>> ((3 : Int32) &&& 31).toUInt32).toInt32) &&& (3 : Int32))), .val (.ref b5), .val (.ref b10), .val (.ref b37), .unset, .unset, .unset] []))
                refine OwnFin.step (fun tT kK => XS.iconst X100.here hx rfl (hb hby at_197) kK) ?_
                show OwnFin p e below _ (T100.setTop (mkF m 198 #[.val (.int l_), .val (.int k_), .val (.int f_), .val (.int d_), .val (.int e_), .val (.int mo), .val (.int l2), .val (.int k2), .val (.int f2), .val (.int (((mo.toUInt32 >>> ((3 : Int32) &&& 31).toUInt32).toInt32) &&& (3 : Int32))), .val (.ref b5), .val (.ref b10), .val (.ref b37), .unset, .unset, .unset] [(.int (0 : Int32))]))
                refine OwnFin.step (fun tT kK => XS.istore X100.here hx rfl (hb hby at_198) rfl (l' := #[.val (.int l_), .val (.int k_), .val (.int f_), .val (.int d_), .val (.int e_), .val (.int mo), .val (.int l2), .val (.int k2), .val (.int f2), .val (.int (((mo.toUInt32 >>> ((3 : Int32) &&& 31).toUInt32).toInt32) &&& (3 : Int32))), .val (.ref b5), .val (.ref b10), .val (.ref b37), .val (.int (0 : Int32)), .unset, .unset]) rfl kK) ?_
                show OwnFin p e below _ (T100.setTop (mkF m 200 #[.val (.int l_), .val (.int k_), .val (.int f_), .val (.int d_), .val (.int e_), .val (.int mo), .val (.int l2), .val (.int k2), .val (.int f2), .val (.int (((mo.toUInt32 >>> ((3 : Int32) &&& 31).toUInt32).toInt32) &&& (3 : Int32))), .val (.ref b5), .val (.ref b10), .val (.ref b37), .val (.int (0 : Int32)), .unset, .unset] []))
                refine OwnFin.step (fun tT kK => XS.aload X100.here hx rfl (hb hby at_200) rfl rfl kK) ?_
                show OwnFin p e below _ (T100.setTop (mkF m 202 #[.val (.int l_), .val (.int k_), .val (.int f_), .val (.int d_), .val (.int e_), .val (.int mo), .val (.int l2), .val (.int k2), .val (.int f2), .val (.int (((mo.toUInt32 >>> ((3 : Int32) &&& 31).toUInt32).toInt32) &&& (3 : Int32))), .val (.ref b5), .val (.ref b10), .val (.ref b37), .val (.int (0 : Int32)), .unset, .unset] [(.ref b10)]))
                refine OwnFin.step (fun tT kK => XS.aload X100.here hx rfl (hb hby at_202) rfl rfl kK) ?_
                show OwnFin p e below _ (T100.setTop (mkF m 204 #[.val (.int l_), .val (.int k_), .val (.int f_), .val (.int d_), .val (.int e_), .val (.int mo), .val (.int l2), .val (.int k2), .val (.int f2), .val (.int (((mo.toUInt32 >>> ((3 : Int32) &&& 31).toUInt32).toInt32) &&& (3 : Int32))), .val (.ref b5), .val (.ref b10), .val (.ref b37), .val (.int (0 : Int32)), .unset, .unset] [(.ref b37), (.ref b10)]))
                have f202 : Fld Z T68.heap b10 "com/example/limpet/limpet/Hold" "lockName" "Ljava/lang/String;" (.ref b18) := (((((P34_1.ext E37).ext E44).ext E51).ext E58).keep K68 (ninS (Nat.ne_of_lt (Nat.lt_of_lt_of_le (Nat.lt_of_lt_of_le P34_0.lt (Nat.le_refl _)) (Nat.le_of_eq g37.symm))) nin0))
                have f203 : Fld Z T68.heap b10 "com/example/limpet/limpet/Hold" "key" "Ljava/lang/String;" (.ref b5) := (((((P34_2.ext E37).ext E44).ext E51).ext E58).keep K68 (ninS (Nat.ne_of_lt (Nat.lt_of_lt_of_le (Nat.lt_of_lt_of_le P34_0.lt (Nat.le_refl _)) (Nat.le_of_eq g37.symm))) nin0))
                have f204 : Fld Z T68.heap b10 "com/example/limpet/limpet/Hold" "field" "Ljava/lang/String;" (.ref b25) := (((((P34_3.ext E37).ext E44).ext E51).ext E58).keep K68 (ninS (Nat.ne_of_lt (Nat.lt_of_lt_of_le (Nat.lt_of_lt_of_le P34_0.lt (Nat.le_refl _)) (Nat.le_of_eq g37.symm))) nin0))
                have f205 : Exa Z T68.heap b18 "java/lang/String" := (((((((P17_0.ext E24).keep K34).ext E37).ext E44).ext E51).ext E58).keep K68)
                have f206 : Fld Z T68.heap b18 "java/lang/String" "value" "[B" (.ref d19) := (((((((P17_1.ext E24).keep K34 (ninS (Ne.symm (Nat.ne_of_lt (Nat.lt_of_lt_of_le (Nat.lt_of_lt_of_le A10.lt (Nat.le_refl _)) B17_0))) nin0)).ext E37).ext E44).ext E51).ext E58).keep K68 (ninS (Nat.ne_of_lt (Nat.lt_of_lt_of_le (Nat.lt_of_lt_of_le P17_0.lt (Nat.le_trans (Nat.le_trans (Nat.le_refl _) E24.1) K34.1)) (Nat.le_of_eq g37.symm))) nin0))
                have f207 : Fld Z T68.heap b18 "java/lang/String" "coder" "B" (.int (0 : Int32)) := (((((((P17_2.ext E24).keep K34 (ninS (Ne.symm (Nat.ne_of_lt (Nat.lt_of_lt_of_le (Nat.lt_of_lt_of_le A10.lt (Nat.le_refl _)) B17_0))) nin0)).ext E37).ext E44).ext E51).ext E58).keep K68 (ninS (Nat.ne_of_lt (Nat.lt_of_lt_of_le (Nat.lt_of_lt_of_le P17_0.lt (Nat.le_trans (Nat.le_trans (Nat.le_refl _) E24.1) K34.1)) (Nat.le_of_eq g37.symm))) nin0))
                have f208 : Arv Z T68.heap d19 kd20 .byte (OwnL l_) (OwnV l_) (.int (0 : Int32)) := (((((((P17_3.ext E24).keep K34 (ninS (Ne.symm (Exa.neArv (A10.ext E17) P17_3 (hw _ (List.mem_of_getElem? (i := 30) rfl)))) nin0)).ext E37).ext E44).ext E51).ext E58).keep K68 (ninS (Nat.ne_of_lt (Nat.lt_of_lt_of_le (Nat.lt_of_lt_of_le P17_3.lt (Nat.le_trans (Nat.le_trans (Nat.le_refl _) E24.1) K34.1)) (Nat.le_of_eq g37.symm))) nin0))
                have f209 : Exa Z T68.heap b5 "java/lang/String" := (((((((((P4_0.ext E10).ext E17).ext E24).keep K34).ext E37).ext E44).ext E51).ext E58).keep K68)
                have f210 : Fld Z T68.heap b5 "java/lang/String" "value" "[B" (.ref d6) := (((((((((P4_1.ext E10).ext E17).ext E24).keep K34 (ninS (Nat.ne_of_lt (Nat.lt_of_lt_of_le (Nat.lt_of_lt_of_le P4_0.lt (Nat.le_refl _)) (Nat.le_of_eq g10.symm))) nin0)).ext E37).ext E44).ext E51).ext E58).keep K68 (ninS (Nat.ne_of_lt (Nat.lt_of_lt_of_le (Nat.lt_of_lt_of_le P4_0.lt (Nat.le_trans (Nat.le_trans (Nat.le_trans (Nat.le_trans (Nat.le_refl _) E10.1) E17.1) E24.1) K34.1)) (Nat.le_of_eq g37.symm))) nin0))
                have f211 : Fld Z T68.heap b5 "java/lang/String" "coder" "B" (.int (0 : Int32)) := (((((((((P4_2.ext E10).ext E17).ext E24).keep K34 (ninS (Nat.ne_of_lt (Nat.lt_of_lt_of_le (Nat.lt_of_lt_of_le P4_0.lt (Nat.le_refl _)) (Nat.le_of_eq g10.symm))) nin0)).ext E37).ext E44).ext E51).ext E58).keep K68 (ninS (Nat.ne_of_lt (Nat.lt_of_lt_of_le (Nat.lt_of_lt_of_le P4_0.lt (Nat.le_trans (Nat.le_trans (Nat.le_trans (Nat.le_trans (Nat.le_refl _) E10.1) E17.1) E24.1) K34.1)) (Nat.le_of_eq g37.symm))) nin0))
                have f212 : Arv Z T68.heap d6 kd7 .byte (OwnL k_) (OwnV k_) (.int (0 : Int32)) := (((((((((P4_3.ext E10).ext E17).ext E24).keep K34 (ninS (Nat.ne_of_lt (Nat.lt_of_lt_of_le (Nat.lt_of_lt_of_le P4_3.lt (Nat.le_refl _)) (Nat.le_of_eq g10.symm))) nin0)).ext E37).ext E44).ext E51).ext E58).keep K68 (ninS (Nat.ne_of_lt (Nat.lt_of_lt_of_le (Nat.lt_of_lt_of_le P4_3.lt (Nat.le_trans (Nat.le_trans (Nat.le_trans (Nat.le_trans (Nat.le_refl _) E10.1) E17.1) E24.1) K34.1)) (Nat.le_of_eq g37.symm))) nin0))
                have f213 : Exa Z T68.heap b25 "java/lang/String" := ((((((P24_0.keep K34).ext E37).ext E44).ext E51).ext E58).keep K68)
                have f214 : Fld Z T68.heap b25 "java/lang/String" "value" "[B" (.ref d26) := ((((((P24_1.keep K34 (ninS (Ne.symm (Nat.ne_of_lt (Nat.lt_of_lt_of_le (Nat.lt_of_lt_of_le A10.lt (Nat.le_trans (Nat.le_refl _) E17.1)) B24_0))) nin0)).ext E37).ext E44).ext E51).ext E58).keep K68 (ninS (Nat.ne_of_lt (Nat.lt_of_lt_of_le (Nat.lt_of_lt_of_le P24_0.lt (Nat.le_trans (Nat.le_refl _) K34.1)) (Nat.le_of_eq g37.symm))) nin0))
                have f215 : Fld Z T68.heap b25 "java/lang/String" "coder" "B" (.int (0 : Int32)) := ((((((P24_2.keep K34 (ninS (Ne.symm (Nat.ne_of_lt (Nat.lt_of_lt_of_le (Nat.lt_of_lt_of_le A10.lt (Nat.le_trans (Nat.le_refl _) E17.1)) B24_0))) nin0)).ext E37).ext E44).ext E51).ext E58).keep K68 (ninS (Nat.ne_of_lt (Nat.lt_of_lt_of_le (Nat.lt_of_lt_of_le P24_0.lt (Nat.le_trans (Nat.le_refl _) K34.1)) (Nat.le_of_eq g37.symm))) nin0))
                have f216 : Arv Z T68.heap d26 kd27 .byte (OwnL f_) (OwnV f_) (.int (0 : Int32)) := ((((((P24_3.keep K34 (ninS (Ne.symm (Exa.neArv f30 P24_3 (hw _ (List.mem_of_getElem? (i := 30) rfl)))) nin0)).ext E37).ext E44).ext E51).ext E58).keep K68 (ninS (Nat.ne_of_lt (Nat.lt_of_lt_of_le (Nat.lt_of_lt_of_le P24_3.lt (Nat.le_trans (Nat.le_refl _) K34.1)) (Nat.le_of_eq g37.symm))) nin0))
                have f217 : Exa Z T68.heap b45 "java/lang/String" := (((P44_0.ext E51).ext E58).keep K68)
                have f218 : Fld Z T68.heap b45 "java/lang/String" "value" "[B" (.ref d46) := (((P44_1.ext E51).ext E58).keep K68 (ninS (Ne.symm (Nat.ne_of_lt (Nat.lt_of_lt_of_le (Nat.lt_of_lt_of_le A37.lt (Nat.le_refl _)) B44_0))) nin0))
                have f219 : Fld Z T68.heap b45 "java/lang/String" "coder" "B" (.int (0 : Int32)) := (((P44_2.ext E51).ext E58).keep K68 (ninS (Ne.symm (Nat.ne_of_lt (Nat.lt_of_lt_of_le (Nat.lt_of_lt_of_le A37.lt (Nat.le_refl _)) B44_0))) nin0))
                have f220 : Arv Z T68.heap d46 kd47 .byte (OwnL l2) (OwnV l2) (.int (0 : Int32)) := (((P44_3.ext E51).ext E58).keep K68 (ninS (Ne.symm (Exa.neArv (A37.ext E44) P44_3 (hw _ (List.mem_of_getElem? (i := 30) rfl)))) nin0))
                have f221 : Exa Z T68.heap b52 "java/lang/String" := ((P51_0.ext E58).keep K68)
                have f222 : Fld Z T68.heap b52 "java/lang/String" "value" "[B" (.ref d53) := ((P51_1.ext E58).keep K68 (ninS (Ne.symm (Nat.ne_of_lt (Nat.lt_of_lt_of_le (Nat.lt_of_lt_of_le A37.lt (Nat.le_trans (Nat.le_refl _) E44.1)) B51_0))) nin0))
                have f223 : Fld Z T68.heap b52 "java/lang/String" "coder" "B" (.int (0 : Int32)) := ((P51_2.ext E58).keep K68 (ninS (Ne.symm (Nat.ne_of_lt (Nat.lt_of_lt_of_le (Nat.lt_of_lt_of_le A37.lt (Nat.le_trans (Nat.le_refl _) E44.1)) B51_0))) nin0))
                have f224 : Arv Z T68.heap d53 kd54 .byte (OwnL k2) (OwnV k2) (.int (0 : Int32)) := ((P51_3.ext E58).keep K68 (ninS (Ne.symm (Exa.neArv ((A37.ext E44).ext E51) P51_3 (hw _ (List.mem_of_getElem? (i := 30) rfl)))) nin0))
                have f225 : Exa Z T68.heap b59 "java/lang/String" := (P58_0.keep K68)
                have f226 : Fld Z T68.heap b59 "java/lang/String" "value" "[B" (.ref d60) := (P58_1.keep K68 (ninS (Ne.symm (Nat.ne_of_lt (Nat.lt_of_lt_of_le (Nat.lt_of_lt_of_le A37.lt (Nat.le_trans (Nat.le_trans (Nat.le_refl _) E44.1) E51.1)) B58_0))) nin0))
                have f227 : Fld Z T68.heap b59 "java/lang/String" "coder" "B" (.int (0 : Int32)) := (P58_2.keep K68 (ninS (Ne.symm (Nat.ne_of_lt (Nat.lt_of_lt_of_le (Nat.lt_of_lt_of_le A37.lt (Nat.le_trans (Nat.le_trans (Nat.le_refl _) E44.1) E51.1)) B58_0))) nin0))
                have f228 : Arv Z T68.heap d60 kd61 .byte (OwnL f2) (OwnV f2) (.int (0 : Int32)) := (P58_3.keep K68 (ninS (Ne.symm (Exa.neArv f64 P58_3 (hw _ (List.mem_of_getElem? (i := 30) rfl)))) nin0))
                have f229 : Sta Z T68.heap "java/lang/String" "COMPACT_STRINGS" "Z" (.int cs) := (own_sta_keep (f57.ext E58) K68 (allS (own_nonsta f64) all0))
                have f231 : Exa Z T68.heap b10 "com/example/limpet/limpet/Hold" := (((((P34_0.ext E37).ext E44).ext E51).ext E58).keep K68)
                obtain ⟨cq230, kq230, q230a, q230b, q230c⟩ := isOf hZ e100 f231
                obtain ⟨_, _, ⟨T230, L230, k230, n230⟩, -, X230, ⟨Lc230, hQ230, l230, y230, z230⟩, st230⟩ := X100.virtualBack hx (y := (⟨"com/example/limpet/limpet/Hold", "equals", "(Ljava/lang/Object;)Z"⟩ : MethodName)) (z := (⟨"com/example/limpet/limpet/Hold", "equals", "(Ljava/lang/Object;)Z"⟩ : MethodName)) hown (mvT hZ (hw _ (List.mem_of_getElem? (i := 50) rfl))) (mvT hZ (hw _ (List.mem_of_getElem? (i := 51) rfl))) (notFace_of_selects (args := #[]) (mvT hZ (hw _ (List.mem_of_getElem? (i := 53) rfl)))) (mvT hZ (hw _ (List.mem_of_getElem? (i := 53) rfl))) (mvT hZ (hw _ (List.mem_of_getElem? (i := 52) rfl))) (by decide) (backOf (W := 0) (rm5 l Z a0 hw hEL wS [] b10 b37 b18 d19 kd20 (OwnL l_) (OwnV l_) b5 d6 kd7 (OwnL k_) (OwnV k_) b25 d26 kd27 (OwnL f_) (OwnV f_) b45 d46 kd47 (OwnL l2) (OwnV l2) b52 d53 kd54 (OwnL k2) (OwnV k2) b59 d60 kd61 (OwnL f2) (OwnV f2) cs T68.heap n0 (Nat.le_trans Z0 Kp69.1) P68_0 f202 f203 f204 P68_1 P68_2 P68_3 f205 f206 f207 f208 f209 f210 f211 f212 f213 f214 f215 f216 f217 f218 f219 f220 f221 f222 f223 f224 f225 f226 f227 f228 P17_4 P4_4 P24_4 P44_4 P51_4 P58_4 f229 hp1) hZ (hw _ (List.mem_of_getElem? (i := 54) rfl)) (hw _ (List.mem_of_getElem? (i := 31) rfl)) (by decide) (by decide)) q230a q230c (g := (mkF m 204 #[.val (.int l_), .val (.int k_), .val (.int f_), .val (.int d_), .val (.int e_), .val (.int mo), .val (.int l2), .val (.int k2), .val (.int f2), .val (.int (((mo.toUInt32 >>> ((3 : Int32) &&& 31).toUInt32).toInt32) &&& (3 : Int32))), .val (.ref b5), .val (.ref b10), .val (.ref b37), .val (.int (0 : Int32)), .unset, .unset] [(.ref b37), (.ref b10)])) rfl (by rw [hml]; rfl) (Steps.refl _) (argsL := [(.ref b37)]) (rest := []) (lenOf pd_86 rfl) rfl (by show 2 * 0 + _ ≤ _; exact Nat.le_of_eq rfl) (hb hby at_204) (fun _ _ => ⟨rfl, e100, (by decide : 38 + 0 ≤ _), (by decide : 78 + 0 ≤ _)⟩)
                dsimp only [Pt.U, Pt.locs, Pt.cells, Pt.slots] at X230 l230 y230 z230 st230 hQ230
                subst l230 y230 z230
                obtain ⟨rfl, N230q, e230⟩ := hQ230
                have N230 := Fr.app N100 N230q
                refine OwnFin.step (fun tT kK => st230.trans kK) ?_
                show OwnFin p e below _ (T230.setTop (mkF m 207 #[.val (.int l_), .val (.int k_), .val (.int f_), .val (.int d_), .val (.int e_), .val (.int mo), .val (.int l2), .val (.int k2), .val (.int f2), .val (.int (((mo.toUInt32 >>> ((3 : Int32) &&& 31).toUInt32).toInt32) &&& (3 : Int32))), .val (.ref b5), .val (.ref b10), .val (.ref b37), .val (.int (0 : Int32)), .unset, .unset] [(.int (if ((OwnV k_) = (OwnV k2) ∧ (OwnV f_) = (OwnV f2) ∧ (OwnV l_) = (OwnV l2)) then 1 else 0))]))
                rw [if_neg (fun q => hc101 q.2.2)]
                show OwnFin p e below _ (T230.setTop (mkF m 207 #[.val (.int l_), .val (.int k_), .val (.int f_), .val (.int d_), .val (.int e_), .val (.int mo), .val (.int l2), .val (.int k2), .val (.int f2), .val (.int (((mo.toUInt32 >>> ((3 : Int32) &&& 31).toUInt32).toInt32) &&& (3 : Int32))), .val (.ref b5), .val (.ref b10), .val (.ref b37), .val (.int (0 : Int32)), .unset, .unset] [(.int (0 : Int32))]))
                refine OwnFin.step (fun tT kK => XS.istore X230.here hx rfl (hb hby at_207) rfl (l' := #[.val (.int l_), .val (.int k_), .val (.int f_), .val (.int d_), .val (.int e_), .val (.int mo), .val (.int l2), .val (.int k2), .val (.int f2), .val (.int (((mo.toUInt32 >>> ((3 : Int32) &&& 31).toUInt32).toInt32) &&& (3 : Int32))), .val (.ref b5), .val (.ref b10), .val (.ref b37), .val (.int (0 : Int32)), .val (.int (0 : Int32)), .unset]) rfl kK) ?_
                show OwnFin p e below _ (T230.setTop (mkF m 209 #[.val (.int l_), .val (.int k_), .val (.int f_), .val (.int d_), .val (.int e_), .val (.int mo), .val (.int l2), .val (.int k2), .val (.int f2), .val (.int (((mo.toUInt32 >>> ((3 : Int32) &&& 31).toUInt32).toInt32) &&& (3 : Int32))), .val (.ref b5), .val (.ref b10), .val (.ref b37), .val (.int (0 : Int32)), .val (.int (0 : Int32)), .unset] []))
                refine OwnFin.step (fun tT kK => XS.aload X230.here hx rfl (hb hby at_209) rfl rfl kK) ?_
                show OwnFin p e below _ (T230.setTop (mkF m 211 #[.val (.int l_), .val (.int k_), .val (.int f_), .val (.int d_), .val (.int e_), .val (.int mo), .val (.int l2), .val (.int k2), .val (.int f2), .val (.int (((mo.toUInt32 >>> ((3 : Int32) &&& 31).toUInt32).toInt32) &&& (3 : Int32))), .val (.ref b5), .val (.ref b10), .val (.ref b37), .val (.int (0 : Int32)), .val (.int (0 : Int32)), .unset] [(.ref b37)]))
                refine OwnFin.step (fun tT kK => XS.aload X230.here hx rfl (hb hby at_211) rfl rfl kK) ?_
                show OwnFin p e below _ (T230.setTop (mkF m 213 #[.val (.int l_), .val (.int k_), .val (.int f_), .val (.int d_), .val (.int e_), .val (.int mo), .val (.int l2), .val (.int k2), .val (.int f2), .val (.int (((mo.toUInt32 >>> ((3 : Int32) &&& 31).toUInt32).toInt32) &&& (3 : Int32))), .val (.ref b5), .val (.ref b10), .val (.ref b37), .val (.int (0 : Int32)), .val (.int (0 : Int32)), .unset] [(.ref b10), (.ref b37)]))
                obtain ⟨cq232, kq232, q232a, q232b, q232c⟩ := isOf hZ e230 P68_0
                obtain ⟨_, _, ⟨T232, L232, k232, n232⟩, -, X232, ⟨Lc232, hQ232, l232, y232, z232⟩, st232⟩ := X230.virtualBack hx (y := (⟨"com/example/limpet/limpet/Hold", "equals", "(Ljava/lang/Object;)Z"⟩ : MethodName)) (z := (⟨"com/example/limpet/limpet/Hold", "equals", "(Ljava/lang/Object;)Z"⟩ : MethodName)) hown (mvT hZ (hw _ (List.mem_of_getElem? (i := 50) rfl))) (mvT hZ (hw _ (List.mem_of_getElem? (i := 51) rfl))) (notFace_of_selects (args := #[]) (mvT hZ (hw _ (List.mem_of_getElem? (i := 53) rfl)))) (mvT hZ (hw _ (List.mem_of_getElem? (i := 53) rfl))) (mvT hZ (hw _ (List.mem_of_getElem? (i := 52) rfl))) (by decide) (backOf (W := 0) (rm5 l Z a0 hw hEL wS [] b37 b10 b45 d46 kd47 (OwnL l2) (OwnV l2) b52 d53 kd54 (OwnL k2) (OwnV k2) b59 d60 kd61 (OwnL f2) (OwnV f2) b18 d19 kd20 (OwnL l_) (OwnV l_) b5 d6 kd7 (OwnL k_) (OwnV k_) b25 d26 kd27 (OwnL f_) (OwnV f_) cs T68.heap n0 (Nat.le_trans Z0 Kp69.1) f231 P68_1 P68_2 P68_3 f202 f203 f204 f217 f218 f219 f220 f221 f222 f223 f224 f225 f226 f227 f228 f205 f206 f207 f208 f209 f210 f211 f212 f213 f214 f215 f216 P44_4 P51_4 P58_4 P17_4 P4_4 P24_4 f229 hp1) hZ (hw _ (List.mem_of_getElem? (i := 54) rfl)) (hw _ (List.mem_of_getElem? (i := 31) rfl)) (by decide) (by decide)) q232a q232c (g := (mkF m 213 #[.val (.int l_), .val (.int k_), .val (.int f_), .val (.int d_), .val (.int e_), .val (.int mo), .val (.int l2), .val (.int k2), .val (.int f2), .val (.int (((mo.toUInt32 >>> ((3 : Int32) &&& 31).toUInt32).toInt32) &&& (3 : Int32))), .val (.ref b5), .val (.ref b10), .val (.ref b37), .val (.int (0 : Int32)), .val (.int (0 : Int32)), .unset] [(.ref b10), (.ref b37)])) rfl (by rw [hml]; rfl) (Steps.refl _) (argsL := [(.ref b10)]) (rest := []) (lenOf pd_86 rfl) rfl (by show 2 * 0 + _ ≤ _; exact Nat.le_of_eq rfl) (hb hby at_213) (fun _ _ => ⟨rfl, e230, (by decide : 38 + 0 ≤ _), (by decide : 78 + 0 ≤ _)⟩)
                dsimp only [Pt.U, Pt.locs, Pt.cells, Pt.slots] at X232 l232 y232 z232 st232 hQ232
                subst l232 y232 z232
                obtain ⟨rfl, N232q, e232⟩ := hQ232
                have N232 := Fr.app N230 N232q
                refine OwnFin.step (fun tT kK => st232.trans kK) ?_
                show OwnFin p e below _ (T232.setTop (mkF m 216 #[.val (.int l_), .val (.int k_), .val (.int f_), .val (.int d_), .val (.int e_), .val (.int mo), .val (.int l2), .val (.int k2), .val (.int f2), .val (.int (((mo.toUInt32 >>> ((3 : Int32) &&& 31).toUInt32).toInt32) &&& (3 : Int32))), .val (.ref b5), .val (.ref b10), .val (.ref b37), .val (.int (0 : Int32)), .val (.int (0 : Int32)), .unset] [(.int (if ((OwnV k2) = (OwnV k_) ∧ (OwnV f2) = (OwnV f_) ∧ (OwnV l2) = (OwnV l_)) then 1 else 0))]))
                rw [if_neg (fun q => hc101 q.2.2.symm)]
                show OwnFin p e below _ (T232.setTop (mkF m 216 #[.val (.int l_), .val (.int k_), .val (.int f_), .val (.int d_), .val (.int e_), .val (.int mo), .val (.int l2), .val (.int k2), .val (.int f2), .val (.int (((mo.toUInt32 >>> ((3 : Int32) &&& 31).toUInt32).toInt32) &&& (3 : Int32))), .val (.ref b5), .val (.ref b10), .val (.ref b37), .val (.int (0 : Int32)), .val (.int (0 : Int32)), .unset] [(.int (0 : Int32))]))
                refine OwnFin.step (fun tT kK => XS.istore X232.here hx rfl (hb hby at_216) rfl (l' := #[.val (.int l_), .val (.int k_), .val (.int f_), .val (.int d_), .val (.int e_), .val (.int mo), .val (.int l2), .val (.int k2), .val (.int f2), .val (.int (((mo.toUInt32 >>> ((3 : Int32) &&& 31).toUInt32).toInt32) &&& (3 : Int32))), .val (.ref b5), .val (.ref b10), .val (.ref b37), .val (.int (0 : Int32)), .val (.int (0 : Int32)), .val (.int (0 : Int32))]) rfl kK) ?_
                show OwnFin p e below _ (T232.setTop (mkF m 218 #[.val (.int l_), .val (.int k_), .val (.int f_), .val (.int d_), .val (.int e_), .val (.int mo), .val (.int l2), .val (.int k2), .val (.int f2), .val (.int (((mo.toUInt32 >>> ((3 : Int32) &&& 31).toUInt32).toInt32) &&& (3 : Int32))), .val (.ref b5), .val (.ref b10), .val (.ref b37), .val (.int (0 : Int32)), .val (.int (0 : Int32)), .val (.int (0 : Int32))] []))
                refine OwnFin.step (fun tT kK => XS.iload X232.here hx rfl (hb hby at_218) rfl kK) ?_
                show OwnFin p e below _ (T232.setTop (mkF m 220 #[.val (.int l_), .val (.int k_), .val (.int f_), .val (.int d_), .val (.int e_), .val (.int mo), .val (.int l2), .val (.int k2), .val (.int f2), .val (.int (((mo.toUInt32 >>> ((3 : Int32) &&& 31).toUInt32).toInt32) &&& (3 : Int32))), .val (.ref b5), .val (.ref b10), .val (.ref b37), .val (.int (0 : Int32)), .val (.int (0 : Int32)), .val (.int (0 : Int32))] [(.int (0 : Int32))]))
                refine OwnFin.step (fun tT kK => XS.iload X232.here hx rfl (hb hby at_220) rfl kK) ?_
                show OwnFin p e below _ (T232.setTop (mkF m 222 #[.val (.int l_), .val (.int k_), .val (.int f_), .val (.int d_), .val (.int e_), .val (.int mo), .val (.int l2), .val (.int k2), .val (.int f2), .val (.int (((mo.toUInt32 >>> ((3 : Int32) &&& 31).toUInt32).toInt32) &&& (3 : Int32))), .val (.ref b5), .val (.ref b10), .val (.ref b37), .val (.int (0 : Int32)), .val (.int (0 : Int32)), .val (.int (0 : Int32))] [(.int (0 : Int32)), (.int (0 : Int32))]))
                refine OwnFin.step (fun tT kK => XS.icmpNo X232.here hx rfl (hb hby at_222) rfl (teq (rfl : (0 : Int32) = (0 : Int32))).2 kK) ?_
                show OwnFin p e below _ (T232.setTop (mkF m 225 #[.val (.int l_), .val (.int k_), .val (.int f_), .val (.int d_), .val (.int e_), .val (.int mo), .val (.int l2), .val (.int k2), .val (.int f2), .val (.int (((mo.toUInt32 >>> ((3 : Int32) &&& 31).toUInt32).toInt32) &&& (3 : Int32))), .val (.ref b5), .val (.ref b10), .val (.ref b37), .val (.int (0 : Int32)), .val (.int (0 : Int32)), .val (.int (0 : Int32))] []))
                refine OwnFin.step (fun tT kK => XS.iload X232.here hx rfl (hb hby at_225) rfl kK) ?_
                show OwnFin p e below _ (T232.setTop (mkF m 227 #[.val (.int l_), .val (.int k_), .val (.int f_), .val (.int d_), .val (.int e_), .val (.int mo), .val (.int l2), .val (.int k2), .val (.int f2), .val (.int (((mo.toUInt32 >>> ((3 : Int32) &&& 31).toUInt32).toInt32) &&& (3 : Int32))), .val (.ref b5), .val (.ref b10), .val (.ref b37), .val (.int (0 : Int32)), .val (.int (0 : Int32)), .val (.int (0 : Int32))] [(.int (0 : Int32))]))
                refine OwnFin.step (fun tT kK => XS.iload X232.here hx rfl (hb hby at_227) rfl kK) ?_
                show OwnFin p e below _ (T232.setTop (mkF m 229 #[.val (.int l_), .val (.int k_), .val (.int f_), .val (.int d_), .val (.int e_), .val (.int mo), .val (.int l2), .val (.int k2), .val (.int f2), .val (.int (((mo.toUInt32 >>> ((3 : Int32) &&& 31).toUInt32).toInt32) &&& (3 : Int32))), .val (.ref b5), .val (.ref b10), .val (.ref b37), .val (.int (0 : Int32)), .val (.int (0 : Int32)), .val (.int (0 : Int32))] [(.int (0 : Int32)), (.int (0 : Int32))]))
                refine OwnFin.step (fun tT kK => XS.icmpNo X232.here hx rfl (hb hby at_229) rfl (teq (rfl : (0 : Int32) = (0 : Int32))).2 kK) ?_
                show OwnFin p e below _ (T232.setTop (mkF m 232 #[.val (.int l_), .val (.int k_), .val (.int f_), .val (.int d_), .val (.int e_), .val (.int mo), .val (.int l2), .val (.int k2), .val (.int f2), .val (.int (((mo.toUInt32 >>> ((3 : Int32) &&& 31).toUInt32).toInt32) &&& (3 : Int32))), .val (.ref b5), .val (.ref b10), .val (.ref b37), .val (.int (0 : Int32)), .val (.int (0 : Int32)), .val (.int (0 : Int32))] []))
                refine OwnFin.step (fun tT kK => XS.iconst X232.here hx rfl (hb hby at_232) kK) ?_
                show OwnFin p e below _ (T232.setTop (mkF m 233 #[.val (.int l_), .val (.int k_), .val (.int f_), .val (.int d_), .val (.int e_), .val (.int mo), .val (.int l2), .val (.int k2), .val (.int f2), .val (.int (((mo.toUInt32 >>> ((3 : Int32) &&& 31).toUInt32).toInt32) &&& (3 : Int32))), .val (.ref b5), .val (.ref b10), .val (.ref b37), .val (.int (0 : Int32)), .val (.int (0 : Int32)), .val (.int (0 : Int32))] [(.int (1 : Int32))]))
                refine OwnFin.step (fun tT kK => XS.goto X232.here hx rfl (pc0 := 233) (pc' := 237) rfl (hb hby at_233) (by decide) (by decide) kK) ?_
                show OwnFin p e below _ (T232.setTop (mkF m 237 #[.val (.int l_), .val (.int k_), .val (.int f_), .val (.int d_), .val (.int e_), .val (.int mo), .val (.int l2), .val (.int k2), .val (.int f2), .val (.int (((mo.toUInt32 >>> ((3 : Int32) &&& 31).toUInt32).toInt32) &&& (3 : Int32))), .val (.ref b5), .val (.ref b10), .val (.ref b37), .val (.int (0 : Int32)), .val (.int (0 : Int32)), .val (.int (0 : Int32))] [(.int (1 : Int32))]))
                obtain ⟨fs233, hr233, hrun233, hended233, hW233⟩ := X232.leaveW (s := s) hS58 (by rw [e232]; exact (Nat.le_trans (Nat.le_refl T58.heap.size) (Nat.le_trans (Nat.le_refl _) K68.1))) (v := (some (.int (1 : Int32)))) (fun h => by rw [Bd.returns] at h; cases h)
                refine ⟨_, _, retN X232 hx (t := .boolean) Bd.returns (by simp) (hb hby at_237) hr233, hrun233, hended233, _, _, rfl, ?_, (by show CHr Z OwnEL s.vm s.heap T232.vm T232.heap; rw [hh, e232]; exact C70.trans (CHv.at X232 hZ hEL C70.1)), hW233.1, hW233.2.1, hW233.2.2.1, hW233.2.2.2.mono (by decide) (by decide)⟩
                show Q0 Z l_ k_ f_ d_ e_ mo cs h0 n0 _ T232.heap _
                rw [e232]
                exact ⟨rfl, N232, Kp69⟩
      by_cases hc234 : (mo &&& (4 : Int32)) = (0 : Int32)
      · skip
        refine OwnFin.step (fun tT kK => XS.ifYes X0.here hx rfl (pc0 := 37) (pc' := 49) rfl (hb hby at_37) rfl ((if0 _ _).trans (teq (hc234 : (mo &&& (4 : Int32)) = (0 : Int32))).1) (by decide) (by decide) kK) ?_
        show OwnFin p e below _ (s₁.setTop (mkF m 49 #[.val (.int l_), .val (.int k_), .val (.int f_), .val (.int d_), .val (.int e_), .val (.int mo), .val (.int l2), .val (.int k2), .unset, .unset, .unset, .unset, .unset, .unset, .unset, .unset] []))
        refine OwnFin.step (fun tT kK => XS.iloadN X0.here hx rfl (hb hby at_49) rfl kK) ?_
        show OwnFin p e below _ (s₁.setTop (mkF m 50 #[.val (.int l_), .val (.int k_), .val (.int f_), .val (.int d_), .val (.int e_), .val (.int mo), .val (.int l2), .val (.int k2), .unset, .unset, .unset, .unset, .unset, .unset, .unset, .unset] [(.int f_)]))
        exact key3 _
      · skip
        refine OwnFin.step (fun tT kK => XS.ifNo X0.here hx rfl (hb hby at_37) rfl ((if0 _ _).trans (feq (hc234 : ¬ ((mo &&& (4 : Int32)) = (0 : Int32)))).1) kK) ?_
        show OwnFin p e below _ (s₁.setTop (mkF m 40 #[.val (.int l_), .val (.int k_), .val (.int f_), .val (.int d_), .val (.int e_), .val (.int mo), .val (.int l2), .val (.int k2), .unset, .unset, .unset, .unset, .unset, .unset, .unset, .unset] []))
        refine OwnFin.step (fun tT kK => XS.iloadN X0.here hx rfl (hb hby at_40) rfl kK) ?_
        show OwnFin p e below _ (s₁.setTop (mkF m 41 #[.val (.int l_), .val (.int k_), .val (.int f_), .val (.int d_), .val (.int e_), .val (.int mo), .val (.int l2), .val (.int k2), .unset, .unset, .unset, .unset, .unset, .unset, .unset, .unset] [(.int f_)]))
        refine OwnFin.step (fun tT kK => XS.iloadN X0.here hx rfl (hb hby at_41) rfl kK) ?_
        show OwnFin p e below _ (s₁.setTop (mkF m 42 #[.val (.int l_), .val (.int k_), .val (.int f_), .val (.int d_), .val (.int e_), .val (.int mo), .val (.int l2), .val (.int k2), .unset, .unset, .unset, .unset, .unset, .unset, .unset, .unset] [(.int d_), (.int f_)]))
        refine OwnFin.step (fun tT kK => XS.ixor X0.here hx rfl (hb hby at_42) rfl kK) ?_
        show OwnFin p e below _ (s₁.setTop (mkF m 43 #[.val (.int l_), .val (.int k_), .val (.int f_), .val (.int d_), .val (.int e_), .val (.int mo), .val (.int l2), .val (.int k2), .unset, .unset, .unset, .unset, .unset, .unset, .unset, .unset] [(.int (f_ ^^^ d_))]))
        refine OwnFin.step (fun tT kK => XS.iload X0.here hx rfl (hb hby at_43) rfl kK) ?_
        show OwnFin p e below _ (s₁.setTop (mkF m 45 #[.val (.int l_), .val (.int k_), .val (.int f_), .val (.int d_), .val (.int e_), .val (.int mo), .val (.int l2), .val (.int k2), .unset, .unset, .unset, .unset, .unset, .unset, .unset, .unset] [(.int e_), (.int (f_ ^^^ d_))]))
        refine OwnFin.step (fun tT kK => XS.ixor X0.here hx rfl (hb hby at_45) rfl kK) ?_
        show OwnFin p e below _ (s₁.setTop (mkF m 46 #[.val (.int l_), .val (.int k_), .val (.int f_), .val (.int d_), .val (.int e_), .val (.int mo), .val (.int l2), .val (.int k2), .unset, .unset, .unset, .unset, .unset, .unset, .unset, .unset] [(.int ((f_ ^^^ d_) ^^^ e_))]))
        refine OwnFin.step (fun tT kK => XS.goto X0.here hx rfl (pc0 := 46) (pc' := 50) rfl (hb hby at_46) (by decide) (by decide) kK) ?_
        show OwnFin p e below _ (s₁.setTop (mkF m 50 #[.val (.int l_), .val (.int k_), .val (.int f_), .val (.int d_), .val (.int e_), .val (.int mo), .val (.int l2), .val (.int k2), .unset, .unset, .unset, .unset, .unset, .unset, .unset, .unset] [(.int ((f_ ^^^ d_) ^^^ e_))]))
        exact key3 _
    by_cases hc235 : (mo &&& (2 : Int32)) = (0 : Int32)
    · skip
      refine OwnFin.step (fun tT kK => XS.ifYes X0.here hx rfl (pc0 := 20) (pc' := 30) rfl (hb hby at_20) rfl ((if0 _ _).trans (teq (hc235 : (mo &&& (2 : Int32)) = (0 : Int32))).1) (by decide) (by decide) kK) ?_
      show OwnFin p e below _ (s₁.setTop (mkF m 30 #[.val (.int l_), .val (.int k_), .val (.int f_), .val (.int d_), .val (.int e_), .val (.int mo), .val (.int l2), .unset, .unset, .unset, .unset, .unset, .unset, .unset, .unset, .unset] []))
      refine OwnFin.step (fun tT kK => XS.iloadN X0.here hx rfl (hb hby at_30) rfl kK) ?_
      show OwnFin p e below _ (s₁.setTop (mkF m 31 #[.val (.int l_), .val (.int k_), .val (.int f_), .val (.int d_), .val (.int e_), .val (.int mo), .val (.int l2), .unset, .unset, .unset, .unset, .unset, .unset, .unset, .unset, .unset] [(.int k_)]))
      exact key2 _
    · skip
      refine OwnFin.step (fun tT kK => XS.ifNo X0.here hx rfl (hb hby at_20) rfl ((if0 _ _).trans (feq (hc235 : ¬ ((mo &&& (2 : Int32)) = (0 : Int32)))).1) kK) ?_
      show OwnFin p e below _ (s₁.setTop (mkF m 23 #[.val (.int l_), .val (.int k_), .val (.int f_), .val (.int d_), .val (.int e_), .val (.int mo), .val (.int l2), .unset, .unset, .unset, .unset, .unset, .unset, .unset, .unset, .unset] []))
      refine OwnFin.step (fun tT kK => XS.iloadN X0.here hx rfl (hb hby at_23) rfl kK) ?_
      show OwnFin p e below _ (s₁.setTop (mkF m 24 #[.val (.int l_), .val (.int k_), .val (.int f_), .val (.int d_), .val (.int e_), .val (.int mo), .val (.int l2), .unset, .unset, .unset, .unset, .unset, .unset, .unset, .unset, .unset] [(.int k_)]))
      refine OwnFin.step (fun tT kK => XS.iload X0.here hx rfl (hb hby at_24) rfl kK) ?_
      show OwnFin p e below _ (s₁.setTop (mkF m 26 #[.val (.int l_), .val (.int k_), .val (.int f_), .val (.int d_), .val (.int e_), .val (.int mo), .val (.int l2), .unset, .unset, .unset, .unset, .unset, .unset, .unset, .unset, .unset] [(.int e_), (.int k_)]))
      refine OwnFin.step (fun tT kK => XS.ixor X0.here hx rfl (hb hby at_26) rfl kK) ?_
      show OwnFin p e below _ (s₁.setTop (mkF m 27 #[.val (.int l_), .val (.int k_), .val (.int f_), .val (.int d_), .val (.int e_), .val (.int mo), .val (.int l2), .unset, .unset, .unset, .unset, .unset, .unset, .unset, .unset, .unset] [(.int (k_ ^^^ e_))]))
      refine OwnFin.step (fun tT kK => XS.goto X0.here hx rfl (pc0 := 27) (pc' := 31) rfl (hb hby at_27) (by decide) (by decide) kK) ?_
      show OwnFin p e below _ (s₁.setTop (mkF m 31 #[.val (.int l_), .val (.int k_), .val (.int f_), .val (.int d_), .val (.int e_), .val (.int mo), .val (.int l2), .unset, .unset, .unset, .unset, .unset, .unset, .unset, .unset, .unset] [(.int (k_ ^^^ e_))]))
      exact key2 _
  by_cases hc236 : (mo &&& (1 : Int32)) = (0 : Int32)
  · skip
    refine OwnFin.step (fun tT kK => XS.ifYes X0.here hx rfl (pc0 := 4) (pc' := 13) rfl (hb hby at_4) rfl ((if0 _ _).trans (teq (hc236 : (mo &&& (1 : Int32)) = (0 : Int32))).1) (by decide) (by decide) kK) ?_
    show OwnFin p e below _ (s₁.setTop (mkF m 13 #[.val (.int l_), .val (.int k_), .val (.int f_), .val (.int d_), .val (.int e_), .val (.int mo), .unset, .unset, .unset, .unset, .unset, .unset, .unset, .unset, .unset, .unset] []))
    refine OwnFin.step (fun tT kK => XS.iloadN X0.here hx rfl (hb hby at_13) rfl kK) ?_
    show OwnFin p e below _ (s₁.setTop (mkF m 14 #[.val (.int l_), .val (.int k_), .val (.int f_), .val (.int d_), .val (.int e_), .val (.int mo), .unset, .unset, .unset, .unset, .unset, .unset, .unset, .unset, .unset, .unset] [(.int l_)]))
    exact key1 _
  · skip
    refine OwnFin.step (fun tT kK => XS.ifNo X0.here hx rfl (hb hby at_4) rfl ((if0 _ _).trans (feq (hc236 : ¬ ((mo &&& (1 : Int32)) = (0 : Int32)))).1) kK) ?_
    show OwnFin p e below _ (s₁.setTop (mkF m 7 #[.val (.int l_), .val (.int k_), .val (.int f_), .val (.int d_), .val (.int e_), .val (.int mo), .unset, .unset, .unset, .unset, .unset, .unset, .unset, .unset, .unset, .unset] []))
    refine OwnFin.step (fun tT kK => XS.iloadN X0.here hx rfl (hb hby at_7) rfl kK) ?_
    show OwnFin p e below _ (s₁.setTop (mkF m 8 #[.val (.int l_), .val (.int k_), .val (.int f_), .val (.int d_), .val (.int e_), .val (.int mo), .unset, .unset, .unset, .unset, .unset, .unset, .unset, .unset, .unset, .unset] [(.int l_)]))
    refine OwnFin.step (fun tT kK => XS.iloadN X0.here hx rfl (hb hby at_8) rfl kK) ?_
    show OwnFin p e below _ (s₁.setTop (mkF m 9 #[.val (.int l_), .val (.int k_), .val (.int f_), .val (.int d_), .val (.int e_), .val (.int mo), .unset, .unset, .unset, .unset, .unset, .unset, .unset, .unset, .unset, .unset] [(.int d_), (.int l_)]))
    refine OwnFin.step (fun tT kK => XS.ixor X0.here hx rfl (hb hby at_9) rfl kK) ?_
    show OwnFin p e below _ (s₁.setTop (mkF m 10 #[.val (.int l_), .val (.int k_), .val (.int f_), .val (.int d_), .val (.int e_), .val (.int mo), .unset, .unset, .unset, .unset, .unset, .unset, .unset, .unset, .unset, .unset] [(.int (l_ ^^^ d_))]))
    refine OwnFin.step (fun tT kK => XS.goto X0.here hx rfl (pc0 := 10) (pc' := 14) rfl (hb hby at_10) (by decide) (by decide) kK) ?_
    show OwnFin p e below _ (s₁.setTop (mkF m 14 #[.val (.int l_), .val (.int k_), .val (.int f_), .val (.int d_), .val (.int e_), .val (.int mo), .unset, .unset, .unset, .unset, .unset, .unset, .unset, .unset, .unset, .unset] [(.int (l_ ^^^ d_))]))
    exact key1 _
set_option maxRecDepth 65536 in
set_option maxHeartbeats 40000000 in
theorem comes_1 {Post : Tables → Env → Array Value → State → Outcome → State → Prop} (hpost : ∀ tb e args s v u, (limb_1_1.after args s (.returned v) u = true ∧ limb_1_2.after args s (.returned v) u = true ∧ True) → FramedW s (.returned v) u (Jvm.fieldLocs frame_1_writes args s ++ Jvm.arrayLocs frame_1_arrays args s ++ Jvm.staticLocs frame_1_statics s) 56 1216 → Post tb e args s (.returned v) u) :
    ArmFor flags0 classFile x code maxLocals ret World_1 tables_1 room_1 Calls_1 rest_1 Pre_1 Post := by
  intro l hfl _ _ p e ha hc hk s m args below hf hA hF happ hP
  obtain ⟨hcalls, hrest, hpre⟩ := hP
  obtain ⟨-, -, -, hnamed, -, -, -, hat⟩ := (Spec.applies_iff hf).mp happ
  obtain ⟨hg, hn⟩ := and_e (Cond.before_iff.mp (show (Jvm.Cond.and given_1 narrow_1).before args s = true from hpre))
  obtain ⟨g1, g2⟩ := and_e hg
  obtain ⟨g3, g4⟩ := and_e g2
  obtain ⟨g5, g6⟩ := and_e g4
  obtain ⟨g7, g8⟩ := and_e g6
  obtain ⟨g9, g10⟩ := and_e g8
  obtain ⟨g11, g12⟩ := and_e g10
  obtain ⟨w_0, w_1, w_2, w_3, w_4, w_5, rfl⟩ : ∃ w_0 w_1 w_2 w_3 w_4 w_5 : Value, args = #[w_0, w_1, w_2, w_3, w_4, w_5] := by
    have hs : args.size = 6 := by simpa [Cond.value, given_1] using g1
    obtain ⟨L⟩ := args
    match L, hs with
    | [w_0, w_1, w_2, w_3, w_4, w_5], _ => exact ⟨w_0, w_1, w_2, w_3, w_4, w_5, rfl⟩
  have hw := fun d (hd : d ∈ tables_1) => atoms_spec (ws := Jvm.Cond.code x code maxLocals ret :: tables_1) hat d (List.mem_cons_of_mem _ hd)
  have hfit : Fit s := fun {y c} hc i hi => by
    obtain ⟨ha, rfl⟩ := Array.getElem?_eq_some_iff.mp hc
    have q := List.all_eq_true.mp ((Array.all_eq_true_iff_forall_mem.mp hF) _ (Array.getElem_mem ha)) i (List.mem_range.mpr hi)
    simpa [Array.getElem?_eq_getElem hi] using q
  obtain ⟨hsets, hown0⟩ := atoms_of _ (rest_1_c_eq ▸ (show rest_1_c.before _ s = true from hrest))
  have hr0 := Cond.before_iff.mp hown0
  obtain ⟨l_, ei0⟩ := is_v g3
  obtain rfl : w_0 = (.int l_) := Option.some.inj ei0
  obtain ⟨k_, ei1⟩ := is_v g5
  obtain rfl : w_1 = (.int k_) := Option.some.inj ei1
  obtain ⟨f_, ei2⟩ := is_v g7
  obtain rfl : w_2 = (.int f_) := Option.some.inj ei2
  obtain ⟨d_, ei3⟩ := is_v g9
  obtain rfl : w_3 = (.int d_) := Option.some.inj ei3
  obtain ⟨e_, ei4⟩ := is_v g11
  obtain rfl : w_4 = (.int e_) := Option.some.inj ei4
  obtain ⟨mo, ei5⟩ := is_v g12
  obtain rfl : w_5 = (.int mo) := Option.some.inj ei5
  obtain ⟨cs, ev_cs⟩ := is_v (Cond.before_iff.mp (hsets _ (List.mem_of_getElem? (i := 1) rfl)))
  have S_cs := Sta.start ev_cs (Or.inl (hsets _ (List.mem_of_getElem? (i := 0) rfl)))
  have hcs : ¬ cs = (0 : Int32) := own_neI ev_cs (Cond.before_iff.mp (hsets _ (List.mem_of_getElem? (i := 2) rfl)))
  have hEL : EW s _ OwnEL := (EW.cons (hw _ (List.mem_of_getElem? (i := 21) rfl)) (by decide) EW.nil)
  have wS : ∀ a ∈ Bundle.stringAtoms, a.before _ s = true := fun d hd => by
    simp only [Bundle.stringAtoms, List.mem_cons, List.not_mem_nil, or_false] at hd
    rcases hd with rfl | rfl | rfl | rfl | rfl | rfl | rfl
    · exact (hw _ (List.mem_of_getElem? (i := 10) rfl))
    · exact (hw _ (List.mem_of_getElem? (i := 9) rfl))
    · exact (hw _ (List.mem_of_getElem? (i := 22) rfl))
    · exact (hw _ (List.mem_of_getElem? (i := 23) rfl))
    · exact (hw _ (List.mem_of_getElem? (i := 24) rfl))
    · exact (hw _ (List.mem_of_getElem? (i := 25) rfl))
    · exact (hw _ (List.mem_of_getElem? (i := 26) rfl))
  have hCH : CHv s OwnEL s.vm s.heap := CHv.start hEL hcalls.1 (hsets _ (List.mem_of_getElem? (i := 2) rfl)) (hw _ (List.mem_of_getElem? (i := 22) rfl)) (hw _ (List.mem_of_getElem? (i := 9) rfl))
  obtain ⟨n, o, h1, h2, h3, _, L, rfl, ⟨rfl, N, -⟩, -, hq⟩ := rm0 l s _ hw hEL wS tables_1 l_ k_ f_ d_ e_ mo cs s.heap s.heap.size (Nat.le_refl _) S_cs hcs p e ha hc hk s m _ below hf ((Spec.applies_iff_loose hf).mp happ).1 ⟨rfl, State.Warmed39.refl s, rfl, hCH⟩ trivial
  refine ⟨n, _, h1, h2, h3, hpost _ _ _ _ _ _ ⟨Cond.after_iff.mpr rfl, Cond.after_iff.mpr (eq_i res_at (Term.int_eval (1)) rfl), trivial⟩ ⟨hq.1, hq.2.1, hq.2.2.1, (hq.2.2.2.sift fun y hy => Or.inr (N y hy)).mono (by decide) (by decide)⟩⟩
theorem main_1_1 : Claimed_1_1 := comes_1 fun _ _ _ _ _ _ h hF => ⟨h.1, hF⟩
theorem main_1_2 : Claimed_1_2 := comes_1 fun _ _ _ _ _ _ h hF => ⟨h.2.1, hF⟩
end Jvm.Pilot.@@N@@
namespace Jvm.Pilot.@@N@@
open Jvm Jvm.ClassFile Sem Op Lib Jvm.Free Jvm.Stand Jvm.Pilot.@@N@@.Jvm.D
/-! MADE BY PROGRAM (witnessworld.py) out of the Statement's table words and the real class files: 21 classes; the members and pool entries that the words name. The judged class is class 1, her method 4. -/
namespace start1
open Jvm.ClassFile
def u (s : String) : CpInfo := .utf8 (stringToUtf16 s)
/-- a pool by its gaps: so many unusable entries, then the entry; so many at the end -/
def gap : Nat → List CpInfo → List CpInfo
  | 0, r => r
  | n + 1, r => .unusable :: gap n r
def poolList (es : List (Nat × CpInfo)) (last : Nat) : List CpInfo := es.foldr (fun e r => gap e.1 (e.2 :: r)) (gap last [])
def pool (es : List (Nat × CpInfo)) (last : Nat) : Array CpInfo := ⟨poolList es last⟩
def fileOf (pool : Array CpInfo) (this : Nat) (attrs : Array Attribute := #[]) (ms : Array MethodInfo := #[]) (fl : Nat := 33) (sup : Nat := 0) (ifs : Array Nat := #[]) (fds : Array FieldInfo := #[]) : ClassFile where
  minorVersion := 0
  majorVersion := 65
  constantPool := pool
  accessFlags := fl
  thisClass := this
  superClass := sup
  interfaces := ifs
  fields := fds
  methods := ms
  attributes := attrs
def plain (name : String) (sup : Option ClassId) : Class where
  name := name
  kind := .ordinary
  loader := none
  accessFlags := 33
  super := sup
  interfaces := #[]
  cf := none
  fields := #[]
  methods := #[]
  instanceTypes := #[]
  staticTypes := #[]
  resolved := #[]
  callSites := []
  init := .initialized
  statics := none
  mirror := none

def pool0 : Array CpInfo := pool [(5, u "<init>"), (0, u "()V"), (1, .class_ 10), (1, u "java/lang/Object")] 113

def k0c0 : Code := { maxStack := 0, maxLocals := 1, code := object_method_1_code, exceptionTable := #[], attributes := #[] }
def k0m0 : Method := { name := "<init>", desc := "()V", sig := { parameters := [], returnType := none }, accessFlags := 1, code := some k0c0 }
/-- java/lang/Object -/
def k0 : Class := { plain "java/lang/Object" none with
  accessFlags := 33
  interfaces := #[]
  cf := some (fileOf pool0 8 #[] #[{ accessFlags := 1, nameIndex := 5, descriptorIndex := 6, attributes := #[] }] 33 0 #[] #[])
  fields := #[]
  methods := #[k0m0]
  instanceTypes := #[]
  staticTypes := #[]
  resolved := Array.replicate 124 none
  statics := none }

def pool1 : Array CpInfo := pool [(2, .class_ 4), (1, u "java/lang/Object"), (0, u "<init>"), (0, u "()V"), (0, .methodref 8 9), (0, .class_ 10), (0, .nameAndType 11 12), (0, u "com/example/limpet/limpet/HoldEqualsPinLaw"), (0, u "len"), (0, u "(I)I"), (0, .class_ 14), (0, u "java/lang/String"), (0, .methodref 13 16), (0, .nameAndType 5 17), (0, u "([C)V"), (0, .methodref 8 19), (0, .nameAndType 20 21), (0, u "mk"), (0, u "(I)Ljava/lang/String;"), (0, .class_ 23), (0, u "com/example/limpet/limpet/Hold"), (0, .methodref 22 25), (0, .nameAndType 5 26), (0, u "(Ljava/lang/String;Ljava/lang/String;Ljava/lang/String;)V"), (0, .methodref 22 28), (0, .nameAndType 29 30), (0, u "equals"), (0, u "(Ljava/lang/Object;)Z"), (0, .methodref 8 32), (0, .nameAndType 33 34), (0, u "same"), (0, u "(II)Z"), (5, u "law"), (0, u "(IIIIII)Z")] 2

def k1m0 : Method := { name := "<init>", desc := "()V", sig := { parameters := [], returnType := none }, accessFlags := 1, code := none }
def k1c1 : Code := { maxStack := 2, maxLocals := 1, code := method_2_code, exceptionTable := #[], attributes := #[] }
def k1m1 : Method := { name := "len", desc := "(I)I", sig := { parameters := [.int], returnType := some .int }, accessFlags := 10, code := some k1c1 }
def k1c2 : Code := { maxStack := 4, maxLocals := 3, code := method_3_code, exceptionTable := #[], attributes := #[] }
def k1m2 : Method := { name := "mk", desc := "(I)Ljava/lang/String;", sig := { parameters := [.int], returnType := some (.object "java/lang/String") }, accessFlags := 10, code := some k1c2 }
def k1c3 : Code := { maxStack := 3, maxLocals := 4, code := method_4_code, exceptionTable := #[], attributes := #[] }
def k1m3 : Method := { name := "same", desc := "(II)Z", sig := { parameters := [.int, .int], returnType := some .boolean }, accessFlags := 10, code := some k1c3 }
def k1c4 : Code := { maxStack := 5, maxLocals := 16, code := code, exceptionTable := #[], attributes := #[] }
def k1m4 : Method := { name := "law", desc := "(IIIIII)Z", sig := { parameters := [.int, .int, .int, .int, .int, .int], returnType := some .boolean }, accessFlags := 9, code := some k1c4 }
/-- com/example/limpet/limpet/HoldEqualsPinLaw -/
def k1 : Class := { plain "com/example/limpet/limpet/HoldEqualsPinLaw" (some 0) with
  accessFlags := 49
  interfaces := #[]
  cf := some (fileOf pool1 8 #[] #[{ accessFlags := 1, nameIndex := 5, descriptorIndex := 6, attributes := #[] }, { accessFlags := 10, nameIndex := 11, descriptorIndex := 12, attributes := #[] }, { accessFlags := 10, nameIndex := 20, descriptorIndex := 21, attributes := #[] }, { accessFlags := 10, nameIndex := 33, descriptorIndex := 34, attributes := #[] }, { accessFlags := 9, nameIndex := 40, descriptorIndex := 41, attributes := #[] }] 49 2 #[] #[])
  fields := #[]
  methods := #[k1m0, k1m1, k1m2, k1m3, k1m4]
  instanceTypes := #[]
  staticTypes := #[]
  resolved := Array.replicate 44 none
  statics := none }

def pool2 : Array CpInfo := pool [(1, .class_ 2), (0, u "java/io/Serializable"), (0, .class_ 4), (0, u "java/lang/Object")] 2

/-- java/io/Serializable -/
def k2 : Class := { plain "java/io/Serializable" (some 0) with
  accessFlags := 1537
  interfaces := #[]
  cf := some (fileOf pool2 1 #[] #[] 1537 3 #[] #[])
  fields := #[]
  methods := #[]
  instanceTypes := #[]
  staticTypes := #[]
  resolved := Array.replicate 7 none
  statics := none }

def pool3 : Array CpInfo := pool [(1, .class_ 2), (0, u "java/lang/Comparable"), (0, .class_ 4), (0, u "java/lang/Object")] 7

/-- java/lang/Comparable -/
def k3 : Class := { plain "java/lang/Comparable" (some 0) with
  accessFlags := 1537
  interfaces := #[]
  cf := some (fileOf pool3 1 #[] #[] 1537 3 #[] #[])
  fields := #[]
  methods := #[]
  instanceTypes := #[]
  staticTypes := #[]
  resolved := Array.replicate 12 none
  statics := none }

def pool4 : Array CpInfo := pool [(2, .class_ 4), (1, u "java/lang/CharSequence"), (42, .class_ 48), (0, u "java/lang/CharSequence$1CodePointIterator"), (10, .class_ 60), (0, u "java/lang/CharSequence$1CharIterator"), (5, .class_ 67), (0, u "java/lang/Object")] 63

/-- java/lang/CharSequence -/
def k4 : Class := { plain "java/lang/CharSequence" (some 0) with
  accessFlags := 1537
  interfaces := #[]
  cf := some (fileOf pool4 2 #[.nestMembers #[47, 59]] #[] 1537 66 #[] #[])
  fields := #[]
  methods := #[]
  instanceTypes := #[]
  staticTypes := #[]
  resolved := Array.replicate 131 none
  statics := none }

def pool5 : Array CpInfo := pool [(1, .class_ 2), (0, u "java/lang/constant/Constable"), (0, .class_ 4), (0, u "java/lang/Object")] 6

/-- java/lang/constant/Constable -/
def k5 : Class := { plain "java/lang/constant/Constable" (some 0) with
  accessFlags := 1537
  interfaces := #[]
  cf := some (fileOf pool5 1 #[] #[] 1537 3 #[] #[])
  fields := #[]
  methods := #[]
  instanceTypes := #[]
  staticTypes := #[]
  resolved := Array.replicate 11 none
  statics := none }

def pool6 : Array CpInfo := pool [(1, .class_ 2), (0, u "java/lang/constant/ConstantDesc"), (0, .class_ 4), (0, u "java/lang/Object")] 32

/-- java/lang/constant/ConstantDesc -/
def k6 : Class := { plain "java/lang/constant/ConstantDesc" (some 0) with
  accessFlags := 1537
  interfaces := #[]
  cf := some (fileOf pool6 1 #[] #[] 1537 3 #[] #[])
  fields := #[]
  methods := #[]
  instanceTypes := #[]
  staticTypes := #[]
  resolved := Array.replicate 37 none
  statics := none }

def pool7 : Array CpInfo := pool [(1, .methodref 2 3), (0, .class_ 4), (0, .nameAndType 5 6), (0, u "java/lang/Object"), (0, u "<init>"), (0, u "()V"), (0, .string 8), (0, u ""), (0, .fieldref 10 11), (0, .class_ 12), (0, .nameAndType 13 14), (0, u "java/lang/String"), (0, u "value"), (0, u "[B"), (0, .fieldref 10 16), (0, .nameAndType 17 18), (0, u "coder"), (0, u "B"), (2, u "hash"), (0, u "I"), (2, u "hashIsZero"), (0, u "Z"), (0, .methodref 10 28), (0, .nameAndType 5 29), (0, u "([CIILjava/lang/Void;)V"), (8, .fieldref 10 39), (0, .nameAndType 40 26), (0, u "COMPACT_STRINGS"), (1, .class_ 44), (1, u "java/lang/StringUTF16"), (0, u "compress"), (1, .methodref 42 48), (0, .nameAndType 49 50), (0, u "coderFromArrayLen"), (0, u "([BI)B"), (56, .class_ 109), (1, u "java/lang/StringLatin1"), (67, .methodref 42 178), (0, .nameAndType 45 179), (0, u "([CII)[B"), (361, .methodref 107 542), (0, .nameAndType 543 544), (0, u "equals"), (0, u "([B[B)Z"), (28, u "(Ljava/lang/Object;)Z"), (1, .class_ 576), (0, u "java/lang/CharSequence"), (22, u "CASE_INSENSITIVE_ORDER"), (0, u "Ljava/util/Comparator;"), (409, u "([C)V"), (90, u "serialPersistentFields"), (0, u "[Ljava/io/ObjectStreamField;"), (0, .class_ 1104), (0, u "java/lang/String$CaseInsensitiveComparator"), (1, .class_ 1107), (0, u "java/io/Serializable"), (0, .class_ 1109), (0, u "java/lang/Comparable"), (0, .class_ 1111), (0, u "java/lang/constant/Constable"), (0, .class_ 1113), (0, u "java/lang/constant/ConstantDesc"), (2, u "serialVersionUID"), (0, u "J"), (3, u "REPL"), (0, u "C"), (2, u "LATIN1"), (1, u "UTF16")] 323

def k7m0 : Method := { name := "<init>", desc := "()V", sig := { parameters := [], returnType := none }, accessFlags := 1, code := none }
def k7c1 : Code := { maxStack := 5, maxLocals := 2, code := jdk_42_method_3_code, exceptionTable := #[], attributes := #[] }
def k7m1 : Method := { name := "<init>", desc := "([C)V", sig := { parameters := [(.array .char)], returnType := none }, accessFlags := 1, code := some k7c1 }
def k7c2 : Code := { maxStack := 2, maxLocals := 3, code := jdk_42_method_66_code, exceptionTable := #[], attributes := #[] }
def k7m2 : Method := { name := "equals", desc := "(Ljava/lang/Object;)Z", sig := { parameters := [(.object "java/lang/Object")], returnType := some .boolean }, accessFlags := 1, code := some k7c2 }
def k7c3 : Code := { maxStack := 4, maxLocals := 6, code := jdk_42_method_149_code, exceptionTable := #[], attributes := #[] }
def k7m3 : Method := { name := "<init>", desc := "([CIILjava/lang/Void;)V", sig := { parameters := [(.array .char), .int, .int, (.object "java/lang/Void")], returnType := none }, accessFlags := 2, code := some k7c3 }
/-- java/lang/String -/
def k7 : Class := { plain "java/lang/String" (some 0) with
  accessFlags := 49
  interfaces := #[2, 3, 4, 5, 6]
  cf := some (fileOf pool7 10 #[.nestMembers #[1103]] #[{ accessFlags := 1, nameIndex := 5, descriptorIndex := 6, attributes := #[] }, { accessFlags := 1, nameIndex := 5, descriptorIndex := 1010, attributes := #[] }, { accessFlags := 1, nameIndex := 543, descriptorIndex := 573, attributes := #[] }, { accessFlags := 2, nameIndex := 5, descriptorIndex := 29, attributes := #[] }] 49 2 #[1106, 1108, 575, 1110, 1112] #[{ accessFlags := 18, nameIndex := 13, descriptorIndex := 14, attributes := #[] }, { accessFlags := 18, nameIndex := 17, descriptorIndex := 18, attributes := #[] }, { accessFlags := 2, nameIndex := 21, descriptorIndex := 22, attributes := #[] }, { accessFlags := 2, nameIndex := 25, descriptorIndex := 26, attributes := #[] }, { accessFlags := 26, nameIndex := 1116, descriptorIndex := 1117, attributes := #[] }, { accessFlags := 24, nameIndex := 40, descriptorIndex := 26, attributes := #[] }, { accessFlags := 26, nameIndex := 1101, descriptorIndex := 1102, attributes := #[] }, { accessFlags := 26, nameIndex := 1121, descriptorIndex := 1122, attributes := #[] }, { accessFlags := 25, nameIndex := 599, descriptorIndex := 600, attributes := #[] }, { accessFlags := 24, nameIndex := 1125, descriptorIndex := 18, attributes := #[] }, { accessFlags := 24, nameIndex := 1127, descriptorIndex := 18, attributes := #[] }])
  fields := #[{ name := "value", type := (.array .byte), accessFlags := 18, slot := 0, constantValue := 0 }, { name := "coder", type := .byte, accessFlags := 18, slot := 1, constantValue := 0 }, { name := "hash", type := .int, accessFlags := 2, slot := 2, constantValue := 0 }, { name := "hashIsZero", type := .boolean, accessFlags := 2, slot := 3, constantValue := 0 }, { name := "serialVersionUID", type := .long, accessFlags := 26, slot := 0, constantValue := 0 }, { name := "COMPACT_STRINGS", type := .boolean, accessFlags := 24, slot := 1, constantValue := 0 }, { name := "serialPersistentFields", type := (.array (.object "java/io/ObjectStreamField")), accessFlags := 26, slot := 2, constantValue := 0 }, { name := "REPL", type := .char, accessFlags := 26, slot := 3, constantValue := 0 }, { name := "CASE_INSENSITIVE_ORDER", type := (.object "java/util/Comparator"), accessFlags := 25, slot := 4, constantValue := 0 }, { name := "LATIN1", type := .byte, accessFlags := 24, slot := 5, constantValue := 0 }, { name := "UTF16", type := .byte, accessFlags := 24, slot := 6, constantValue := 0 }]
  methods := #[k7m0, k7m1, k7m2, k7m3]
  instanceTypes := #[(.array .byte), .byte, .int, .boolean]
  staticTypes := #[.long, .boolean, (.array (.object "java/io/ObjectStreamField")), .char, (.object "java/util/Comparator"), .byte, .byte]
  resolved := Array.replicate 1451 none
  statics := some 0 }

def pool8 : Array CpInfo := pool [(1, .methodref 2 3), (0, .class_ 4), (0, .nameAndType 5 6), (0, u "java/lang/Object"), (0, u "<init>"), (0, u "()V"), (0, .class_ 8), (0, u "java/lang/Record")] 13

def k8c0 : Code := { maxStack := 1, maxLocals := 1, code := jdk_30_method_1_code, exceptionTable := #[], attributes := #[] }
def k8m0 : Method := { name := "<init>", desc := "()V", sig := { parameters := [], returnType := none }, accessFlags := 4, code := some k8c0 }
/-- java/lang/Record -/
def k8 : Class := { plain "java/lang/Record" (some 0) with
  accessFlags := 1057
  interfaces := #[]
  cf := some (fileOf pool8 7 #[] #[{ accessFlags := 4, nameIndex := 5, descriptorIndex := 6, attributes := #[] }] 1057 2 #[] #[])
  fields := #[]
  methods := #[k8m0]
  instanceTypes := #[]
  staticTypes := #[]
  resolved := Array.replicate 22 none
  statics := none }

def pool9 : Array CpInfo := pool [(1, .methodref 2 3), (0, .class_ 4), (0, .nameAndType 5 6), (0, u "java/lang/Record"), (0, u "<init>"), (0, u "()V"), (0, .fieldref 8 9), (0, .class_ 10), (0, .nameAndType 11 12), (0, u "com/example/limpet/limpet/Hold"), (0, u "lockName"), (0, u "Ljava/lang/String;"), (0, .fieldref 8 14), (0, .nameAndType 15 12), (0, u "key"), (0, .fieldref 8 17), (0, .nameAndType 18 12), (0, u "field"), (0, .methodref 20 21), (0, .class_ 22), (0, .nameAndType 23 24), (0, u "java/lang/String"), (0, u "equals"), (0, u "(Ljava/lang/Object;)Z"), (8, u "(Ljava/lang/String;Ljava/lang/String;Ljava/lang/String;)V")] 27

def k9c0 : Code := { maxStack := 2, maxLocals := 4, code := prog_3_method_1_code, exceptionTable := #[], attributes := #[] }
def k9m0 : Method := { name := "<init>", desc := "(Ljava/lang/String;Ljava/lang/String;Ljava/lang/String;)V", sig := { parameters := [(.object "java/lang/String"), (.object "java/lang/String"), (.object "java/lang/String")], returnType := none }, accessFlags := 0, code := some k9c0 }
def k9c1 : Code := { maxStack := 2, maxLocals := 3, code := prog_3_method_2_code, exceptionTable := #[], attributes := #[] }
def k9m1 : Method := { name := "equals", desc := "(Ljava/lang/Object;)Z", sig := { parameters := [(.object "java/lang/Object")], returnType := some .boolean }, accessFlags := 1, code := some k9c1 }
/-- com/example/limpet/limpet/Hold -/
def k9 : Class := { plain "com/example/limpet/limpet/Hold" (some 8) with
  accessFlags := 48
  interfaces := #[]
  cf := some (fileOf pool9 8 #[] #[{ accessFlags := 0, nameIndex := 5, descriptorIndex := 33, attributes := #[] }, { accessFlags := 1, nameIndex := 23, descriptorIndex := 24, attributes := #[] }] 48 2 #[] #[{ accessFlags := 18, nameIndex := 11, descriptorIndex := 12, attributes := #[] }, { accessFlags := 18, nameIndex := 15, descriptorIndex := 12, attributes := #[] }, { accessFlags := 18, nameIndex := 18, descriptorIndex := 12, attributes := #[] }])
  fields := #[{ name := "lockName", type := (.object "java/lang/String"), accessFlags := 18, slot := 0, constantValue := 0 }, { name := "key", type := (.object "java/lang/String"), accessFlags := 18, slot := 1, constantValue := 0 }, { name := "field", type := (.object "java/lang/String"), accessFlags := 18, slot := 2, constantValue := 0 }]
  methods := #[k9m0, k9m1]
  instanceTypes := #[(.object "java/lang/String"), (.object "java/lang/String"), (.object "java/lang/String")]
  staticTypes := #[]
  resolved := Array.replicate 61 none
  statics := none }

def pool10 : Array CpInfo := pool [(4, .class_ 6), (1, u "java/lang/Object"), (0, u "<init>"), (0, u "()V"), (5, .class_ 16), (1, u "java/lang/StringLatin1"), (104, u "$assertionsDisabled"), (0, u "Z"), (98, .class_ 223), (1, u "java/lang/StringLatin1$LinesSpliterator"), (57, u "equals"), (0, u "([B[B)Z"), (107, .class_ 391), (0, u "java/lang/StringLatin1$CharsSpliterator")] 3

def k10m0 : Method := { name := "<init>", desc := "()V", sig := { parameters := [], returnType := none }, accessFlags := 0, code := none }
def k10c1 : Code := { maxStack := 3, maxLocals := 3, code := jdk_43_method_13_code, exceptionTable := #[], attributes := #[] }
def k10m1 : Method := { name := "equals", desc := "([B[B)Z", sig := { parameters := [(.array .byte), (.array .byte)], returnType := some .boolean }, accessFlags := 9, code := some k10c1 }
/-- java/lang/StringLatin1 -/
def k10 : Class := { plain "java/lang/StringLatin1" (some 0) with
  accessFlags := 48
  interfaces := #[]
  cf := some (fileOf pool10 14 #[.nestMembers #[390, 221]] #[{ accessFlags := 0, nameIndex := 7, descriptorIndex := 8, attributes := #[] }, { accessFlags := 9, nameIndex := 281, descriptorIndex := 282, attributes := #[] }] 48 4 #[] #[{ accessFlags := 4120, nameIndex := 121, descriptorIndex := 122, attributes := #[] }])
  fields := #[{ name := "$assertionsDisabled", type := .boolean, accessFlags := 4120, slot := 0, constantValue := 0 }]
  methods := #[k10m0, k10m1]
  instanceTypes := #[]
  staticTypes := #[.boolean]
  resolved := Array.replicate 395 none
  statics := none }

def pool11 : Array CpInfo := pool [(6, .class_ 8), (1, u "java/lang/Object"), (0, u "<init>"), (0, u "()V"), (1, .class_ 14), (1, u "java/lang/StringUTF16"), (31, u "$assertionsDisabled"), (0, u "Z"), (13, u "HI_BYTE_SHIFT"), (0, u "I"), (2, u "LO_BYTE_SHIFT"), (49, .methodref 12 116), (0, .nameAndType 117 118), (0, u "compress"), (0, u "([CI[BII)I"), (3, u "([CII)[B"), (138, u "coderFromArrayLen"), (0, u "([BI)B"), (106, .class_ 371), (1, u "java/lang/StringUTF16$LinesSpliterator"), (58, u "MAX_LENGTH"), (196, .class_ 628), (0, u "java/lang/StringUTF16$CodePointsSpliterator"), (0, .class_ 630), (0, u "java/lang/StringUTF16$CharsSpliterator")] 4

def k11m0 : Method := { name := "<init>", desc := "()V", sig := { parameters := [], returnType := none }, accessFlags := 0, code := none }
def k11c1 : Code := { maxStack := 2, maxLocals := 2, code := jdk_52_method_15_code, exceptionTable := #[], attributes := #[] }
def k11m1 : Method := { name := "coderFromArrayLen", desc := "([BI)B", sig := { parameters := [(.array .byte), .int], returnType := some .byte }, accessFlags := 8, code := some k11c1 }
def k11c2 : Code := { maxStack := 5, maxLocals := 6, code := jdk_52_method_16_code, exceptionTable := #[], attributes := #[] }
def k11m2 : Method := { name := "compress", desc := "([CII)[B", sig := { parameters := [(.array .char), .int, .int], returnType := some (.array .byte) }, accessFlags := 9, code := some k11c2 }
def k11c3 : Code := { maxStack := 3, maxLocals := 7, code := jdk_52_method_21_code, exceptionTable := #[], attributes := #[] }
def k11m3 : Method := { name := "compress", desc := "([CI[BII)I", sig := { parameters := [(.array .char), .int, (.array .byte), .int, .int], returnType := some .int }, accessFlags := 9, code := some k11c3 }
/-- java/lang/StringUTF16 -/
def k11 : Class := { plain "java/lang/StringUTF16" (some 0) with
  accessFlags := 48
  interfaces := #[]
  cf := some (fileOf pool11 12 #[.nestMembers #[627, 629, 369]] #[{ accessFlags := 0, nameIndex := 9, descriptorIndex := 10, attributes := #[] }, { accessFlags := 8, nameIndex := 261, descriptorIndex := 262, attributes := #[] }, { accessFlags := 9, nameIndex := 117, descriptorIndex := 122, attributes := #[] }, { accessFlags := 9, nameIndex := 117, descriptorIndex := 118, attributes := #[] }] 48 6 #[] #[{ accessFlags := 26, nameIndex := 61, descriptorIndex := 62, attributes := #[] }, { accessFlags := 26, nameIndex := 65, descriptorIndex := 62, attributes := #[] }, { accessFlags := 24, nameIndex := 430, descriptorIndex := 62, attributes := #[] }, { accessFlags := 4120, nameIndex := 46, descriptorIndex := 47, attributes := #[] }])
  fields := #[{ name := "HI_BYTE_SHIFT", type := .int, accessFlags := 26, slot := 0, constantValue := 0 }, { name := "LO_BYTE_SHIFT", type := .int, accessFlags := 26, slot := 1, constantValue := 0 }, { name := "MAX_LENGTH", type := .int, accessFlags := 24, slot := 2, constantValue := 0 }, { name := "$assertionsDisabled", type := .boolean, accessFlags := 4120, slot := 3, constantValue := 0 }]
  methods := #[k11m0, k11m1, k11m2, k11m3]
  instanceTypes := #[]
  staticTypes := #[.int, .int, .int, .boolean]
  resolved := Array.replicate 635 none
  statics := none }

def pool12 : Array CpInfo := pool [(2, .class_ 4), (1, u "java/lang/Object"), (0, u "<init>"), (0, u "()V"), (17, .class_ 26), (1, u "jdk/internal/util/Preconditions"), (28, .class_ 56), (0, u "jdk/internal/util/Preconditions$4"), (57, .class_ 115), (0, u "jdk/internal/util/Preconditions$1"), (7, u "SIOOBE_FORMATTER"), (0, u "Ljava/util/function/BiFunction;"), (0, .class_ 126), (0, u "jdk/internal/util/Preconditions$2"), (3, u "AIOOBE_FORMATTER"), (0, .class_ 132), (0, u "jdk/internal/util/Preconditions$3"), (3, u "IOOBE_FORMATTER")] 57

def k12m0 : Method := { name := "<init>", desc := "()V", sig := { parameters := [], returnType := none }, accessFlags := 1, code := none }
/-- jdk/internal/util/Preconditions -/
def k12 : Class := { plain "jdk/internal/util/Preconditions" (some 0) with
  accessFlags := 33
  interfaces := #[]
  cf := some (fileOf pool12 24 #[.nestMembers #[55, 131, 125, 114]] #[{ accessFlags := 1, nameIndex := 5, descriptorIndex := 6, attributes := #[] }] 33 2 #[] #[{ accessFlags := 25, nameIndex := 123, descriptorIndex := 124, attributes := #[] }, { accessFlags := 25, nameIndex := 130, descriptorIndex := 124, attributes := #[] }, { accessFlags := 25, nameIndex := 136, descriptorIndex := 124, attributes := #[] }])
  fields := #[{ name := "SIOOBE_FORMATTER", type := (.object "java/util/function/BiFunction"), accessFlags := 25, slot := 0, constantValue := 0 }, { name := "AIOOBE_FORMATTER", type := (.object "java/util/function/BiFunction"), accessFlags := 25, slot := 1, constantValue := 0 }, { name := "IOOBE_FORMATTER", type := (.object "java/util/function/BiFunction"), accessFlags := 25, slot := 2, constantValue := 0 }]
  methods := #[k12m0]
  instanceTypes := #[]
  staticTypes := #[(.object "java/util/function/BiFunction"), (.object "java/util/function/BiFunction"), (.object "java/util/function/BiFunction")]
  resolved := Array.replicate 194 none
  statics := some 1 }

def pool13 : Array CpInfo := pool [(9, u "<init>"), (6, .class_ 18), (1, u "java/lang/Object"), (0, u "()V"), (1, .class_ 23), (1, u "jdk/internal/util/ArraysSupport"), (0, u "LOG2_ARRAY_LONG_INDEX_SCALE"), (0, u "I"), (2, u "U"), (0, u "Ljdk/internal/misc/Unsafe;"), (8, u "BIG_ENDIAN"), (0, u "Z"), (8, u "LOG2_BYTE_BIT_SIZE"), (4, u "LOG2_ARRAY_INT_INDEX_SCALE"), (54, u "JLA"), (0, u "Ljdk/internal/access/JavaLangAccess;"), (11, u "LOG2_ARRAY_BOOLEAN_INDEX_SCALE"), (9, u "LOG2_ARRAY_BYTE_INDEX_SCALE"), (5, u "LOG2_ARRAY_CHAR_INDEX_SCALE"), (5, u "LOG2_ARRAY_SHORT_INDEX_SCALE"), (18, u "LOG2_ARRAY_FLOAT_INDEX_SCALE"), (24, u "LOG2_ARRAY_DOUBLE_INDEX_SCALE"), (89, u "T_BOOLEAN"), (2, u "T_CHAR"), (1, u "T_FLOAT"), (1, u "T_DOUBLE"), (1, u "T_BYTE"), (1, u "T_SHORT"), (1, u "T_INT"), (1, u "T_LONG"), (1, u "SOFT_MAX_ARRAY_LENGTH")] 83

def k13m0 : Method := { name := "<init>", desc := "()V", sig := { parameters := [], returnType := none }, accessFlags := 2, code := none }
/-- jdk/internal/util/ArraysSupport -/
def k13 : Class := { plain "jdk/internal/util/ArraysSupport" (some 0) with
  accessFlags := 33
  interfaces := #[]
  cf := some (fileOf pool13 21 #[] #[{ accessFlags := 2, nameIndex := 9, descriptorIndex := 19, attributes := #[] }] 33 16 #[] #[{ accessFlags := 24, nameIndex := 28, descriptorIndex := 29, attributes := #[] }, { accessFlags := 26, nameIndex := 38, descriptorIndex := 39, attributes := #[] }, { accessFlags := 25, nameIndex := 121, descriptorIndex := 25, attributes := #[] }, { accessFlags := 25, nameIndex := 131, descriptorIndex := 25, attributes := #[] }, { accessFlags := 25, nameIndex := 137, descriptorIndex := 25, attributes := #[] }, { accessFlags := 25, nameIndex := 143, descriptorIndex := 25, attributes := #[] }, { accessFlags := 25, nameIndex := 53, descriptorIndex := 25, attributes := #[] }, { accessFlags := 25, nameIndex := 24, descriptorIndex := 25, attributes := #[] }, { accessFlags := 25, nameIndex := 162, descriptorIndex := 25, attributes := #[] }, { accessFlags := 25, nameIndex := 187, descriptorIndex := 25, attributes := #[] }, { accessFlags := 26, nameIndex := 48, descriptorIndex := 25, attributes := #[] }, { accessFlags := 25, nameIndex := 277, descriptorIndex := 25, attributes := #[] }, { accessFlags := 25, nameIndex := 280, descriptorIndex := 25, attributes := #[] }, { accessFlags := 25, nameIndex := 282, descriptorIndex := 25, attributes := #[] }, { accessFlags := 25, nameIndex := 284, descriptorIndex := 25, attributes := #[] }, { accessFlags := 25, nameIndex := 286, descriptorIndex := 25, attributes := #[] }, { accessFlags := 25, nameIndex := 288, descriptorIndex := 25, attributes := #[] }, { accessFlags := 25, nameIndex := 290, descriptorIndex := 25, attributes := #[] }, { accessFlags := 25, nameIndex := 292, descriptorIndex := 25, attributes := #[] }, { accessFlags := 26, nameIndex := 108, descriptorIndex := 109, attributes := #[] }, { accessFlags := 25, nameIndex := 294, descriptorIndex := 25, attributes := #[] }])
  fields := #[{ name := "U", type := (.object "jdk/internal/misc/Unsafe"), accessFlags := 24, slot := 0, constantValue := 0 }, { name := "BIG_ENDIAN", type := .boolean, accessFlags := 26, slot := 1, constantValue := 0 }, { name := "LOG2_ARRAY_BOOLEAN_INDEX_SCALE", type := .int, accessFlags := 25, slot := 2, constantValue := 0 }, { name := "LOG2_ARRAY_BYTE_INDEX_SCALE", type := .int, accessFlags := 25, slot := 3, constantValue := 0 }, { name := "LOG2_ARRAY_CHAR_INDEX_SCALE", type := .int, accessFlags := 25, slot := 4, constantValue := 0 }, { name := "LOG2_ARRAY_SHORT_INDEX_SCALE", type := .int, accessFlags := 25, slot := 5, constantValue := 0 }, { name := "LOG2_ARRAY_INT_INDEX_SCALE", type := .int, accessFlags := 25, slot := 6, constantValue := 0 }, { name := "LOG2_ARRAY_LONG_INDEX_SCALE", type := .int, accessFlags := 25, slot := 7, constantValue := 0 }, { name := "LOG2_ARRAY_FLOAT_INDEX_SCALE", type := .int, accessFlags := 25, slot := 8, constantValue := 0 }, { name := "LOG2_ARRAY_DOUBLE_INDEX_SCALE", type := .int, accessFlags := 25, slot := 9, constantValue := 0 }, { name := "LOG2_BYTE_BIT_SIZE", type := .int, accessFlags := 26, slot := 10, constantValue := 0 }, { name := "T_BOOLEAN", type := .int, accessFlags := 25, slot := 11, constantValue := 0 }, { name := "T_CHAR", type := .int, accessFlags := 25, slot := 12, constantValue := 0 }, { name := "T_FLOAT", type := .int, accessFlags := 25, slot := 13, constantValue := 0 }, { name := "T_DOUBLE", type := .int, accessFlags := 25, slot := 14, constantValue := 0 }, { name := "T_BYTE", type := .int, accessFlags := 25, slot := 15, constantValue := 0 }, { name := "T_SHORT", type := .int, accessFlags := 25, slot := 16, constantValue := 0 }, { name := "T_INT", type := .int, accessFlags := 25, slot := 17, constantValue := 0 }, { name := "T_LONG", type := .int, accessFlags := 25, slot := 18, constantValue := 0 }, { name := "JLA", type := (.object "jdk/internal/access/JavaLangAccess"), accessFlags := 26, slot := 19, constantValue := 0 }, { name := "SOFT_MAX_ARRAY_LENGTH", type := .int, accessFlags := 25, slot := 20, constantValue := 0 }]
  methods := #[k13m0]
  instanceTypes := #[]
  staticTypes := #[(.object "jdk/internal/misc/Unsafe"), .boolean, .int, .int, .int, .int, .int, .int, .int, .int, .int, .int, .int, .int, .int, .int, .int, .int, .int, (.object "jdk/internal/access/JavaLangAccess"), .int]
  resolved := Array.replicate 378 none
  statics := none }

def pool14 : Array CpInfo := pool [(1, u "java/lang/Cloneable"), (0, .class_ 1), (0, u "java/lang/Object"), (0, .class_ 3)] 3

/-- java/lang/Cloneable -/
def k14 : Class := { plain "java/lang/Cloneable" (some 0) with
  accessFlags := 1537
  interfaces := #[]
  cf := some (fileOf pool14 2 #[] #[] 1537 4 #[] #[])
  fields := #[]
  methods := #[]
  instanceTypes := #[]
  staticTypes := #[]
  resolved := Array.replicate 8 none
  statics := none }

/-- the primitive byte -/
def k15 : Class := { plain "byte" none with kind := .primitive 'B', accessFlags := 0x411 }
/-- [B -/
def k16 : Class := { plain "[B" (some 0) with kind := .array 15 .byte, interfaces := #[14, 2], accessFlags := 1041 }

/-- the primitive char -/
def k17 : Class := { plain "char" none with kind := .primitive 'C', accessFlags := 0x411 }
/-- [C -/
def k18 : Class := { plain "[C" (some 0) with kind := .array 17 .char, interfaces := #[14, 2], accessFlags := 1041 }

/-- the primitive int -/
def k19 : Class := { plain "int" none with kind := .primitive 'I', accessFlags := 0x411 }
/-- [I -/
def k20 : Class := { plain "[I" (some 0) with kind := .array 19 .int, interfaces := #[14, 2], accessFlags := 1041 }

def heap : Heap := #[{ cls := 7, slots := #[.long 0, .int 1, .null, .int 0, .null, .int 0, .int 0], vm := .statics 7 },
  { cls := 12, slots := #[.null, .null, .null], vm := .statics 12 }]
def classes : Array Class := #[k0, k1, k2, k3, k4, k5, k6, k7, k8, k9, k10, k11, k12, k13, k14, k15, k16, k17, k18, k19, k20]
def interned : List (Array UInt16 × Addr) := []
def slotsUsed : Nat := 10
def theMethod : MethodId := ⟨1, 4⟩
def args0 : Array Value := #[.int 65, .int 66, .int 67, .int 4, .int 5, .int 6]
def aboutOver (below : List Frame) : State where
  vm := { classes := classes, interned := interned.toArray }
  heap := heap
  slotsUsed := slotsUsed
  threads := #[{ frames := .invoking theMethod args0 :: below }]
def below0 : List Frame := [.native { method := ⟨0, 0⟩, args := #[] }]
def about1 : State := aboutOver below0
def p0 : Program := .bare "" "" ""
def e0 : Env := launch0.env 0 0 0
theorem w_frames : about1.frames = Frame.invoking theMethod args0 :: below0 := rfl
set_option maxRecDepth 65536 in
theorem w_args : argsFit about1.vm theMethod args0 = true := by decide +kernel
set_option maxRecDepth 65536 in
theorem w_heap : heapFits about1 = true := by decide +kernel
set_option maxRecDepth 65536 in
theorem w_runnable : about1.curStatus? = some .runnable := by decide +kernel
set_option maxRecDepth 65536 in
theorem w_alone : about1.alone = true := by decide +kernel
set_option maxRecDepth 65536 in
theorem w_named : about1.methodNamed? x = some theMethod := by decide +kernel
set_option maxRecDepth 65536 in
theorem w_hears : about1.hears theMethod below0 = true := by decide +kernel
set_option maxRecDepth 65536 in
theorem w_ripe : about1.ripe theMethod args0 below0 = true := by decide +kernel
theorem w_running : about1.status = .running := rfl
set_option maxRecDepth 65536 in
theorem w_room : about1.hasRoom e0.platform room_1 = true :=
  launch0.hasRoom_least _ room_1 (by decide +kernel) (by decide +kernel) (by decide +kernel) (by decide +kernel) (by decide +kernel) (by decide +kernel)
theorem allAtoms_all (ts : List Jvm.Cond) (a : Array Jvm.Value) (st : Jvm.State) : (allAtoms ts).before a st = ts.all (fun c => c.before a st) := by
  induction ts with
  | nil => rfl
  | cons c t ih =>
    show (Jvm.Cond.and c (allAtoms t)).before a st = _
    rw [Jvm.Cond.before_and, ih, List.all_cons]
def words1 : List Jvm.Cond := Jvm.Cond.code x code maxLocals ret :: tables_1
/-- a 'code' word, met by the world's own term for the bytes: nothing is compared byte by byte -/
theorem code_word {y : MethodName} {bytes : ByteArray} {mx : Nat} {rt : Option FieldType} {a : Array Value} {s : State} {m : MethodId} {meth : Method} {c : Code} (h1 : s.methodNamed? y = some m) (h2 : s.vm.method? m = some meth) (h3 : meth.code = some c) (h4 : c.code = bytes)
    (h5 : (c.maxLocals == mx && c.exceptionTable.isEmpty && decide (c.maxStack ≤ mostOperands) && decide (meth.sig.returnType = rt) && !meth.locks && decide (parseMethodDescriptor y.desc = some meth.sig)) = true) : (Jvm.Cond.code y bytes mx rt).before a s = true := by
  simp only [Bool.and_eq_true, beq_iff_eq, Bool.not_eq_true', decide_eq_true_eq] at h5
  obtain ⟨⟨⟨⟨⟨g1, g2⟩, g3⟩, g4⟩, g5⟩, g6⟩ := h5
  simp [Cond.before, Cond.holds, Cond.value, h1, h2, h3, h4, g1, g2, g3, g4, g5, g6]
def isCode : Jvm.Cond → Bool
  | .code _ _ _ _ => true
  | _ => false
theorem all_split {L : List Jvm.Cond} {P : Jvm.Cond → Bool} (h1 : L.all (fun c => isCode c || P c) = true) (h2 : ∀ c ∈ L.filter isCode, P c = true) : L.all P = true := by
  refine List.all_eq_true.mpr fun c hc => ?_
  have h := List.all_eq_true.mp h1 c hc
  rcases Bool.eq_false_or_eq_true (isCode c) with hi | hi
  · exact h2 c (List.mem_filter.mpr ⟨hc, hi⟩)
  · simpa [hi] using h
set_option maxRecDepth 65536 in
theorem w_c0 : (Jvm.Cond.code x code maxLocals ret).before args0 about1 = true := code_word (m := ⟨1, 4⟩) (meth := k1m4) (c := k1c4) (by decide +kernel) rfl rfl rfl (by decide +kernel)
set_option maxRecDepth 65536 in
theorem w_c1 : (Jvm.Cond.code ({ cls := "com/example/limpet/limpet/HoldEqualsPinLaw", name := "mk", desc := "(I)Ljava/lang/String;" } : Jvm.MethodName) method_3_code (3 : Nat) (Option.some (Jvm.ClassFile.FieldType.object "java/lang/String"))).before args0 about1 = true := code_word (m := ⟨1, 2⟩) (meth := k1m2) (c := k1c2) (by decide +kernel) rfl rfl rfl (by decide +kernel)
set_option maxRecDepth 65536 in
theorem w_c2 : (Jvm.Cond.code ({ cls := "com/example/limpet/limpet/HoldEqualsPinLaw", name := "len", desc := "(I)I" } : Jvm.MethodName) method_2_code (1 : Nat) (Option.some Jvm.ClassFile.FieldType.int)).before args0 about1 = true := code_word (m := ⟨1, 1⟩) (meth := k1m1) (c := k1c1) (by decide +kernel) rfl rfl rfl (by decide +kernel)
set_option maxRecDepth 65536 in
theorem w_c3 : (Jvm.Cond.code ({ cls := "java/lang/String", name := "<init>", desc := "([C)V" } : Jvm.MethodName) jdk_42_method_3_code (2 : Nat) (Option.none : Option Jvm.ClassFile.FieldType)).before args0 about1 = true := code_word (m := ⟨7, 1⟩) (meth := k7m1) (c := k7c1) (by decide +kernel) rfl rfl rfl (by decide +kernel)
set_option maxRecDepth 65536 in
theorem w_c4 : (Jvm.Cond.code ({ cls := "java/lang/String", name := "<init>", desc := "([CIILjava/lang/Void;)V" } : Jvm.MethodName) jdk_42_method_149_code (6 : Nat) (Option.none : Option Jvm.ClassFile.FieldType)).before args0 about1 = true := code_word (m := ⟨7, 3⟩) (meth := k7m3) (c := k7c3) (by decide +kernel) rfl rfl rfl (by decide +kernel)
set_option maxRecDepth 65536 in
theorem w_c5 : (Jvm.Cond.code ({ cls := "java/lang/Object", name := "<init>", desc := "()V" } : Jvm.MethodName) object_method_1_code (1 : Nat) (Option.none : Option Jvm.ClassFile.FieldType)).before args0 about1 = true := code_word (m := ⟨0, 0⟩) (meth := k0m0) (c := k0c0) (by decide +kernel) rfl rfl rfl (by decide +kernel)
set_option maxRecDepth 65536 in
theorem w_c6 : (Jvm.Cond.code ({ cls := "com/example/limpet/limpet/Hold", name := "<init>", desc := "(Ljava/lang/String;Ljava/lang/String;Ljava/lang/String;)V" } : Jvm.MethodName) prog_3_method_1_code (4 : Nat) (Option.none : Option Jvm.ClassFile.FieldType)).before args0 about1 = true := code_word (m := ⟨9, 0⟩) (meth := k9m0) (c := k9c0) (by decide +kernel) rfl rfl rfl (by decide +kernel)
set_option maxRecDepth 65536 in
theorem w_c7 : (Jvm.Cond.code ({ cls := "java/lang/Record", name := "<init>", desc := "()V" } : Jvm.MethodName) jdk_30_method_1_code (1 : Nat) (Option.none : Option Jvm.ClassFile.FieldType)).before args0 about1 = true := code_word (m := ⟨8, 0⟩) (meth := k8m0) (c := k8c0) (by decide +kernel) rfl rfl rfl (by decide +kernel)
set_option maxRecDepth 65536 in
theorem w_c8 : (Jvm.Cond.code ({ cls := "com/example/limpet/limpet/HoldEqualsPinLaw", name := "same", desc := "(II)Z" } : Jvm.MethodName) method_4_code (4 : Nat) (Option.some Jvm.ClassFile.FieldType.boolean)).before args0 about1 = true := code_word (m := ⟨1, 3⟩) (meth := k1m3) (c := k1c3) (by decide +kernel) rfl rfl rfl (by decide +kernel)
set_option maxRecDepth 65536 in
theorem w_c9 : (Jvm.Cond.code ({ cls := "com/example/limpet/limpet/Hold", name := "equals", desc := "(Ljava/lang/Object;)Z" } : Jvm.MethodName) prog_3_method_2_code (3 : Nat) (Option.some Jvm.ClassFile.FieldType.boolean)).before args0 about1 = true := code_word (m := ⟨9, 1⟩) (meth := k9m1) (c := k9c1) (by decide +kernel) rfl rfl rfl (by decide +kernel)
set_option maxRecDepth 65536 in
theorem w_c10 : (Jvm.Cond.code ({ cls := "java/lang/String", name := "equals", desc := "(Ljava/lang/Object;)Z" } : Jvm.MethodName) jdk_42_method_66_code (3 : Nat) (Option.some Jvm.ClassFile.FieldType.boolean)).before args0 about1 = true := code_word (m := ⟨7, 2⟩) (meth := k7m2) (c := k7c2) (by decide +kernel) rfl rfl rfl (by decide +kernel)
set_option maxRecDepth 65536 in
theorem w_c11 : (Jvm.Cond.code ({ cls := "java/lang/StringLatin1", name := "equals", desc := "([B[B)Z" } : Jvm.MethodName) jdk_43_method_13_code (3 : Nat) (Option.some Jvm.ClassFile.FieldType.boolean)).before args0 about1 = true := code_word (m := ⟨10, 1⟩) (meth := k10m1) (c := k10c1) (by decide +kernel) rfl rfl rfl (by decide +kernel)
set_option maxRecDepth 65536 in
theorem w_c12 : (Jvm.Cond.code ({ cls := "java/lang/StringUTF16", name := "compress", desc := "([CII)[B" } : Jvm.MethodName) jdk_52_method_16_code (6 : Nat) (Option.some (Jvm.ClassFile.FieldType.array Jvm.ClassFile.FieldType.byte))).before args0 about1 = true := code_word (m := ⟨11, 2⟩) (meth := k11m2) (c := k11c2) (by decide +kernel) rfl rfl rfl (by decide +kernel)
set_option maxRecDepth 65536 in
theorem w_c13 : (Jvm.Cond.code ({ cls := "java/lang/StringUTF16", name := "compress", desc := "([CI[BII)I" } : Jvm.MethodName) jdk_52_method_21_code (7 : Nat) (Option.some Jvm.ClassFile.FieldType.int)).before args0 about1 = true := code_word (m := ⟨11, 3⟩) (meth := k11m3) (c := k11c3) (by decide +kernel) rfl rfl rfl (by decide +kernel)
set_option maxRecDepth 65536 in
theorem w_c14 : (Jvm.Cond.code ({ cls := "java/lang/StringUTF16", name := "coderFromArrayLen", desc := "([BI)B" } : Jvm.MethodName) jdk_52_method_15_code (2 : Nat) (Option.some Jvm.ClassFile.FieldType.byte)).before args0 about1 = true := code_word (m := ⟨11, 1⟩) (meth := k11m1) (c := k11c1) (by decide +kernel) rfl rfl rfl (by decide +kernel)
def codes1 : List Jvm.Cond := [Jvm.Cond.code x code maxLocals ret, Jvm.Cond.code ({ cls := "com/example/limpet/limpet/HoldEqualsPinLaw", name := "mk", desc := "(I)Ljava/lang/String;" } : Jvm.MethodName) method_3_code (3 : Nat) (Option.some (Jvm.ClassFile.FieldType.object "java/lang/String")), Jvm.Cond.code ({ cls := "com/example/limpet/limpet/HoldEqualsPinLaw", name := "len", desc := "(I)I" } : Jvm.MethodName) method_2_code (1 : Nat) (Option.some Jvm.ClassFile.FieldType.int), Jvm.Cond.code ({ cls := "java/lang/String", name := "<init>", desc := "([C)V" } : Jvm.MethodName) jdk_42_method_3_code (2 : Nat) (Option.none : Option Jvm.ClassFile.FieldType), Jvm.Cond.code ({ cls := "java/lang/String", name := "<init>", desc := "([CIILjava/lang/Void;)V" } : Jvm.MethodName) jdk_42_method_149_code (6 : Nat) (Option.none : Option Jvm.ClassFile.FieldType), Jvm.Cond.code ({ cls := "java/lang/Object", name := "<init>", desc := "()V" } : Jvm.MethodName) object_method_1_code (1 : Nat) (Option.none : Option Jvm.ClassFile.FieldType), Jvm.Cond.code ({ cls := "com/example/limpet/limpet/Hold", name := "<init>", desc := "(Ljava/lang/String;Ljava/lang/String;Ljava/lang/String;)V" } : Jvm.MethodName) prog_3_method_1_code (4 : Nat) (Option.none : Option Jvm.ClassFile.FieldType), Jvm.Cond.code ({ cls := "java/lang/Record", name := "<init>", desc := "()V" } : Jvm.MethodName) jdk_30_method_1_code (1 : Nat) (Option.none : Option Jvm.ClassFile.FieldType), Jvm.Cond.code ({ cls := "com/example/limpet/limpet/HoldEqualsPinLaw", name := "same", desc := "(II)Z" } : Jvm.MethodName) method_4_code (4 : Nat) (Option.some Jvm.ClassFile.FieldType.boolean), Jvm.Cond.code ({ cls := "com/example/limpet/limpet/Hold", name := "equals", desc := "(Ljava/lang/Object;)Z" } : Jvm.MethodName) prog_3_method_2_code (3 : Nat) (Option.some Jvm.ClassFile.FieldType.boolean), Jvm.Cond.code ({ cls := "java/lang/String", name := "equals", desc := "(Ljava/lang/Object;)Z" } : Jvm.MethodName) jdk_42_method_66_code (3 : Nat) (Option.some Jvm.ClassFile.FieldType.boolean), Jvm.Cond.code ({ cls := "java/lang/StringLatin1", name := "equals", desc := "([B[B)Z" } : Jvm.MethodName) jdk_43_method_13_code (3 : Nat) (Option.some Jvm.ClassFile.FieldType.boolean), Jvm.Cond.code ({ cls := "java/lang/StringUTF16", name := "compress", desc := "([CII)[B" } : Jvm.MethodName) jdk_52_method_16_code (6 : Nat) (Option.some (Jvm.ClassFile.FieldType.array Jvm.ClassFile.FieldType.byte)), Jvm.Cond.code ({ cls := "java/lang/StringUTF16", name := "compress", desc := "([CI[BII)I" } : Jvm.MethodName) jdk_52_method_21_code (7 : Nat) (Option.some Jvm.ClassFile.FieldType.int), Jvm.Cond.code ({ cls := "java/lang/StringUTF16", name := "coderFromArrayLen", desc := "([BI)B" } : Jvm.MethodName) jdk_52_method_15_code (2 : Nat) (Option.some Jvm.ClassFile.FieldType.byte)]
set_option maxRecDepth 65536 in
theorem codes_eq : words1.filter isCode = codes1 := rfl
theorem w_codes : ∀ c ∈ words1.filter isCode, c.before args0 about1 = true := by
  rw [codes_eq]
  intro c hc
  simp only [codes1, List.mem_cons, List.not_mem_nil, or_false] at hc
  rcases hc with rfl | rfl | rfl | rfl | rfl | rfl | rfl | rfl | rfl | rfl | rfl | rfl | rfl | rfl | rfl
  · exact w_c0
  · exact w_c1
  · exact w_c2
  · exact w_c3
  · exact w_c4
  · exact w_c5
  · exact w_c6
  · exact w_c7
  · exact w_c8
  · exact w_c9
  · exact w_c10
  · exact w_c11
  · exact w_c12
  · exact w_c13
  · exact w_c14
set_option maxRecDepth 65536 in
theorem w_t1 : (words1.take 24).all (fun c => isCode c || c.before args0 about1) = true := by decide +kernel
set_option maxRecDepth 65536 in
theorem w_t2 : ((words1.drop 24).take 24).all (fun c => isCode c || c.before args0 about1) = true := by decide +kernel
set_option maxRecDepth 65536 in
theorem w_t3 : (((words1.drop 24).drop 24).take 24).all (fun c => isCode c || c.before args0 about1) = true := by decide +kernel
set_option maxRecDepth 65536 in
theorem w_t4 : (((words1.drop 24).drop 24).drop 24).all (fun c => isCode c || c.before args0 about1) = true := by decide +kernel
theorem w_tables : (allAtoms (Jvm.Cond.code x code maxLocals ret :: tables_1)).before args0 about1 = true := by
  rw [allAtoms_all]
  show words1.all (fun c => c.before args0 about1) = true
  refine all_split ?_ w_codes
  rw [← List.take_append_drop 24 words1, List.all_append, w_t1, ← List.take_append_drop 24 (words1.drop 24), List.all_append, w_t2, ← List.take_append_drop 24 ((words1.drop 24).drop 24), List.all_append, w_t3, w_t4]
  rfl
set_option maxRecDepth 65536 in
theorem w_rest : rest_1_c.before args0 about1 = true := by decide +kernel
set_option maxRecDepth 65536 in
theorem w_case : (Jvm.Cond.and given_1 narrow_1).before args0 about1 = true := by decide +kernel
set_option maxRecDepth 65536 in
theorem w_consts : constsHeld consts_1 about1 := Jvm.Lit.constsHeldB_iff.mp (by decide +kernel)
theorem w_applies : (headSpec (Jvm.Cond.code x code maxLocals ret :: tables_1) room_1).applies x e0.platform about1 = true :=
  (Spec.applies_iff w_frames).mpr ⟨w_running, w_runnable, w_alone, w_named, w_hears, w_ripe, w_room, w_tables⟩
theorem atStart : AtStart classFile x code maxLocals ret World_1 tables_1 room_1 Calls_1 rest_1 Pre_1 launch0 p0 e0 about1 theMethod args0 below0 :=
  ⟨lists_1, trivial, launch0.admits_env _ _ _, launch0.least_env, fairChoices_fair.cas, fairChoices_fair.clock, w_frames, w_args, w_heap, w_applies, ⟨w_consts, trivial⟩, w_rest, w_case⟩
end start1
theorem witness_1 : WitnessClaimed_1 := ⟨start1.p0, start1.e0, start1.about1, start1.theMethod, start1.args0, start1.below0, start1.atStart⟩
end Jvm.Pilot.@@N@@
