import JvmDerived
import JvmDerived.Pilot.@@N@@Statement
import JvmDerived.Pilot.@@N@@Code
set_option linter.unusedVariables false
set_option linter.unusedSimpArgs false

namespace Jvm.Pilot.@@N@@
open Jvm Jvm.ClassFile Sem Op Lib Jvm.Free Jvm.Stand Jvm.LawKit Jvm.RoadKit Bundle Jvm.Pilot.@@N@@.Jvm.D
def OwnFin (p : Program) (e : Env) (below : List Frame) (Q : Outcome → State → Prop) (T : State) : Prop := ∃ s₂ o, Steps p.tables e below T s₂ ∧ s₂.status = .running ∧ Ended s₂ below o ∧ Q o s₂
theorem OwnFin.step {p : Program} {e : Env} {below : List Frame} {Q : Outcome → State → Prop} {A B : State} (h : ∀ t, Steps p.tables e below A t → Steps p.tables e below B t) (k : OwnFin p e below Q A) : OwnFin p e below Q B := by
  obtain ⟨s₂, o, h1, h2⟩ := k
  exact ⟨s₂, o, h _ h1, h2⟩
theorem own_safe_nil {Z : State} {vm : Vm} {h : Heap} {x : Addr} : Safe Z [] vm h x := fun ⟨_, hp, _⟩ => nomatch hp
theorem own_safe_str {Z : State} {EL : List (String × Nat)} {vm : Vm} {h : Heap} {x : Addr} (hal : Z.vm.Alike vm) (E : Exa Z h x "java/lang/String") (F : Fld Z h x "java/lang/String" "value" "[B" .null) : Safe Z EL vm h x := fun B => by
  obtain ⟨p, -, u, a, -, q, -, G, rfl | rfl⟩ := B
  · obtain ⟨cell, cf, k, i, f, h1, h2, h3, h4, h5, h6, h7⟩ := F
    cases (show h[q.sa]? = some q.sC from G.ha).symm.trans h1
    obtain ⟨cS, ⟨⟨-, -, -, ⟨c1, k1, i1, f1, -⟩, -, -, -, v1, -⟩, -⟩, -⟩ := G
    obtain ⟨k3, e3, -⟩ := State.fieldFound?_setVm (s := Z) hal h2
    have e4 := (show (Wst Z vm h).fieldFound? _ _ _ = _ from e3).symm.trans f1
    simp only [Option.some.injEq, Prod.mk.injEq] at e4
    rw [← e4.2.2.2, h7] at v1
    simp at v1
  · obtain ⟨cell, k, e1, e2, e3, -, -⟩ := E
    cases (show h[q.sd]? = some q.SA from G.hd).symm.trans e1
    obtain ⟨cS, -, -, f, -⟩ := G
    have f : vm.findClass "[B" = some q.SA.cls := f
    rw [hal.findClass] at f
    obtain ⟨k1, q1, q2⟩ := Vm.findClass_spec f
    obtain ⟨k2, q3, q4⟩ := Vm.findClass_spec e2
    cases q1.symm.trans q3
    exact absurd (q2.symm.trans q4) (by decide)
section OwnNo
variable {Z : State} {a0 : Array Value}
theorem own_ns_root {O K : String} {n : Nat} (w : (Jvm.Cond.noSuperclass O).before a0 Z = true) (wk : (Jvm.Cond.instantiable K n).before a0 Z = true) (hn : O ≠ K) : NS Z O K := by
  obtain ⟨c, k, h1, h2, h3, -, -⟩ := Cond.noSuperclass_spec w
  obtain ⟨t, kt, g1, -⟩ := Cond.instantiable_spec wk
  have ne := ids_ne h1 g1 hn
  refine ⟨c, t, h1, g1, fun fuel => ?_⟩
  cases fuel with
  | zero => rfl
  | succ f => simp [Vm.isSubclassAux, ne, h2, h3]
theorem own_ns_no {C S K : String} {n : Nat} (w : (Jvm.Cond.superclass C S).before a0 Z = true) (wk : (Jvm.Cond.instantiable K n).before a0 Z = true) (m : NS Z C K) (hn : C ≠ K) : ∃ c t, Z.vm.findClass C = some c ∧ Z.vm.findClass K = some t ∧ Z.vm.assignable c t = false := by
  obtain ⟨c, t, h0, g0, n3⟩ := m
  obtain ⟨p, k, kp, h1, h2, h3, h4, h5, -, h7⟩ := Cond.superclass_spec h0 w
  obtain ⟨t', k', g1, g2, g5, g7, -⟩ := Cond.instantiable_spec wk
  cases g0.symm.trans g1
  have g8 : k'.isInterface = false := (Bool.or_eq_false_iff.mp g7).1
  have ne := ids_ne h0 g0 hn
  refine ⟨c, t, h0, g0, ?_⟩
  show Z.vm.assignableAux (255 + 1) c t = false
  simp [Vm.assignableAux, ne, h2, g2, h5, g5, g8, Vm.isSubclass, n3]
end OwnNo
theorem own_fits {C : String} {v : Value} (h : v.isRef = true) : fits (.object C) v = true := by cases v <;> simp_all [Value.isRef, fits]
theorem own_cat {v : Value} (h : v.isRef = true) : v.category = 1 := by cases v <;> simp_all [Value.isRef, Value.category]
theorem own_nonsta {Z : State} {h : Heap} {a : Addr} {C : String} (E : Exa Z h a C) : ∃ cell : Cell, h[a]? = some cell ∧ cell.vm.isStatics = false := by
  obtain ⟨cell, k, h1, -, -, h2, -⟩ := E
  exact ⟨cell, h1, h2⟩
theorem own_sta_keep {Z : State} {h h' : Heap} {ws : List Addr} {C n d : String} {v : Value} (F : Sta Z h C n d v) (K : Keep h h' ws) (q : ∀ x ∈ ws, ∃ cell : Cell, h[x]? = some cell ∧ cell.vm.isStatics = false) : Sta Z h' C n d v := by
  obtain ⟨cf, i, k, f, st, cell, h1, h2, h3, h4, h5, h6, h7⟩ := F
  refine ⟨cf, i, k, f, st, cell, h1, h2, h3, h4, K.2.1 _ _ h5 fun z => ?_, h6, h7⟩
  obtain ⟨c2, e1, e2⟩ := q st z
  rw [h5] at e1
  cases e1
  rw [h6] at e2
  cases e2
theorem own_arr_keep {Z : State} {h h' : Heap} {ws : List Addr} {a : Addr} {c : Cell} {ty : FieldType} (A : Arr Z h a c ty) (K : Keep h h' ws) (q : a ∉ ws) : Arr Z h' a c ty := ⟨K.2.1 a c A.1 q, A.2⟩
section OwnLen
variable {p : Program} {l : Launch} {e : Env} {R : Room} {s : State} {m : MethodId} {args : Array Value} {below : List Frame} {meth : Method} {c : Code} {T : State} {locs : List Loc} {cells slots : Nat} {Z : State} {h : Heap}
theorem own_len (X : Stand p l e R s m args below meth c T locs cells slots) (hx : p.tables.exec = Jvm.exec) (hZ : Z.Warmed39 s.vm) (eT : T.heap = h) {a : Addr} {cl : Cell} {ty : FieldType} (A : Arr Z h a cl ty) {z : Int32} (Sz : cl.slots.size = z.toNatClampNeg) (Ng : ¬ z < 0) {g : JFrame} (hg : g.method = m) {rest : List Value} (hs : g.stack = .ref a :: rest) (hd : decode c.code g.pc = .ok (.arraylength, 1)) {t : State}
    (k : Steps p.tables e below (T.setTop { g with pc := g.pc + 1, stack := .int z :: rest }) t) : Steps p.tables e below (T.setTop g) t := by
  refine X.arraylength hx (by rw [eT]; exact A.1) (State.isArrayOf_alike hZ.alike A.2.1) hg hs hd _ ?_
  rw [len_of Sz Ng]
  exact k
end OwnLen

section OwnStart
variable {args : Array Value} {s : State} {t : Term} {x : Addr}
theorem own_eqI {a : Term} {k : Int32} (h : (Jvm.Cond.eq a (Term.int k)).value args s none s [] = some true) : a.eval args s none [] s = some (.int k) := by
  obtain ⟨v, y, e1, e2, k1, k2⟩ := cmp_v (Or.inl h)
  have e3 : (Term.int k).eval args s none [] s = some (.int k) := Term.int_eval k
  rw [e3] at e2
  cases e2
  obtain ⟨z, rfl⟩ := k2
  simp [Cond.value, e1, e3] at h
  subst h
  exact e1
theorem own_fldI {C n d : String} {k : Int32} (ht : t.eval args s none [] s = some (.ref x)) (h : (Jvm.Cond.eq (Term.field t C n d) (Term.int k)).value args s none s [] = some true) : Fld s s.heap x C n d (.int k) := Fld.start (by rw [← fld_at ht (args := args) (first := s) (o := none) (idx := [])]; exact own_eqI h)
theorem own_neI {a : Term} {z k : Int32} (e1 : a.eval args s none [] s = some (.int z)) (h : (Jvm.Cond.not (Jvm.Cond.eq a (Term.int k))).value args s none s [] = some true) : ¬ z = k := by
  have h2 := not_v h
  have e3 : (Term.int k).eval args s none [] s = some (.int k) := Term.int_eval k
  intro e
  subst e
  simp [Cond.value, e1, e3] at h2
theorem own_eqR {a b : Term} {y : Addr} (hb : b.eval args s none [] s = some (.ref y)) (h : (Jvm.Cond.eq a b).value args s none s [] = some true) : a.eval args s none [] s = some (.ref y) := by
  obtain ⟨v, z, e1, e2, k1, k2⟩ := cmp_v (Or.inl h)
  rw [hb] at e2
  cases e2
  have hv : v.isRef = true := k2.2
  rw [eq_R e1 hb hv rfl] at h
  have := of_decide_eq_true (Option.some.inj h)
  subst this
  exact e1
theorem own_arv {t : Term} {a : Addr} {cl : Cell} {ty : FieldType} {z : Int32} {vs : List Value} {dv : Value} (hf : Fit s) (A : Arr s s.heap a cl ty) (ev : t.eval args s none [] s = some (.ref a)) (hl : (Term.length t).eval args s none [] s = some (.int z)) (hz : ¬ z < 0) (hn : z.toNatClampNeg = vs.length) (H : HasL cl 0 vs) : Arv s s.heap a cl.cls ty z vs dv := by
  obtain ⟨b, cell, h1, h2, h3⟩ := Term.length_spec hl
  cases ev.symm.trans h1
  obtain ⟨hcell, -⟩ := State.arrayAt?_spec h2
  cases A.1.symm.trans hcell
  have hsz : cl.slots.size < 2 ^ 31 := by
    simp only [Term.eval, ev, h2, Option.bind_eq_bind, Option.bind_some] at hl
    by_cases hlt : cl.slots.size < 2147483648
    · exact hlt
    · simp [hlt] at hl
  exact Arv.start hf A hsz (Value.int.inj h3).symm hz hn H
theorem own_elem {t : Term} {a : Addr} {cl : Cell} {ty : FieldType} {j : Int32} {v : Value} (A : Arr s s.heap a cl ty) (ev : t.eval args s none [] s = some (.ref a)) (h : (Term.elem t (Term.int j)).eval args s none [] s = some v) : cl.slots[j.toNatClampNeg]? = some v := (elem_in h ev (Term.int_eval j) A.1).2
end OwnStart

theorem own_mod (k : Int32) (d : Int32) (D : Int) (hd : d.toInt = D) (hD : 0 < D) : 0 ≤ ((k &&& (2147483647 : Int32)) % d).toInt ∧ ((k &&& (2147483647 : Int32)) % d).toInt < D := by
  have h1 := c_mask k (2147483647 : Int32) 31 (by decide) (by decide)
  have h2 := (c_irem (k &&& (2147483647 : Int32)) d D hd).1 (by rw [h1]; exact Int.emod_nonneg _ (by decide))
  rw [h2]
  exact ⟨Int.emod_nonneg _ (by omega), Int.emod_lt_of_pos _ hD⟩

def OwnEL : List (String × Nat) := [("com/example/covenantry/covenantry/text/PhrasesAfterLastMarkPinLaw", 12)]

theorem own_nar255 {c : Int32} (h : ¬ (255 : Int32) < c) (h0 : 0 ≤ c.toInt) : ¬ (255 : Int32) < nar .char c := by
  have h2 := c_i2c c
  show ¬ (255 : Int32) < c.toUInt32.toUInt16.toUInt32.toInt32
  rw [Int32.lt_iff_toInt_lt] at h ⊢
  have h3 : ((255 : Int32)).toInt = 255 := rfl
  omega
theorem own_c8 (x : Int32) : ¬ (255 : Int32) < (x &&& (255 : Int32)).toUInt32.toUInt16.toUInt32.toInt32 ∧ 0 ≤ (x &&& (255 : Int32)).toUInt32.toUInt16.toUInt32.toInt32.toInt := by
  have h1 := c_mask x (255 : Int32) 8 (by decide) (by decide)
  have h3 := c_i2c (x &&& (255 : Int32))
  rw [Int32.lt_iff_toInt_lt]
  have h4 : ((255 : Int32)).toInt = 255 := rfl
  omega
theorem own_cases5 {i : Int32} (h0 : 0 ≤ i.toInt) (h1 : i.toInt < 5) : i = (0 : Int32) ∨ i = (1 : Int32) ∨ i = (2 : Int32) ∨ i = (3 : Int32) ∨ i = (4 : Int32) := by
  simp only [← Int32.toInt_inj]
  simp
  omega
theorem own_cases3 {i : Int32} (h0 : 0 ≤ i.toInt) (h1 : i.toInt < 3) : i = (0 : Int32) ∨ i = (1 : Int32) ∨ i = (2 : Int32) := by
  simp only [← Int32.toInt_inj]
  simp
  omega
def In8 (c : Int32) : Prop := 0 ≤ c.toInt ∧ c.toInt ≤ 255
theorem own_in8 (x : Int32) : In8 ((x &&& (255 : Int32)).toUInt32.toUInt16.toUInt32.toInt32) := by
  have h1 := c_mask x (255 : Int32) 8 (by decide) (by decide)
  have h3 := c_i2c (x &&& (255 : Int32))
  constructor <;> omega
theorem own_narc {c : Int32} (h : In8 c) : nar .char c = c := by
  have h3 := c_i2c c
  obtain ⟨h1, h2⟩ := h
  show c.toUInt32.toUInt16.toUInt32.toInt32 = c
  apply Int32.toInt_inj.mp
  omega
theorem own_narrc {c : Int32} (h : In8 c) : narrow .char (.int c) = .int c := congrArg Value.int (own_narc h)
theorem own_lt {c : Int32} (h : In8 c) : ¬ (255 : Int32) < c := by
  rw [Int32.lt_iff_toInt_lt]
  have h3 : ((255 : Int32)).toInt = 255 := rfl
  have := h.2
  omega
theorem own_nn {c : Int32} (h : In8 c) : ¬ c < (0 : Int32) := by
  rw [Int32.lt_iff_toInt_lt]
  have h3 : ((0 : Int32)).toInt = 0 := rfl
  have := h.1
  omega
theorem own_ch {c : Int32} (h : In8 c) : ((nar .byte (c.toInt8.toInt32)) &&& (255 : Int32)).toUInt32.toUInt16.toUInt32.toInt32 = c := by
  obtain ⟨h1, h2⟩ := h
  have a1 := c_i2b c
  have a2 := c_i2b (c.toInt8.toInt32)
  have a3 := c_mask ((c.toInt8.toInt32).toInt8.toInt32) (255 : Int32) 8 (by decide) (by decide)
  have a4 := c_i2c (((c.toInt8.toInt32).toInt8.toInt32) &&& (255 : Int32))
  show (((c.toInt8.toInt32).toInt8.toInt32) &&& (255 : Int32)).toUInt32.toUInt16.toUInt32.toInt32 = c
  apply Int32.toInt_inj.mp
  omega
theorem own_by {m c : Int32} (h : In8 m) (g : In8 c) : (nar .byte (m.toInt8.toInt32)) = (c.toInt8.toInt32) ↔ c = m := by
  constructor
  · intro e
    have e2 : (m.toInt8.toInt32).toInt8.toInt32 = c.toInt8.toInt32 := e
    have e3 := congrArg Int32.toInt e2
    obtain ⟨h1, h2⟩ := h
    obtain ⟨g1, g2⟩ := g
    have a1 := c_i2b m
    have a2 := c_i2b (m.toInt8.toInt32)
    have b1 := c_i2b c
    apply Int32.toInt_inj.mp
    omega
  · rintro rfl
    have a1 := c_i2b c
    have a2 := c_i2b (c.toInt8.toInt32)
    show (c.toInt8.toInt32).toInt8.toInt32 = c.toInt8.toInt32
    apply Int32.toInt_inj.mp
    omega
def OwnS (lo hi i r1 : Int32) (b : Bool) (r : Int32) : Int32 := if ¬ (i < lo) ∧ i < hi ∧ b = true then r1 else r
def OwnR (lo hi : Int32) (b0 b1 b2 b3 : Bool) : Int32 := OwnS lo hi 3 4 b3 (OwnS lo hi 2 3 b2 (OwnS lo hi 1 2 b1 (OwnS lo hi 0 1 b0 lo)))
def OwnP (lo hi : Int32) : Prop := (lo = 0 ∧ hi = 0) ∨ (lo = 0 ∧ hi = 1) ∨ (lo = 0 ∧ hi = 2) ∨ (lo = 0 ∧ hi = 3) ∨ (lo = 0 ∧ hi = 4) ∨ (lo = 1 ∧ hi = 1) ∨ (lo = 1 ∧ hi = 2) ∨ (lo = 1 ∧ hi = 3) ∨ (lo = 1 ∧ hi = 4) ∨ (lo = 2 ∧ hi = 2) ∨ (lo = 2 ∧ hi = 3) ∨ (lo = 2 ∧ hi = 4) ∨ (lo = 3 ∧ hi = 3) ∨ (lo = 3 ∧ hi = 4) ∨ (lo = 4 ∧ hi = 4)
theorem own_p {x y : Int32} (h0 : 0 ≤ x.toInt) (h1 : x.toInt < 5) (g0 : 0 ≤ y.toInt) (g1 : y.toInt < 5) : OwnP (if y < x then y else x) (if x < y then y else x) := by
  rcases own_cases5 h0 h1 with rfl | rfl | rfl | rfl | rfl <;> rcases own_cases5 g0 g1 with rfl | rfl | rfl | rfl | rfl <;> simp +decide [OwnP]
theorem d_jdk_29_method_65_0 : decode jdk_29_method_65_code 0 = .ok (.iload_n 0, 1) := by decide +kernel
theorem d_jdk_29_method_65_1 : decode jdk_29_method_65_code 1 = .ok (.iload_n 1, 1) := by decide +kernel
theorem d_jdk_29_method_65_2 : decode jdk_29_method_65_code 2 = .ok (.if_icmp .lt 7, 3) := by decide +kernel
theorem d_jdk_29_method_65_9 : decode jdk_29_method_65_code 9 = .ok (.iload_n 1, 1) := by decide +kernel
theorem d_jdk_29_method_65_10 : decode jdk_29_method_65_code 10 = .ok (.ireturn, 1) := by decide +kernel
theorem d_jdk_29_method_65_5 : decode jdk_29_method_65_code 5 = .ok (.iload_n 0, 1) := by decide +kernel
theorem d_jdk_29_method_65_6 : decode jdk_29_method_65_code 6 = .ok (.goto 4, 3) := by decide +kernel
theorem ef_1a (m : MethodId) (x : Int32) (y : Int32) : entryFrame m #[(.int x), (.int y)] 2 = mkF m 0 #[.val (.int x), .val (.int y)] [] := by first | (simp [entryFrame, mkF, argsToLocals, Value.category]; done) | rfl
def Q1a (Z : State) (x : Int32) (y : Int32) (h0 : Heap) (n0 : Nat) (vV : Option Value) (hH : Heap) (LL : List Loc) : Prop := vV = some (.int (if x < y then y else x)) ∧ Fr n0 LL ∧ hH = h0
def R1a (Z : State) (x : Int32) (y : Int32) (h0 : Heap) (n0 : Nat) (U : State) (oO : Outcome) (U' : State) : Prop := ∃ vV LL, oO = .returned vV ∧ Q1a Z x y h0 n0 vV U'.heap LL ∧ FrameEnd U oO U' LL ({ frames := 0, cells := 0, slots := 0, locals := 0 } : Room).cells ({ frames := 0, cells := 0, slots := 0, locals := 0 } : Room).slots
set_option maxRecDepth 65536 in
set_option maxHeartbeats 40000000 in
theorem rm1a (l : Launch) (Z : State) (a0 : Array Value) (hw : ∀ d ∈ tables_1, d.before a0 Z = true) (hEL : EW Z a0 OwnEL) (wS : ∀ a ∈ Bundle.stringAtoms, a.before a0 Z = true) (ws : List Jvm.Cond) (x : Int32) (y : Int32) (h0 : Heap) (n0 : Nat) (Z0 : n0 ≤ h0.size) :
    MetFree l (⟨"java/lang/Math", "max", "(II)I"⟩ : MethodName) (head1 (Jvm.Cond.code (⟨"java/lang/Math", "max", "(II)I"⟩ : MethodName) jdk_29_method_65_code 2 (some .int) :: ws) ({ frames := 0, cells := 0, slots := 0, locals := 0 } : Room)) (fun aA U => aA = #[(.int x), (.int y)] ∧ Z.Warmed39 U.vm ∧ U.heap = h0) (fun _ _ _ _ _ => True) (fun _ U oO U' => ∃ vV LL, oO = .returned vV ∧ Q1a Z x y h0 n0 vV U'.heap LL ∧ FrameEnd U oO U' LL ({ frames := 0, cells := 0, slots := 0, locals := 0 } : Room).cells ({ frames := 0, cells := 0, slots := 0, locals := 0 } : Room).slots) := by
  refine MetFree.of_bodySF (Jvm.Free.JP.mathPlain rfl (by decide +kernel)) hisR ?_
  intro p e s m args below meth cC s₁ Bd hml0 hP hK
  obtain ⟨rfl, hZ, hh⟩ := hP
  have hx := Bd.exec
  have hby := Bd.bytes
  have hml : cC.maxLocals = 2 := hml0
  have hown : s.vm.findClass "java/lang/Math" = some m.cls := findClass_of_methodNamed Bd.named
  have hnm := (name_of_methodNamed Bd.named Bd.method).1
  have X0 : Stand p l e ({ frames := 0, cells := 0, slots := 0, locals := 0 } : Room) s m #[(.int x), (.int y)] below meth cC s₁ [] 0 0 := Stand.of_body Bd
  have e0 : s₁.heap = h0 := by rw [← hh, Bd.state]; rfl
  have N0 := Fr.nil n0
  have Kp0 := Keep.refl h0 []
  show OwnFin p e below (R1a Z x y h0 n0 s) (s₁.setTop (entryFrame m #[(.int x), (.int y)] 2))
  rw [ef_1a m x y]
  refine OwnFin.step (fun tT kK => XS.iloadN X0.here hx rfl (hb hby d_jdk_29_method_65_0) rfl kK) ?_
  refine OwnFin.step (fun tT kK => XS.iloadN X0.here hx rfl (hb hby d_jdk_29_method_65_1) rfl kK) ?_
  show OwnFin p e below _ (s₁.setTop (mkF m 2 #[.val (.int x), .val (.int y)] [(.int y), (.int x)]))
  by_cases hc1 : x < y
  · skip
    refine OwnFin.step (fun tT kK => XS.icmpYes X0.here hx rfl (pc0 := 2) (pc' := 9) rfl (hb hby d_jdk_29_method_65_2) rfl (tlt (hc1 : x < y)).1 (by decide) (by decide) kK) ?_
    show OwnFin p e below _ (s₁.setTop (mkF m 9 #[.val (.int x), .val (.int y)] []))
    refine OwnFin.step (fun tT kK => XS.iloadN X0.here hx rfl (hb hby d_jdk_29_method_65_9) rfl kK) ?_
    obtain ⟨fs2, hr2, hrun2, hended2, hW2, hsame2⟩ := X0.leave (v := (some (.int y))) (fun h => by rw [Bd.returns] at h; cases h)
    refine ⟨_, _, retOut X0 hx Bd.returns rfl (Or.inl ⟨rfl, Or.inl rfl, _, rfl⟩) (hb hby d_jdk_29_method_65_10) hr2, hrun2, hended2, _, _, rfl, ?_, ⟨_, rfl⟩, hW2, hsame2.mono (by decide) (by decide)⟩
    show Q1a Z x y h0 n0 _ s₁.heap _
    rw [e0]
    exact ⟨(by rw [if_pos hc1]), N0, rfl⟩
  · skip
    refine OwnFin.step (fun tT kK => XS.icmpNo X0.here hx rfl (hb hby d_jdk_29_method_65_2) rfl (flt (hc1 : ¬ (x < y))).1 kK) ?_
    show OwnFin p e below _ (s₁.setTop (mkF m 5 #[.val (.int x), .val (.int y)] []))
    refine OwnFin.step (fun tT kK => XS.iloadN X0.here hx rfl (hb hby d_jdk_29_method_65_5) rfl kK) ?_
    refine OwnFin.step (fun tT kK => XS.goto X0.here hx rfl (pc0 := 6) (pc' := 10) rfl (hb hby d_jdk_29_method_65_6) (by decide) (by decide) kK) ?_
    show OwnFin p e below _ (s₁.setTop (mkF m 10 #[.val (.int x), .val (.int y)] [(.int x)]))
    obtain ⟨fs3, hr3, hrun3, hended3, hW3, hsame3⟩ := X0.leave (v := (some (.int x))) (fun h => by rw [Bd.returns] at h; cases h)
    refine ⟨_, _, retOut X0 hx Bd.returns rfl (Or.inl ⟨rfl, Or.inl rfl, _, rfl⟩) (hb hby d_jdk_29_method_65_10) hr3, hrun3, hended3, _, _, rfl, ?_, ⟨_, rfl⟩, hW3, hsame3.mono (by decide) (by decide)⟩
    show Q1a Z x y h0 n0 _ s₁.heap _
    rw [e0]
    exact ⟨(by rw [if_neg hc1]), N0, rfl⟩
theorem d_jdk_29_method_69_0 : decode jdk_29_method_69_code 0 = .ok (.iload_n 0, 1) := by decide +kernel
theorem d_jdk_29_method_69_1 : decode jdk_29_method_69_code 1 = .ok (.iload_n 1, 1) := by decide +kernel
theorem d_jdk_29_method_69_2 : decode jdk_29_method_69_code 2 = .ok (.if_icmp .gt 7, 3) := by decide +kernel
theorem d_jdk_29_method_69_9 : decode jdk_29_method_69_code 9 = .ok (.iload_n 1, 1) := by decide +kernel
theorem d_jdk_29_method_69_10 : decode jdk_29_method_69_code 10 = .ok (.ireturn, 1) := by decide +kernel
theorem d_jdk_29_method_69_5 : decode jdk_29_method_69_code 5 = .ok (.iload_n 0, 1) := by decide +kernel
theorem d_jdk_29_method_69_6 : decode jdk_29_method_69_code 6 = .ok (.goto 4, 3) := by decide +kernel
theorem ef_1b (m : MethodId) (x : Int32) (y : Int32) : entryFrame m #[(.int x), (.int y)] 2 = mkF m 0 #[.val (.int x), .val (.int y)] [] := by first | (simp [entryFrame, mkF, argsToLocals, Value.category]; done) | rfl
def Q1b (Z : State) (x : Int32) (y : Int32) (h0 : Heap) (n0 : Nat) (vV : Option Value) (hH : Heap) (LL : List Loc) : Prop := vV = some (.int (if y < x then y else x)) ∧ Fr n0 LL ∧ hH = h0
def R1b (Z : State) (x : Int32) (y : Int32) (h0 : Heap) (n0 : Nat) (U : State) (oO : Outcome) (U' : State) : Prop := ∃ vV LL, oO = .returned vV ∧ Q1b Z x y h0 n0 vV U'.heap LL ∧ FrameEnd U oO U' LL ({ frames := 0, cells := 0, slots := 0, locals := 0 } : Room).cells ({ frames := 0, cells := 0, slots := 0, locals := 0 } : Room).slots
set_option maxRecDepth 65536 in
set_option maxHeartbeats 40000000 in
theorem rm1b (l : Launch) (Z : State) (a0 : Array Value) (hw : ∀ d ∈ tables_1, d.before a0 Z = true) (hEL : EW Z a0 OwnEL) (wS : ∀ a ∈ Bundle.stringAtoms, a.before a0 Z = true) (ws : List Jvm.Cond) (x : Int32) (y : Int32) (h0 : Heap) (n0 : Nat) (Z0 : n0 ≤ h0.size) :
    MetFree l (⟨"java/lang/Math", "min", "(II)I"⟩ : MethodName) (head1 (Jvm.Cond.code (⟨"java/lang/Math", "min", "(II)I"⟩ : MethodName) jdk_29_method_69_code 2 (some .int) :: ws) ({ frames := 0, cells := 0, slots := 0, locals := 0 } : Room)) (fun aA U => aA = #[(.int x), (.int y)] ∧ Z.Warmed39 U.vm ∧ U.heap = h0) (fun _ _ _ _ _ => True) (fun _ U oO U' => ∃ vV LL, oO = .returned vV ∧ Q1b Z x y h0 n0 vV U'.heap LL ∧ FrameEnd U oO U' LL ({ frames := 0, cells := 0, slots := 0, locals := 0 } : Room).cells ({ frames := 0, cells := 0, slots := 0, locals := 0 } : Room).slots) := by
  refine MetFree.of_bodySF (Jvm.Free.JP.mathPlain rfl (by decide +kernel)) hisR ?_
  intro p e s m args below meth cC s₁ Bd hml0 hP hK
  obtain ⟨rfl, hZ, hh⟩ := hP
  have hx := Bd.exec
  have hby := Bd.bytes
  have hml : cC.maxLocals = 2 := hml0
  have hown : s.vm.findClass "java/lang/Math" = some m.cls := findClass_of_methodNamed Bd.named
  have hnm := (name_of_methodNamed Bd.named Bd.method).1
  have X0 : Stand p l e ({ frames := 0, cells := 0, slots := 0, locals := 0 } : Room) s m #[(.int x), (.int y)] below meth cC s₁ [] 0 0 := Stand.of_body Bd
  have e0 : s₁.heap = h0 := by rw [← hh, Bd.state]; rfl
  have N0 := Fr.nil n0
  have Kp0 := Keep.refl h0 []
  show OwnFin p e below (R1b Z x y h0 n0 s) (s₁.setTop (entryFrame m #[(.int x), (.int y)] 2))
  rw [ef_1b m x y]
  refine OwnFin.step (fun tT kK => XS.iloadN X0.here hx rfl (hb hby d_jdk_29_method_69_0) rfl kK) ?_
  refine OwnFin.step (fun tT kK => XS.iloadN X0.here hx rfl (hb hby d_jdk_29_method_69_1) rfl kK) ?_
  show OwnFin p e below _ (s₁.setTop (mkF m 2 #[.val (.int x), .val (.int y)] [(.int y), (.int x)]))
  by_cases hc1 : y < x
  · skip
    refine OwnFin.step (fun tT kK => XS.icmpYes X0.here hx rfl (pc0 := 2) (pc' := 9) rfl (hb hby d_jdk_29_method_69_2) rfl (tlt (hc1 : y < x)).2.2.1 (by decide) (by decide) kK) ?_
    show OwnFin p e below _ (s₁.setTop (mkF m 9 #[.val (.int x), .val (.int y)] []))
    refine OwnFin.step (fun tT kK => XS.iloadN X0.here hx rfl (hb hby d_jdk_29_method_69_9) rfl kK) ?_
    obtain ⟨fs2, hr2, hrun2, hended2, hW2, hsame2⟩ := X0.leave (v := (some (.int y))) (fun h => by rw [Bd.returns] at h; cases h)
    refine ⟨_, _, retOut X0 hx Bd.returns rfl (Or.inl ⟨rfl, Or.inl rfl, _, rfl⟩) (hb hby d_jdk_29_method_69_10) hr2, hrun2, hended2, _, _, rfl, ?_, ⟨_, rfl⟩, hW2, hsame2.mono (by decide) (by decide)⟩
    show Q1b Z x y h0 n0 _ s₁.heap _
    rw [e0]
    exact ⟨(by rw [if_pos hc1]), N0, rfl⟩
  · skip
    refine OwnFin.step (fun tT kK => XS.icmpNo X0.here hx rfl (hb hby d_jdk_29_method_69_2) rfl (flt (hc1 : ¬ (y < x))).2.2.1 kK) ?_
    show OwnFin p e below _ (s₁.setTop (mkF m 5 #[.val (.int x), .val (.int y)] []))
    refine OwnFin.step (fun tT kK => XS.iloadN X0.here hx rfl (hb hby d_jdk_29_method_69_5) rfl kK) ?_
    refine OwnFin.step (fun tT kK => XS.goto X0.here hx rfl (pc0 := 6) (pc' := 10) rfl (hb hby d_jdk_29_method_69_6) (by decide) (by decide) kK) ?_
    show OwnFin p e below _ (s₁.setTop (mkF m 10 #[.val (.int x), .val (.int y)] [(.int x)]))
    obtain ⟨fs3, hr3, hrun3, hended3, hW3, hsame3⟩ := X0.leave (v := (some (.int x))) (fun h => by rw [Bd.returns] at h; cases h)
    refine ⟨_, _, retOut X0 hx Bd.returns rfl (Or.inl ⟨rfl, Or.inl rfl, _, rfl⟩) (hb hby d_jdk_29_method_69_10) hr3, hrun3, hended3, _, _, rfl, ?_, ⟨_, rfl⟩, hW3, hsame3.mono (by decide) (by decide)⟩
    show Q1b Z x y h0 n0 _ s₁.heap _
    rw [e0]
    exact ⟨(by rw [if_neg hc1]), N0, rfl⟩
theorem pn_14 : plainName "java/lang/String" = true := by first | (simp [plainName, overriddenIn]; done) | decide +kernel
theorem d_jdk_42_method_154_0 : decode jdk_42_method_154_code 0 = .ok (.getstatic 38, 3) := by decide +kernel
theorem d_jdk_42_method_154_3 : decode jdk_42_method_154_code 3 = .ok (.ifCond .eq 14, 3) := by decide +kernel
theorem d_jdk_42_method_154_6 : decode jdk_42_method_154_code 6 = .ok (.aload_n 0, 1) := by decide +kernel
theorem d_jdk_42_method_154_7 : decode jdk_42_method_154_code 7 = .ok (.getfield 15, 3) := by decide +kernel
theorem d_jdk_42_method_154_10 : decode jdk_42_method_154_code 10 = .ok (.ifCond .ne 7, 3) := by decide +kernel
theorem d_jdk_42_method_154_13 : decode jdk_42_method_154_code 13 = .ok (.iconst 1, 1) := by decide +kernel
theorem d_jdk_42_method_154_14 : decode jdk_42_method_154_code 14 = .ok (.goto 4, 3) := by decide +kernel
theorem d_jdk_42_method_154_18 : decode jdk_42_method_154_code 18 = .ok (.ireturn, 1) := by decide +kernel
theorem ef_2a (m : MethodId) (a : Addr) : entryFrame m #[(.ref a)] 1 = mkF m 0 #[.val (.ref a)] [] := by first | (simp [entryFrame, mkF, argsToLocals, Value.category]; done) | rfl
def Q2a (Z : State) (a : Addr) (cs : Int32) (h0 : Heap) (n0 : Nat) (vV : Option Value) (hH : Heap) (LL : List Loc) : Prop := vV = some (.int (1 : Int32)) ∧ Fr n0 LL ∧ hH = h0
def R2a (Z : State) (a : Addr) (cs : Int32) (h0 : Heap) (n0 : Nat) (U : State) (oO : Outcome) (U' : State) : Prop := ∃ vV LL, oO = .returned vV ∧ Q2a Z a cs h0 n0 vV U'.heap LL ∧ FrameEnd U oO U' LL ({ frames := 0, cells := 0, slots := 0, locals := 0 } : Room).cells ({ frames := 0, cells := 0, slots := 0, locals := 0 } : Room).slots
set_option maxRecDepth 65536 in
set_option maxHeartbeats 40000000 in
theorem rm2a (l : Launch) (Z : State) (a0 : Array Value) (hw : ∀ d ∈ tables_1, d.before a0 Z = true) (hEL : EW Z a0 OwnEL) (wS : ∀ a ∈ Bundle.stringAtoms, a.before a0 Z = true) (ws : List Jvm.Cond) (a : Addr) (cs : Int32) (h0 : Heap) (n0 : Nat) (Z0 : n0 ≤ h0.size) (hp0 : Sta Z h0 "java/lang/String" "COMPACT_STRINGS" "Z" (.int cs)) (hp1 : ¬ cs = (0 : Int32)) (hp2 : Fld Z h0 a "java/lang/String" "coder" "B" (.int (0 : Int32))) :
    MetFree l (⟨"java/lang/String", "isLatin1", "()Z"⟩ : MethodName) (head1 (Jvm.Cond.code (⟨"java/lang/String", "isLatin1", "()Z"⟩ : MethodName) jdk_42_method_154_code 1 (some .boolean) :: ws) ({ frames := 0, cells := 0, slots := 0, locals := 0 } : Room)) (fun aA U => aA = #[(.ref a)] ∧ Z.Warmed39 U.vm ∧ U.heap = h0) (fun _ _ _ _ _ => True) (fun _ U oO U' => ∃ vV LL, oO = .returned vV ∧ Q2a Z a cs h0 n0 vV U'.heap LL ∧ FrameEnd U oO U' LL ({ frames := 0, cells := 0, slots := 0, locals := 0 } : Room).cells ({ frames := 0, cells := 0, slots := 0, locals := 0 } : Room).slots) := by
  refine MetFree.of_bodySF (plainFor_of_name pn_14) hisR ?_
  intro p e s m args below meth cC s₁ Bd hml0 hP hK
  obtain ⟨rfl, hZ, hh⟩ := hP
  have hx := Bd.exec
  have hby := Bd.bytes
  have hml : cC.maxLocals = 1 := hml0
  have hown : s.vm.findClass "java/lang/String" = some m.cls := findClass_of_methodNamed Bd.named
  have hnm := (name_of_methodNamed Bd.named Bd.method).1
  have X0 : Stand p l e ({ frames := 0, cells := 0, slots := 0, locals := 0 } : Room) s m #[(.ref a)] below meth cC s₁ [] 0 0 := Stand.of_body Bd
  have e0 : s₁.heap = h0 := by rw [← hh, Bd.state]; rfl
  have N0 := Fr.nil n0
  have Kp0 := Keep.refl h0 []
  show OwnFin p e below (R2a Z a cs h0 n0 s) (s₁.setTop (entryFrame m #[(.ref a)] 1))
  rw [ef_2a m a]
  obtain ⟨T1, X1, e1, st1⟩ := getS2 X0 hx hZ hown (host := "") (Or.inl (hw _ (List.mem_of_getElem? (i := 14) rfl))) Via.refl e0 hp0 (g := (mkF m 0 #[.val (.ref a)] [])) rfl (hb hby d_jdk_42_method_154_0)
  refine OwnFin.step st1 ?_
  show OwnFin p e below _ (T1.setTop (mkF m 3 #[.val (.ref a)] [(.int cs)]))
  refine OwnFin.step (fun tT kK => XS.ifNo X1.here hx rfl (hb hby d_jdk_42_method_154_3) rfl ((if0 _ _).trans (feq (hp1 : ¬ (cs = (0 : Int32)))).1) kK) ?_
  show OwnFin p e below _ (T1.setTop (mkF m 6 #[.val (.ref a)] []))
  refine OwnFin.step (fun tT kK => XS.aloadN X1.here hx rfl (hb hby d_jdk_42_method_154_6) rfl rfl kK) ?_
  show OwnFin p e below _ (T1.setTop (mkF m 7 #[.val (.ref a)] [(.ref a)]))
  obtain ⟨T2, X2, e2, st2⟩ := getF X1 hx hZ hown (host := "") (Or.inl (hw _ (List.mem_of_getElem? (i := 26) rfl))) Via.refl e1 hp2 (g := (mkF m 7 #[.val (.ref a)] [(.ref a)])) rfl rfl (hb hby d_jdk_42_method_154_7)
  refine OwnFin.step st2 ?_
  show OwnFin p e below _ (T2.setTop (mkF m 10 #[.val (.ref a)] [(.int (0 : Int32))]))
  refine OwnFin.step (fun tT kK => XS.ifNo X2.here hx rfl (hb hby d_jdk_42_method_154_10) rfl ((if0 _ _).trans (teq (rfl : (0 : Int32) = (0 : Int32))).2) kK) ?_
  show OwnFin p e below _ (T2.setTop (mkF m 13 #[.val (.ref a)] []))
  refine OwnFin.step (fun tT kK => XS.iconst X2.here hx rfl (hb hby d_jdk_42_method_154_13) kK) ?_
  show OwnFin p e below _ (T2.setTop (mkF m 14 #[.val (.ref a)] [(.int (1 : Int32))]))
  refine OwnFin.step (fun tT kK => XS.goto X2.here hx rfl (pc0 := 14) (pc' := 18) rfl (hb hby d_jdk_42_method_154_14) (by decide) (by decide) kK) ?_
  show OwnFin p e below _ (T2.setTop (mkF m 18 #[.val (.ref a)] [(.int (1 : Int32))]))
  obtain ⟨fs3, hr3, hrun3, hended3, hW3, hsame3⟩ := X2.leave (v := (some (.int (1 : Int32)))) (fun h => by rw [Bd.returns] at h; cases h)
  refine ⟨_, _, retN X2 hx (t := .boolean) Bd.returns (by simp) (hb hby d_jdk_42_method_154_18) hr3, hrun3, hended3, _, _, rfl, ?_, ⟨_, rfl⟩, hW3, hsame3.mono (by decide) (by decide)⟩
  show Q2a Z a cs h0 n0 _ T2.heap _
  rw [e2]
  exact ⟨rfl, N0, rfl⟩
theorem d_jdk_42_method_152_0 : decode jdk_42_method_152_code 0 = .ok (.getstatic 38, 3) := by decide +kernel
theorem d_jdk_42_method_152_3 : decode jdk_42_method_152_code 3 = .ok (.ifCond .eq 10, 3) := by decide +kernel
theorem d_jdk_42_method_152_6 : decode jdk_42_method_152_code 6 = .ok (.aload_n 0, 1) := by decide +kernel
theorem d_jdk_42_method_152_7 : decode jdk_42_method_152_code 7 = .ok (.getfield 15, 3) := by decide +kernel
theorem d_jdk_42_method_152_10 : decode jdk_42_method_152_code 10 = .ok (.goto 4, 3) := by decide +kernel
theorem d_jdk_42_method_152_14 : decode jdk_42_method_152_code 14 = .ok (.ireturn, 1) := by decide +kernel
theorem ef_2b (m : MethodId) (a : Addr) : entryFrame m #[(.ref a)] 1 = mkF m 0 #[.val (.ref a)] [] := by first | (simp [entryFrame, mkF, argsToLocals, Value.category]; done) | rfl
def Q2b (Z : State) (a : Addr) (cs : Int32) (h0 : Heap) (n0 : Nat) (vV : Option Value) (hH : Heap) (LL : List Loc) : Prop := vV = some (.int (0 : Int32)) ∧ Fr n0 LL ∧ hH = h0
def R2b (Z : State) (a : Addr) (cs : Int32) (h0 : Heap) (n0 : Nat) (U : State) (oO : Outcome) (U' : State) : Prop := ∃ vV LL, oO = .returned vV ∧ Q2b Z a cs h0 n0 vV U'.heap LL ∧ FrameEnd U oO U' LL ({ frames := 0, cells := 0, slots := 0, locals := 0 } : Room).cells ({ frames := 0, cells := 0, slots := 0, locals := 0 } : Room).slots
set_option maxRecDepth 65536 in
set_option maxHeartbeats 40000000 in
theorem rm2b (l : Launch) (Z : State) (a0 : Array Value) (hw : ∀ d ∈ tables_1, d.before a0 Z = true) (hEL : EW Z a0 OwnEL) (wS : ∀ a ∈ Bundle.stringAtoms, a.before a0 Z = true) (ws : List Jvm.Cond) (a : Addr) (cs : Int32) (h0 : Heap) (n0 : Nat) (Z0 : n0 ≤ h0.size) (hp0 : Sta Z h0 "java/lang/String" "COMPACT_STRINGS" "Z" (.int cs)) (hp1 : ¬ cs = (0 : Int32)) (hp2 : Fld Z h0 a "java/lang/String" "coder" "B" (.int (0 : Int32))) :
    MetFree l (⟨"java/lang/String", "coder", "()B"⟩ : MethodName) (head1 (Jvm.Cond.code (⟨"java/lang/String", "coder", "()B"⟩ : MethodName) jdk_42_method_152_code 1 (some .byte) :: ws) ({ frames := 0, cells := 0, slots := 0, locals := 0 } : Room)) (fun aA U => aA = #[(.ref a)] ∧ Z.Warmed39 U.vm ∧ U.heap = h0) (fun _ _ _ _ _ => True) (fun _ U oO U' => ∃ vV LL, oO = .returned vV ∧ Q2b Z a cs h0 n0 vV U'.heap LL ∧ FrameEnd U oO U' LL ({ frames := 0, cells := 0, slots := 0, locals := 0 } : Room).cells ({ frames := 0, cells := 0, slots := 0, locals := 0 } : Room).slots) := by
  refine MetFree.of_bodySF (plainFor_of_name pn_14) hisR ?_
  intro p e s m args below meth cC s₁ Bd hml0 hP hK
  obtain ⟨rfl, hZ, hh⟩ := hP
  have hx := Bd.exec
  have hby := Bd.bytes
  have hml : cC.maxLocals = 1 := hml0
  have hown : s.vm.findClass "java/lang/String" = some m.cls := findClass_of_methodNamed Bd.named
  have hnm := (name_of_methodNamed Bd.named Bd.method).1
  have X0 : Stand p l e ({ frames := 0, cells := 0, slots := 0, locals := 0 } : Room) s m #[(.ref a)] below meth cC s₁ [] 0 0 := Stand.of_body Bd
  have e0 : s₁.heap = h0 := by rw [← hh, Bd.state]; rfl
  have N0 := Fr.nil n0
  have Kp0 := Keep.refl h0 []
  show OwnFin p e below (R2b Z a cs h0 n0 s) (s₁.setTop (entryFrame m #[(.ref a)] 1))
  rw [ef_2b m a]
  obtain ⟨T1, X1, e1, st1⟩ := getS2 X0 hx hZ hown (host := "") (Or.inl (hw _ (List.mem_of_getElem? (i := 14) rfl))) Via.refl e0 hp0 (g := (mkF m 0 #[.val (.ref a)] [])) rfl (hb hby d_jdk_42_method_152_0)
  refine OwnFin.step st1 ?_
  show OwnFin p e below _ (T1.setTop (mkF m 3 #[.val (.ref a)] [(.int cs)]))
  refine OwnFin.step (fun tT kK => XS.ifNo X1.here hx rfl (hb hby d_jdk_42_method_152_3) rfl ((if0 _ _).trans (feq (hp1 : ¬ (cs = (0 : Int32)))).1) kK) ?_
  show OwnFin p e below _ (T1.setTop (mkF m 6 #[.val (.ref a)] []))
  refine OwnFin.step (fun tT kK => XS.aloadN X1.here hx rfl (hb hby d_jdk_42_method_152_6) rfl rfl kK) ?_
  show OwnFin p e below _ (T1.setTop (mkF m 7 #[.val (.ref a)] [(.ref a)]))
  obtain ⟨T2, X2, e2, st2⟩ := getF X1 hx hZ hown (host := "") (Or.inl (hw _ (List.mem_of_getElem? (i := 26) rfl))) Via.refl e1 hp2 (g := (mkF m 7 #[.val (.ref a)] [(.ref a)])) rfl rfl (hb hby d_jdk_42_method_152_7)
  refine OwnFin.step st2 ?_
  show OwnFin p e below _ (T2.setTop (mkF m 10 #[.val (.ref a)] [(.int (0 : Int32))]))
  refine OwnFin.step (fun tT kK => XS.goto X2.here hx rfl (pc0 := 10) (pc' := 14) rfl (hb hby d_jdk_42_method_152_10) (by decide) (by decide) kK) ?_
  show OwnFin p e below _ (T2.setTop (mkF m 14 #[.val (.ref a)] [(.int (0 : Int32))]))
  obtain ⟨fs3, hr3, hrun3, hended3, hW3, hsame3⟩ := X2.leave (v := (some (.int (0 : Int32)))) (fun h => by rw [Bd.returns] at h; cases h)
  refine ⟨_, _, retN X2 hx (t := .byte) Bd.returns (by simp) (hb hby d_jdk_42_method_152_14) hr3, hrun3, hended3, _, _, rfl, ?_, ⟨_, rfl⟩, hW3, hsame3.mono (by decide) (by decide)⟩
  show Q2b Z a cs h0 n0 _ T2.heap _
  rw [e2]
  exact ⟨rfl, N0, rfl⟩
theorem pn_29 : plainName "jdk/internal/util/Preconditions" = true := by first | (simp [plainName, overriddenIn]; done) | decide +kernel
theorem d_jdk_41_method_11_0 : decode jdk_41_method_11_code 0 = .ok (.iload_n 0, 1) := by decide +kernel
theorem d_jdk_41_method_11_1 : decode jdk_41_method_11_code 1 = .ok (.ifCond .lt 8, 3) := by decide +kernel
theorem d_jdk_41_method_11_4 : decode jdk_41_method_11_code 4 = .ok (.iload_n 0, 1) := by decide +kernel
theorem d_jdk_41_method_11_5 : decode jdk_41_method_11_code 5 = .ok (.iload_n 1, 1) := by decide +kernel
theorem d_jdk_41_method_11_6 : decode jdk_41_method_11_code 6 = .ok (.if_icmp .lt 10, 3) := by decide +kernel
theorem d_jdk_41_method_11_16 : decode jdk_41_method_11_code 16 = .ok (.iload_n 0, 1) := by decide +kernel
theorem d_jdk_41_method_11_17 : decode jdk_41_method_11_code 17 = .ok (.ireturn, 1) := by decide +kernel
theorem ef_3a0 (m : MethodId) (fm : Value) (r_fm : fm.isRef = true) : entryFrame m #[(.int (0 : Int32)), (.int (4 : Int32)), fm] 3 = mkF m 0 #[.val (.int (0 : Int32)), .val (.int (4 : Int32)), .val fm] [] := by
  rcases ref_cases r_fm with rfl | ⟨_, rfl⟩
  all_goals first | (simp [entryFrame, mkF, argsToLocals, Value.category]; done) | rfl
def Q3a0 (Z : State) (fm : Value) (h0 : Heap) (n0 : Nat) (vV : Option Value) (hH : Heap) (LL : List Loc) : Prop := vV = some (.int (0 : Int32)) ∧ Fr n0 LL ∧ hH = h0
def R3a0 (Z : State) (fm : Value) (h0 : Heap) (n0 : Nat) (U : State) (oO : Outcome) (U' : State) : Prop := ∃ vV LL, oO = .returned vV ∧ Q3a0 Z fm h0 n0 vV U'.heap LL ∧ FrameEnd U oO U' LL ({ frames := 0, cells := 0, slots := 0, locals := 0 } : Room).cells ({ frames := 0, cells := 0, slots := 0, locals := 0 } : Room).slots
set_option maxRecDepth 65536 in
set_option maxHeartbeats 40000000 in
theorem rm3a0 (l : Launch) (Z : State) (a0 : Array Value) (hw : ∀ d ∈ tables_1, d.before a0 Z = true) (hEL : EW Z a0 OwnEL) (wS : ∀ a ∈ Bundle.stringAtoms, a.before a0 Z = true) (ws : List Jvm.Cond) (fm : Value) (h0 : Heap) (n0 : Nat) (Z0 : n0 ≤ h0.size) (hp0 : fm.isRef = true) :
    MetFree l (⟨"jdk/internal/util/Preconditions", "checkIndex", "(IILjava/util/function/BiFunction;)I"⟩ : MethodName) (head1 (Jvm.Cond.code (⟨"jdk/internal/util/Preconditions", "checkIndex", "(IILjava/util/function/BiFunction;)I"⟩ : MethodName) jdk_41_method_11_code 3 (some .int) :: ws) ({ frames := 0, cells := 0, slots := 0, locals := 0 } : Room)) (fun aA U => aA = #[(.int (0 : Int32)), (.int (4 : Int32)), fm] ∧ Z.Warmed39 U.vm ∧ U.heap = h0) (fun _ _ _ _ _ => True) (fun _ U oO U' => ∃ vV LL, oO = .returned vV ∧ Q3a0 Z fm h0 n0 vV U'.heap LL ∧ FrameEnd U oO U' LL ({ frames := 0, cells := 0, slots := 0, locals := 0 } : Room).cells ({ frames := 0, cells := 0, slots := 0, locals := 0 } : Room).slots) := by
  refine MetFree.of_bodySF (plainFor_of_name pn_29) hisR ?_
  intro p e s m args below meth cC s₁ Bd hml0 hP hK
  obtain ⟨rfl, hZ, hh⟩ := hP
  have hx := Bd.exec
  have hby := Bd.bytes
  have hml : cC.maxLocals = 3 := hml0
  have hown : s.vm.findClass "jdk/internal/util/Preconditions" = some m.cls := findClass_of_methodNamed Bd.named
  have hnm := (name_of_methodNamed Bd.named Bd.method).1
  have X0 : Stand p l e ({ frames := 0, cells := 0, slots := 0, locals := 0 } : Room) s m #[(.int (0 : Int32)), (.int (4 : Int32)), fm] below meth cC s₁ [] 0 0 := Stand.of_body Bd
  have e0 : s₁.heap = h0 := by rw [← hh, Bd.state]; rfl
  have N0 := Fr.nil n0
  have Kp0 := Keep.refl h0 []
  show OwnFin p e below (R3a0 Z fm h0 n0 s) (s₁.setTop (entryFrame m #[(.int (0 : Int32)), (.int (4 : Int32)), fm] 3))
  rw [ef_3a0 m fm hp0]
  refine OwnFin.step (fun tT kK => XS.iloadN X0.here hx rfl (hb hby d_jdk_41_method_11_0) rfl kK) ?_
  refine OwnFin.step (fun tT kK => XS.ifNo X0.here hx rfl (hb hby d_jdk_41_method_11_1) rfl ((if0 _ _).trans (flt (by decide : ¬ ((0 : Int32) < (0 : Int32)))).1) kK) ?_
  show OwnFin p e below _ (s₁.setTop (mkF m 4 #[.val (.int (0 : Int32)), .val (.int (4 : Int32)), .val fm] []))
  refine OwnFin.step (fun tT kK => XS.iloadN X0.here hx rfl (hb hby d_jdk_41_method_11_4) rfl kK) ?_
  show OwnFin p e below _ (s₁.setTop (mkF m 5 #[.val (.int (0 : Int32)), .val (.int (4 : Int32)), .val fm] [(.int (0 : Int32))]))
  refine OwnFin.step (fun tT kK => XS.iloadN X0.here hx rfl (hb hby d_jdk_41_method_11_5) rfl kK) ?_
  refine OwnFin.step (fun tT kK => XS.icmpYes X0.here hx rfl (pc0 := 6) (pc' := 16) rfl (hb hby d_jdk_41_method_11_6) rfl (tlt (by decide : (0 : Int32) < (4 : Int32))).1 (by decide) (by decide) kK) ?_
  show OwnFin p e below _ (s₁.setTop (mkF m 16 #[.val (.int (0 : Int32)), .val (.int (4 : Int32)), .val fm] []))
  refine OwnFin.step (fun tT kK => XS.iloadN X0.here hx rfl (hb hby d_jdk_41_method_11_16) rfl kK) ?_
  show OwnFin p e below _ (s₁.setTop (mkF m 17 #[.val (.int (0 : Int32)), .val (.int (4 : Int32)), .val fm] [(.int (0 : Int32))]))
  obtain ⟨fs1, hr1, hrun1, hended1, hW1, hsame1⟩ := X0.leave (v := (some (.int (0 : Int32)))) (fun h => by rw [Bd.returns] at h; cases h)
  refine ⟨_, _, retOut X0 hx Bd.returns rfl (Or.inl ⟨rfl, Or.inl rfl, _, rfl⟩) (hb hby d_jdk_41_method_11_17) hr1, hrun1, hended1, _, _, rfl, ?_, ⟨_, rfl⟩, hW1, hsame1.mono (by decide) (by decide)⟩
  show Q3a0 Z fm h0 n0 _ s₁.heap _
  rw [e0]
  exact ⟨rfl, N0, rfl⟩
theorem d_jdk_42_method_155_0 : decode jdk_42_method_155_code 0 = .ok (.iload_n 0, 1) := by decide +kernel
theorem d_jdk_42_method_155_1 : decode jdk_42_method_155_code 1 = .ok (.iload_n 1, 1) := by decide +kernel
theorem d_jdk_42_method_155_2 : decode jdk_42_method_155_code 2 = .ok (.getstatic 1053, 3) := by decide +kernel
theorem d_jdk_42_method_155_5 : decode jdk_42_method_155_code 5 = .ok (.invokestatic 1059, 3) := by decide +kernel
theorem pd_41 : parseMethodDescriptor "(IILjava/util/function/BiFunction;)I" = some ⟨[.int, .int, (.object "java/util/function/BiFunction")], some .int⟩ := by decide +kernel
theorem d_jdk_42_method_155_8 : decode jdk_42_method_155_code 8 = .ok (.pop, 1) := by decide +kernel
theorem d_jdk_42_method_155_9 : decode jdk_42_method_155_code 9 = .ok (.return_, 1) := by decide +kernel
theorem ef_3b0 (m : MethodId)  : entryFrame m #[(.int (0 : Int32)), (.int (4 : Int32))] 2 = mkF m 0 #[.val (.int (0 : Int32)), .val (.int (4 : Int32))] [] := by first | (simp [entryFrame, mkF, argsToLocals, Value.category]; done) | rfl
def Q3b0 (Z : State) (fm : Value) (h0 : Heap) (n0 : Nat) (vV : Option Value) (hH : Heap) (LL : List Loc) : Prop := vV = none ∧ Fr n0 LL ∧ hH = h0
def R3b0 (Z : State) (fm : Value) (h0 : Heap) (n0 : Nat) (U : State) (oO : Outcome) (U' : State) : Prop := ∃ vV LL, oO = .returned vV ∧ Q3b0 Z fm h0 n0 vV U'.heap LL ∧ FrameEnd U oO U' LL ({ frames := 1, cells := 0, slots := 0, locals := 14 } : Room).cells ({ frames := 1, cells := 0, slots := 0, locals := 14 } : Room).slots
set_option maxRecDepth 65536 in
set_option maxHeartbeats 40000000 in
theorem rm3b0 (l : Launch) (Z : State) (a0 : Array Value) (hw : ∀ d ∈ tables_1, d.before a0 Z = true) (hEL : EW Z a0 OwnEL) (wS : ∀ a ∈ Bundle.stringAtoms, a.before a0 Z = true) (ws : List Jvm.Cond) (fm : Value) (h0 : Heap) (n0 : Nat) (Z0 : n0 ≤ h0.size) (hp0 : Sta Z h0 "jdk/internal/util/Preconditions" "SIOOBE_FORMATTER" "Ljava/util/function/BiFunction;" fm) (hp1 : fm.isRef = true) :
    MetFree l (⟨"java/lang/String", "checkIndex", "(II)V"⟩ : MethodName) (head1 (Jvm.Cond.code (⟨"java/lang/String", "checkIndex", "(II)V"⟩ : MethodName) jdk_42_method_155_code 2 none :: ws) ({ frames := 1, cells := 0, slots := 0, locals := 14 } : Room)) (fun aA U => aA = #[(.int (0 : Int32)), (.int (4 : Int32))] ∧ Z.Warmed39 U.vm ∧ U.heap = h0) (fun _ _ _ _ _ => True) (fun _ U oO U' => ∃ vV LL, oO = .returned vV ∧ Q3b0 Z fm h0 n0 vV U'.heap LL ∧ FrameEnd U oO U' LL ({ frames := 1, cells := 0, slots := 0, locals := 14 } : Room).cells ({ frames := 1, cells := 0, slots := 0, locals := 14 } : Room).slots) := by
  refine MetFree.of_bodySF (plainFor_of_name pn_14) hisR ?_
  intro p e s m args below meth cC s₁ Bd hml0 hP hK
  obtain ⟨rfl, hZ, hh⟩ := hP
  have hx := Bd.exec
  have hby := Bd.bytes
  have hml : cC.maxLocals = 2 := hml0
  have hown : s.vm.findClass "java/lang/String" = some m.cls := findClass_of_methodNamed Bd.named
  have hnm := (name_of_methodNamed Bd.named Bd.method).1
  have X0 : Stand p l e ({ frames := 1, cells := 0, slots := 0, locals := 14 } : Room) s m #[(.int (0 : Int32)), (.int (4 : Int32))] below meth cC s₁ [] 0 0 := Stand.of_body Bd
  have e0 : s₁.heap = h0 := by rw [← hh, Bd.state]; rfl
  have N0 := Fr.nil n0
  have Kp0 := Keep.refl h0 []
  show OwnFin p e below (R3b0 Z fm h0 n0 s) (s₁.setTop (entryFrame m #[(.int (0 : Int32)), (.int (4 : Int32))] 2))
  rw [ef_3b0 m]
  refine OwnFin.step (fun tT kK => XS.iloadN X0.here hx rfl (hb hby d_jdk_42_method_155_0) rfl kK) ?_
  refine OwnFin.step (fun tT kK => XS.iloadN X0.here hx rfl (hb hby d_jdk_42_method_155_1) rfl kK) ?_
  show OwnFin p e below _ (s₁.setTop (mkF m 2 #[.val (.int (0 : Int32)), .val (.int (4 : Int32))] [(.int (4 : Int32)), (.int (0 : Int32))]))
  obtain ⟨T1, X1, e1, st1⟩ := getS2 X0 hx hZ hown (host := "") (Or.inl (hw _ (List.mem_of_getElem? (i := 66) rfl))) Via.refl e0 hp0 (g := (mkF m 2 #[.val (.int (0 : Int32)), .val (.int (4 : Int32))] [(.int (4 : Int32)), (.int (0 : Int32))])) rfl (hb hby d_jdk_42_method_155_2)
  refine OwnFin.step st1 ?_
  show OwnFin p e below _ (T1.setTop (mkF m 5 #[.val (.int (0 : Int32)), .val (.int (4 : Int32))] [fm, (.int (4 : Int32)), (.int (0 : Int32))]))
  obtain ⟨_, _, ⟨T2, L2, k2, n2⟩, -, X2, ⟨Lc2, hQ2, l2, y2, z2⟩, st2⟩ := Jvm.LawKit.callS X1 hx (y := (⟨"jdk/internal/util/Preconditions", "checkIndex", "(IILjava/util/function/BiFunction;)I"⟩ : MethodName)) hown (mvT hZ (hw _ (List.mem_of_getElem? (i := 68) rfl))) (mvT hZ (hw _ (List.mem_of_getElem? (i := 69) rfl))) (mvT hZ (hw _ (List.mem_of_getElem? (i := 67) rfl))) (mvT hZ (hw _ (List.mem_of_getElem? (i := 70) rfl))) (by decide) (backOf (W := 0) (rm3a0 l Z a0 hw hEL wS [] fm h0 n0 (Nat.le_trans Z0 Kp0.1) hp1) hZ (hw _ (List.mem_of_getElem? (i := 70) rfl)) (hw _ (List.mem_of_getElem? (i := 67) rfl)) (by decide) (by decide)) (g := (mkF m 5 #[.val (.int (0 : Int32)), .val (.int (4 : Int32))] [fm, (.int (4 : Int32)), (.int (0 : Int32))])) rfl (by rw [hml]; rfl) (argsL := [(.int (0 : Int32)), (.int (4 : Int32)), fm]) (rest := []) (lenOf pd_41 rfl) rfl (by show 2 * 0 + _ ≤ _; exact Nat.le_of_eq rfl) (hb hby d_jdk_42_method_155_5) (fun _ _ => ⟨rfl, e1, (by decide : 0 + 0 ≤ _), (by decide : 0 + 0 ≤ _)⟩)
  dsimp only [Pt.U, Pt.locs, Pt.cells, Pt.slots] at X2 l2 y2 z2 st2 hQ2
  subst l2 y2 z2
  obtain ⟨rfl, N2q, e2⟩ := hQ2
  have N2 := Fr.app N0 N2q
  refine OwnFin.step st2 ?_
  show OwnFin p e below _ (T2.setTop (mkF m 8 #[.val (.int (0 : Int32)), .val (.int (4 : Int32))] [(.int (0 : Int32))]))
  refine OwnFin.step (fun tT kK => XS.pop X2.here hx rfl (hb hby d_jdk_42_method_155_8) rfl rfl kK) ?_
  show OwnFin p e below _ (T2.setTop (mkF m 9 #[.val (.int (0 : Int32)), .val (.int (4 : Int32))] []))
  obtain ⟨fs3, hr3, hrun3, hended3, hW3, hsame3⟩ := X2.leave (v := none) (fun _ => rfl)
  refine ⟨_, _, X2.returnOut hx Bd.returns (hb hby d_jdk_42_method_155_9) hr3, hrun3, hended3, _, _, rfl, ?_, ⟨_, rfl⟩, hW3, hsame3.mono (by decide) (by decide)⟩
  show Q3b0 Z fm h0 n0 _ T2.heap _
  rw [e2]
  exact ⟨rfl, N2, rfl⟩
theorem pn_44 : plainName "java/lang/StringLatin1" = true := by first | (simp [plainName, overriddenIn]; done) | decide +kernel
theorem d_jdk_43_method_2_0 : decode jdk_43_method_2_code 0 = .ok (.iload_n 1, 1) := by decide +kernel
theorem d_jdk_43_method_2_1 : decode jdk_43_method_2_code 1 = .ok (.aload_n 0, 1) := by decide +kernel
theorem d_jdk_43_method_2_2 : decode jdk_43_method_2_code 2 = .ok (.arraylength, 1) := by decide +kernel
theorem d_jdk_43_method_2_3 : decode jdk_43_method_2_code 3 = .ok (.invokestatic 9, 3) := by decide +kernel
theorem pd_49 : parseMethodDescriptor "(II)V" = some ⟨[.int, .int], none⟩ := by decide +kernel
theorem d_jdk_43_method_2_6 : decode jdk_43_method_2_code 6 = .ok (.aload_n 0, 1) := by decide +kernel
theorem d_jdk_43_method_2_7 : decode jdk_43_method_2_code 7 = .ok (.iload_n 1, 1) := by decide +kernel
theorem d_jdk_43_method_2_8 : decode jdk_43_method_2_code 8 = .ok (.baload, 1) := by decide +kernel
theorem d_jdk_43_method_2_9 : decode jdk_43_method_2_code 9 = .ok (.sipush 255, 3) := by decide +kernel
theorem d_jdk_43_method_2_12 : decode jdk_43_method_2_code 12 = .ok (.iand, 1) := by decide +kernel
theorem d_jdk_43_method_2_13 : decode jdk_43_method_2_code 13 = .ok (.i2c, 1) := by decide +kernel
theorem d_jdk_43_method_2_14 : decode jdk_43_method_2_code 14 = .ok (.ireturn, 1) := by decide +kernel
theorem ef_3c0 (m : MethodId) (b : Addr) : entryFrame m #[(.ref b), (.int (0 : Int32))] 2 = mkF m 0 #[.val (.ref b), .val (.int (0 : Int32))] [] := by first | (simp [entryFrame, mkF, argsToLocals, Value.category]; done) | rfl
def Q3c0 (Z : State) (b : Addr) (kb : ClassId) (fm : Value) (c0 : Int32) (c1 : Int32) (c2 : Int32) (c3 : Int32) (h0 : Heap) (n0 : Nat) (vV : Option Value) (hH : Heap) (LL : List Loc) : Prop := vV = some (.int c0) ∧ Fr n0 LL ∧ hH = h0
def R3c0 (Z : State) (b : Addr) (kb : ClassId) (fm : Value) (c0 : Int32) (c1 : Int32) (c2 : Int32) (c3 : Int32) (h0 : Heap) (n0 : Nat) (U : State) (oO : Outcome) (U' : State) : Prop := ∃ vV LL, oO = .returned vV ∧ Q3c0 Z b kb fm c0 c1 c2 c3 h0 n0 vV U'.heap LL ∧ FrameEnd U oO U' LL ({ frames := 2, cells := 0, slots := 0, locals := 27 } : Room).cells ({ frames := 2, cells := 0, slots := 0, locals := 27 } : Room).slots
set_option maxRecDepth 65536 in
set_option maxHeartbeats 40000000 in
theorem rm3c0 (l : Launch) (Z : State) (a0 : Array Value) (hw : ∀ d ∈ tables_1, d.before a0 Z = true) (hEL : EW Z a0 OwnEL) (wS : ∀ a ∈ Bundle.stringAtoms, a.before a0 Z = true) (ws : List Jvm.Cond) (b : Addr) (kb : ClassId) (fm : Value) (c0 : Int32) (c1 : Int32) (c2 : Int32) (c3 : Int32) (h0 : Heap) (n0 : Nat) (Z0 : n0 ≤ h0.size) (hp0 : Sta Z h0 "jdk/internal/util/Preconditions" "SIOOBE_FORMATTER" "Ljava/util/function/BiFunction;" fm) (hp1 : fm.isRef = true) (hp2 : Arv Z h0 b kb .byte (4 : Int32) [(.int (nar .byte (c0.toInt8.toInt32))), (.int (nar .byte (c1.toInt8.toInt32))), (.int (nar .byte (c2.toInt8.toInt32))), (.int (nar .byte (c3.toInt8.toInt32)))] (.int (0 : Int32))) (hp3 : In8 c0) (hp4 : In8 c1) (hp5 : In8 c2) (hp6 : In8 c3) :
    MetFree l (⟨"java/lang/StringLatin1", "charAt", "([BI)C"⟩ : MethodName) (head1 (Jvm.Cond.code (⟨"java/lang/StringLatin1", "charAt", "([BI)C"⟩ : MethodName) jdk_43_method_2_code 2 (some .char) :: ws) ({ frames := 2, cells := 0, slots := 0, locals := 27 } : Room)) (fun aA U => aA = #[(.ref b), (.int (0 : Int32))] ∧ Z.Warmed39 U.vm ∧ U.heap = h0) (fun _ _ _ _ _ => True) (fun _ U oO U' => ∃ vV LL, oO = .returned vV ∧ Q3c0 Z b kb fm c0 c1 c2 c3 h0 n0 vV U'.heap LL ∧ FrameEnd U oO U' LL ({ frames := 2, cells := 0, slots := 0, locals := 27 } : Room).cells ({ frames := 2, cells := 0, slots := 0, locals := 27 } : Room).slots) := by
  refine MetFree.of_bodySF (plainFor_of_name pn_44) hisR ?_
  intro p e s m args below meth cC s₁ Bd hml0 hP hK
  obtain ⟨rfl, hZ, hh⟩ := hP
  have hx := Bd.exec
  have hby := Bd.bytes
  have hml : cC.maxLocals = 2 := hml0
  have hown : s.vm.findClass "java/lang/StringLatin1" = some m.cls := findClass_of_methodNamed Bd.named
  have hnm := (name_of_methodNamed Bd.named Bd.method).1
  have X0 : Stand p l e ({ frames := 2, cells := 0, slots := 0, locals := 27 } : Room) s m #[(.ref b), (.int (0 : Int32))] below meth cC s₁ [] 0 0 := Stand.of_body Bd
  have e0 : s₁.heap = h0 := by rw [← hh, Bd.state]; rfl
  have N0 := Fr.nil n0
  have Kp0 := Keep.refl h0 []
  show OwnFin p e below (R3c0 Z b kb fm c0 c1 c2 c3 h0 n0 s) (s₁.setTop (entryFrame m #[(.ref b), (.int (0 : Int32))] 2))
  rw [ef_3c0 m b]
  refine OwnFin.step (fun tT kK => XS.iloadN X0.here hx rfl (hb hby d_jdk_43_method_2_0) rfl kK) ?_
  refine OwnFin.step (fun tT kK => XS.aloadN X0.here hx rfl (hb hby d_jdk_43_method_2_1) rfl rfl kK) ?_
  show OwnFin p e below _ (s₁.setTop (mkF m 2 #[.val (.ref b), .val (.int (0 : Int32))] [(.ref b), (.int (0 : Int32))]))
  obtain ⟨cl1, Ar1, -, Sz1, Ng1, -, -⟩ := id hp2
  refine OwnFin.step (fun tT kK => own_len X0 hx hZ e0 Ar1 Sz1 Ng1 (g := (mkF m 2 #[.val (.ref b), .val (.int (0 : Int32))] [(.ref b), (.int (0 : Int32))])) rfl rfl (hb hby d_jdk_43_method_2_2) kK) ?_
  obtain ⟨_, _, ⟨T2, L2, k2, n2⟩, -, X2, ⟨Lc2, hQ2, l2, y2, z2⟩, st2⟩ := Jvm.LawKit.callS X0 hx (y := (⟨"java/lang/String", "checkIndex", "(II)V"⟩ : MethodName)) hown (mvT hZ (hw _ (List.mem_of_getElem? (i := 63) rfl))) (mvT hZ (hw _ (List.mem_of_getElem? (i := 64) rfl))) (mvT hZ (hw _ (List.mem_of_getElem? (i := 2) rfl))) (mvT hZ (hw _ (List.mem_of_getElem? (i := 65) rfl))) (by decide) (backOf (W := 0) (rm3b0 l Z a0 hw hEL wS [] fm h0 n0 (Nat.le_trans Z0 Kp0.1) hp0 hp1) hZ (hw _ (List.mem_of_getElem? (i := 65) rfl)) (hw _ (List.mem_of_getElem? (i := 2) rfl)) (by decide) (by decide)) (g := (mkF m 3 #[.val (.ref b), .val (.int (0 : Int32))] [(.int (4 : Int32)), (.int (0 : Int32))])) rfl (by rw [hml]; rfl) (argsL := [(.int (0 : Int32)), (.int (4 : Int32))]) (rest := []) (lenOf pd_49 rfl) rfl (by show 2 * 0 + _ ≤ _; exact Nat.le_of_eq rfl) (hb hby d_jdk_43_method_2_3) (fun _ _ => ⟨rfl, e0, (by decide : 0 + 0 ≤ _), (by decide : 0 + 0 ≤ _)⟩)
  dsimp only [Pt.U, Pt.locs, Pt.cells, Pt.slots] at X2 l2 y2 z2 st2 hQ2
  subst l2 y2 z2
  obtain ⟨rfl, N2q, e2⟩ := hQ2
  have N2 := Fr.app N0 N2q
  refine OwnFin.step st2 ?_
  show OwnFin p e below _ (T2.setTop (mkF m 6 #[.val (.ref b), .val (.int (0 : Int32))] []))
  refine OwnFin.step (fun tT kK => XS.aloadN X2.here hx rfl (hb hby d_jdk_43_method_2_6) rfl rfl kK) ?_
  show OwnFin p e below _ (T2.setTop (mkF m 7 #[.val (.ref b), .val (.int (0 : Int32))] [(.ref b)]))
  refine OwnFin.step (fun tT kK => XS.iloadN X2.here hx rfl (hb hby d_jdk_43_method_2_7) rfl kK) ?_
  obtain ⟨cl3, Ar3, q3, Sz3, Ng3, H3, G3⟩ := id hp2
  have hin3 : ¬ ((0 : Int32) < 0 ∨ cl3.slots.size ≤ ((0 : Int32)).toNatClampNeg) := inb_of Sz3 ⟨by decide, by decide⟩
  refine OwnFin.step (fun tT kK => X2.baloadBytes hx (j := (0 : Int32)) (v := (.int (nar .byte (c0.toInt8.toInt32)))) (by rw [e2]; exact Ar3.1) (State.isArrayOf_alike hZ.alike Ar3.2.1) Ar3.2.2 hin3 (H3.at hin3 rfl) (g := (mkF m 8 #[.val (.ref b), .val (.int (0 : Int32))] [(.int (0 : Int32)), (.ref b)])) rfl rfl (hb hby d_jdk_43_method_2_8) _ kK) ?_
  show OwnFin p e below _ (T2.setTop (mkF m 9 #[.val (.ref b), .val (.int (0 : Int32))] [(.int (nar .byte (c0.toInt8.toInt32)))]))
  refine OwnFin.step (fun tT kK => XS.sipush X2.here hx rfl (hb hby d_jdk_43_method_2_9) kK) ?_
  show OwnFin p e below _ (T2.setTop (mkF m 12 #[.val (.ref b), .val (.int (0 : Int32))] [(.int (255 : Int32)), (.int (nar .byte (c0.toInt8.toInt32)))]))
  refine OwnFin.step (fun tT kK => XS.iand X2.here hx rfl (hb hby d_jdk_43_method_2_12) rfl kK) ?_
  refine OwnFin.step (fun tT kK => XS.i2c X2.here hx rfl (hb hby d_jdk_43_method_2_13) rfl kK) ?_
  show OwnFin p e below _ (T2.setTop (mkF m 14 #[.val (.ref b), .val (.int (0 : Int32))] [(.int (((nar .byte (c0.toInt8.toInt32)) &&& (255 : Int32)).toUInt32.toUInt16.toUInt32.toInt32))]))
  rw [own_ch hp3]
  show OwnFin p e below _ (T2.setTop (mkF m 14 #[.val (.ref b), .val (.int (0 : Int32))] [(.int c0)]))
  obtain ⟨fs4, hr4, hrun4, hended4, hW4, hsame4⟩ := X2.leave (v := (some (.int c0))) (fun h => by rw [Bd.returns] at h; cases h)
  refine ⟨_, _, retOut X2 hx Bd.returns (own_narrc hp3) (Or.inl ⟨rfl, (by simp), _, rfl⟩) (hb hby d_jdk_43_method_2_14) hr4, hrun4, hended4, _, _, rfl, ?_, ⟨_, rfl⟩, hW4, hsame4.mono (by decide) (by decide)⟩
  show Q3c0 Z b kb fm c0 c1 c2 c3 h0 n0 _ T2.heap _
  rw [e2]
  exact ⟨rfl, N2, rfl⟩
theorem d_jdk_42_method_56_0 : decode jdk_42_method_56_code 0 = .ok (.aload_n 0, 1) := by decide +kernel
theorem d_jdk_42_method_56_1 : decode jdk_42_method_56_code 1 = .ok (.invokevirtual 492, 3) := by decide +kernel
theorem pd_59 : parseMethodDescriptor "()Z" = some ⟨[], some .boolean⟩ := by decide +kernel
theorem d_jdk_42_method_56_4 : decode jdk_42_method_56_code 4 = .ok (.ifCond .eq 12, 3) := by decide +kernel
theorem d_jdk_42_method_56_7 : decode jdk_42_method_56_code 7 = .ok (.aload_n 0, 1) := by decide +kernel
theorem d_jdk_42_method_56_8 : decode jdk_42_method_56_code 8 = .ok (.getfield 9, 3) := by decide +kernel
theorem d_jdk_42_method_56_11 : decode jdk_42_method_56_code 11 = .ok (.iload_n 1, 1) := by decide +kernel
theorem d_jdk_42_method_56_12 : decode jdk_42_method_56_code 12 = .ok (.invokestatic 495, 3) := by decide +kernel
theorem pd_65 : parseMethodDescriptor "([BI)C" = some ⟨[(.array .byte), .int], some .char⟩ := by decide +kernel
theorem d_jdk_42_method_56_15 : decode jdk_42_method_56_code 15 = .ok (.ireturn, 1) := by decide +kernel
theorem ef_3d0 (m : MethodId) (a : Addr) : entryFrame m #[(.ref a), (.int (0 : Int32))] 2 = mkF m 0 #[.val (.ref a), .val (.int (0 : Int32))] [] := by first | (simp [entryFrame, mkF, argsToLocals, Value.category]; done) | rfl
def Q3d0 (Z : State) (a : Addr) (b : Addr) (kb : ClassId) (fm : Value) (cs : Int32) (c0 : Int32) (c1 : Int32) (c2 : Int32) (c3 : Int32) (h0 : Heap) (n0 : Nat) (vV : Option Value) (hH : Heap) (LL : List Loc) : Prop := vV = some (.int c0) ∧ Fr n0 LL ∧ hH = h0
def R3d0 (Z : State) (a : Addr) (b : Addr) (kb : ClassId) (fm : Value) (cs : Int32) (c0 : Int32) (c1 : Int32) (c2 : Int32) (c3 : Int32) (h0 : Heap) (n0 : Nat) (U : State) (oO : Outcome) (U' : State) : Prop := ∃ vV LL, oO = .returned vV ∧ Q3d0 Z a b kb fm cs c0 c1 c2 c3 h0 n0 vV U'.heap LL ∧ FrameEnd U oO U' LL ({ frames := 3, cells := 0, slots := 0, locals := 40 } : Room).cells ({ frames := 3, cells := 0, slots := 0, locals := 40 } : Room).slots
set_option maxRecDepth 65536 in
set_option maxHeartbeats 40000000 in
theorem rm3d0 (l : Launch) (Z : State) (a0 : Array Value) (hw : ∀ d ∈ tables_1, d.before a0 Z = true) (hEL : EW Z a0 OwnEL) (wS : ∀ a ∈ Bundle.stringAtoms, a.before a0 Z = true) (ws : List Jvm.Cond) (a : Addr) (b : Addr) (kb : ClassId) (fm : Value) (cs : Int32) (c0 : Int32) (c1 : Int32) (c2 : Int32) (c3 : Int32) (h0 : Heap) (n0 : Nat) (Z0 : n0 ≤ h0.size) (hp0 : Sta Z h0 "jdk/internal/util/Preconditions" "SIOOBE_FORMATTER" "Ljava/util/function/BiFunction;" fm) (hp1 : fm.isRef = true) (hp2 : Exa Z h0 a "java/lang/String") (hp3 : Fld Z h0 a "java/lang/String" "value" "[B" (.ref b)) (hp4 : Fld Z h0 a "java/lang/String" "coder" "B" (.int (0 : Int32))) (hp5 : Arv Z h0 b kb .byte (4 : Int32) [(.int (nar .byte (c0.toInt8.toInt32))), (.int (nar .byte (c1.toInt8.toInt32))), (.int (nar .byte (c2.toInt8.toInt32))), (.int (nar .byte (c3.toInt8.toInt32)))] (.int (0 : Int32))) (hp6 : In8 c0) (hp7 : In8 c1) (hp8 : In8 c2) (hp9 : In8 c3) (hp10 : Sta Z h0 "java/lang/String" "COMPACT_STRINGS" "Z" (.int cs)) (hp11 : ¬ cs = (0 : Int32)) :
    MetFree l (⟨"java/lang/String", "charAt", "(I)C"⟩ : MethodName) (head1 (Jvm.Cond.code (⟨"java/lang/String", "charAt", "(I)C"⟩ : MethodName) jdk_42_method_56_code 2 (some .char) :: ws) ({ frames := 3, cells := 0, slots := 0, locals := 40 } : Room)) (fun aA U => aA = #[(.ref a), (.int (0 : Int32))] ∧ Z.Warmed39 U.vm ∧ U.heap = h0) (fun _ _ _ _ _ => True) (fun _ U oO U' => ∃ vV LL, oO = .returned vV ∧ Q3d0 Z a b kb fm cs c0 c1 c2 c3 h0 n0 vV U'.heap LL ∧ FrameEnd U oO U' LL ({ frames := 3, cells := 0, slots := 0, locals := 40 } : Room).cells ({ frames := 3, cells := 0, slots := 0, locals := 40 } : Room).slots) := by
  refine MetFree.of_bodySF (plainFor_of_name pn_14) hisR ?_
  intro p e s m args below meth cC s₁ Bd hml0 hP hK
  obtain ⟨rfl, hZ, hh⟩ := hP
  have hx := Bd.exec
  have hby := Bd.bytes
  have hml : cC.maxLocals = 2 := hml0
  have hown : s.vm.findClass "java/lang/String" = some m.cls := findClass_of_methodNamed Bd.named
  have hnm := (name_of_methodNamed Bd.named Bd.method).1
  have X0 : Stand p l e ({ frames := 3, cells := 0, slots := 0, locals := 40 } : Room) s m #[(.ref a), (.int (0 : Int32))] below meth cC s₁ [] 0 0 := Stand.of_body Bd
  have e0 : s₁.heap = h0 := by rw [← hh, Bd.state]; rfl
  have N0 := Fr.nil n0
  have Kp0 := Keep.refl h0 []
  show OwnFin p e below (R3d0 Z a b kb fm cs c0 c1 c2 c3 h0 n0 s) (s₁.setTop (entryFrame m #[(.ref a), (.int (0 : Int32))] 2))
  rw [ef_3d0 m a]
  refine OwnFin.step (fun tT kK => XS.aloadN X0.here hx rfl (hb hby d_jdk_42_method_56_0) rfl rfl kK) ?_
  obtain ⟨cq1, kq1, q1a, q1b, q1c⟩ := isOf hZ e0 hp2
  obtain ⟨_, _, ⟨T1, L1, k1, n1⟩, -, X1, ⟨Lc1, hQ1, l1, y1, z1⟩, st1⟩ := X0.virtualBack hx (y := (⟨"java/lang/String", "isLatin1", "()Z"⟩ : MethodName)) (z := (⟨"java/lang/String", "isLatin1", "()Z"⟩ : MethodName)) hown (mvT hZ (hw _ (List.mem_of_getElem? (i := 54) rfl))) (mvT hZ (hw _ (List.mem_of_getElem? (i := 55) rfl))) (notFace_of_selects (args := #[]) (mvT hZ (hw _ (List.mem_of_getElem? (i := 57) rfl)))) (mvT hZ (hw _ (List.mem_of_getElem? (i := 57) rfl))) (mvT hZ (hw _ (List.mem_of_getElem? (i := 56) rfl))) (by decide) (backOf (W := 0) (rm2a l Z a0 hw hEL wS [] a cs h0 n0 (Nat.le_trans Z0 Kp0.1) hp10 hp11 hp4) hZ (hw _ (List.mem_of_getElem? (i := 58) rfl)) (hw _ (List.mem_of_getElem? (i := 2) rfl)) (by decide) (by decide)) q1a q1c (g := (mkF m 1 #[.val (.ref a), .val (.int (0 : Int32))] [(.ref a)])) rfl (by rw [hml]; rfl) (Steps.refl _) (argsL := []) (rest := []) (lenOf pd_59 rfl) rfl (by show 2 * 0 + _ ≤ _; exact Nat.le_of_eq rfl) (hb hby d_jdk_42_method_56_1) (fun _ _ => ⟨rfl, e0, (by decide : 0 + 0 ≤ _), (by decide : 0 + 0 ≤ _)⟩)
  dsimp only [Pt.U, Pt.locs, Pt.cells, Pt.slots] at X1 l1 y1 z1 st1 hQ1
  subst l1 y1 z1
  obtain ⟨rfl, N1q, e1⟩ := hQ1
  have N1 := Fr.app N0 N1q
  refine OwnFin.step (fun tT kK => st1.trans kK) ?_
  show OwnFin p e below _ (T1.setTop (mkF m 4 #[.val (.ref a), .val (.int (0 : Int32))] [(.int (1 : Int32))]))
  refine OwnFin.step (fun tT kK => XS.ifNo X1.here hx rfl (hb hby d_jdk_42_method_56_4) rfl ((if0 _ _).trans (feq (by decide : ¬ ((1 : Int32) = (0 : Int32)))).1) kK) ?_
  show OwnFin p e below _ (T1.setTop (mkF m 7 #[.val (.ref a), .val (.int (0 : Int32))] []))
  refine OwnFin.step (fun tT kK => XS.aloadN X1.here hx rfl (hb hby d_jdk_42_method_56_7) rfl rfl kK) ?_
  show OwnFin p e below _ (T1.setTop (mkF m 8 #[.val (.ref a), .val (.int (0 : Int32))] [(.ref a)]))
  obtain ⟨T2, X2, e2, st2⟩ := getF X1 hx hZ hown (host := "") (Or.inl (hw _ (List.mem_of_getElem? (i := 28) rfl))) Via.refl e1 hp3 (g := (mkF m 8 #[.val (.ref a), .val (.int (0 : Int32))] [(.ref a)])) rfl rfl (hb hby d_jdk_42_method_56_8)
  refine OwnFin.step st2 ?_
  show OwnFin p e below _ (T2.setTop (mkF m 11 #[.val (.ref a), .val (.int (0 : Int32))] [(.ref b)]))
  refine OwnFin.step (fun tT kK => XS.iloadN X2.here hx rfl (hb hby d_jdk_42_method_56_11) rfl kK) ?_
  show OwnFin p e below _ (T2.setTop (mkF m 12 #[.val (.ref a), .val (.int (0 : Int32))] [(.int (0 : Int32)), (.ref b)]))
  obtain ⟨_, _, ⟨T3, L3, k3, n3⟩, -, X3, ⟨Lc3, hQ3, l3, y3, z3⟩, st3⟩ := Jvm.LawKit.callS X2 hx (y := (⟨"java/lang/StringLatin1", "charAt", "([BI)C"⟩ : MethodName)) hown (mvT hZ (hw _ (List.mem_of_getElem? (i := 59) rfl))) (mvT hZ (hw _ (List.mem_of_getElem? (i := 60) rfl))) (mvT hZ (hw _ (List.mem_of_getElem? (i := 61) rfl))) (mvT hZ (hw _ (List.mem_of_getElem? (i := 62) rfl))) (by decide) (backOf (W := 0) (rm3c0 l Z a0 hw hEL wS [] b kb fm c0 c1 c2 c3 h0 n0 (Nat.le_trans Z0 Kp0.1) hp0 hp1 hp5 hp6 hp7 hp8 hp9) hZ (hw _ (List.mem_of_getElem? (i := 62) rfl)) (hw _ (List.mem_of_getElem? (i := 61) rfl)) (by decide) (by decide)) (g := (mkF m 12 #[.val (.ref a), .val (.int (0 : Int32))] [(.int (0 : Int32)), (.ref b)])) rfl (by rw [hml]; rfl) (argsL := [(.ref b), (.int (0 : Int32))]) (rest := []) (lenOf pd_65 rfl) rfl (by show 2 * 0 + _ ≤ _; exact Nat.le_of_eq rfl) (hb hby d_jdk_42_method_56_12) (fun _ _ => ⟨rfl, e2, (by decide : 0 + 0 ≤ _), (by decide : 0 + 0 ≤ _)⟩)
  dsimp only [Pt.U, Pt.locs, Pt.cells, Pt.slots] at X3 l3 y3 z3 st3 hQ3
  subst l3 y3 z3
  obtain ⟨rfl, N3q, e3⟩ := hQ3
  have N3 := Fr.app N1 N3q
  refine OwnFin.step st3 ?_
  show OwnFin p e below _ (T3.setTop (mkF m 15 #[.val (.ref a), .val (.int (0 : Int32))] [(.int c0)]))
  obtain ⟨fs4, hr4, hrun4, hended4, hW4, hsame4⟩ := X3.leave (v := (some (.int c0))) (fun h => by rw [Bd.returns] at h; cases h)
  refine ⟨_, _, retOut X3 hx Bd.returns (own_narrc hp6) (Or.inl ⟨rfl, (by simp), _, rfl⟩) (hb hby d_jdk_42_method_56_15) hr4, hrun4, hended4, _, _, rfl, ?_, ⟨_, rfl⟩, hW4, hsame4.mono (by decide) (by decide)⟩
  show Q3d0 Z a b kb fm cs c0 c1 c2 c3 h0 n0 _ T3.heap _
  rw [e3]
  exact ⟨rfl, N3, rfl⟩
theorem ef_3a1 (m : MethodId) (fm : Value) (r_fm : fm.isRef = true) : entryFrame m #[(.int (1 : Int32)), (.int (4 : Int32)), fm] 3 = mkF m 0 #[.val (.int (1 : Int32)), .val (.int (4 : Int32)), .val fm] [] := by
  rcases ref_cases r_fm with rfl | ⟨_, rfl⟩
  all_goals first | (simp [entryFrame, mkF, argsToLocals, Value.category]; done) | rfl
def Q3a1 (Z : State) (fm : Value) (h0 : Heap) (n0 : Nat) (vV : Option Value) (hH : Heap) (LL : List Loc) : Prop := vV = some (.int (1 : Int32)) ∧ Fr n0 LL ∧ hH = h0
def R3a1 (Z : State) (fm : Value) (h0 : Heap) (n0 : Nat) (U : State) (oO : Outcome) (U' : State) : Prop := ∃ vV LL, oO = .returned vV ∧ Q3a1 Z fm h0 n0 vV U'.heap LL ∧ FrameEnd U oO U' LL ({ frames := 0, cells := 0, slots := 0, locals := 0 } : Room).cells ({ frames := 0, cells := 0, slots := 0, locals := 0 } : Room).slots
set_option maxRecDepth 65536 in
set_option maxHeartbeats 40000000 in
theorem rm3a1 (l : Launch) (Z : State) (a0 : Array Value) (hw : ∀ d ∈ tables_1, d.before a0 Z = true) (hEL : EW Z a0 OwnEL) (wS : ∀ a ∈ Bundle.stringAtoms, a.before a0 Z = true) (ws : List Jvm.Cond) (fm : Value) (h0 : Heap) (n0 : Nat) (Z0 : n0 ≤ h0.size) (hp0 : fm.isRef = true) :
    MetFree l (⟨"jdk/internal/util/Preconditions", "checkIndex", "(IILjava/util/function/BiFunction;)I"⟩ : MethodName) (head1 (Jvm.Cond.code (⟨"jdk/internal/util/Preconditions", "checkIndex", "(IILjava/util/function/BiFunction;)I"⟩ : MethodName) jdk_41_method_11_code 3 (some .int) :: ws) ({ frames := 0, cells := 0, slots := 0, locals := 0 } : Room)) (fun aA U => aA = #[(.int (1 : Int32)), (.int (4 : Int32)), fm] ∧ Z.Warmed39 U.vm ∧ U.heap = h0) (fun _ _ _ _ _ => True) (fun _ U oO U' => ∃ vV LL, oO = .returned vV ∧ Q3a1 Z fm h0 n0 vV U'.heap LL ∧ FrameEnd U oO U' LL ({ frames := 0, cells := 0, slots := 0, locals := 0 } : Room).cells ({ frames := 0, cells := 0, slots := 0, locals := 0 } : Room).slots) := by
  refine MetFree.of_bodySF (plainFor_of_name pn_29) hisR ?_
  intro p e s m args below meth cC s₁ Bd hml0 hP hK
  obtain ⟨rfl, hZ, hh⟩ := hP
  have hx := Bd.exec
  have hby := Bd.bytes
  have hml : cC.maxLocals = 3 := hml0
  have hown : s.vm.findClass "jdk/internal/util/Preconditions" = some m.cls := findClass_of_methodNamed Bd.named
  have hnm := (name_of_methodNamed Bd.named Bd.method).1
  have X0 : Stand p l e ({ frames := 0, cells := 0, slots := 0, locals := 0 } : Room) s m #[(.int (1 : Int32)), (.int (4 : Int32)), fm] below meth cC s₁ [] 0 0 := Stand.of_body Bd
  have e0 : s₁.heap = h0 := by rw [← hh, Bd.state]; rfl
  have N0 := Fr.nil n0
  have Kp0 := Keep.refl h0 []
  show OwnFin p e below (R3a1 Z fm h0 n0 s) (s₁.setTop (entryFrame m #[(.int (1 : Int32)), (.int (4 : Int32)), fm] 3))
  rw [ef_3a1 m fm hp0]
  refine OwnFin.step (fun tT kK => XS.iloadN X0.here hx rfl (hb hby d_jdk_41_method_11_0) rfl kK) ?_
  refine OwnFin.step (fun tT kK => XS.ifNo X0.here hx rfl (hb hby d_jdk_41_method_11_1) rfl ((if0 _ _).trans (flt (by decide : ¬ ((1 : Int32) < (0 : Int32)))).1) kK) ?_
  show OwnFin p e below _ (s₁.setTop (mkF m 4 #[.val (.int (1 : Int32)), .val (.int (4 : Int32)), .val fm] []))
  refine OwnFin.step (fun tT kK => XS.iloadN X0.here hx rfl (hb hby d_jdk_41_method_11_4) rfl kK) ?_
  show OwnFin p e below _ (s₁.setTop (mkF m 5 #[.val (.int (1 : Int32)), .val (.int (4 : Int32)), .val fm] [(.int (1 : Int32))]))
  refine OwnFin.step (fun tT kK => XS.iloadN X0.here hx rfl (hb hby d_jdk_41_method_11_5) rfl kK) ?_
  refine OwnFin.step (fun tT kK => XS.icmpYes X0.here hx rfl (pc0 := 6) (pc' := 16) rfl (hb hby d_jdk_41_method_11_6) rfl (tlt (by decide : (1 : Int32) < (4 : Int32))).1 (by decide) (by decide) kK) ?_
  show OwnFin p e below _ (s₁.setTop (mkF m 16 #[.val (.int (1 : Int32)), .val (.int (4 : Int32)), .val fm] []))
  refine OwnFin.step (fun tT kK => XS.iloadN X0.here hx rfl (hb hby d_jdk_41_method_11_16) rfl kK) ?_
  show OwnFin p e below _ (s₁.setTop (mkF m 17 #[.val (.int (1 : Int32)), .val (.int (4 : Int32)), .val fm] [(.int (1 : Int32))]))
  obtain ⟨fs1, hr1, hrun1, hended1, hW1, hsame1⟩ := X0.leave (v := (some (.int (1 : Int32)))) (fun h => by rw [Bd.returns] at h; cases h)
  refine ⟨_, _, retOut X0 hx Bd.returns rfl (Or.inl ⟨rfl, Or.inl rfl, _, rfl⟩) (hb hby d_jdk_41_method_11_17) hr1, hrun1, hended1, _, _, rfl, ?_, ⟨_, rfl⟩, hW1, hsame1.mono (by decide) (by decide)⟩
  show Q3a1 Z fm h0 n0 _ s₁.heap _
  rw [e0]
  exact ⟨rfl, N0, rfl⟩
theorem ef_3b1 (m : MethodId)  : entryFrame m #[(.int (1 : Int32)), (.int (4 : Int32))] 2 = mkF m 0 #[.val (.int (1 : Int32)), .val (.int (4 : Int32))] [] := by first | (simp [entryFrame, mkF, argsToLocals, Value.category]; done) | rfl
def Q3b1 (Z : State) (fm : Value) (h0 : Heap) (n0 : Nat) (vV : Option Value) (hH : Heap) (LL : List Loc) : Prop := vV = none ∧ Fr n0 LL ∧ hH = h0
def R3b1 (Z : State) (fm : Value) (h0 : Heap) (n0 : Nat) (U : State) (oO : Outcome) (U' : State) : Prop := ∃ vV LL, oO = .returned vV ∧ Q3b1 Z fm h0 n0 vV U'.heap LL ∧ FrameEnd U oO U' LL ({ frames := 1, cells := 0, slots := 0, locals := 14 } : Room).cells ({ frames := 1, cells := 0, slots := 0, locals := 14 } : Room).slots
set_option maxRecDepth 65536 in
set_option maxHeartbeats 40000000 in
theorem rm3b1 (l : Launch) (Z : State) (a0 : Array Value) (hw : ∀ d ∈ tables_1, d.before a0 Z = true) (hEL : EW Z a0 OwnEL) (wS : ∀ a ∈ Bundle.stringAtoms, a.before a0 Z = true) (ws : List Jvm.Cond) (fm : Value) (h0 : Heap) (n0 : Nat) (Z0 : n0 ≤ h0.size) (hp0 : Sta Z h0 "jdk/internal/util/Preconditions" "SIOOBE_FORMATTER" "Ljava/util/function/BiFunction;" fm) (hp1 : fm.isRef = true) :
    MetFree l (⟨"java/lang/String", "checkIndex", "(II)V"⟩ : MethodName) (head1 (Jvm.Cond.code (⟨"java/lang/String", "checkIndex", "(II)V"⟩ : MethodName) jdk_42_method_155_code 2 none :: ws) ({ frames := 1, cells := 0, slots := 0, locals := 14 } : Room)) (fun aA U => aA = #[(.int (1 : Int32)), (.int (4 : Int32))] ∧ Z.Warmed39 U.vm ∧ U.heap = h0) (fun _ _ _ _ _ => True) (fun _ U oO U' => ∃ vV LL, oO = .returned vV ∧ Q3b1 Z fm h0 n0 vV U'.heap LL ∧ FrameEnd U oO U' LL ({ frames := 1, cells := 0, slots := 0, locals := 14 } : Room).cells ({ frames := 1, cells := 0, slots := 0, locals := 14 } : Room).slots) := by
  refine MetFree.of_bodySF (plainFor_of_name pn_14) hisR ?_
  intro p e s m args below meth cC s₁ Bd hml0 hP hK
  obtain ⟨rfl, hZ, hh⟩ := hP
  have hx := Bd.exec
  have hby := Bd.bytes
  have hml : cC.maxLocals = 2 := hml0
  have hown : s.vm.findClass "java/lang/String" = some m.cls := findClass_of_methodNamed Bd.named
  have hnm := (name_of_methodNamed Bd.named Bd.method).1
  have X0 : Stand p l e ({ frames := 1, cells := 0, slots := 0, locals := 14 } : Room) s m #[(.int (1 : Int32)), (.int (4 : Int32))] below meth cC s₁ [] 0 0 := Stand.of_body Bd
  have e0 : s₁.heap = h0 := by rw [← hh, Bd.state]; rfl
  have N0 := Fr.nil n0
  have Kp0 := Keep.refl h0 []
  show OwnFin p e below (R3b1 Z fm h0 n0 s) (s₁.setTop (entryFrame m #[(.int (1 : Int32)), (.int (4 : Int32))] 2))
  rw [ef_3b1 m]
  refine OwnFin.step (fun tT kK => XS.iloadN X0.here hx rfl (hb hby d_jdk_42_method_155_0) rfl kK) ?_
  refine OwnFin.step (fun tT kK => XS.iloadN X0.here hx rfl (hb hby d_jdk_42_method_155_1) rfl kK) ?_
  show OwnFin p e below _ (s₁.setTop (mkF m 2 #[.val (.int (1 : Int32)), .val (.int (4 : Int32))] [(.int (4 : Int32)), (.int (1 : Int32))]))
  obtain ⟨T1, X1, e1, st1⟩ := getS2 X0 hx hZ hown (host := "") (Or.inl (hw _ (List.mem_of_getElem? (i := 66) rfl))) Via.refl e0 hp0 (g := (mkF m 2 #[.val (.int (1 : Int32)), .val (.int (4 : Int32))] [(.int (4 : Int32)), (.int (1 : Int32))])) rfl (hb hby d_jdk_42_method_155_2)
  refine OwnFin.step st1 ?_
  show OwnFin p e below _ (T1.setTop (mkF m 5 #[.val (.int (1 : Int32)), .val (.int (4 : Int32))] [fm, (.int (4 : Int32)), (.int (1 : Int32))]))
  obtain ⟨_, _, ⟨T2, L2, k2, n2⟩, -, X2, ⟨Lc2, hQ2, l2, y2, z2⟩, st2⟩ := Jvm.LawKit.callS X1 hx (y := (⟨"jdk/internal/util/Preconditions", "checkIndex", "(IILjava/util/function/BiFunction;)I"⟩ : MethodName)) hown (mvT hZ (hw _ (List.mem_of_getElem? (i := 68) rfl))) (mvT hZ (hw _ (List.mem_of_getElem? (i := 69) rfl))) (mvT hZ (hw _ (List.mem_of_getElem? (i := 67) rfl))) (mvT hZ (hw _ (List.mem_of_getElem? (i := 70) rfl))) (by decide) (backOf (W := 0) (rm3a1 l Z a0 hw hEL wS [] fm h0 n0 (Nat.le_trans Z0 Kp0.1) hp1) hZ (hw _ (List.mem_of_getElem? (i := 70) rfl)) (hw _ (List.mem_of_getElem? (i := 67) rfl)) (by decide) (by decide)) (g := (mkF m 5 #[.val (.int (1 : Int32)), .val (.int (4 : Int32))] [fm, (.int (4 : Int32)), (.int (1 : Int32))])) rfl (by rw [hml]; rfl) (argsL := [(.int (1 : Int32)), (.int (4 : Int32)), fm]) (rest := []) (lenOf pd_41 rfl) rfl (by show 2 * 0 + _ ≤ _; exact Nat.le_of_eq rfl) (hb hby d_jdk_42_method_155_5) (fun _ _ => ⟨rfl, e1, (by decide : 0 + 0 ≤ _), (by decide : 0 + 0 ≤ _)⟩)
  dsimp only [Pt.U, Pt.locs, Pt.cells, Pt.slots] at X2 l2 y2 z2 st2 hQ2
  subst l2 y2 z2
  obtain ⟨rfl, N2q, e2⟩ := hQ2
  have N2 := Fr.app N0 N2q
  refine OwnFin.step st2 ?_
  show OwnFin p e below _ (T2.setTop (mkF m 8 #[.val (.int (1 : Int32)), .val (.int (4 : Int32))] [(.int (1 : Int32))]))
  refine OwnFin.step (fun tT kK => XS.pop X2.here hx rfl (hb hby d_jdk_42_method_155_8) rfl rfl kK) ?_
  show OwnFin p e below _ (T2.setTop (mkF m 9 #[.val (.int (1 : Int32)), .val (.int (4 : Int32))] []))
  obtain ⟨fs3, hr3, hrun3, hended3, hW3, hsame3⟩ := X2.leave (v := none) (fun _ => rfl)
  refine ⟨_, _, X2.returnOut hx Bd.returns (hb hby d_jdk_42_method_155_9) hr3, hrun3, hended3, _, _, rfl, ?_, ⟨_, rfl⟩, hW3, hsame3.mono (by decide) (by decide)⟩
  show Q3b1 Z fm h0 n0 _ T2.heap _
  rw [e2]
  exact ⟨rfl, N2, rfl⟩
theorem ef_3c1 (m : MethodId) (b : Addr) : entryFrame m #[(.ref b), (.int (1 : Int32))] 2 = mkF m 0 #[.val (.ref b), .val (.int (1 : Int32))] [] := by first | (simp [entryFrame, mkF, argsToLocals, Value.category]; done) | rfl
def Q3c1 (Z : State) (b : Addr) (kb : ClassId) (fm : Value) (c0 : Int32) (c1 : Int32) (c2 : Int32) (c3 : Int32) (h0 : Heap) (n0 : Nat) (vV : Option Value) (hH : Heap) (LL : List Loc) : Prop := vV = some (.int c1) ∧ Fr n0 LL ∧ hH = h0
def R3c1 (Z : State) (b : Addr) (kb : ClassId) (fm : Value) (c0 : Int32) (c1 : Int32) (c2 : Int32) (c3 : Int32) (h0 : Heap) (n0 : Nat) (U : State) (oO : Outcome) (U' : State) : Prop := ∃ vV LL, oO = .returned vV ∧ Q3c1 Z b kb fm c0 c1 c2 c3 h0 n0 vV U'.heap LL ∧ FrameEnd U oO U' LL ({ frames := 2, cells := 0, slots := 0, locals := 27 } : Room).cells ({ frames := 2, cells := 0, slots := 0, locals := 27 } : Room).slots
set_option maxRecDepth 65536 in
set_option maxHeartbeats 40000000 in
theorem rm3c1 (l : Launch) (Z : State) (a0 : Array Value) (hw : ∀ d ∈ tables_1, d.before a0 Z = true) (hEL : EW Z a0 OwnEL) (wS : ∀ a ∈ Bundle.stringAtoms, a.before a0 Z = true) (ws : List Jvm.Cond) (b : Addr) (kb : ClassId) (fm : Value) (c0 : Int32) (c1 : Int32) (c2 : Int32) (c3 : Int32) (h0 : Heap) (n0 : Nat) (Z0 : n0 ≤ h0.size) (hp0 : Sta Z h0 "jdk/internal/util/Preconditions" "SIOOBE_FORMATTER" "Ljava/util/function/BiFunction;" fm) (hp1 : fm.isRef = true) (hp2 : Arv Z h0 b kb .byte (4 : Int32) [(.int (nar .byte (c0.toInt8.toInt32))), (.int (nar .byte (c1.toInt8.toInt32))), (.int (nar .byte (c2.toInt8.toInt32))), (.int (nar .byte (c3.toInt8.toInt32)))] (.int (0 : Int32))) (hp3 : In8 c0) (hp4 : In8 c1) (hp5 : In8 c2) (hp6 : In8 c3) :
    MetFree l (⟨"java/lang/StringLatin1", "charAt", "([BI)C"⟩ : MethodName) (head1 (Jvm.Cond.code (⟨"java/lang/StringLatin1", "charAt", "([BI)C"⟩ : MethodName) jdk_43_method_2_code 2 (some .char) :: ws) ({ frames := 2, cells := 0, slots := 0, locals := 27 } : Room)) (fun aA U => aA = #[(.ref b), (.int (1 : Int32))] ∧ Z.Warmed39 U.vm ∧ U.heap = h0) (fun _ _ _ _ _ => True) (fun _ U oO U' => ∃ vV LL, oO = .returned vV ∧ Q3c1 Z b kb fm c0 c1 c2 c3 h0 n0 vV U'.heap LL ∧ FrameEnd U oO U' LL ({ frames := 2, cells := 0, slots := 0, locals := 27 } : Room).cells ({ frames := 2, cells := 0, slots := 0, locals := 27 } : Room).slots) := by
  refine MetFree.of_bodySF (plainFor_of_name pn_44) hisR ?_
  intro p e s m args below meth cC s₁ Bd hml0 hP hK
  obtain ⟨rfl, hZ, hh⟩ := hP
  have hx := Bd.exec
  have hby := Bd.bytes
  have hml : cC.maxLocals = 2 := hml0
  have hown : s.vm.findClass "java/lang/StringLatin1" = some m.cls := findClass_of_methodNamed Bd.named
  have hnm := (name_of_methodNamed Bd.named Bd.method).1
  have X0 : Stand p l e ({ frames := 2, cells := 0, slots := 0, locals := 27 } : Room) s m #[(.ref b), (.int (1 : Int32))] below meth cC s₁ [] 0 0 := Stand.of_body Bd
  have e0 : s₁.heap = h0 := by rw [← hh, Bd.state]; rfl
  have N0 := Fr.nil n0
  have Kp0 := Keep.refl h0 []
  show OwnFin p e below (R3c1 Z b kb fm c0 c1 c2 c3 h0 n0 s) (s₁.setTop (entryFrame m #[(.ref b), (.int (1 : Int32))] 2))
  rw [ef_3c1 m b]
  refine OwnFin.step (fun tT kK => XS.iloadN X0.here hx rfl (hb hby d_jdk_43_method_2_0) rfl kK) ?_
  refine OwnFin.step (fun tT kK => XS.aloadN X0.here hx rfl (hb hby d_jdk_43_method_2_1) rfl rfl kK) ?_
  show OwnFin p e below _ (s₁.setTop (mkF m 2 #[.val (.ref b), .val (.int (1 : Int32))] [(.ref b), (.int (1 : Int32))]))
  obtain ⟨cl1, Ar1, -, Sz1, Ng1, -, -⟩ := id hp2
  refine OwnFin.step (fun tT kK => own_len X0 hx hZ e0 Ar1 Sz1 Ng1 (g := (mkF m 2 #[.val (.ref b), .val (.int (1 : Int32))] [(.ref b), (.int (1 : Int32))])) rfl rfl (hb hby d_jdk_43_method_2_2) kK) ?_
  obtain ⟨_, _, ⟨T2, L2, k2, n2⟩, -, X2, ⟨Lc2, hQ2, l2, y2, z2⟩, st2⟩ := Jvm.LawKit.callS X0 hx (y := (⟨"java/lang/String", "checkIndex", "(II)V"⟩ : MethodName)) hown (mvT hZ (hw _ (List.mem_of_getElem? (i := 63) rfl))) (mvT hZ (hw _ (List.mem_of_getElem? (i := 64) rfl))) (mvT hZ (hw _ (List.mem_of_getElem? (i := 2) rfl))) (mvT hZ (hw _ (List.mem_of_getElem? (i := 65) rfl))) (by decide) (backOf (W := 0) (rm3b1 l Z a0 hw hEL wS [] fm h0 n0 (Nat.le_trans Z0 Kp0.1) hp0 hp1) hZ (hw _ (List.mem_of_getElem? (i := 65) rfl)) (hw _ (List.mem_of_getElem? (i := 2) rfl)) (by decide) (by decide)) (g := (mkF m 3 #[.val (.ref b), .val (.int (1 : Int32))] [(.int (4 : Int32)), (.int (1 : Int32))])) rfl (by rw [hml]; rfl) (argsL := [(.int (1 : Int32)), (.int (4 : Int32))]) (rest := []) (lenOf pd_49 rfl) rfl (by show 2 * 0 + _ ≤ _; exact Nat.le_of_eq rfl) (hb hby d_jdk_43_method_2_3) (fun _ _ => ⟨rfl, e0, (by decide : 0 + 0 ≤ _), (by decide : 0 + 0 ≤ _)⟩)
  dsimp only [Pt.U, Pt.locs, Pt.cells, Pt.slots] at X2 l2 y2 z2 st2 hQ2
  subst l2 y2 z2
  obtain ⟨rfl, N2q, e2⟩ := hQ2
  have N2 := Fr.app N0 N2q
  refine OwnFin.step st2 ?_
  show OwnFin p e below _ (T2.setTop (mkF m 6 #[.val (.ref b), .val (.int (1 : Int32))] []))
  refine OwnFin.step (fun tT kK => XS.aloadN X2.here hx rfl (hb hby d_jdk_43_method_2_6) rfl rfl kK) ?_
  show OwnFin p e below _ (T2.setTop (mkF m 7 #[.val (.ref b), .val (.int (1 : Int32))] [(.ref b)]))
  refine OwnFin.step (fun tT kK => XS.iloadN X2.here hx rfl (hb hby d_jdk_43_method_2_7) rfl kK) ?_
  obtain ⟨cl3, Ar3, q3, Sz3, Ng3, H3, G3⟩ := id hp2
  have hin3 : ¬ ((1 : Int32) < 0 ∨ cl3.slots.size ≤ ((1 : Int32)).toNatClampNeg) := inb_of Sz3 ⟨by decide, by decide⟩
  refine OwnFin.step (fun tT kK => X2.baloadBytes hx (j := (1 : Int32)) (v := (.int (nar .byte (c1.toInt8.toInt32)))) (by rw [e2]; exact Ar3.1) (State.isArrayOf_alike hZ.alike Ar3.2.1) Ar3.2.2 hin3 (H3.at hin3 rfl) (g := (mkF m 8 #[.val (.ref b), .val (.int (1 : Int32))] [(.int (1 : Int32)), (.ref b)])) rfl rfl (hb hby d_jdk_43_method_2_8) _ kK) ?_
  show OwnFin p e below _ (T2.setTop (mkF m 9 #[.val (.ref b), .val (.int (1 : Int32))] [(.int (nar .byte (c1.toInt8.toInt32)))]))
  refine OwnFin.step (fun tT kK => XS.sipush X2.here hx rfl (hb hby d_jdk_43_method_2_9) kK) ?_
  show OwnFin p e below _ (T2.setTop (mkF m 12 #[.val (.ref b), .val (.int (1 : Int32))] [(.int (255 : Int32)), (.int (nar .byte (c1.toInt8.toInt32)))]))
  refine OwnFin.step (fun tT kK => XS.iand X2.here hx rfl (hb hby d_jdk_43_method_2_12) rfl kK) ?_
  refine OwnFin.step (fun tT kK => XS.i2c X2.here hx rfl (hb hby d_jdk_43_method_2_13) rfl kK) ?_
  show OwnFin p e below _ (T2.setTop (mkF m 14 #[.val (.ref b), .val (.int (1 : Int32))] [(.int (((nar .byte (c1.toInt8.toInt32)) &&& (255 : Int32)).toUInt32.toUInt16.toUInt32.toInt32))]))
  rw [own_ch hp4]
  show OwnFin p e below _ (T2.setTop (mkF m 14 #[.val (.ref b), .val (.int (1 : Int32))] [(.int c1)]))
  obtain ⟨fs4, hr4, hrun4, hended4, hW4, hsame4⟩ := X2.leave (v := (some (.int c1))) (fun h => by rw [Bd.returns] at h; cases h)
  refine ⟨_, _, retOut X2 hx Bd.returns (own_narrc hp4) (Or.inl ⟨rfl, (by simp), _, rfl⟩) (hb hby d_jdk_43_method_2_14) hr4, hrun4, hended4, _, _, rfl, ?_, ⟨_, rfl⟩, hW4, hsame4.mono (by decide) (by decide)⟩
  show Q3c1 Z b kb fm c0 c1 c2 c3 h0 n0 _ T2.heap _
  rw [e2]
  exact ⟨rfl, N2, rfl⟩
theorem ef_3d1 (m : MethodId) (a : Addr) : entryFrame m #[(.ref a), (.int (1 : Int32))] 2 = mkF m 0 #[.val (.ref a), .val (.int (1 : Int32))] [] := by first | (simp [entryFrame, mkF, argsToLocals, Value.category]; done) | rfl
def Q3d1 (Z : State) (a : Addr) (b : Addr) (kb : ClassId) (fm : Value) (cs : Int32) (c0 : Int32) (c1 : Int32) (c2 : Int32) (c3 : Int32) (h0 : Heap) (n0 : Nat) (vV : Option Value) (hH : Heap) (LL : List Loc) : Prop := vV = some (.int c1) ∧ Fr n0 LL ∧ hH = h0
def R3d1 (Z : State) (a : Addr) (b : Addr) (kb : ClassId) (fm : Value) (cs : Int32) (c0 : Int32) (c1 : Int32) (c2 : Int32) (c3 : Int32) (h0 : Heap) (n0 : Nat) (U : State) (oO : Outcome) (U' : State) : Prop := ∃ vV LL, oO = .returned vV ∧ Q3d1 Z a b kb fm cs c0 c1 c2 c3 h0 n0 vV U'.heap LL ∧ FrameEnd U oO U' LL ({ frames := 3, cells := 0, slots := 0, locals := 40 } : Room).cells ({ frames := 3, cells := 0, slots := 0, locals := 40 } : Room).slots
set_option maxRecDepth 65536 in
set_option maxHeartbeats 40000000 in
theorem rm3d1 (l : Launch) (Z : State) (a0 : Array Value) (hw : ∀ d ∈ tables_1, d.before a0 Z = true) (hEL : EW Z a0 OwnEL) (wS : ∀ a ∈ Bundle.stringAtoms, a.before a0 Z = true) (ws : List Jvm.Cond) (a : Addr) (b : Addr) (kb : ClassId) (fm : Value) (cs : Int32) (c0 : Int32) (c1 : Int32) (c2 : Int32) (c3 : Int32) (h0 : Heap) (n0 : Nat) (Z0 : n0 ≤ h0.size) (hp0 : Sta Z h0 "jdk/internal/util/Preconditions" "SIOOBE_FORMATTER" "Ljava/util/function/BiFunction;" fm) (hp1 : fm.isRef = true) (hp2 : Exa Z h0 a "java/lang/String") (hp3 : Fld Z h0 a "java/lang/String" "value" "[B" (.ref b)) (hp4 : Fld Z h0 a "java/lang/String" "coder" "B" (.int (0 : Int32))) (hp5 : Arv Z h0 b kb .byte (4 : Int32) [(.int (nar .byte (c0.toInt8.toInt32))), (.int (nar .byte (c1.toInt8.toInt32))), (.int (nar .byte (c2.toInt8.toInt32))), (.int (nar .byte (c3.toInt8.toInt32)))] (.int (0 : Int32))) (hp6 : In8 c0) (hp7 : In8 c1) (hp8 : In8 c2) (hp9 : In8 c3) (hp10 : Sta Z h0 "java/lang/String" "COMPACT_STRINGS" "Z" (.int cs)) (hp11 : ¬ cs = (0 : Int32)) :
    MetFree l (⟨"java/lang/String", "charAt", "(I)C"⟩ : MethodName) (head1 (Jvm.Cond.code (⟨"java/lang/String", "charAt", "(I)C"⟩ : MethodName) jdk_42_method_56_code 2 (some .char) :: ws) ({ frames := 3, cells := 0, slots := 0, locals := 40 } : Room)) (fun aA U => aA = #[(.ref a), (.int (1 : Int32))] ∧ Z.Warmed39 U.vm ∧ U.heap = h0) (fun _ _ _ _ _ => True) (fun _ U oO U' => ∃ vV LL, oO = .returned vV ∧ Q3d1 Z a b kb fm cs c0 c1 c2 c3 h0 n0 vV U'.heap LL ∧ FrameEnd U oO U' LL ({ frames := 3, cells := 0, slots := 0, locals := 40 } : Room).cells ({ frames := 3, cells := 0, slots := 0, locals := 40 } : Room).slots) := by
  refine MetFree.of_bodySF (plainFor_of_name pn_14) hisR ?_
  intro p e s m args below meth cC s₁ Bd hml0 hP hK
  obtain ⟨rfl, hZ, hh⟩ := hP
  have hx := Bd.exec
  have hby := Bd.bytes
  have hml : cC.maxLocals = 2 := hml0
  have hown : s.vm.findClass "java/lang/String" = some m.cls := findClass_of_methodNamed Bd.named
  have hnm := (name_of_methodNamed Bd.named Bd.method).1
  have X0 : Stand p l e ({ frames := 3, cells := 0, slots := 0, locals := 40 } : Room) s m #[(.ref a), (.int (1 : Int32))] below meth cC s₁ [] 0 0 := Stand.of_body Bd
  have e0 : s₁.heap = h0 := by rw [← hh, Bd.state]; rfl
  have N0 := Fr.nil n0
  have Kp0 := Keep.refl h0 []
  show OwnFin p e below (R3d1 Z a b kb fm cs c0 c1 c2 c3 h0 n0 s) (s₁.setTop (entryFrame m #[(.ref a), (.int (1 : Int32))] 2))
  rw [ef_3d1 m a]
  refine OwnFin.step (fun tT kK => XS.aloadN X0.here hx rfl (hb hby d_jdk_42_method_56_0) rfl rfl kK) ?_
  obtain ⟨cq1, kq1, q1a, q1b, q1c⟩ := isOf hZ e0 hp2
  obtain ⟨_, _, ⟨T1, L1, k1, n1⟩, -, X1, ⟨Lc1, hQ1, l1, y1, z1⟩, st1⟩ := X0.virtualBack hx (y := (⟨"java/lang/String", "isLatin1", "()Z"⟩ : MethodName)) (z := (⟨"java/lang/String", "isLatin1", "()Z"⟩ : MethodName)) hown (mvT hZ (hw _ (List.mem_of_getElem? (i := 54) rfl))) (mvT hZ (hw _ (List.mem_of_getElem? (i := 55) rfl))) (notFace_of_selects (args := #[]) (mvT hZ (hw _ (List.mem_of_getElem? (i := 57) rfl)))) (mvT hZ (hw _ (List.mem_of_getElem? (i := 57) rfl))) (mvT hZ (hw _ (List.mem_of_getElem? (i := 56) rfl))) (by decide) (backOf (W := 0) (rm2a l Z a0 hw hEL wS [] a cs h0 n0 (Nat.le_trans Z0 Kp0.1) hp10 hp11 hp4) hZ (hw _ (List.mem_of_getElem? (i := 58) rfl)) (hw _ (List.mem_of_getElem? (i := 2) rfl)) (by decide) (by decide)) q1a q1c (g := (mkF m 1 #[.val (.ref a), .val (.int (1 : Int32))] [(.ref a)])) rfl (by rw [hml]; rfl) (Steps.refl _) (argsL := []) (rest := []) (lenOf pd_59 rfl) rfl (by show 2 * 0 + _ ≤ _; exact Nat.le_of_eq rfl) (hb hby d_jdk_42_method_56_1) (fun _ _ => ⟨rfl, e0, (by decide : 0 + 0 ≤ _), (by decide : 0 + 0 ≤ _)⟩)
  dsimp only [Pt.U, Pt.locs, Pt.cells, Pt.slots] at X1 l1 y1 z1 st1 hQ1
  subst l1 y1 z1
  obtain ⟨rfl, N1q, e1⟩ := hQ1
  have N1 := Fr.app N0 N1q
  refine OwnFin.step (fun tT kK => st1.trans kK) ?_
  show OwnFin p e below _ (T1.setTop (mkF m 4 #[.val (.ref a), .val (.int (1 : Int32))] [(.int (1 : Int32))]))
  refine OwnFin.step (fun tT kK => XS.ifNo X1.here hx rfl (hb hby d_jdk_42_method_56_4) rfl ((if0 _ _).trans (feq (by decide : ¬ ((1 : Int32) = (0 : Int32)))).1) kK) ?_
  show OwnFin p e below _ (T1.setTop (mkF m 7 #[.val (.ref a), .val (.int (1 : Int32))] []))
  refine OwnFin.step (fun tT kK => XS.aloadN X1.here hx rfl (hb hby d_jdk_42_method_56_7) rfl rfl kK) ?_
  show OwnFin p e below _ (T1.setTop (mkF m 8 #[.val (.ref a), .val (.int (1 : Int32))] [(.ref a)]))
  obtain ⟨T2, X2, e2, st2⟩ := getF X1 hx hZ hown (host := "") (Or.inl (hw _ (List.mem_of_getElem? (i := 28) rfl))) Via.refl e1 hp3 (g := (mkF m 8 #[.val (.ref a), .val (.int (1 : Int32))] [(.ref a)])) rfl rfl (hb hby d_jdk_42_method_56_8)
  refine OwnFin.step st2 ?_
  show OwnFin p e below _ (T2.setTop (mkF m 11 #[.val (.ref a), .val (.int (1 : Int32))] [(.ref b)]))
  refine OwnFin.step (fun tT kK => XS.iloadN X2.here hx rfl (hb hby d_jdk_42_method_56_11) rfl kK) ?_
  show OwnFin p e below _ (T2.setTop (mkF m 12 #[.val (.ref a), .val (.int (1 : Int32))] [(.int (1 : Int32)), (.ref b)]))
  obtain ⟨_, _, ⟨T3, L3, k3, n3⟩, -, X3, ⟨Lc3, hQ3, l3, y3, z3⟩, st3⟩ := Jvm.LawKit.callS X2 hx (y := (⟨"java/lang/StringLatin1", "charAt", "([BI)C"⟩ : MethodName)) hown (mvT hZ (hw _ (List.mem_of_getElem? (i := 59) rfl))) (mvT hZ (hw _ (List.mem_of_getElem? (i := 60) rfl))) (mvT hZ (hw _ (List.mem_of_getElem? (i := 61) rfl))) (mvT hZ (hw _ (List.mem_of_getElem? (i := 62) rfl))) (by decide) (backOf (W := 0) (rm3c1 l Z a0 hw hEL wS [] b kb fm c0 c1 c2 c3 h0 n0 (Nat.le_trans Z0 Kp0.1) hp0 hp1 hp5 hp6 hp7 hp8 hp9) hZ (hw _ (List.mem_of_getElem? (i := 62) rfl)) (hw _ (List.mem_of_getElem? (i := 61) rfl)) (by decide) (by decide)) (g := (mkF m 12 #[.val (.ref a), .val (.int (1 : Int32))] [(.int (1 : Int32)), (.ref b)])) rfl (by rw [hml]; rfl) (argsL := [(.ref b), (.int (1 : Int32))]) (rest := []) (lenOf pd_65 rfl) rfl (by show 2 * 0 + _ ≤ _; exact Nat.le_of_eq rfl) (hb hby d_jdk_42_method_56_12) (fun _ _ => ⟨rfl, e2, (by decide : 0 + 0 ≤ _), (by decide : 0 + 0 ≤ _)⟩)
  dsimp only [Pt.U, Pt.locs, Pt.cells, Pt.slots] at X3 l3 y3 z3 st3 hQ3
  subst l3 y3 z3
  obtain ⟨rfl, N3q, e3⟩ := hQ3
  have N3 := Fr.app N1 N3q
  refine OwnFin.step st3 ?_
  show OwnFin p e below _ (T3.setTop (mkF m 15 #[.val (.ref a), .val (.int (1 : Int32))] [(.int c1)]))
  obtain ⟨fs4, hr4, hrun4, hended4, hW4, hsame4⟩ := X3.leave (v := (some (.int c1))) (fun h => by rw [Bd.returns] at h; cases h)
  refine ⟨_, _, retOut X3 hx Bd.returns (own_narrc hp7) (Or.inl ⟨rfl, (by simp), _, rfl⟩) (hb hby d_jdk_42_method_56_15) hr4, hrun4, hended4, _, _, rfl, ?_, ⟨_, rfl⟩, hW4, hsame4.mono (by decide) (by decide)⟩
  show Q3d1 Z a b kb fm cs c0 c1 c2 c3 h0 n0 _ T3.heap _
  rw [e3]
  exact ⟨rfl, N3, rfl⟩
theorem ef_3a2 (m : MethodId) (fm : Value) (r_fm : fm.isRef = true) : entryFrame m #[(.int (2 : Int32)), (.int (4 : Int32)), fm] 3 = mkF m 0 #[.val (.int (2 : Int32)), .val (.int (4 : Int32)), .val fm] [] := by
  rcases ref_cases r_fm with rfl | ⟨_, rfl⟩
  all_goals first | (simp [entryFrame, mkF, argsToLocals, Value.category]; done) | rfl
def Q3a2 (Z : State) (fm : Value) (h0 : Heap) (n0 : Nat) (vV : Option Value) (hH : Heap) (LL : List Loc) : Prop := vV = some (.int (2 : Int32)) ∧ Fr n0 LL ∧ hH = h0
def R3a2 (Z : State) (fm : Value) (h0 : Heap) (n0 : Nat) (U : State) (oO : Outcome) (U' : State) : Prop := ∃ vV LL, oO = .returned vV ∧ Q3a2 Z fm h0 n0 vV U'.heap LL ∧ FrameEnd U oO U' LL ({ frames := 0, cells := 0, slots := 0, locals := 0 } : Room).cells ({ frames := 0, cells := 0, slots := 0, locals := 0 } : Room).slots
set_option maxRecDepth 65536 in
set_option maxHeartbeats 40000000 in
theorem rm3a2 (l : Launch) (Z : State) (a0 : Array Value) (hw : ∀ d ∈ tables_1, d.before a0 Z = true) (hEL : EW Z a0 OwnEL) (wS : ∀ a ∈ Bundle.stringAtoms, a.before a0 Z = true) (ws : List Jvm.Cond) (fm : Value) (h0 : Heap) (n0 : Nat) (Z0 : n0 ≤ h0.size) (hp0 : fm.isRef = true) :
    MetFree l (⟨"jdk/internal/util/Preconditions", "checkIndex", "(IILjava/util/function/BiFunction;)I"⟩ : MethodName) (head1 (Jvm.Cond.code (⟨"jdk/internal/util/Preconditions", "checkIndex", "(IILjava/util/function/BiFunction;)I"⟩ : MethodName) jdk_41_method_11_code 3 (some .int) :: ws) ({ frames := 0, cells := 0, slots := 0, locals := 0 } : Room)) (fun aA U => aA = #[(.int (2 : Int32)), (.int (4 : Int32)), fm] ∧ Z.Warmed39 U.vm ∧ U.heap = h0) (fun _ _ _ _ _ => True) (fun _ U oO U' => ∃ vV LL, oO = .returned vV ∧ Q3a2 Z fm h0 n0 vV U'.heap LL ∧ FrameEnd U oO U' LL ({ frames := 0, cells := 0, slots := 0, locals := 0 } : Room).cells ({ frames := 0, cells := 0, slots := 0, locals := 0 } : Room).slots) := by
  refine MetFree.of_bodySF (plainFor_of_name pn_29) hisR ?_
  intro p e s m args below meth cC s₁ Bd hml0 hP hK
  obtain ⟨rfl, hZ, hh⟩ := hP
  have hx := Bd.exec
  have hby := Bd.bytes
  have hml : cC.maxLocals = 3 := hml0
  have hown : s.vm.findClass "jdk/internal/util/Preconditions" = some m.cls := findClass_of_methodNamed Bd.named
  have hnm := (name_of_methodNamed Bd.named Bd.method).1
  have X0 : Stand p l e ({ frames := 0, cells := 0, slots := 0, locals := 0 } : Room) s m #[(.int (2 : Int32)), (.int (4 : Int32)), fm] below meth cC s₁ [] 0 0 := Stand.of_body Bd
  have e0 : s₁.heap = h0 := by rw [← hh, Bd.state]; rfl
  have N0 := Fr.nil n0
  have Kp0 := Keep.refl h0 []
  show OwnFin p e below (R3a2 Z fm h0 n0 s) (s₁.setTop (entryFrame m #[(.int (2 : Int32)), (.int (4 : Int32)), fm] 3))
  rw [ef_3a2 m fm hp0]
  refine OwnFin.step (fun tT kK => XS.iloadN X0.here hx rfl (hb hby d_jdk_41_method_11_0) rfl kK) ?_
  refine OwnFin.step (fun tT kK => XS.ifNo X0.here hx rfl (hb hby d_jdk_41_method_11_1) rfl ((if0 _ _).trans (flt (by decide : ¬ ((2 : Int32) < (0 : Int32)))).1) kK) ?_
  show OwnFin p e below _ (s₁.setTop (mkF m 4 #[.val (.int (2 : Int32)), .val (.int (4 : Int32)), .val fm] []))
  refine OwnFin.step (fun tT kK => XS.iloadN X0.here hx rfl (hb hby d_jdk_41_method_11_4) rfl kK) ?_
  show OwnFin p e below _ (s₁.setTop (mkF m 5 #[.val (.int (2 : Int32)), .val (.int (4 : Int32)), .val fm] [(.int (2 : Int32))]))
  refine OwnFin.step (fun tT kK => XS.iloadN X0.here hx rfl (hb hby d_jdk_41_method_11_5) rfl kK) ?_
  refine OwnFin.step (fun tT kK => XS.icmpYes X0.here hx rfl (pc0 := 6) (pc' := 16) rfl (hb hby d_jdk_41_method_11_6) rfl (tlt (by decide : (2 : Int32) < (4 : Int32))).1 (by decide) (by decide) kK) ?_
  show OwnFin p e below _ (s₁.setTop (mkF m 16 #[.val (.int (2 : Int32)), .val (.int (4 : Int32)), .val fm] []))
  refine OwnFin.step (fun tT kK => XS.iloadN X0.here hx rfl (hb hby d_jdk_41_method_11_16) rfl kK) ?_
  show OwnFin p e below _ (s₁.setTop (mkF m 17 #[.val (.int (2 : Int32)), .val (.int (4 : Int32)), .val fm] [(.int (2 : Int32))]))
  obtain ⟨fs1, hr1, hrun1, hended1, hW1, hsame1⟩ := X0.leave (v := (some (.int (2 : Int32)))) (fun h => by rw [Bd.returns] at h; cases h)
  refine ⟨_, _, retOut X0 hx Bd.returns rfl (Or.inl ⟨rfl, Or.inl rfl, _, rfl⟩) (hb hby d_jdk_41_method_11_17) hr1, hrun1, hended1, _, _, rfl, ?_, ⟨_, rfl⟩, hW1, hsame1.mono (by decide) (by decide)⟩
  show Q3a2 Z fm h0 n0 _ s₁.heap _
  rw [e0]
  exact ⟨rfl, N0, rfl⟩
theorem ef_3b2 (m : MethodId)  : entryFrame m #[(.int (2 : Int32)), (.int (4 : Int32))] 2 = mkF m 0 #[.val (.int (2 : Int32)), .val (.int (4 : Int32))] [] := by first | (simp [entryFrame, mkF, argsToLocals, Value.category]; done) | rfl
def Q3b2 (Z : State) (fm : Value) (h0 : Heap) (n0 : Nat) (vV : Option Value) (hH : Heap) (LL : List Loc) : Prop := vV = none ∧ Fr n0 LL ∧ hH = h0
def R3b2 (Z : State) (fm : Value) (h0 : Heap) (n0 : Nat) (U : State) (oO : Outcome) (U' : State) : Prop := ∃ vV LL, oO = .returned vV ∧ Q3b2 Z fm h0 n0 vV U'.heap LL ∧ FrameEnd U oO U' LL ({ frames := 1, cells := 0, slots := 0, locals := 14 } : Room).cells ({ frames := 1, cells := 0, slots := 0, locals := 14 } : Room).slots
set_option maxRecDepth 65536 in
set_option maxHeartbeats 40000000 in
theorem rm3b2 (l : Launch) (Z : State) (a0 : Array Value) (hw : ∀ d ∈ tables_1, d.before a0 Z = true) (hEL : EW Z a0 OwnEL) (wS : ∀ a ∈ Bundle.stringAtoms, a.before a0 Z = true) (ws : List Jvm.Cond) (fm : Value) (h0 : Heap) (n0 : Nat) (Z0 : n0 ≤ h0.size) (hp0 : Sta Z h0 "jdk/internal/util/Preconditions" "SIOOBE_FORMATTER" "Ljava/util/function/BiFunction;" fm) (hp1 : fm.isRef = true) :
    MetFree l (⟨"java/lang/String", "checkIndex", "(II)V"⟩ : MethodName) (head1 (Jvm.Cond.code (⟨"java/lang/String", "checkIndex", "(II)V"⟩ : MethodName) jdk_42_method_155_code 2 none :: ws) ({ frames := 1, cells := 0, slots := 0, locals := 14 } : Room)) (fun aA U => aA = #[(.int (2 : Int32)), (.int (4 : Int32))] ∧ Z.Warmed39 U.vm ∧ U.heap = h0) (fun _ _ _ _ _ => True) (fun _ U oO U' => ∃ vV LL, oO = .returned vV ∧ Q3b2 Z fm h0 n0 vV U'.heap LL ∧ FrameEnd U oO U' LL ({ frames := 1, cells := 0, slots := 0, locals := 14 } : Room).cells ({ frames := 1, cells := 0, slots := 0, locals := 14 } : Room).slots) := by
  refine MetFree.of_bodySF (plainFor_of_name pn_14) hisR ?_
  intro p e s m args below meth cC s₁ Bd hml0 hP hK
  obtain ⟨rfl, hZ, hh⟩ := hP
  have hx := Bd.exec
  have hby := Bd.bytes
  have hml : cC.maxLocals = 2 := hml0
  have hown : s.vm.findClass "java/lang/String" = some m.cls := findClass_of_methodNamed Bd.named
  have hnm := (name_of_methodNamed Bd.named Bd.method).1
  have X0 : Stand p l e ({ frames := 1, cells := 0, slots := 0, locals := 14 } : Room) s m #[(.int (2 : Int32)), (.int (4 : Int32))] below meth cC s₁ [] 0 0 := Stand.of_body Bd
  have e0 : s₁.heap = h0 := by rw [← hh, Bd.state]; rfl
  have N0 := Fr.nil n0
  have Kp0 := Keep.refl h0 []
  show OwnFin p e below (R3b2 Z fm h0 n0 s) (s₁.setTop (entryFrame m #[(.int (2 : Int32)), (.int (4 : Int32))] 2))
  rw [ef_3b2 m]
  refine OwnFin.step (fun tT kK => XS.iloadN X0.here hx rfl (hb hby d_jdk_42_method_155_0) rfl kK) ?_
  refine OwnFin.step (fun tT kK => XS.iloadN X0.here hx rfl (hb hby d_jdk_42_method_155_1) rfl kK) ?_
  show OwnFin p e below _ (s₁.setTop (mkF m 2 #[.val (.int (2 : Int32)), .val (.int (4 : Int32))] [(.int (4 : Int32)), (.int (2 : Int32))]))
  obtain ⟨T1, X1, e1, st1⟩ := getS2 X0 hx hZ hown (host := "") (Or.inl (hw _ (List.mem_of_getElem? (i := 66) rfl))) Via.refl e0 hp0 (g := (mkF m 2 #[.val (.int (2 : Int32)), .val (.int (4 : Int32))] [(.int (4 : Int32)), (.int (2 : Int32))])) rfl (hb hby d_jdk_42_method_155_2)
  refine OwnFin.step st1 ?_
  show OwnFin p e below _ (T1.setTop (mkF m 5 #[.val (.int (2 : Int32)), .val (.int (4 : Int32))] [fm, (.int (4 : Int32)), (.int (2 : Int32))]))
  obtain ⟨_, _, ⟨T2, L2, k2, n2⟩, -, X2, ⟨Lc2, hQ2, l2, y2, z2⟩, st2⟩ := Jvm.LawKit.callS X1 hx (y := (⟨"jdk/internal/util/Preconditions", "checkIndex", "(IILjava/util/function/BiFunction;)I"⟩ : MethodName)) hown (mvT hZ (hw _ (List.mem_of_getElem? (i := 68) rfl))) (mvT hZ (hw _ (List.mem_of_getElem? (i := 69) rfl))) (mvT hZ (hw _ (List.mem_of_getElem? (i := 67) rfl))) (mvT hZ (hw _ (List.mem_of_getElem? (i := 70) rfl))) (by decide) (backOf (W := 0) (rm3a2 l Z a0 hw hEL wS [] fm h0 n0 (Nat.le_trans Z0 Kp0.1) hp1) hZ (hw _ (List.mem_of_getElem? (i := 70) rfl)) (hw _ (List.mem_of_getElem? (i := 67) rfl)) (by decide) (by decide)) (g := (mkF m 5 #[.val (.int (2 : Int32)), .val (.int (4 : Int32))] [fm, (.int (4 : Int32)), (.int (2 : Int32))])) rfl (by rw [hml]; rfl) (argsL := [(.int (2 : Int32)), (.int (4 : Int32)), fm]) (rest := []) (lenOf pd_41 rfl) rfl (by show 2 * 0 + _ ≤ _; exact Nat.le_of_eq rfl) (hb hby d_jdk_42_method_155_5) (fun _ _ => ⟨rfl, e1, (by decide : 0 + 0 ≤ _), (by decide : 0 + 0 ≤ _)⟩)
  dsimp only [Pt.U, Pt.locs, Pt.cells, Pt.slots] at X2 l2 y2 z2 st2 hQ2
  subst l2 y2 z2
  obtain ⟨rfl, N2q, e2⟩ := hQ2
  have N2 := Fr.app N0 N2q
  refine OwnFin.step st2 ?_
  show OwnFin p e below _ (T2.setTop (mkF m 8 #[.val (.int (2 : Int32)), .val (.int (4 : Int32))] [(.int (2 : Int32))]))
  refine OwnFin.step (fun tT kK => XS.pop X2.here hx rfl (hb hby d_jdk_42_method_155_8) rfl rfl kK) ?_
  show OwnFin p e below _ (T2.setTop (mkF m 9 #[.val (.int (2 : Int32)), .val (.int (4 : Int32))] []))
  obtain ⟨fs3, hr3, hrun3, hended3, hW3, hsame3⟩ := X2.leave (v := none) (fun _ => rfl)
  refine ⟨_, _, X2.returnOut hx Bd.returns (hb hby d_jdk_42_method_155_9) hr3, hrun3, hended3, _, _, rfl, ?_, ⟨_, rfl⟩, hW3, hsame3.mono (by decide) (by decide)⟩
  show Q3b2 Z fm h0 n0 _ T2.heap _
  rw [e2]
  exact ⟨rfl, N2, rfl⟩
theorem ef_3c2 (m : MethodId) (b : Addr) : entryFrame m #[(.ref b), (.int (2 : Int32))] 2 = mkF m 0 #[.val (.ref b), .val (.int (2 : Int32))] [] := by first | (simp [entryFrame, mkF, argsToLocals, Value.category]; done) | rfl
def Q3c2 (Z : State) (b : Addr) (kb : ClassId) (fm : Value) (c0 : Int32) (c1 : Int32) (c2 : Int32) (c3 : Int32) (h0 : Heap) (n0 : Nat) (vV : Option Value) (hH : Heap) (LL : List Loc) : Prop := vV = some (.int c2) ∧ Fr n0 LL ∧ hH = h0
def R3c2 (Z : State) (b : Addr) (kb : ClassId) (fm : Value) (c0 : Int32) (c1 : Int32) (c2 : Int32) (c3 : Int32) (h0 : Heap) (n0 : Nat) (U : State) (oO : Outcome) (U' : State) : Prop := ∃ vV LL, oO = .returned vV ∧ Q3c2 Z b kb fm c0 c1 c2 c3 h0 n0 vV U'.heap LL ∧ FrameEnd U oO U' LL ({ frames := 2, cells := 0, slots := 0, locals := 27 } : Room).cells ({ frames := 2, cells := 0, slots := 0, locals := 27 } : Room).slots
set_option maxRecDepth 65536 in
set_option maxHeartbeats 40000000 in
theorem rm3c2 (l : Launch) (Z : State) (a0 : Array Value) (hw : ∀ d ∈ tables_1, d.before a0 Z = true) (hEL : EW Z a0 OwnEL) (wS : ∀ a ∈ Bundle.stringAtoms, a.before a0 Z = true) (ws : List Jvm.Cond) (b : Addr) (kb : ClassId) (fm : Value) (c0 : Int32) (c1 : Int32) (c2 : Int32) (c3 : Int32) (h0 : Heap) (n0 : Nat) (Z0 : n0 ≤ h0.size) (hp0 : Sta Z h0 "jdk/internal/util/Preconditions" "SIOOBE_FORMATTER" "Ljava/util/function/BiFunction;" fm) (hp1 : fm.isRef = true) (hp2 : Arv Z h0 b kb .byte (4 : Int32) [(.int (nar .byte (c0.toInt8.toInt32))), (.int (nar .byte (c1.toInt8.toInt32))), (.int (nar .byte (c2.toInt8.toInt32))), (.int (nar .byte (c3.toInt8.toInt32)))] (.int (0 : Int32))) (hp3 : In8 c0) (hp4 : In8 c1) (hp5 : In8 c2) (hp6 : In8 c3) :
    MetFree l (⟨"java/lang/StringLatin1", "charAt", "([BI)C"⟩ : MethodName) (head1 (Jvm.Cond.code (⟨"java/lang/StringLatin1", "charAt", "([BI)C"⟩ : MethodName) jdk_43_method_2_code 2 (some .char) :: ws) ({ frames := 2, cells := 0, slots := 0, locals := 27 } : Room)) (fun aA U => aA = #[(.ref b), (.int (2 : Int32))] ∧ Z.Warmed39 U.vm ∧ U.heap = h0) (fun _ _ _ _ _ => True) (fun _ U oO U' => ∃ vV LL, oO = .returned vV ∧ Q3c2 Z b kb fm c0 c1 c2 c3 h0 n0 vV U'.heap LL ∧ FrameEnd U oO U' LL ({ frames := 2, cells := 0, slots := 0, locals := 27 } : Room).cells ({ frames := 2, cells := 0, slots := 0, locals := 27 } : Room).slots) := by
  refine MetFree.of_bodySF (plainFor_of_name pn_44) hisR ?_
  intro p e s m args below meth cC s₁ Bd hml0 hP hK
  obtain ⟨rfl, hZ, hh⟩ := hP
  have hx := Bd.exec
  have hby := Bd.bytes
  have hml : cC.maxLocals = 2 := hml0
  have hown : s.vm.findClass "java/lang/StringLatin1" = some m.cls := findClass_of_methodNamed Bd.named
  have hnm := (name_of_methodNamed Bd.named Bd.method).1
  have X0 : Stand p l e ({ frames := 2, cells := 0, slots := 0, locals := 27 } : Room) s m #[(.ref b), (.int (2 : Int32))] below meth cC s₁ [] 0 0 := Stand.of_body Bd
  have e0 : s₁.heap = h0 := by rw [← hh, Bd.state]; rfl
  have N0 := Fr.nil n0
  have Kp0 := Keep.refl h0 []
  show OwnFin p e below (R3c2 Z b kb fm c0 c1 c2 c3 h0 n0 s) (s₁.setTop (entryFrame m #[(.ref b), (.int (2 : Int32))] 2))
  rw [ef_3c2 m b]
  refine OwnFin.step (fun tT kK => XS.iloadN X0.here hx rfl (hb hby d_jdk_43_method_2_0) rfl kK) ?_
  refine OwnFin.step (fun tT kK => XS.aloadN X0.here hx rfl (hb hby d_jdk_43_method_2_1) rfl rfl kK) ?_
  show OwnFin p e below _ (s₁.setTop (mkF m 2 #[.val (.ref b), .val (.int (2 : Int32))] [(.ref b), (.int (2 : Int32))]))
  obtain ⟨cl1, Ar1, -, Sz1, Ng1, -, -⟩ := id hp2
  refine OwnFin.step (fun tT kK => own_len X0 hx hZ e0 Ar1 Sz1 Ng1 (g := (mkF m 2 #[.val (.ref b), .val (.int (2 : Int32))] [(.ref b), (.int (2 : Int32))])) rfl rfl (hb hby d_jdk_43_method_2_2) kK) ?_
  obtain ⟨_, _, ⟨T2, L2, k2, n2⟩, -, X2, ⟨Lc2, hQ2, l2, y2, z2⟩, st2⟩ := Jvm.LawKit.callS X0 hx (y := (⟨"java/lang/String", "checkIndex", "(II)V"⟩ : MethodName)) hown (mvT hZ (hw _ (List.mem_of_getElem? (i := 63) rfl))) (mvT hZ (hw _ (List.mem_of_getElem? (i := 64) rfl))) (mvT hZ (hw _ (List.mem_of_getElem? (i := 2) rfl))) (mvT hZ (hw _ (List.mem_of_getElem? (i := 65) rfl))) (by decide) (backOf (W := 0) (rm3b2 l Z a0 hw hEL wS [] fm h0 n0 (Nat.le_trans Z0 Kp0.1) hp0 hp1) hZ (hw _ (List.mem_of_getElem? (i := 65) rfl)) (hw _ (List.mem_of_getElem? (i := 2) rfl)) (by decide) (by decide)) (g := (mkF m 3 #[.val (.ref b), .val (.int (2 : Int32))] [(.int (4 : Int32)), (.int (2 : Int32))])) rfl (by rw [hml]; rfl) (argsL := [(.int (2 : Int32)), (.int (4 : Int32))]) (rest := []) (lenOf pd_49 rfl) rfl (by show 2 * 0 + _ ≤ _; exact Nat.le_of_eq rfl) (hb hby d_jdk_43_method_2_3) (fun _ _ => ⟨rfl, e0, (by decide : 0 + 0 ≤ _), (by decide : 0 + 0 ≤ _)⟩)
  dsimp only [Pt.U, Pt.locs, Pt.cells, Pt.slots] at X2 l2 y2 z2 st2 hQ2
  subst l2 y2 z2
  obtain ⟨rfl, N2q, e2⟩ := hQ2
  have N2 := Fr.app N0 N2q
  refine OwnFin.step st2 ?_
  show OwnFin p e below _ (T2.setTop (mkF m 6 #[.val (.ref b), .val (.int (2 : Int32))] []))
  refine OwnFin.step (fun tT kK => XS.aloadN X2.here hx rfl (hb hby d_jdk_43_method_2_6) rfl rfl kK) ?_
  show OwnFin p e below _ (T2.setTop (mkF m 7 #[.val (.ref b), .val (.int (2 : Int32))] [(.ref b)]))
  refine OwnFin.step (fun tT kK => XS.iloadN X2.here hx rfl (hb hby d_jdk_43_method_2_7) rfl kK) ?_
  obtain ⟨cl3, Ar3, q3, Sz3, Ng3, H3, G3⟩ := id hp2
  have hin3 : ¬ ((2 : Int32) < 0 ∨ cl3.slots.size ≤ ((2 : Int32)).toNatClampNeg) := inb_of Sz3 ⟨by decide, by decide⟩
  refine OwnFin.step (fun tT kK => X2.baloadBytes hx (j := (2 : Int32)) (v := (.int (nar .byte (c2.toInt8.toInt32)))) (by rw [e2]; exact Ar3.1) (State.isArrayOf_alike hZ.alike Ar3.2.1) Ar3.2.2 hin3 (H3.at hin3 rfl) (g := (mkF m 8 #[.val (.ref b), .val (.int (2 : Int32))] [(.int (2 : Int32)), (.ref b)])) rfl rfl (hb hby d_jdk_43_method_2_8) _ kK) ?_
  show OwnFin p e below _ (T2.setTop (mkF m 9 #[.val (.ref b), .val (.int (2 : Int32))] [(.int (nar .byte (c2.toInt8.toInt32)))]))
  refine OwnFin.step (fun tT kK => XS.sipush X2.here hx rfl (hb hby d_jdk_43_method_2_9) kK) ?_
  show OwnFin p e below _ (T2.setTop (mkF m 12 #[.val (.ref b), .val (.int (2 : Int32))] [(.int (255 : Int32)), (.int (nar .byte (c2.toInt8.toInt32)))]))
  refine OwnFin.step (fun tT kK => XS.iand X2.here hx rfl (hb hby d_jdk_43_method_2_12) rfl kK) ?_
  refine OwnFin.step (fun tT kK => XS.i2c X2.here hx rfl (hb hby d_jdk_43_method_2_13) rfl kK) ?_
  show OwnFin p e below _ (T2.setTop (mkF m 14 #[.val (.ref b), .val (.int (2 : Int32))] [(.int (((nar .byte (c2.toInt8.toInt32)) &&& (255 : Int32)).toUInt32.toUInt16.toUInt32.toInt32))]))
  rw [own_ch hp5]
  show OwnFin p e below _ (T2.setTop (mkF m 14 #[.val (.ref b), .val (.int (2 : Int32))] [(.int c2)]))
  obtain ⟨fs4, hr4, hrun4, hended4, hW4, hsame4⟩ := X2.leave (v := (some (.int c2))) (fun h => by rw [Bd.returns] at h; cases h)
  refine ⟨_, _, retOut X2 hx Bd.returns (own_narrc hp5) (Or.inl ⟨rfl, (by simp), _, rfl⟩) (hb hby d_jdk_43_method_2_14) hr4, hrun4, hended4, _, _, rfl, ?_, ⟨_, rfl⟩, hW4, hsame4.mono (by decide) (by decide)⟩
  show Q3c2 Z b kb fm c0 c1 c2 c3 h0 n0 _ T2.heap _
  rw [e2]
  exact ⟨rfl, N2, rfl⟩
theorem ef_3d2 (m : MethodId) (a : Addr) : entryFrame m #[(.ref a), (.int (2 : Int32))] 2 = mkF m 0 #[.val (.ref a), .val (.int (2 : Int32))] [] := by first | (simp [entryFrame, mkF, argsToLocals, Value.category]; done) | rfl
def Q3d2 (Z : State) (a : Addr) (b : Addr) (kb : ClassId) (fm : Value) (cs : Int32) (c0 : Int32) (c1 : Int32) (c2 : Int32) (c3 : Int32) (h0 : Heap) (n0 : Nat) (vV : Option Value) (hH : Heap) (LL : List Loc) : Prop := vV = some (.int c2) ∧ Fr n0 LL ∧ hH = h0
def R3d2 (Z : State) (a : Addr) (b : Addr) (kb : ClassId) (fm : Value) (cs : Int32) (c0 : Int32) (c1 : Int32) (c2 : Int32) (c3 : Int32) (h0 : Heap) (n0 : Nat) (U : State) (oO : Outcome) (U' : State) : Prop := ∃ vV LL, oO = .returned vV ∧ Q3d2 Z a b kb fm cs c0 c1 c2 c3 h0 n0 vV U'.heap LL ∧ FrameEnd U oO U' LL ({ frames := 3, cells := 0, slots := 0, locals := 40 } : Room).cells ({ frames := 3, cells := 0, slots := 0, locals := 40 } : Room).slots
set_option maxRecDepth 65536 in
set_option maxHeartbeats 40000000 in
theorem rm3d2 (l : Launch) (Z : State) (a0 : Array Value) (hw : ∀ d ∈ tables_1, d.before a0 Z = true) (hEL : EW Z a0 OwnEL) (wS : ∀ a ∈ Bundle.stringAtoms, a.before a0 Z = true) (ws : List Jvm.Cond) (a : Addr) (b : Addr) (kb : ClassId) (fm : Value) (cs : Int32) (c0 : Int32) (c1 : Int32) (c2 : Int32) (c3 : Int32) (h0 : Heap) (n0 : Nat) (Z0 : n0 ≤ h0.size) (hp0 : Sta Z h0 "jdk/internal/util/Preconditions" "SIOOBE_FORMATTER" "Ljava/util/function/BiFunction;" fm) (hp1 : fm.isRef = true) (hp2 : Exa Z h0 a "java/lang/String") (hp3 : Fld Z h0 a "java/lang/String" "value" "[B" (.ref b)) (hp4 : Fld Z h0 a "java/lang/String" "coder" "B" (.int (0 : Int32))) (hp5 : Arv Z h0 b kb .byte (4 : Int32) [(.int (nar .byte (c0.toInt8.toInt32))), (.int (nar .byte (c1.toInt8.toInt32))), (.int (nar .byte (c2.toInt8.toInt32))), (.int (nar .byte (c3.toInt8.toInt32)))] (.int (0 : Int32))) (hp6 : In8 c0) (hp7 : In8 c1) (hp8 : In8 c2) (hp9 : In8 c3) (hp10 : Sta Z h0 "java/lang/String" "COMPACT_STRINGS" "Z" (.int cs)) (hp11 : ¬ cs = (0 : Int32)) :
    MetFree l (⟨"java/lang/String", "charAt", "(I)C"⟩ : MethodName) (head1 (Jvm.Cond.code (⟨"java/lang/String", "charAt", "(I)C"⟩ : MethodName) jdk_42_method_56_code 2 (some .char) :: ws) ({ frames := 3, cells := 0, slots := 0, locals := 40 } : Room)) (fun aA U => aA = #[(.ref a), (.int (2 : Int32))] ∧ Z.Warmed39 U.vm ∧ U.heap = h0) (fun _ _ _ _ _ => True) (fun _ U oO U' => ∃ vV LL, oO = .returned vV ∧ Q3d2 Z a b kb fm cs c0 c1 c2 c3 h0 n0 vV U'.heap LL ∧ FrameEnd U oO U' LL ({ frames := 3, cells := 0, slots := 0, locals := 40 } : Room).cells ({ frames := 3, cells := 0, slots := 0, locals := 40 } : Room).slots) := by
  refine MetFree.of_bodySF (plainFor_of_name pn_14) hisR ?_
  intro p e s m args below meth cC s₁ Bd hml0 hP hK
  obtain ⟨rfl, hZ, hh⟩ := hP
  have hx := Bd.exec
  have hby := Bd.bytes
  have hml : cC.maxLocals = 2 := hml0
  have hown : s.vm.findClass "java/lang/String" = some m.cls := findClass_of_methodNamed Bd.named
  have hnm := (name_of_methodNamed Bd.named Bd.method).1
  have X0 : Stand p l e ({ frames := 3, cells := 0, slots := 0, locals := 40 } : Room) s m #[(.ref a), (.int (2 : Int32))] below meth cC s₁ [] 0 0 := Stand.of_body Bd
  have e0 : s₁.heap = h0 := by rw [← hh, Bd.state]; rfl
  have N0 := Fr.nil n0
  have Kp0 := Keep.refl h0 []
  show OwnFin p e below (R3d2 Z a b kb fm cs c0 c1 c2 c3 h0 n0 s) (s₁.setTop (entryFrame m #[(.ref a), (.int (2 : Int32))] 2))
  rw [ef_3d2 m a]
  refine OwnFin.step (fun tT kK => XS.aloadN X0.here hx rfl (hb hby d_jdk_42_method_56_0) rfl rfl kK) ?_
  obtain ⟨cq1, kq1, q1a, q1b, q1c⟩ := isOf hZ e0 hp2
  obtain ⟨_, _, ⟨T1, L1, k1, n1⟩, -, X1, ⟨Lc1, hQ1, l1, y1, z1⟩, st1⟩ := X0.virtualBack hx (y := (⟨"java/lang/String", "isLatin1", "()Z"⟩ : MethodName)) (z := (⟨"java/lang/String", "isLatin1", "()Z"⟩ : MethodName)) hown (mvT hZ (hw _ (List.mem_of_getElem? (i := 54) rfl))) (mvT hZ (hw _ (List.mem_of_getElem? (i := 55) rfl))) (notFace_of_selects (args := #[]) (mvT hZ (hw _ (List.mem_of_getElem? (i := 57) rfl)))) (mvT hZ (hw _ (List.mem_of_getElem? (i := 57) rfl))) (mvT hZ (hw _ (List.mem_of_getElem? (i := 56) rfl))) (by decide) (backOf (W := 0) (rm2a l Z a0 hw hEL wS [] a cs h0 n0 (Nat.le_trans Z0 Kp0.1) hp10 hp11 hp4) hZ (hw _ (List.mem_of_getElem? (i := 58) rfl)) (hw _ (List.mem_of_getElem? (i := 2) rfl)) (by decide) (by decide)) q1a q1c (g := (mkF m 1 #[.val (.ref a), .val (.int (2 : Int32))] [(.ref a)])) rfl (by rw [hml]; rfl) (Steps.refl _) (argsL := []) (rest := []) (lenOf pd_59 rfl) rfl (by show 2 * 0 + _ ≤ _; exact Nat.le_of_eq rfl) (hb hby d_jdk_42_method_56_1) (fun _ _ => ⟨rfl, e0, (by decide : 0 + 0 ≤ _), (by decide : 0 + 0 ≤ _)⟩)
  dsimp only [Pt.U, Pt.locs, Pt.cells, Pt.slots] at X1 l1 y1 z1 st1 hQ1
  subst l1 y1 z1
  obtain ⟨rfl, N1q, e1⟩ := hQ1
  have N1 := Fr.app N0 N1q
  refine OwnFin.step (fun tT kK => st1.trans kK) ?_
  show OwnFin p e below _ (T1.setTop (mkF m 4 #[.val (.ref a), .val (.int (2 : Int32))] [(.int (1 : Int32))]))
  refine OwnFin.step (fun tT kK => XS.ifNo X1.here hx rfl (hb hby d_jdk_42_method_56_4) rfl ((if0 _ _).trans (feq (by decide : ¬ ((1 : Int32) = (0 : Int32)))).1) kK) ?_
  show OwnFin p e below _ (T1.setTop (mkF m 7 #[.val (.ref a), .val (.int (2 : Int32))] []))
  refine OwnFin.step (fun tT kK => XS.aloadN X1.here hx rfl (hb hby d_jdk_42_method_56_7) rfl rfl kK) ?_
  show OwnFin p e below _ (T1.setTop (mkF m 8 #[.val (.ref a), .val (.int (2 : Int32))] [(.ref a)]))
  obtain ⟨T2, X2, e2, st2⟩ := getF X1 hx hZ hown (host := "") (Or.inl (hw _ (List.mem_of_getElem? (i := 28) rfl))) Via.refl e1 hp3 (g := (mkF m 8 #[.val (.ref a), .val (.int (2 : Int32))] [(.ref a)])) rfl rfl (hb hby d_jdk_42_method_56_8)
  refine OwnFin.step st2 ?_
  show OwnFin p e below _ (T2.setTop (mkF m 11 #[.val (.ref a), .val (.int (2 : Int32))] [(.ref b)]))
  refine OwnFin.step (fun tT kK => XS.iloadN X2.here hx rfl (hb hby d_jdk_42_method_56_11) rfl kK) ?_
  show OwnFin p e below _ (T2.setTop (mkF m 12 #[.val (.ref a), .val (.int (2 : Int32))] [(.int (2 : Int32)), (.ref b)]))
  obtain ⟨_, _, ⟨T3, L3, k3, n3⟩, -, X3, ⟨Lc3, hQ3, l3, y3, z3⟩, st3⟩ := Jvm.LawKit.callS X2 hx (y := (⟨"java/lang/StringLatin1", "charAt", "([BI)C"⟩ : MethodName)) hown (mvT hZ (hw _ (List.mem_of_getElem? (i := 59) rfl))) (mvT hZ (hw _ (List.mem_of_getElem? (i := 60) rfl))) (mvT hZ (hw _ (List.mem_of_getElem? (i := 61) rfl))) (mvT hZ (hw _ (List.mem_of_getElem? (i := 62) rfl))) (by decide) (backOf (W := 0) (rm3c2 l Z a0 hw hEL wS [] b kb fm c0 c1 c2 c3 h0 n0 (Nat.le_trans Z0 Kp0.1) hp0 hp1 hp5 hp6 hp7 hp8 hp9) hZ (hw _ (List.mem_of_getElem? (i := 62) rfl)) (hw _ (List.mem_of_getElem? (i := 61) rfl)) (by decide) (by decide)) (g := (mkF m 12 #[.val (.ref a), .val (.int (2 : Int32))] [(.int (2 : Int32)), (.ref b)])) rfl (by rw [hml]; rfl) (argsL := [(.ref b), (.int (2 : Int32))]) (rest := []) (lenOf pd_65 rfl) rfl (by show 2 * 0 + _ ≤ _; exact Nat.le_of_eq rfl) (hb hby d_jdk_42_method_56_12) (fun _ _ => ⟨rfl, e2, (by decide : 0 + 0 ≤ _), (by decide : 0 + 0 ≤ _)⟩)
  dsimp only [Pt.U, Pt.locs, Pt.cells, Pt.slots] at X3 l3 y3 z3 st3 hQ3
  subst l3 y3 z3
  obtain ⟨rfl, N3q, e3⟩ := hQ3
  have N3 := Fr.app N1 N3q
  refine OwnFin.step st3 ?_
  show OwnFin p e below _ (T3.setTop (mkF m 15 #[.val (.ref a), .val (.int (2 : Int32))] [(.int c2)]))
  obtain ⟨fs4, hr4, hrun4, hended4, hW4, hsame4⟩ := X3.leave (v := (some (.int c2))) (fun h => by rw [Bd.returns] at h; cases h)
  refine ⟨_, _, retOut X3 hx Bd.returns (own_narrc hp8) (Or.inl ⟨rfl, (by simp), _, rfl⟩) (hb hby d_jdk_42_method_56_15) hr4, hrun4, hended4, _, _, rfl, ?_, ⟨_, rfl⟩, hW4, hsame4.mono (by decide) (by decide)⟩
  show Q3d2 Z a b kb fm cs c0 c1 c2 c3 h0 n0 _ T3.heap _
  rw [e3]
  exact ⟨rfl, N3, rfl⟩
theorem ef_3a3 (m : MethodId) (fm : Value) (r_fm : fm.isRef = true) : entryFrame m #[(.int (3 : Int32)), (.int (4 : Int32)), fm] 3 = mkF m 0 #[.val (.int (3 : Int32)), .val (.int (4 : Int32)), .val fm] [] := by
  rcases ref_cases r_fm with rfl | ⟨_, rfl⟩
  all_goals first | (simp [entryFrame, mkF, argsToLocals, Value.category]; done) | rfl
def Q3a3 (Z : State) (fm : Value) (h0 : Heap) (n0 : Nat) (vV : Option Value) (hH : Heap) (LL : List Loc) : Prop := vV = some (.int (3 : Int32)) ∧ Fr n0 LL ∧ hH = h0
def R3a3 (Z : State) (fm : Value) (h0 : Heap) (n0 : Nat) (U : State) (oO : Outcome) (U' : State) : Prop := ∃ vV LL, oO = .returned vV ∧ Q3a3 Z fm h0 n0 vV U'.heap LL ∧ FrameEnd U oO U' LL ({ frames := 0, cells := 0, slots := 0, locals := 0 } : Room).cells ({ frames := 0, cells := 0, slots := 0, locals := 0 } : Room).slots
set_option maxRecDepth 65536 in
set_option maxHeartbeats 40000000 in
theorem rm3a3 (l : Launch) (Z : State) (a0 : Array Value) (hw : ∀ d ∈ tables_1, d.before a0 Z = true) (hEL : EW Z a0 OwnEL) (wS : ∀ a ∈ Bundle.stringAtoms, a.before a0 Z = true) (ws : List Jvm.Cond) (fm : Value) (h0 : Heap) (n0 : Nat) (Z0 : n0 ≤ h0.size) (hp0 : fm.isRef = true) :
    MetFree l (⟨"jdk/internal/util/Preconditions", "checkIndex", "(IILjava/util/function/BiFunction;)I"⟩ : MethodName) (head1 (Jvm.Cond.code (⟨"jdk/internal/util/Preconditions", "checkIndex", "(IILjava/util/function/BiFunction;)I"⟩ : MethodName) jdk_41_method_11_code 3 (some .int) :: ws) ({ frames := 0, cells := 0, slots := 0, locals := 0 } : Room)) (fun aA U => aA = #[(.int (3 : Int32)), (.int (4 : Int32)), fm] ∧ Z.Warmed39 U.vm ∧ U.heap = h0) (fun _ _ _ _ _ => True) (fun _ U oO U' => ∃ vV LL, oO = .returned vV ∧ Q3a3 Z fm h0 n0 vV U'.heap LL ∧ FrameEnd U oO U' LL ({ frames := 0, cells := 0, slots := 0, locals := 0 } : Room).cells ({ frames := 0, cells := 0, slots := 0, locals := 0 } : Room).slots) := by
  refine MetFree.of_bodySF (plainFor_of_name pn_29) hisR ?_
  intro p e s m args below meth cC s₁ Bd hml0 hP hK
  obtain ⟨rfl, hZ, hh⟩ := hP
  have hx := Bd.exec
  have hby := Bd.bytes
  have hml : cC.maxLocals = 3 := hml0
  have hown : s.vm.findClass "jdk/internal/util/Preconditions" = some m.cls := findClass_of_methodNamed Bd.named
  have hnm := (name_of_methodNamed Bd.named Bd.method).1
  have X0 : Stand p l e ({ frames := 0, cells := 0, slots := 0, locals := 0 } : Room) s m #[(.int (3 : Int32)), (.int (4 : Int32)), fm] below meth cC s₁ [] 0 0 := Stand.of_body Bd
  have e0 : s₁.heap = h0 := by rw [← hh, Bd.state]; rfl
  have N0 := Fr.nil n0
  have Kp0 := Keep.refl h0 []
  show OwnFin p e below (R3a3 Z fm h0 n0 s) (s₁.setTop (entryFrame m #[(.int (3 : Int32)), (.int (4 : Int32)), fm] 3))
  rw [ef_3a3 m fm hp0]
  refine OwnFin.step (fun tT kK => XS.iloadN X0.here hx rfl (hb hby d_jdk_41_method_11_0) rfl kK) ?_
  refine OwnFin.step (fun tT kK => XS.ifNo X0.here hx rfl (hb hby d_jdk_41_method_11_1) rfl ((if0 _ _).trans (flt (by decide : ¬ ((3 : Int32) < (0 : Int32)))).1) kK) ?_
  show OwnFin p e below _ (s₁.setTop (mkF m 4 #[.val (.int (3 : Int32)), .val (.int (4 : Int32)), .val fm] []))
  refine OwnFin.step (fun tT kK => XS.iloadN X0.here hx rfl (hb hby d_jdk_41_method_11_4) rfl kK) ?_
  show OwnFin p e below _ (s₁.setTop (mkF m 5 #[.val (.int (3 : Int32)), .val (.int (4 : Int32)), .val fm] [(.int (3 : Int32))]))
  refine OwnFin.step (fun tT kK => XS.iloadN X0.here hx rfl (hb hby d_jdk_41_method_11_5) rfl kK) ?_
  refine OwnFin.step (fun tT kK => XS.icmpYes X0.here hx rfl (pc0 := 6) (pc' := 16) rfl (hb hby d_jdk_41_method_11_6) rfl (tlt (by decide : (3 : Int32) < (4 : Int32))).1 (by decide) (by decide) kK) ?_
  show OwnFin p e below _ (s₁.setTop (mkF m 16 #[.val (.int (3 : Int32)), .val (.int (4 : Int32)), .val fm] []))
  refine OwnFin.step (fun tT kK => XS.iloadN X0.here hx rfl (hb hby d_jdk_41_method_11_16) rfl kK) ?_
  show OwnFin p e below _ (s₁.setTop (mkF m 17 #[.val (.int (3 : Int32)), .val (.int (4 : Int32)), .val fm] [(.int (3 : Int32))]))
  obtain ⟨fs1, hr1, hrun1, hended1, hW1, hsame1⟩ := X0.leave (v := (some (.int (3 : Int32)))) (fun h => by rw [Bd.returns] at h; cases h)
  refine ⟨_, _, retOut X0 hx Bd.returns rfl (Or.inl ⟨rfl, Or.inl rfl, _, rfl⟩) (hb hby d_jdk_41_method_11_17) hr1, hrun1, hended1, _, _, rfl, ?_, ⟨_, rfl⟩, hW1, hsame1.mono (by decide) (by decide)⟩
  show Q3a3 Z fm h0 n0 _ s₁.heap _
  rw [e0]
  exact ⟨rfl, N0, rfl⟩
theorem ef_3b3 (m : MethodId)  : entryFrame m #[(.int (3 : Int32)), (.int (4 : Int32))] 2 = mkF m 0 #[.val (.int (3 : Int32)), .val (.int (4 : Int32))] [] := by first | (simp [entryFrame, mkF, argsToLocals, Value.category]; done) | rfl
def Q3b3 (Z : State) (fm : Value) (h0 : Heap) (n0 : Nat) (vV : Option Value) (hH : Heap) (LL : List Loc) : Prop := vV = none ∧ Fr n0 LL ∧ hH = h0
def R3b3 (Z : State) (fm : Value) (h0 : Heap) (n0 : Nat) (U : State) (oO : Outcome) (U' : State) : Prop := ∃ vV LL, oO = .returned vV ∧ Q3b3 Z fm h0 n0 vV U'.heap LL ∧ FrameEnd U oO U' LL ({ frames := 1, cells := 0, slots := 0, locals := 14 } : Room).cells ({ frames := 1, cells := 0, slots := 0, locals := 14 } : Room).slots
set_option maxRecDepth 65536 in
set_option maxHeartbeats 40000000 in
theorem rm3b3 (l : Launch) (Z : State) (a0 : Array Value) (hw : ∀ d ∈ tables_1, d.before a0 Z = true) (hEL : EW Z a0 OwnEL) (wS : ∀ a ∈ Bundle.stringAtoms, a.before a0 Z = true) (ws : List Jvm.Cond) (fm : Value) (h0 : Heap) (n0 : Nat) (Z0 : n0 ≤ h0.size) (hp0 : Sta Z h0 "jdk/internal/util/Preconditions" "SIOOBE_FORMATTER" "Ljava/util/function/BiFunction;" fm) (hp1 : fm.isRef = true) :
    MetFree l (⟨"java/lang/String", "checkIndex", "(II)V"⟩ : MethodName) (head1 (Jvm.Cond.code (⟨"java/lang/String", "checkIndex", "(II)V"⟩ : MethodName) jdk_42_method_155_code 2 none :: ws) ({ frames := 1, cells := 0, slots := 0, locals := 14 } : Room)) (fun aA U => aA = #[(.int (3 : Int32)), (.int (4 : Int32))] ∧ Z.Warmed39 U.vm ∧ U.heap = h0) (fun _ _ _ _ _ => True) (fun _ U oO U' => ∃ vV LL, oO = .returned vV ∧ Q3b3 Z fm h0 n0 vV U'.heap LL ∧ FrameEnd U oO U' LL ({ frames := 1, cells := 0, slots := 0, locals := 14 } : Room).cells ({ frames := 1, cells := 0, slots := 0, locals := 14 } : Room).slots) := by
  refine MetFree.of_bodySF (plainFor_of_name pn_14) hisR ?_
  intro p e s m args below meth cC s₁ Bd hml0 hP hK
  obtain ⟨rfl, hZ, hh⟩ := hP
  have hx := Bd.exec
  have hby := Bd.bytes
  have hml : cC.maxLocals = 2 := hml0
  have hown : s.vm.findClass "java/lang/String" = some m.cls := findClass_of_methodNamed Bd.named
  have hnm := (name_of_methodNamed Bd.named Bd.method).1
  have X0 : Stand p l e ({ frames := 1, cells := 0, slots := 0, locals := 14 } : Room) s m #[(.int (3 : Int32)), (.int (4 : Int32))] below meth cC s₁ [] 0 0 := Stand.of_body Bd
  have e0 : s₁.heap = h0 := by rw [← hh, Bd.state]; rfl
  have N0 := Fr.nil n0
  have Kp0 := Keep.refl h0 []
  show OwnFin p e below (R3b3 Z fm h0 n0 s) (s₁.setTop (entryFrame m #[(.int (3 : Int32)), (.int (4 : Int32))] 2))
  rw [ef_3b3 m]
  refine OwnFin.step (fun tT kK => XS.iloadN X0.here hx rfl (hb hby d_jdk_42_method_155_0) rfl kK) ?_
  refine OwnFin.step (fun tT kK => XS.iloadN X0.here hx rfl (hb hby d_jdk_42_method_155_1) rfl kK) ?_
  show OwnFin p e below _ (s₁.setTop (mkF m 2 #[.val (.int (3 : Int32)), .val (.int (4 : Int32))] [(.int (4 : Int32)), (.int (3 : Int32))]))
  obtain ⟨T1, X1, e1, st1⟩ := getS2 X0 hx hZ hown (host := "") (Or.inl (hw _ (List.mem_of_getElem? (i := 66) rfl))) Via.refl e0 hp0 (g := (mkF m 2 #[.val (.int (3 : Int32)), .val (.int (4 : Int32))] [(.int (4 : Int32)), (.int (3 : Int32))])) rfl (hb hby d_jdk_42_method_155_2)
  refine OwnFin.step st1 ?_
  show OwnFin p e below _ (T1.setTop (mkF m 5 #[.val (.int (3 : Int32)), .val (.int (4 : Int32))] [fm, (.int (4 : Int32)), (.int (3 : Int32))]))
  obtain ⟨_, _, ⟨T2, L2, k2, n2⟩, -, X2, ⟨Lc2, hQ2, l2, y2, z2⟩, st2⟩ := Jvm.LawKit.callS X1 hx (y := (⟨"jdk/internal/util/Preconditions", "checkIndex", "(IILjava/util/function/BiFunction;)I"⟩ : MethodName)) hown (mvT hZ (hw _ (List.mem_of_getElem? (i := 68) rfl))) (mvT hZ (hw _ (List.mem_of_getElem? (i := 69) rfl))) (mvT hZ (hw _ (List.mem_of_getElem? (i := 67) rfl))) (mvT hZ (hw _ (List.mem_of_getElem? (i := 70) rfl))) (by decide) (backOf (W := 0) (rm3a3 l Z a0 hw hEL wS [] fm h0 n0 (Nat.le_trans Z0 Kp0.1) hp1) hZ (hw _ (List.mem_of_getElem? (i := 70) rfl)) (hw _ (List.mem_of_getElem? (i := 67) rfl)) (by decide) (by decide)) (g := (mkF m 5 #[.val (.int (3 : Int32)), .val (.int (4 : Int32))] [fm, (.int (4 : Int32)), (.int (3 : Int32))])) rfl (by rw [hml]; rfl) (argsL := [(.int (3 : Int32)), (.int (4 : Int32)), fm]) (rest := []) (lenOf pd_41 rfl) rfl (by show 2 * 0 + _ ≤ _; exact Nat.le_of_eq rfl) (hb hby d_jdk_42_method_155_5) (fun _ _ => ⟨rfl, e1, (by decide : 0 + 0 ≤ _), (by decide : 0 + 0 ≤ _)⟩)
  dsimp only [Pt.U, Pt.locs, Pt.cells, Pt.slots] at X2 l2 y2 z2 st2 hQ2
  subst l2 y2 z2
  obtain ⟨rfl, N2q, e2⟩ := hQ2
  have N2 := Fr.app N0 N2q
  refine OwnFin.step st2 ?_
  show OwnFin p e below _ (T2.setTop (mkF m 8 #[.val (.int (3 : Int32)), .val (.int (4 : Int32))] [(.int (3 : Int32))]))
  refine OwnFin.step (fun tT kK => XS.pop X2.here hx rfl (hb hby d_jdk_42_method_155_8) rfl rfl kK) ?_
  show OwnFin p e below _ (T2.setTop (mkF m 9 #[.val (.int (3 : Int32)), .val (.int (4 : Int32))] []))
  obtain ⟨fs3, hr3, hrun3, hended3, hW3, hsame3⟩ := X2.leave (v := none) (fun _ => rfl)
  refine ⟨_, _, X2.returnOut hx Bd.returns (hb hby d_jdk_42_method_155_9) hr3, hrun3, hended3, _, _, rfl, ?_, ⟨_, rfl⟩, hW3, hsame3.mono (by decide) (by decide)⟩
  show Q3b3 Z fm h0 n0 _ T2.heap _
  rw [e2]
  exact ⟨rfl, N2, rfl⟩
theorem ef_3c3 (m : MethodId) (b : Addr) : entryFrame m #[(.ref b), (.int (3 : Int32))] 2 = mkF m 0 #[.val (.ref b), .val (.int (3 : Int32))] [] := by first | (simp [entryFrame, mkF, argsToLocals, Value.category]; done) | rfl
def Q3c3 (Z : State) (b : Addr) (kb : ClassId) (fm : Value) (c0 : Int32) (c1 : Int32) (c2 : Int32) (c3 : Int32) (h0 : Heap) (n0 : Nat) (vV : Option Value) (hH : Heap) (LL : List Loc) : Prop := vV = some (.int c3) ∧ Fr n0 LL ∧ hH = h0
def R3c3 (Z : State) (b : Addr) (kb : ClassId) (fm : Value) (c0 : Int32) (c1 : Int32) (c2 : Int32) (c3 : Int32) (h0 : Heap) (n0 : Nat) (U : State) (oO : Outcome) (U' : State) : Prop := ∃ vV LL, oO = .returned vV ∧ Q3c3 Z b kb fm c0 c1 c2 c3 h0 n0 vV U'.heap LL ∧ FrameEnd U oO U' LL ({ frames := 2, cells := 0, slots := 0, locals := 27 } : Room).cells ({ frames := 2, cells := 0, slots := 0, locals := 27 } : Room).slots
set_option maxRecDepth 65536 in
set_option maxHeartbeats 40000000 in
theorem rm3c3 (l : Launch) (Z : State) (a0 : Array Value) (hw : ∀ d ∈ tables_1, d.before a0 Z = true) (hEL : EW Z a0 OwnEL) (wS : ∀ a ∈ Bundle.stringAtoms, a.before a0 Z = true) (ws : List Jvm.Cond) (b : Addr) (kb : ClassId) (fm : Value) (c0 : Int32) (c1 : Int32) (c2 : Int32) (c3 : Int32) (h0 : Heap) (n0 : Nat) (Z0 : n0 ≤ h0.size) (hp0 : Sta Z h0 "jdk/internal/util/Preconditions" "SIOOBE_FORMATTER" "Ljava/util/function/BiFunction;" fm) (hp1 : fm.isRef = true) (hp2 : Arv Z h0 b kb .byte (4 : Int32) [(.int (nar .byte (c0.toInt8.toInt32))), (.int (nar .byte (c1.toInt8.toInt32))), (.int (nar .byte (c2.toInt8.toInt32))), (.int (nar .byte (c3.toInt8.toInt32)))] (.int (0 : Int32))) (hp3 : In8 c0) (hp4 : In8 c1) (hp5 : In8 c2) (hp6 : In8 c3) :
    MetFree l (⟨"java/lang/StringLatin1", "charAt", "([BI)C"⟩ : MethodName) (head1 (Jvm.Cond.code (⟨"java/lang/StringLatin1", "charAt", "([BI)C"⟩ : MethodName) jdk_43_method_2_code 2 (some .char) :: ws) ({ frames := 2, cells := 0, slots := 0, locals := 27 } : Room)) (fun aA U => aA = #[(.ref b), (.int (3 : Int32))] ∧ Z.Warmed39 U.vm ∧ U.heap = h0) (fun _ _ _ _ _ => True) (fun _ U oO U' => ∃ vV LL, oO = .returned vV ∧ Q3c3 Z b kb fm c0 c1 c2 c3 h0 n0 vV U'.heap LL ∧ FrameEnd U oO U' LL ({ frames := 2, cells := 0, slots := 0, locals := 27 } : Room).cells ({ frames := 2, cells := 0, slots := 0, locals := 27 } : Room).slots) := by
  refine MetFree.of_bodySF (plainFor_of_name pn_44) hisR ?_
  intro p e s m args below meth cC s₁ Bd hml0 hP hK
  obtain ⟨rfl, hZ, hh⟩ := hP
  have hx := Bd.exec
  have hby := Bd.bytes
  have hml : cC.maxLocals = 2 := hml0
  have hown : s.vm.findClass "java/lang/StringLatin1" = some m.cls := findClass_of_methodNamed Bd.named
  have hnm := (name_of_methodNamed Bd.named Bd.method).1
  have X0 : Stand p l e ({ frames := 2, cells := 0, slots := 0, locals := 27 } : Room) s m #[(.ref b), (.int (3 : Int32))] below meth cC s₁ [] 0 0 := Stand.of_body Bd
  have e0 : s₁.heap = h0 := by rw [← hh, Bd.state]; rfl
  have N0 := Fr.nil n0
  have Kp0 := Keep.refl h0 []
  show OwnFin p e below (R3c3 Z b kb fm c0 c1 c2 c3 h0 n0 s) (s₁.setTop (entryFrame m #[(.ref b), (.int (3 : Int32))] 2))
  rw [ef_3c3 m b]
  refine OwnFin.step (fun tT kK => XS.iloadN X0.here hx rfl (hb hby d_jdk_43_method_2_0) rfl kK) ?_
  refine OwnFin.step (fun tT kK => XS.aloadN X0.here hx rfl (hb hby d_jdk_43_method_2_1) rfl rfl kK) ?_
  show OwnFin p e below _ (s₁.setTop (mkF m 2 #[.val (.ref b), .val (.int (3 : Int32))] [(.ref b), (.int (3 : Int32))]))
  obtain ⟨cl1, Ar1, -, Sz1, Ng1, -, -⟩ := id hp2
  refine OwnFin.step (fun tT kK => own_len X0 hx hZ e0 Ar1 Sz1 Ng1 (g := (mkF m 2 #[.val (.ref b), .val (.int (3 : Int32))] [(.ref b), (.int (3 : Int32))])) rfl rfl (hb hby d_jdk_43_method_2_2) kK) ?_
  obtain ⟨_, _, ⟨T2, L2, k2, n2⟩, -, X2, ⟨Lc2, hQ2, l2, y2, z2⟩, st2⟩ := Jvm.LawKit.callS X0 hx (y := (⟨"java/lang/String", "checkIndex", "(II)V"⟩ : MethodName)) hown (mvT hZ (hw _ (List.mem_of_getElem? (i := 63) rfl))) (mvT hZ (hw _ (List.mem_of_getElem? (i := 64) rfl))) (mvT hZ (hw _ (List.mem_of_getElem? (i := 2) rfl))) (mvT hZ (hw _ (List.mem_of_getElem? (i := 65) rfl))) (by decide) (backOf (W := 0) (rm3b3 l Z a0 hw hEL wS [] fm h0 n0 (Nat.le_trans Z0 Kp0.1) hp0 hp1) hZ (hw _ (List.mem_of_getElem? (i := 65) rfl)) (hw _ (List.mem_of_getElem? (i := 2) rfl)) (by decide) (by decide)) (g := (mkF m 3 #[.val (.ref b), .val (.int (3 : Int32))] [(.int (4 : Int32)), (.int (3 : Int32))])) rfl (by rw [hml]; rfl) (argsL := [(.int (3 : Int32)), (.int (4 : Int32))]) (rest := []) (lenOf pd_49 rfl) rfl (by show 2 * 0 + _ ≤ _; exact Nat.le_of_eq rfl) (hb hby d_jdk_43_method_2_3) (fun _ _ => ⟨rfl, e0, (by decide : 0 + 0 ≤ _), (by decide : 0 + 0 ≤ _)⟩)
  dsimp only [Pt.U, Pt.locs, Pt.cells, Pt.slots] at X2 l2 y2 z2 st2 hQ2
  subst l2 y2 z2
  obtain ⟨rfl, N2q, e2⟩ := hQ2
  have N2 := Fr.app N0 N2q
  refine OwnFin.step st2 ?_
  show OwnFin p e below _ (T2.setTop (mkF m 6 #[.val (.ref b), .val (.int (3 : Int32))] []))
  refine OwnFin.step (fun tT kK => XS.aloadN X2.here hx rfl (hb hby d_jdk_43_method_2_6) rfl rfl kK) ?_
  show OwnFin p e below _ (T2.setTop (mkF m 7 #[.val (.ref b), .val (.int (3 : Int32))] [(.ref b)]))
  refine OwnFin.step (fun tT kK => XS.iloadN X2.here hx rfl (hb hby d_jdk_43_method_2_7) rfl kK) ?_
  obtain ⟨cl3, Ar3, q3, Sz3, Ng3, H3, G3⟩ := id hp2
  have hin3 : ¬ ((3 : Int32) < 0 ∨ cl3.slots.size ≤ ((3 : Int32)).toNatClampNeg) := inb_of Sz3 ⟨by decide, by decide⟩
  refine OwnFin.step (fun tT kK => X2.baloadBytes hx (j := (3 : Int32)) (v := (.int (nar .byte (c3.toInt8.toInt32)))) (by rw [e2]; exact Ar3.1) (State.isArrayOf_alike hZ.alike Ar3.2.1) Ar3.2.2 hin3 (H3.at hin3 rfl) (g := (mkF m 8 #[.val (.ref b), .val (.int (3 : Int32))] [(.int (3 : Int32)), (.ref b)])) rfl rfl (hb hby d_jdk_43_method_2_8) _ kK) ?_
  show OwnFin p e below _ (T2.setTop (mkF m 9 #[.val (.ref b), .val (.int (3 : Int32))] [(.int (nar .byte (c3.toInt8.toInt32)))]))
  refine OwnFin.step (fun tT kK => XS.sipush X2.here hx rfl (hb hby d_jdk_43_method_2_9) kK) ?_
  show OwnFin p e below _ (T2.setTop (mkF m 12 #[.val (.ref b), .val (.int (3 : Int32))] [(.int (255 : Int32)), (.int (nar .byte (c3.toInt8.toInt32)))]))
  refine OwnFin.step (fun tT kK => XS.iand X2.here hx rfl (hb hby d_jdk_43_method_2_12) rfl kK) ?_
  refine OwnFin.step (fun tT kK => XS.i2c X2.here hx rfl (hb hby d_jdk_43_method_2_13) rfl kK) ?_
  show OwnFin p e below _ (T2.setTop (mkF m 14 #[.val (.ref b), .val (.int (3 : Int32))] [(.int (((nar .byte (c3.toInt8.toInt32)) &&& (255 : Int32)).toUInt32.toUInt16.toUInt32.toInt32))]))
  rw [own_ch hp6]
  show OwnFin p e below _ (T2.setTop (mkF m 14 #[.val (.ref b), .val (.int (3 : Int32))] [(.int c3)]))
  obtain ⟨fs4, hr4, hrun4, hended4, hW4, hsame4⟩ := X2.leave (v := (some (.int c3))) (fun h => by rw [Bd.returns] at h; cases h)
  refine ⟨_, _, retOut X2 hx Bd.returns (own_narrc hp6) (Or.inl ⟨rfl, (by simp), _, rfl⟩) (hb hby d_jdk_43_method_2_14) hr4, hrun4, hended4, _, _, rfl, ?_, ⟨_, rfl⟩, hW4, hsame4.mono (by decide) (by decide)⟩
  show Q3c3 Z b kb fm c0 c1 c2 c3 h0 n0 _ T2.heap _
  rw [e2]
  exact ⟨rfl, N2, rfl⟩
theorem ef_3d3 (m : MethodId) (a : Addr) : entryFrame m #[(.ref a), (.int (3 : Int32))] 2 = mkF m 0 #[.val (.ref a), .val (.int (3 : Int32))] [] := by first | (simp [entryFrame, mkF, argsToLocals, Value.category]; done) | rfl
def Q3d3 (Z : State) (a : Addr) (b : Addr) (kb : ClassId) (fm : Value) (cs : Int32) (c0 : Int32) (c1 : Int32) (c2 : Int32) (c3 : Int32) (h0 : Heap) (n0 : Nat) (vV : Option Value) (hH : Heap) (LL : List Loc) : Prop := vV = some (.int c3) ∧ Fr n0 LL ∧ hH = h0
def R3d3 (Z : State) (a : Addr) (b : Addr) (kb : ClassId) (fm : Value) (cs : Int32) (c0 : Int32) (c1 : Int32) (c2 : Int32) (c3 : Int32) (h0 : Heap) (n0 : Nat) (U : State) (oO : Outcome) (U' : State) : Prop := ∃ vV LL, oO = .returned vV ∧ Q3d3 Z a b kb fm cs c0 c1 c2 c3 h0 n0 vV U'.heap LL ∧ FrameEnd U oO U' LL ({ frames := 3, cells := 0, slots := 0, locals := 40 } : Room).cells ({ frames := 3, cells := 0, slots := 0, locals := 40 } : Room).slots
set_option maxRecDepth 65536 in
set_option maxHeartbeats 40000000 in
theorem rm3d3 (l : Launch) (Z : State) (a0 : Array Value) (hw : ∀ d ∈ tables_1, d.before a0 Z = true) (hEL : EW Z a0 OwnEL) (wS : ∀ a ∈ Bundle.stringAtoms, a.before a0 Z = true) (ws : List Jvm.Cond) (a : Addr) (b : Addr) (kb : ClassId) (fm : Value) (cs : Int32) (c0 : Int32) (c1 : Int32) (c2 : Int32) (c3 : Int32) (h0 : Heap) (n0 : Nat) (Z0 : n0 ≤ h0.size) (hp0 : Sta Z h0 "jdk/internal/util/Preconditions" "SIOOBE_FORMATTER" "Ljava/util/function/BiFunction;" fm) (hp1 : fm.isRef = true) (hp2 : Exa Z h0 a "java/lang/String") (hp3 : Fld Z h0 a "java/lang/String" "value" "[B" (.ref b)) (hp4 : Fld Z h0 a "java/lang/String" "coder" "B" (.int (0 : Int32))) (hp5 : Arv Z h0 b kb .byte (4 : Int32) [(.int (nar .byte (c0.toInt8.toInt32))), (.int (nar .byte (c1.toInt8.toInt32))), (.int (nar .byte (c2.toInt8.toInt32))), (.int (nar .byte (c3.toInt8.toInt32)))] (.int (0 : Int32))) (hp6 : In8 c0) (hp7 : In8 c1) (hp8 : In8 c2) (hp9 : In8 c3) (hp10 : Sta Z h0 "java/lang/String" "COMPACT_STRINGS" "Z" (.int cs)) (hp11 : ¬ cs = (0 : Int32)) :
    MetFree l (⟨"java/lang/String", "charAt", "(I)C"⟩ : MethodName) (head1 (Jvm.Cond.code (⟨"java/lang/String", "charAt", "(I)C"⟩ : MethodName) jdk_42_method_56_code 2 (some .char) :: ws) ({ frames := 3, cells := 0, slots := 0, locals := 40 } : Room)) (fun aA U => aA = #[(.ref a), (.int (3 : Int32))] ∧ Z.Warmed39 U.vm ∧ U.heap = h0) (fun _ _ _ _ _ => True) (fun _ U oO U' => ∃ vV LL, oO = .returned vV ∧ Q3d3 Z a b kb fm cs c0 c1 c2 c3 h0 n0 vV U'.heap LL ∧ FrameEnd U oO U' LL ({ frames := 3, cells := 0, slots := 0, locals := 40 } : Room).cells ({ frames := 3, cells := 0, slots := 0, locals := 40 } : Room).slots) := by
  refine MetFree.of_bodySF (plainFor_of_name pn_14) hisR ?_
  intro p e s m args below meth cC s₁ Bd hml0 hP hK
  obtain ⟨rfl, hZ, hh⟩ := hP
  have hx := Bd.exec
  have hby := Bd.bytes
  have hml : cC.maxLocals = 2 := hml0
  have hown : s.vm.findClass "java/lang/String" = some m.cls := findClass_of_methodNamed Bd.named
  have hnm := (name_of_methodNamed Bd.named Bd.method).1
  have X0 : Stand p l e ({ frames := 3, cells := 0, slots := 0, locals := 40 } : Room) s m #[(.ref a), (.int (3 : Int32))] below meth cC s₁ [] 0 0 := Stand.of_body Bd
  have e0 : s₁.heap = h0 := by rw [← hh, Bd.state]; rfl
  have N0 := Fr.nil n0
  have Kp0 := Keep.refl h0 []
  show OwnFin p e below (R3d3 Z a b kb fm cs c0 c1 c2 c3 h0 n0 s) (s₁.setTop (entryFrame m #[(.ref a), (.int (3 : Int32))] 2))
  rw [ef_3d3 m a]
  refine OwnFin.step (fun tT kK => XS.aloadN X0.here hx rfl (hb hby d_jdk_42_method_56_0) rfl rfl kK) ?_
  obtain ⟨cq1, kq1, q1a, q1b, q1c⟩ := isOf hZ e0 hp2
  obtain ⟨_, _, ⟨T1, L1, k1, n1⟩, -, X1, ⟨Lc1, hQ1, l1, y1, z1⟩, st1⟩ := X0.virtualBack hx (y := (⟨"java/lang/String", "isLatin1", "()Z"⟩ : MethodName)) (z := (⟨"java/lang/String", "isLatin1", "()Z"⟩ : MethodName)) hown (mvT hZ (hw _ (List.mem_of_getElem? (i := 54) rfl))) (mvT hZ (hw _ (List.mem_of_getElem? (i := 55) rfl))) (notFace_of_selects (args := #[]) (mvT hZ (hw _ (List.mem_of_getElem? (i := 57) rfl)))) (mvT hZ (hw _ (List.mem_of_getElem? (i := 57) rfl))) (mvT hZ (hw _ (List.mem_of_getElem? (i := 56) rfl))) (by decide) (backOf (W := 0) (rm2a l Z a0 hw hEL wS [] a cs h0 n0 (Nat.le_trans Z0 Kp0.1) hp10 hp11 hp4) hZ (hw _ (List.mem_of_getElem? (i := 58) rfl)) (hw _ (List.mem_of_getElem? (i := 2) rfl)) (by decide) (by decide)) q1a q1c (g := (mkF m 1 #[.val (.ref a), .val (.int (3 : Int32))] [(.ref a)])) rfl (by rw [hml]; rfl) (Steps.refl _) (argsL := []) (rest := []) (lenOf pd_59 rfl) rfl (by show 2 * 0 + _ ≤ _; exact Nat.le_of_eq rfl) (hb hby d_jdk_42_method_56_1) (fun _ _ => ⟨rfl, e0, (by decide : 0 + 0 ≤ _), (by decide : 0 + 0 ≤ _)⟩)
  dsimp only [Pt.U, Pt.locs, Pt.cells, Pt.slots] at X1 l1 y1 z1 st1 hQ1
  subst l1 y1 z1
  obtain ⟨rfl, N1q, e1⟩ := hQ1
  have N1 := Fr.app N0 N1q
  refine OwnFin.step (fun tT kK => st1.trans kK) ?_
  show OwnFin p e below _ (T1.setTop (mkF m 4 #[.val (.ref a), .val (.int (3 : Int32))] [(.int (1 : Int32))]))
  refine OwnFin.step (fun tT kK => XS.ifNo X1.here hx rfl (hb hby d_jdk_42_method_56_4) rfl ((if0 _ _).trans (feq (by decide : ¬ ((1 : Int32) = (0 : Int32)))).1) kK) ?_
  show OwnFin p e below _ (T1.setTop (mkF m 7 #[.val (.ref a), .val (.int (3 : Int32))] []))
  refine OwnFin.step (fun tT kK => XS.aloadN X1.here hx rfl (hb hby d_jdk_42_method_56_7) rfl rfl kK) ?_
  show OwnFin p e below _ (T1.setTop (mkF m 8 #[.val (.ref a), .val (.int (3 : Int32))] [(.ref a)]))
  obtain ⟨T2, X2, e2, st2⟩ := getF X1 hx hZ hown (host := "") (Or.inl (hw _ (List.mem_of_getElem? (i := 28) rfl))) Via.refl e1 hp3 (g := (mkF m 8 #[.val (.ref a), .val (.int (3 : Int32))] [(.ref a)])) rfl rfl (hb hby d_jdk_42_method_56_8)
  refine OwnFin.step st2 ?_
  show OwnFin p e below _ (T2.setTop (mkF m 11 #[.val (.ref a), .val (.int (3 : Int32))] [(.ref b)]))
  refine OwnFin.step (fun tT kK => XS.iloadN X2.here hx rfl (hb hby d_jdk_42_method_56_11) rfl kK) ?_
  show OwnFin p e below _ (T2.setTop (mkF m 12 #[.val (.ref a), .val (.int (3 : Int32))] [(.int (3 : Int32)), (.ref b)]))
  obtain ⟨_, _, ⟨T3, L3, k3, n3⟩, -, X3, ⟨Lc3, hQ3, l3, y3, z3⟩, st3⟩ := Jvm.LawKit.callS X2 hx (y := (⟨"java/lang/StringLatin1", "charAt", "([BI)C"⟩ : MethodName)) hown (mvT hZ (hw _ (List.mem_of_getElem? (i := 59) rfl))) (mvT hZ (hw _ (List.mem_of_getElem? (i := 60) rfl))) (mvT hZ (hw _ (List.mem_of_getElem? (i := 61) rfl))) (mvT hZ (hw _ (List.mem_of_getElem? (i := 62) rfl))) (by decide) (backOf (W := 0) (rm3c3 l Z a0 hw hEL wS [] b kb fm c0 c1 c2 c3 h0 n0 (Nat.le_trans Z0 Kp0.1) hp0 hp1 hp5 hp6 hp7 hp8 hp9) hZ (hw _ (List.mem_of_getElem? (i := 62) rfl)) (hw _ (List.mem_of_getElem? (i := 61) rfl)) (by decide) (by decide)) (g := (mkF m 12 #[.val (.ref a), .val (.int (3 : Int32))] [(.int (3 : Int32)), (.ref b)])) rfl (by rw [hml]; rfl) (argsL := [(.ref b), (.int (3 : Int32))]) (rest := []) (lenOf pd_65 rfl) rfl (by show 2 * 0 + _ ≤ _; exact Nat.le_of_eq rfl) (hb hby d_jdk_42_method_56_12) (fun _ _ => ⟨rfl, e2, (by decide : 0 + 0 ≤ _), (by decide : 0 + 0 ≤ _)⟩)
  dsimp only [Pt.U, Pt.locs, Pt.cells, Pt.slots] at X3 l3 y3 z3 st3 hQ3
  subst l3 y3 z3
  obtain ⟨rfl, N3q, e3⟩ := hQ3
  have N3 := Fr.app N1 N3q
  refine OwnFin.step st3 ?_
  show OwnFin p e below _ (T3.setTop (mkF m 15 #[.val (.ref a), .val (.int (3 : Int32))] [(.int c3)]))
  obtain ⟨fs4, hr4, hrun4, hended4, hW4, hsame4⟩ := X3.leave (v := (some (.int c3))) (fun h => by rw [Bd.returns] at h; cases h)
  refine ⟨_, _, retOut X3 hx Bd.returns (own_narrc hp9) (Or.inl ⟨rfl, (by simp), _, rfl⟩) (hb hby d_jdk_42_method_56_15) hr4, hrun4, hended4, _, _, rfl, ?_, ⟨_, rfl⟩, hW4, hsame4.mono (by decide) (by decide)⟩
  show Q3d3 Z a b kb fm cs c0 c1 c2 c3 h0 n0 _ T3.heap _
  rw [e3]
  exact ⟨rfl, N3, rfl⟩
theorem d_jdk_43_method_4_0 : decode jdk_43_method_4_code 0 = .ok (.iload_n 0, 1) := by decide +kernel
theorem d_jdk_43_method_4_1 : decode jdk_43_method_4_code 1 = .ok (.ifCond .lt 14, 3) := by decide +kernel
theorem d_jdk_43_method_4_4 : decode jdk_43_method_4_code 4 = .ok (.iload_n 0, 1) := by decide +kernel
theorem d_jdk_43_method_4_5 : decode jdk_43_method_4_code 5 = .ok (.sipush 255, 3) := by decide +kernel
theorem d_jdk_43_method_4_8 : decode jdk_43_method_4_code 8 = .ok (.if_icmp .gt 7, 3) := by decide +kernel
theorem d_jdk_43_method_4_11 : decode jdk_43_method_4_code 11 = .ok (.iconst 1, 1) := by decide +kernel
theorem d_jdk_43_method_4_12 : decode jdk_43_method_4_code 12 = .ok (.goto 4, 3) := by decide +kernel
theorem d_jdk_43_method_4_16 : decode jdk_43_method_4_code 16 = .ok (.ireturn, 1) := by decide +kernel
theorem ef_4a (m : MethodId) (c : Int32) : entryFrame m #[(.int c)] 1 = mkF m 0 #[.val (.int c)] [] := by first | (simp [entryFrame, mkF, argsToLocals, Value.category]; done) | rfl
def Q4a (Z : State) (c : Int32) (h0 : Heap) (n0 : Nat) (vV : Option Value) (hH : Heap) (LL : List Loc) : Prop := vV = some (.int (1 : Int32)) ∧ Fr n0 LL ∧ hH = h0
def R4a (Z : State) (c : Int32) (h0 : Heap) (n0 : Nat) (U : State) (oO : Outcome) (U' : State) : Prop := ∃ vV LL, oO = .returned vV ∧ Q4a Z c h0 n0 vV U'.heap LL ∧ FrameEnd U oO U' LL ({ frames := 0, cells := 0, slots := 0, locals := 0 } : Room).cells ({ frames := 0, cells := 0, slots := 0, locals := 0 } : Room).slots
set_option maxRecDepth 65536 in
set_option maxHeartbeats 40000000 in
theorem rm4a (l : Launch) (Z : State) (a0 : Array Value) (hw : ∀ d ∈ tables_1, d.before a0 Z = true) (hEL : EW Z a0 OwnEL) (wS : ∀ a ∈ Bundle.stringAtoms, a.before a0 Z = true) (ws : List Jvm.Cond) (c : Int32) (h0 : Heap) (n0 : Nat) (Z0 : n0 ≤ h0.size) (hp0 : In8 c) :
    MetFree l (⟨"java/lang/StringLatin1", "canEncode", "(I)Z"⟩ : MethodName) (head1 (Jvm.Cond.code (⟨"java/lang/StringLatin1", "canEncode", "(I)Z"⟩ : MethodName) jdk_43_method_4_code 1 (some .boolean) :: ws) ({ frames := 0, cells := 0, slots := 0, locals := 0 } : Room)) (fun aA U => aA = #[(.int c)] ∧ Z.Warmed39 U.vm ∧ U.heap = h0) (fun _ _ _ _ _ => True) (fun _ U oO U' => ∃ vV LL, oO = .returned vV ∧ Q4a Z c h0 n0 vV U'.heap LL ∧ FrameEnd U oO U' LL ({ frames := 0, cells := 0, slots := 0, locals := 0 } : Room).cells ({ frames := 0, cells := 0, slots := 0, locals := 0 } : Room).slots) := by
  refine MetFree.of_bodySF (plainFor_of_name pn_44) hisR ?_
  intro p e s m args below meth cC s₁ Bd hml0 hP hK
  obtain ⟨rfl, hZ, hh⟩ := hP
  have hx := Bd.exec
  have hby := Bd.bytes
  have hml : cC.maxLocals = 1 := hml0
  have hown : s.vm.findClass "java/lang/StringLatin1" = some m.cls := findClass_of_methodNamed Bd.named
  have hnm := (name_of_methodNamed Bd.named Bd.method).1
  have X0 : Stand p l e ({ frames := 0, cells := 0, slots := 0, locals := 0 } : Room) s m #[(.int c)] below meth cC s₁ [] 0 0 := Stand.of_body Bd
  have e0 : s₁.heap = h0 := by rw [← hh, Bd.state]; rfl
  have N0 := Fr.nil n0
  have Kp0 := Keep.refl h0 []
  show OwnFin p e below (R4a Z c h0 n0 s) (s₁.setTop (entryFrame m #[(.int c)] 1))
  rw [ef_4a m c]
  refine OwnFin.step (fun tT kK => XS.iloadN X0.here hx rfl (hb hby d_jdk_43_method_4_0) rfl kK) ?_
  refine OwnFin.step (fun tT kK => XS.ifNo X0.here hx rfl (hb hby d_jdk_43_method_4_1) rfl ((if0 _ _).trans (flt (own_nn hp0 : ¬ (c < (0 : Int32)))).1) kK) ?_
  show OwnFin p e below _ (s₁.setTop (mkF m 4 #[.val (.int c)] []))
  refine OwnFin.step (fun tT kK => XS.iloadN X0.here hx rfl (hb hby d_jdk_43_method_4_4) rfl kK) ?_
  show OwnFin p e below _ (s₁.setTop (mkF m 5 #[.val (.int c)] [(.int c)]))
  refine OwnFin.step (fun tT kK => XS.sipush X0.here hx rfl (hb hby d_jdk_43_method_4_5) kK) ?_
  refine OwnFin.step (fun tT kK => XS.icmpNo X0.here hx rfl (hb hby d_jdk_43_method_4_8) rfl (flt (own_lt hp0 : ¬ ((255 : Int32) < c))).2.2.1 kK) ?_
  show OwnFin p e below _ (s₁.setTop (mkF m 11 #[.val (.int c)] []))
  refine OwnFin.step (fun tT kK => XS.iconst X0.here hx rfl (hb hby d_jdk_43_method_4_11) kK) ?_
  show OwnFin p e below _ (s₁.setTop (mkF m 12 #[.val (.int c)] [(.int (1 : Int32))]))
  refine OwnFin.step (fun tT kK => XS.goto X0.here hx rfl (pc0 := 12) (pc' := 16) rfl (hb hby d_jdk_43_method_4_12) (by decide) (by decide) kK) ?_
  show OwnFin p e below _ (s₁.setTop (mkF m 16 #[.val (.int c)] [(.int (1 : Int32))]))
  obtain ⟨fs1, hr1, hrun1, hended1, hW1, hsame1⟩ := X0.leave (v := (some (.int (1 : Int32)))) (fun h => by rw [Bd.returns] at h; cases h)
  refine ⟨_, _, retN X0 hx (t := .boolean) Bd.returns (by simp) (hb hby d_jdk_43_method_4_16) hr1, hrun1, hended1, _, _, rfl, ?_, ⟨_, rfl⟩, hW1, hsame1.mono (by decide) (by decide)⟩
  show Q4a Z c h0 n0 _ s₁.heap _
  rw [e0]
  exact ⟨rfl, N0, rfl⟩
theorem d_jdk_43_method_22_0 : decode jdk_43_method_22_code 0 = .ok (.iload_n 1, 1) := by decide +kernel
theorem d_jdk_43_method_22_1 : decode jdk_43_method_22_code 1 = .ok (.invokestatic 88, 3) := by decide +kernel
theorem pd_77 : parseMethodDescriptor "(I)Z" = some ⟨[.int], some .boolean⟩ := by decide +kernel
theorem d_jdk_43_method_22_4 : decode jdk_43_method_22_code 4 = .ok (.ifCond .ne 5, 3) := by decide +kernel
theorem d_jdk_43_method_22_9 : decode jdk_43_method_22_code 9 = .ok (.iload_n 2, 1) := by decide +kernel
theorem d_jdk_43_method_22_10 : decode jdk_43_method_22_code 10 = .ok (.iconst 0, 1) := by decide +kernel
theorem d_jdk_43_method_22_11 : decode jdk_43_method_22_code 11 = .ok (.invokestatic 92, 3) := by decide +kernel
theorem pd_82 : parseMethodDescriptor "(II)I" = some ⟨[.int, .int], some .int⟩ := by decide +kernel
theorem d_jdk_43_method_22_14 : decode jdk_43_method_22_code 14 = .ok (.istore_n 2, 1) := by decide +kernel
theorem d_jdk_43_method_22_15 : decode jdk_43_method_22_code 15 = .ok (.iload_n 3, 1) := by decide +kernel
theorem d_jdk_43_method_22_16 : decode jdk_43_method_22_code 16 = .ok (.aload_n 0, 1) := by decide +kernel
theorem d_jdk_43_method_22_17 : decode jdk_43_method_22_code 17 = .ok (.arraylength, 1) := by decide +kernel
theorem d_jdk_43_method_22_18 : decode jdk_43_method_22_code 18 = .ok (.invokestatic 38, 3) := by decide +kernel
theorem d_jdk_43_method_22_21 : decode jdk_43_method_22_code 21 = .ok (.istore_n 3, 1) := by decide +kernel
theorem d_jdk_43_method_22_22 : decode jdk_43_method_22_code 22 = .ok (.iload_n 2, 1) := by decide +kernel
theorem d_jdk_43_method_22_23 : decode jdk_43_method_22_code 23 = .ok (.iload_n 3, 1) := by decide +kernel
theorem d_jdk_43_method_22_24 : decode jdk_43_method_22_code 24 = .ok (.if_icmp .lt 5, 3) := by decide +kernel
theorem d_jdk_43_method_22_27 : decode jdk_43_method_22_code 27 = .ok (.iconst (-1), 1) := by decide +kernel
theorem d_jdk_43_method_22_28 : decode jdk_43_method_22_code 28 = .ok (.ireturn, 1) := by decide +kernel
theorem ef_5b0 (m : MethodId) (b : Addr) (c : Int32) : entryFrame m #[(.ref b), (.int c), (.int (0 : Int32)), (.int (0 : Int32))] 4 = mkF m 0 #[.val (.ref b), .val (.int c), .val (.int (0 : Int32)), .val (.int (0 : Int32))] [] := by first | (simp [entryFrame, mkF, argsToLocals, Value.category]; done) | rfl
def Q5b0 (Z : State) (b : Addr) (c : Int32) (kb : ClassId) (h0 : Heap) (n0 : Nat) (vV : Option Value) (hH : Heap) (LL : List Loc) : Prop := vV = some (.int (-1 : Int32)) ∧ Fr n0 LL ∧ hH = h0
def R5b0 (Z : State) (b : Addr) (c : Int32) (kb : ClassId) (h0 : Heap) (n0 : Nat) (U : State) (oO : Outcome) (U' : State) : Prop := ∃ vV LL, oO = .returned vV ∧ Q5b0 Z b c kb h0 n0 vV U'.heap LL ∧ FrameEnd U oO U' LL ({ frames := 1, cells := 0, slots := 0, locals := 13 } : Room).cells ({ frames := 1, cells := 0, slots := 0, locals := 13 } : Room).slots
set_option maxRecDepth 65536 in
set_option maxHeartbeats 40000000 in
theorem rm5b0 (l : Launch) (Z : State) (a0 : Array Value) (hw : ∀ d ∈ tables_1, d.before a0 Z = true) (hEL : EW Z a0 OwnEL) (wS : ∀ a ∈ Bundle.stringAtoms, a.before a0 Z = true) (ws : List Jvm.Cond) (b : Addr) (c : Int32) (kb : ClassId) (h0 : Heap) (n0 : Nat) (Z0 : n0 ≤ h0.size) (hp0 : Arv Z h0 b kb .byte (0 : Int32) [] (.int (0 : Int32))) (hp1 : In8 c) :
    MetFree l (⟨"java/lang/StringLatin1", "indexOf", "([BIII)I"⟩ : MethodName) (head1 (Jvm.Cond.code (⟨"java/lang/StringLatin1", "indexOf", "([BIII)I"⟩ : MethodName) jdk_43_method_22_code 4 (some .int) :: ws) ({ frames := 1, cells := 0, slots := 0, locals := 13 } : Room)) (fun aA U => aA = #[(.ref b), (.int c), (.int (0 : Int32)), (.int (0 : Int32))] ∧ Z.Warmed39 U.vm ∧ U.heap = h0) (fun _ _ _ _ _ => True) (fun _ U oO U' => ∃ vV LL, oO = .returned vV ∧ Q5b0 Z b c kb h0 n0 vV U'.heap LL ∧ FrameEnd U oO U' LL ({ frames := 1, cells := 0, slots := 0, locals := 13 } : Room).cells ({ frames := 1, cells := 0, slots := 0, locals := 13 } : Room).slots) := by
  refine MetFree.of_bodySF (plainFor_of_name pn_44) hisR ?_
  intro p e s m args below meth cC s₁ Bd hml0 hP hK
  obtain ⟨rfl, hZ, hh⟩ := hP
  have hx := Bd.exec
  have hby := Bd.bytes
  have hml : cC.maxLocals = 4 := hml0
  have hown : s.vm.findClass "java/lang/StringLatin1" = some m.cls := findClass_of_methodNamed Bd.named
  have hnm := (name_of_methodNamed Bd.named Bd.method).1
  have X0 : Stand p l e ({ frames := 1, cells := 0, slots := 0, locals := 13 } : Room) s m #[(.ref b), (.int c), (.int (0 : Int32)), (.int (0 : Int32))] below meth cC s₁ [] 0 0 := Stand.of_body Bd
  have e0 : s₁.heap = h0 := by rw [← hh, Bd.state]; rfl
  have N0 := Fr.nil n0
  have Kp0 := Keep.refl h0 []
  show OwnFin p e below (R5b0 Z b c kb h0 n0 s) (s₁.setTop (entryFrame m #[(.ref b), (.int c), (.int (0 : Int32)), (.int (0 : Int32))] 4))
  rw [ef_5b0 m b c]
  refine OwnFin.step (fun tT kK => XS.iloadN X0.here hx rfl (hb hby d_jdk_43_method_22_0) rfl kK) ?_
  obtain ⟨_, _, ⟨T1, L1, k1, n1⟩, -, X1, ⟨Lc1, hQ1, l1, y1, z1⟩, st1⟩ := Jvm.LawKit.callS X0 hx (y := (⟨"java/lang/StringLatin1", "canEncode", "(I)Z"⟩ : MethodName)) hown (mvT hZ (hw _ (List.mem_of_getElem? (i := 94) rfl))) (mvT hZ (hw _ (List.mem_of_getElem? (i := 95) rfl))) (mvT hZ (hw _ (List.mem_of_getElem? (i := 61) rfl))) (mvT hZ (hw _ (List.mem_of_getElem? (i := 96) rfl))) (by decide) (backOf (W := 0) (rm4a l Z a0 hw hEL wS [] c h0 n0 (Nat.le_trans Z0 Kp0.1) hp1) hZ (hw _ (List.mem_of_getElem? (i := 96) rfl)) (hw _ (List.mem_of_getElem? (i := 61) rfl)) (by decide) (by decide)) (g := (mkF m 1 #[.val (.ref b), .val (.int c), .val (.int (0 : Int32)), .val (.int (0 : Int32))] [(.int c)])) rfl (by rw [hml]; rfl) (argsL := [(.int c)]) (rest := []) (lenOf pd_77 rfl) rfl (by show 2 * 0 + _ ≤ _; exact Nat.le_of_eq rfl) (hb hby d_jdk_43_method_22_1) (fun _ _ => ⟨rfl, e0, (by decide : 0 + 0 ≤ _), (by decide : 0 + 0 ≤ _)⟩)
  dsimp only [Pt.U, Pt.locs, Pt.cells, Pt.slots] at X1 l1 y1 z1 st1 hQ1
  subst l1 y1 z1
  obtain ⟨rfl, N1q, e1⟩ := hQ1
  have N1 := Fr.app N0 N1q
  refine OwnFin.step st1 ?_
  show OwnFin p e below _ (T1.setTop (mkF m 4 #[.val (.ref b), .val (.int c), .val (.int (0 : Int32)), .val (.int (0 : Int32))] [(.int (1 : Int32))]))
  refine OwnFin.step (fun tT kK => XS.ifYes X1.here hx rfl (pc0 := 4) (pc' := 9) rfl (hb hby d_jdk_43_method_22_4) rfl ((if0 _ _).trans (feq (by decide : ¬ ((1 : Int32) = (0 : Int32)))).2) (by decide) (by decide) kK) ?_
  show OwnFin p e below _ (T1.setTop (mkF m 9 #[.val (.ref b), .val (.int c), .val (.int (0 : Int32)), .val (.int (0 : Int32))] []))
  refine OwnFin.step (fun tT kK => XS.iloadN X1.here hx rfl (hb hby d_jdk_43_method_22_9) rfl kK) ?_
  show OwnFin p e below _ (T1.setTop (mkF m 10 #[.val (.ref b), .val (.int c), .val (.int (0 : Int32)), .val (.int (0 : Int32))] [(.int (0 : Int32))]))
  refine OwnFin.step (fun tT kK => XS.iconst X1.here hx rfl (hb hby d_jdk_43_method_22_10) kK) ?_
  obtain ⟨_, _, ⟨T2, L2, k2, n2⟩, -, X2, ⟨Lc2, hQ2, l2, y2, z2⟩, st2⟩ := Jvm.LawKit.callS X1 hx (y := (⟨"java/lang/Math", "max", "(II)I"⟩ : MethodName)) hown (mvT hZ (hw _ (List.mem_of_getElem? (i := 97) rfl))) (mvT hZ (hw _ (List.mem_of_getElem? (i := 39) rfl))) (mvT hZ (hw _ (List.mem_of_getElem? (i := 36) rfl))) (mvT hZ (hw _ (List.mem_of_getElem? (i := 40) rfl))) (by decide) (backOf (W := 0) (rm1a l Z a0 hw hEL wS [] (0 : Int32) (0 : Int32) h0 n0 (Nat.le_trans Z0 Kp0.1) ) hZ (hw _ (List.mem_of_getElem? (i := 40) rfl)) (hw _ (List.mem_of_getElem? (i := 36) rfl)) (by decide) (by decide)) (g := (mkF m 11 #[.val (.ref b), .val (.int c), .val (.int (0 : Int32)), .val (.int (0 : Int32))] [(.int (0 : Int32)), (.int (0 : Int32))])) rfl (by rw [hml]; rfl) (argsL := [(.int (0 : Int32)), (.int (0 : Int32))]) (rest := []) (lenOf pd_82 rfl) rfl (by show 2 * 0 + _ ≤ _; exact Nat.le_of_eq rfl) (hb hby d_jdk_43_method_22_11) (fun _ _ => ⟨rfl, e1, (by decide : 0 + 0 ≤ _), (by decide : 0 + 0 ≤ _)⟩)
  dsimp only [Pt.U, Pt.locs, Pt.cells, Pt.slots] at X2 l2 y2 z2 st2 hQ2
  subst l2 y2 z2
  obtain ⟨rfl, N2q, e2⟩ := hQ2
  have N2 := Fr.app N1 N2q
  refine OwnFin.step st2 ?_
  show OwnFin p e below _ (T2.setTop (mkF m 14 #[.val (.ref b), .val (.int c), .val (.int (0 : Int32)), .val (.int (0 : Int32))] [(.int (if (0 : Int32) < (0 : Int32) then (0 : Int32) else (0 : Int32)))]))
  rw [if_neg (by decide)]
  show OwnFin p e below _ (T2.setTop (mkF m 14 #[.val (.ref b), .val (.int c), .val (.int (0 : Int32)), .val (.int (0 : Int32))] [(.int (0 : Int32))]))
  refine OwnFin.step (fun tT kK => XS.istoreN X2.here hx rfl (hb hby d_jdk_43_method_22_14) rfl (l' := #[.val (.ref b), .val (.int c), .val (.int (0 : Int32)), .val (.int (0 : Int32))]) rfl kK) ?_
  show OwnFin p e below _ (T2.setTop (mkF m 15 #[.val (.ref b), .val (.int c), .val (.int (0 : Int32)), .val (.int (0 : Int32))] []))
  refine OwnFin.step (fun tT kK => XS.iloadN X2.here hx rfl (hb hby d_jdk_43_method_22_15) rfl kK) ?_
  refine OwnFin.step (fun tT kK => XS.aloadN X2.here hx rfl (hb hby d_jdk_43_method_22_16) rfl rfl kK) ?_
  show OwnFin p e below _ (T2.setTop (mkF m 17 #[.val (.ref b), .val (.int c), .val (.int (0 : Int32)), .val (.int (0 : Int32))] [(.ref b), (.int (0 : Int32))]))
  obtain ⟨cl3, Ar3, -, Sz3, Ng3, -, -⟩ := id hp0
  refine OwnFin.step (fun tT kK => own_len X2 hx hZ e2 Ar3 Sz3 Ng3 (g := (mkF m 17 #[.val (.ref b), .val (.int c), .val (.int (0 : Int32)), .val (.int (0 : Int32))] [(.ref b), (.int (0 : Int32))])) rfl rfl (hb hby d_jdk_43_method_22_17) kK) ?_
  obtain ⟨_, _, ⟨T4, L4, k4, n4⟩, -, X4, ⟨Lc4, hQ4, l4, y4, z4⟩, st4⟩ := Jvm.LawKit.callS X2 hx (y := (⟨"java/lang/Math", "min", "(II)I"⟩ : MethodName)) hown (mvT hZ (hw _ (List.mem_of_getElem? (i := 98) rfl))) (mvT hZ (hw _ (List.mem_of_getElem? (i := 35) rfl))) (mvT hZ (hw _ (List.mem_of_getElem? (i := 36) rfl))) (mvT hZ (hw _ (List.mem_of_getElem? (i := 37) rfl))) (by decide) (backOf (W := 0) (rm1b l Z a0 hw hEL wS [] (0 : Int32) (0 : Int32) h0 n0 (Nat.le_trans Z0 Kp0.1) ) hZ (hw _ (List.mem_of_getElem? (i := 37) rfl)) (hw _ (List.mem_of_getElem? (i := 36) rfl)) (by decide) (by decide)) (g := (mkF m 18 #[.val (.ref b), .val (.int c), .val (.int (0 : Int32)), .val (.int (0 : Int32))] [(.int (0 : Int32)), (.int (0 : Int32))])) rfl (by rw [hml]; rfl) (argsL := [(.int (0 : Int32)), (.int (0 : Int32))]) (rest := []) (lenOf pd_82 rfl) rfl (by show 2 * 0 + _ ≤ _; exact Nat.le_of_eq rfl) (hb hby d_jdk_43_method_22_18) (fun _ _ => ⟨rfl, e2, (by decide : 0 + 0 ≤ _), (by decide : 0 + 0 ≤ _)⟩)
  dsimp only [Pt.U, Pt.locs, Pt.cells, Pt.slots] at X4 l4 y4 z4 st4 hQ4
  subst l4 y4 z4
  obtain ⟨rfl, N4q, e4⟩ := hQ4
  have N4 := Fr.app N2 N4q
  refine OwnFin.step st4 ?_
  show OwnFin p e below _ (T4.setTop (mkF m 21 #[.val (.ref b), .val (.int c), .val (.int (0 : Int32)), .val (.int (0 : Int32))] [(.int (if (0 : Int32) < (0 : Int32) then (0 : Int32) else (0 : Int32)))]))
  rw [if_neg (by decide)]
  show OwnFin p e below _ (T4.setTop (mkF m 21 #[.val (.ref b), .val (.int c), .val (.int (0 : Int32)), .val (.int (0 : Int32))] [(.int (0 : Int32))]))
  refine OwnFin.step (fun tT kK => XS.istoreN X4.here hx rfl (hb hby d_jdk_43_method_22_21) rfl (l' := #[.val (.ref b), .val (.int c), .val (.int (0 : Int32)), .val (.int (0 : Int32))]) rfl kK) ?_
  show OwnFin p e below _ (T4.setTop (mkF m 22 #[.val (.ref b), .val (.int c), .val (.int (0 : Int32)), .val (.int (0 : Int32))] []))
  refine OwnFin.step (fun tT kK => XS.iloadN X4.here hx rfl (hb hby d_jdk_43_method_22_22) rfl kK) ?_
  refine OwnFin.step (fun tT kK => XS.iloadN X4.here hx rfl (hb hby d_jdk_43_method_22_23) rfl kK) ?_
  show OwnFin p e below _ (T4.setTop (mkF m 24 #[.val (.ref b), .val (.int c), .val (.int (0 : Int32)), .val (.int (0 : Int32))] [(.int (0 : Int32)), (.int (0 : Int32))]))
  refine OwnFin.step (fun tT kK => XS.icmpNo X4.here hx rfl (hb hby d_jdk_43_method_22_24) rfl (flt (by decide : ¬ ((0 : Int32) < (0 : Int32)))).1 kK) ?_
  show OwnFin p e below _ (T4.setTop (mkF m 27 #[.val (.ref b), .val (.int c), .val (.int (0 : Int32)), .val (.int (0 : Int32))] []))
  refine OwnFin.step (fun tT kK => XS.iconst X4.here hx rfl (hb hby d_jdk_43_method_22_27) kK) ?_
  obtain ⟨fs5, hr5, hrun5, hended5, hW5, hsame5⟩ := X4.leave (v := (some (.int (-1 : Int32)))) (fun h => by rw [Bd.returns] at h; cases h)
  refine ⟨_, _, retOut X4 hx Bd.returns rfl (Or.inl ⟨rfl, Or.inl rfl, _, rfl⟩) (hb hby d_jdk_43_method_22_28) hr5, hrun5, hended5, _, _, rfl, ?_, ⟨_, rfl⟩, hW5, hsame5.mono (by decide) (by decide)⟩
  show Q5b0 Z b c kb h0 n0 _ T4.heap _
  rw [e4]
  exact ⟨rfl, N4, rfl⟩
theorem d_jdk_42_method_54_0 : decode jdk_42_method_54_code 0 = .ok (.aload_n 0, 1) := by decide +kernel
theorem d_jdk_42_method_54_1 : decode jdk_42_method_54_code 1 = .ok (.getfield 9, 3) := by decide +kernel
theorem d_jdk_42_method_54_4 : decode jdk_42_method_54_code 4 = .ok (.arraylength, 1) := by decide +kernel
theorem d_jdk_42_method_54_5 : decode jdk_42_method_54_code 5 = .ok (.aload_n 0, 1) := by decide +kernel
theorem d_jdk_42_method_54_6 : decode jdk_42_method_54_code 6 = .ok (.invokevirtual 335, 3) := by decide +kernel
theorem pd_99 : parseMethodDescriptor "()B" = some ⟨[], some .byte⟩ := by decide +kernel
theorem d_jdk_42_method_54_9 : decode jdk_42_method_54_code 9 = .ok (.ishr, 1) := by decide +kernel
theorem d_jdk_42_method_54_10 : decode jdk_42_method_54_code 10 = .ok (.ireturn, 1) := by decide +kernel
theorem ef_5c0 (m : MethodId) (a : Addr) : entryFrame m #[(.ref a)] 1 = mkF m 0 #[.val (.ref a)] [] := by first | (simp [entryFrame, mkF, argsToLocals, Value.category]; done) | rfl
def Q5c0 (Z : State) (a : Addr) (b : Addr) (kb : ClassId) (cs : Int32) (h0 : Heap) (n0 : Nat) (vV : Option Value) (hH : Heap) (LL : List Loc) : Prop := vV = some (.int (0 : Int32)) ∧ Fr n0 LL ∧ hH = h0
def R5c0 (Z : State) (a : Addr) (b : Addr) (kb : ClassId) (cs : Int32) (h0 : Heap) (n0 : Nat) (U : State) (oO : Outcome) (U' : State) : Prop := ∃ vV LL, oO = .returned vV ∧ Q5c0 Z a b kb cs h0 n0 vV U'.heap LL ∧ FrameEnd U oO U' LL ({ frames := 1, cells := 0, slots := 0, locals := 13 } : Room).cells ({ frames := 1, cells := 0, slots := 0, locals := 13 } : Room).slots
set_option maxRecDepth 65536 in
set_option maxHeartbeats 40000000 in
theorem rm5c0 (l : Launch) (Z : State) (a0 : Array Value) (hw : ∀ d ∈ tables_1, d.before a0 Z = true) (hEL : EW Z a0 OwnEL) (wS : ∀ a ∈ Bundle.stringAtoms, a.before a0 Z = true) (ws : List Jvm.Cond) (a : Addr) (b : Addr) (kb : ClassId) (cs : Int32) (h0 : Heap) (n0 : Nat) (Z0 : n0 ≤ h0.size) (hp0 : Exa Z h0 a "java/lang/String") (hp1 : Fld Z h0 a "java/lang/String" "value" "[B" (.ref b)) (hp2 : Fld Z h0 a "java/lang/String" "coder" "B" (.int (0 : Int32))) (hp3 : Arv Z h0 b kb .byte (0 : Int32) [] (.int (0 : Int32))) (hp4 : Sta Z h0 "java/lang/String" "COMPACT_STRINGS" "Z" (.int cs)) (hp5 : ¬ cs = (0 : Int32)) :
    MetFree l (⟨"java/lang/String", "length", "()I"⟩ : MethodName) (head1 (Jvm.Cond.code (⟨"java/lang/String", "length", "()I"⟩ : MethodName) jdk_42_method_54_code 1 (some .int) :: ws) ({ frames := 1, cells := 0, slots := 0, locals := 13 } : Room)) (fun aA U => aA = #[(.ref a)] ∧ Z.Warmed39 U.vm ∧ U.heap = h0) (fun _ _ _ _ _ => True) (fun _ U oO U' => ∃ vV LL, oO = .returned vV ∧ Q5c0 Z a b kb cs h0 n0 vV U'.heap LL ∧ FrameEnd U oO U' LL ({ frames := 1, cells := 0, slots := 0, locals := 13 } : Room).cells ({ frames := 1, cells := 0, slots := 0, locals := 13 } : Room).slots) := by
  refine MetFree.of_bodySF (plainFor_of_name pn_14) hisR ?_
  intro p e s m args below meth cC s₁ Bd hml0 hP hK
  obtain ⟨rfl, hZ, hh⟩ := hP
  have hx := Bd.exec
  have hby := Bd.bytes
  have hml : cC.maxLocals = 1 := hml0
  have hown : s.vm.findClass "java/lang/String" = some m.cls := findClass_of_methodNamed Bd.named
  have hnm := (name_of_methodNamed Bd.named Bd.method).1
  have X0 : Stand p l e ({ frames := 1, cells := 0, slots := 0, locals := 13 } : Room) s m #[(.ref a)] below meth cC s₁ [] 0 0 := Stand.of_body Bd
  have e0 : s₁.heap = h0 := by rw [← hh, Bd.state]; rfl
  have N0 := Fr.nil n0
  have Kp0 := Keep.refl h0 []
  show OwnFin p e below (R5c0 Z a b kb cs h0 n0 s) (s₁.setTop (entryFrame m #[(.ref a)] 1))
  rw [ef_5c0 m a]
  refine OwnFin.step (fun tT kK => XS.aloadN X0.here hx rfl (hb hby d_jdk_42_method_54_0) rfl rfl kK) ?_
  obtain ⟨T1, X1, e1, st1⟩ := getF X0 hx hZ hown (host := "") (Or.inl (hw _ (List.mem_of_getElem? (i := 28) rfl))) Via.refl e0 hp1 (g := (mkF m 1 #[.val (.ref a)] [(.ref a)])) rfl rfl (hb hby d_jdk_42_method_54_1)
  refine OwnFin.step st1 ?_
  show OwnFin p e below _ (T1.setTop (mkF m 4 #[.val (.ref a)] [(.ref b)]))
  obtain ⟨cl2, Ar2, -, Sz2, Ng2, -, -⟩ := id hp3
  refine OwnFin.step (fun tT kK => own_len X1 hx hZ e1 Ar2 Sz2 Ng2 (g := (mkF m 4 #[.val (.ref a)] [(.ref b)])) rfl rfl (hb hby d_jdk_42_method_54_4) kK) ?_
  refine OwnFin.step (fun tT kK => XS.aloadN X1.here hx rfl (hb hby d_jdk_42_method_54_5) rfl rfl kK) ?_
  show OwnFin p e below _ (T1.setTop (mkF m 6 #[.val (.ref a)] [(.ref a), (.int (0 : Int32))]))
  obtain ⟨cq3, kq3, q3a, q3b, q3c⟩ := isOf hZ e1 hp0
  obtain ⟨_, _, ⟨T3, L3, k3, n3⟩, -, X3, ⟨Lc3, hQ3, l3, y3, z3⟩, st3⟩ := X1.virtualBack hx (y := (⟨"java/lang/String", "coder", "()B"⟩ : MethodName)) (z := (⟨"java/lang/String", "coder", "()B"⟩ : MethodName)) hown (mvT hZ (hw _ (List.mem_of_getElem? (i := 86) rfl))) (mvT hZ (hw _ (List.mem_of_getElem? (i := 87) rfl))) (notFace_of_selects (args := #[]) (mvT hZ (hw _ (List.mem_of_getElem? (i := 89) rfl)))) (mvT hZ (hw _ (List.mem_of_getElem? (i := 89) rfl))) (mvT hZ (hw _ (List.mem_of_getElem? (i := 88) rfl))) (by decide) (backOf (W := 1) (rm2b l Z a0 hw hEL wS [] a cs h0 n0 (Nat.le_trans Z0 Kp0.1) hp4 hp5 hp2) hZ (hw _ (List.mem_of_getElem? (i := 90) rfl)) (hw _ (List.mem_of_getElem? (i := 2) rfl)) (by decide) (by decide)) q3a q3c (g := (mkF m 6 #[.val (.ref a)] [(.ref a), (.int (0 : Int32))])) rfl (by rw [hml]; rfl) (Steps.refl _) (argsL := []) (rest := [(.int (0 : Int32))]) (lenOf pd_99 rfl) rfl (by show 2 * 0 + _ ≤ _; exact Nat.le_of_eq rfl) (hb hby d_jdk_42_method_54_6) (fun _ _ => ⟨rfl, e1, (by decide : 0 + 0 ≤ _), (by decide : 0 + 0 ≤ _)⟩)
  dsimp only [Pt.U, Pt.locs, Pt.cells, Pt.slots] at X3 l3 y3 z3 st3 hQ3
  subst l3 y3 z3
  obtain ⟨rfl, N3q, e3⟩ := hQ3
  have N3 := Fr.app N0 N3q
  refine OwnFin.step (fun tT kK => st3.trans kK) ?_
  show OwnFin p e below _ (T3.setTop (mkF m 9 #[.val (.ref a)] [(.int (0 : Int32)), (.int (0 : Int32))]))
  refine OwnFin.step (fun tT kK => XS.ishr X3.here hx rfl (hb hby d_jdk_42_method_54_9) rfl kK) ?_
  obtain ⟨fs4, hr4, hrun4, hended4, hW4, hsame4⟩ := X3.leave (v := (some (.int (0 : Int32)))) (fun h => by rw [Bd.returns] at h; cases h)
  refine ⟨_, _, retOut X3 hx Bd.returns rfl (Or.inl ⟨rfl, Or.inl rfl, _, rfl⟩) (hb hby d_jdk_42_method_54_10) hr4, hrun4, hended4, _, _, rfl, ?_, ⟨_, rfl⟩, hW4, hsame4.mono (by decide) (by decide)⟩
  show Q5c0 Z a b kb cs h0 n0 _ T3.heap _
  rw [e3]
  exact ⟨rfl, N3, rfl⟩
theorem d_jdk_42_method_80_0 : decode jdk_42_method_80_code 0 = .ok (.aload_n 0, 1) := by decide +kernel
theorem d_jdk_42_method_80_1 : decode jdk_42_method_80_code 1 = .ok (.invokevirtual 492, 3) := by decide +kernel
theorem d_jdk_42_method_80_4 : decode jdk_42_method_80_code 4 = .ok (.ifCond .eq 19, 3) := by decide +kernel
theorem d_jdk_42_method_80_7 : decode jdk_42_method_80_code 7 = .ok (.aload_n 0, 1) := by decide +kernel
theorem d_jdk_42_method_80_8 : decode jdk_42_method_80_code 8 = .ok (.getfield 9, 3) := by decide +kernel
theorem d_jdk_42_method_80_11 : decode jdk_42_method_80_code 11 = .ok (.iload_n 1, 1) := by decide +kernel
theorem d_jdk_42_method_80_12 : decode jdk_42_method_80_code 12 = .ok (.iload_n 2, 1) := by decide +kernel
theorem d_jdk_42_method_80_13 : decode jdk_42_method_80_code 13 = .ok (.aload_n 0, 1) := by decide +kernel
theorem d_jdk_42_method_80_14 : decode jdk_42_method_80_code 14 = .ok (.invokevirtual 505, 3) := by decide +kernel
theorem pd_111 : parseMethodDescriptor "()I" = some ⟨[], some .int⟩ := by decide +kernel
theorem d_jdk_42_method_80_17 : decode jdk_42_method_80_code 17 = .ok (.invokestatic 637, 3) := by decide +kernel
theorem pd_113 : parseMethodDescriptor "([BIII)I" = some ⟨[(.array .byte), .int, .int, .int], some .int⟩ := by decide +kernel
theorem d_jdk_42_method_80_20 : decode jdk_42_method_80_code 20 = .ok (.goto 16, 3) := by decide +kernel
theorem d_jdk_42_method_80_36 : decode jdk_42_method_80_code 36 = .ok (.ireturn, 1) := by decide +kernel
theorem ef_5d0 (m : MethodId) (a : Addr) (c : Int32) : entryFrame m #[(.ref a), (.int c), (.int (0 : Int32))] 3 = mkF m 0 #[.val (.ref a), .val (.int c), .val (.int (0 : Int32))] [] := by first | (simp [entryFrame, mkF, argsToLocals, Value.category]; done) | rfl
def Q5d0 (Z : State) (a : Addr) (c : Int32) (b : Addr) (kb : ClassId) (cs : Int32) (h0 : Heap) (n0 : Nat) (vV : Option Value) (hH : Heap) (LL : List Loc) : Prop := vV = some (.int (-1 : Int32)) ∧ Fr n0 LL ∧ hH = h0
def R5d0 (Z : State) (a : Addr) (c : Int32) (b : Addr) (kb : ClassId) (cs : Int32) (h0 : Heap) (n0 : Nat) (U : State) (oO : Outcome) (U' : State) : Prop := ∃ vV LL, oO = .returned vV ∧ Q5d0 Z a c b kb cs h0 n0 vV U'.heap LL ∧ FrameEnd U oO U' LL ({ frames := 2, cells := 0, slots := 0, locals := 28 } : Room).cells ({ frames := 2, cells := 0, slots := 0, locals := 28 } : Room).slots
set_option maxRecDepth 65536 in
set_option maxHeartbeats 40000000 in
theorem rm5d0 (l : Launch) (Z : State) (a0 : Array Value) (hw : ∀ d ∈ tables_1, d.before a0 Z = true) (hEL : EW Z a0 OwnEL) (wS : ∀ a ∈ Bundle.stringAtoms, a.before a0 Z = true) (ws : List Jvm.Cond) (a : Addr) (c : Int32) (b : Addr) (kb : ClassId) (cs : Int32) (h0 : Heap) (n0 : Nat) (Z0 : n0 ≤ h0.size) (hp0 : Exa Z h0 a "java/lang/String") (hp1 : Fld Z h0 a "java/lang/String" "value" "[B" (.ref b)) (hp2 : Fld Z h0 a "java/lang/String" "coder" "B" (.int (0 : Int32))) (hp3 : Arv Z h0 b kb .byte (0 : Int32) [] (.int (0 : Int32))) (hp4 : Sta Z h0 "java/lang/String" "COMPACT_STRINGS" "Z" (.int cs)) (hp5 : ¬ cs = (0 : Int32)) (hp6 : In8 c) :
    MetFree l (⟨"java/lang/String", "indexOf", "(II)I"⟩ : MethodName) (head1 (Jvm.Cond.code (⟨"java/lang/String", "indexOf", "(II)I"⟩ : MethodName) jdk_42_method_80_code 3 (some .int) :: ws) ({ frames := 2, cells := 0, slots := 0, locals := 28 } : Room)) (fun aA U => aA = #[(.ref a), (.int c), (.int (0 : Int32))] ∧ Z.Warmed39 U.vm ∧ U.heap = h0) (fun _ _ _ _ _ => True) (fun _ U oO U' => ∃ vV LL, oO = .returned vV ∧ Q5d0 Z a c b kb cs h0 n0 vV U'.heap LL ∧ FrameEnd U oO U' LL ({ frames := 2, cells := 0, slots := 0, locals := 28 } : Room).cells ({ frames := 2, cells := 0, slots := 0, locals := 28 } : Room).slots) := by
  refine MetFree.of_bodySF (plainFor_of_name pn_14) hisR ?_
  intro p e s m args below meth cC s₁ Bd hml0 hP hK
  obtain ⟨rfl, hZ, hh⟩ := hP
  have hx := Bd.exec
  have hby := Bd.bytes
  have hml : cC.maxLocals = 3 := hml0
  have hown : s.vm.findClass "java/lang/String" = some m.cls := findClass_of_methodNamed Bd.named
  have hnm := (name_of_methodNamed Bd.named Bd.method).1
  have X0 : Stand p l e ({ frames := 2, cells := 0, slots := 0, locals := 28 } : Room) s m #[(.ref a), (.int c), (.int (0 : Int32))] below meth cC s₁ [] 0 0 := Stand.of_body Bd
  have e0 : s₁.heap = h0 := by rw [← hh, Bd.state]; rfl
  have N0 := Fr.nil n0
  have Kp0 := Keep.refl h0 []
  show OwnFin p e below (R5d0 Z a c b kb cs h0 n0 s) (s₁.setTop (entryFrame m #[(.ref a), (.int c), (.int (0 : Int32))] 3))
  rw [ef_5d0 m a c]
  refine OwnFin.step (fun tT kK => XS.aloadN X0.here hx rfl (hb hby d_jdk_42_method_80_0) rfl rfl kK) ?_
  obtain ⟨cq1, kq1, q1a, q1b, q1c⟩ := isOf hZ e0 hp0
  obtain ⟨_, _, ⟨T1, L1, k1, n1⟩, -, X1, ⟨Lc1, hQ1, l1, y1, z1⟩, st1⟩ := X0.virtualBack hx (y := (⟨"java/lang/String", "isLatin1", "()Z"⟩ : MethodName)) (z := (⟨"java/lang/String", "isLatin1", "()Z"⟩ : MethodName)) hown (mvT hZ (hw _ (List.mem_of_getElem? (i := 54) rfl))) (mvT hZ (hw _ (List.mem_of_getElem? (i := 55) rfl))) (notFace_of_selects (args := #[]) (mvT hZ (hw _ (List.mem_of_getElem? (i := 57) rfl)))) (mvT hZ (hw _ (List.mem_of_getElem? (i := 57) rfl))) (mvT hZ (hw _ (List.mem_of_getElem? (i := 56) rfl))) (by decide) (backOf (W := 0) (rm2a l Z a0 hw hEL wS [] a cs h0 n0 (Nat.le_trans Z0 Kp0.1) hp4 hp5 hp2) hZ (hw _ (List.mem_of_getElem? (i := 58) rfl)) (hw _ (List.mem_of_getElem? (i := 2) rfl)) (by decide) (by decide)) q1a q1c (g := (mkF m 1 #[.val (.ref a), .val (.int c), .val (.int (0 : Int32))] [(.ref a)])) rfl (by rw [hml]; rfl) (Steps.refl _) (argsL := []) (rest := []) (lenOf pd_59 rfl) rfl (by show 2 * 0 + _ ≤ _; exact Nat.le_of_eq rfl) (hb hby d_jdk_42_method_80_1) (fun _ _ => ⟨rfl, e0, (by decide : 0 + 0 ≤ _), (by decide : 0 + 0 ≤ _)⟩)
  dsimp only [Pt.U, Pt.locs, Pt.cells, Pt.slots] at X1 l1 y1 z1 st1 hQ1
  subst l1 y1 z1
  obtain ⟨rfl, N1q, e1⟩ := hQ1
  have N1 := Fr.app N0 N1q
  refine OwnFin.step (fun tT kK => st1.trans kK) ?_
  show OwnFin p e below _ (T1.setTop (mkF m 4 #[.val (.ref a), .val (.int c), .val (.int (0 : Int32))] [(.int (1 : Int32))]))
  refine OwnFin.step (fun tT kK => XS.ifNo X1.here hx rfl (hb hby d_jdk_42_method_80_4) rfl ((if0 _ _).trans (feq (by decide : ¬ ((1 : Int32) = (0 : Int32)))).1) kK) ?_
  show OwnFin p e below _ (T1.setTop (mkF m 7 #[.val (.ref a), .val (.int c), .val (.int (0 : Int32))] []))
  refine OwnFin.step (fun tT kK => XS.aloadN X1.here hx rfl (hb hby d_jdk_42_method_80_7) rfl rfl kK) ?_
  show OwnFin p e below _ (T1.setTop (mkF m 8 #[.val (.ref a), .val (.int c), .val (.int (0 : Int32))] [(.ref a)]))
  obtain ⟨T2, X2, e2, st2⟩ := getF X1 hx hZ hown (host := "") (Or.inl (hw _ (List.mem_of_getElem? (i := 28) rfl))) Via.refl e1 hp1 (g := (mkF m 8 #[.val (.ref a), .val (.int c), .val (.int (0 : Int32))] [(.ref a)])) rfl rfl (hb hby d_jdk_42_method_80_8)
  refine OwnFin.step st2 ?_
  show OwnFin p e below _ (T2.setTop (mkF m 11 #[.val (.ref a), .val (.int c), .val (.int (0 : Int32))] [(.ref b)]))
  refine OwnFin.step (fun tT kK => XS.iloadN X2.here hx rfl (hb hby d_jdk_42_method_80_11) rfl kK) ?_
  show OwnFin p e below _ (T2.setTop (mkF m 12 #[.val (.ref a), .val (.int c), .val (.int (0 : Int32))] [(.int c), (.ref b)]))
  refine OwnFin.step (fun tT kK => XS.iloadN X2.here hx rfl (hb hby d_jdk_42_method_80_12) rfl kK) ?_
  refine OwnFin.step (fun tT kK => XS.aloadN X2.here hx rfl (hb hby d_jdk_42_method_80_13) rfl rfl kK) ?_
  show OwnFin p e below _ (T2.setTop (mkF m 14 #[.val (.ref a), .val (.int c), .val (.int (0 : Int32))] [(.ref a), (.int (0 : Int32)), (.int c), (.ref b)]))
  obtain ⟨cq3, kq3, q3a, q3b, q3c⟩ := isOf hZ e2 hp0
  obtain ⟨_, _, ⟨T3, L3, k3, n3⟩, -, X3, ⟨Lc3, hQ3, l3, y3, z3⟩, st3⟩ := X2.virtualBack hx (y := (⟨"java/lang/String", "length", "()I"⟩ : MethodName)) (z := (⟨"java/lang/String", "length", "()I"⟩ : MethodName)) hown (mvT hZ (hw _ (List.mem_of_getElem? (i := 81) rfl))) (mvT hZ (hw _ (List.mem_of_getElem? (i := 82) rfl))) (notFace_of_selects (args := #[]) (mvT hZ (hw _ (List.mem_of_getElem? (i := 84) rfl)))) (mvT hZ (hw _ (List.mem_of_getElem? (i := 84) rfl))) (mvT hZ (hw _ (List.mem_of_getElem? (i := 83) rfl))) (by decide) (backOf (W := 3) (rm5c0 l Z a0 hw hEL wS [] a b kb cs h0 n0 (Nat.le_trans Z0 Kp0.1) hp0 hp1 hp2 hp3 hp4 hp5) hZ (hw _ (List.mem_of_getElem? (i := 85) rfl)) (hw _ (List.mem_of_getElem? (i := 2) rfl)) (by decide) (by decide)) q3a q3c (g := (mkF m 14 #[.val (.ref a), .val (.int c), .val (.int (0 : Int32))] [(.ref a), (.int (0 : Int32)), (.int c), (.ref b)])) rfl (by rw [hml]; rfl) (Steps.refl _) (argsL := []) (rest := [(.int (0 : Int32)), (.int c), (.ref b)]) (lenOf pd_111 rfl) rfl (by show 2 * 0 + _ ≤ _; exact Nat.le_of_eq rfl) (hb hby d_jdk_42_method_80_14) (fun _ _ => ⟨rfl, e2, (by decide : 0 + 0 ≤ _), (by decide : 0 + 0 ≤ _)⟩)
  dsimp only [Pt.U, Pt.locs, Pt.cells, Pt.slots] at X3 l3 y3 z3 st3 hQ3
  subst l3 y3 z3
  obtain ⟨rfl, N3q, e3⟩ := hQ3
  have N3 := Fr.app N1 N3q
  refine OwnFin.step (fun tT kK => st3.trans kK) ?_
  show OwnFin p e below _ (T3.setTop (mkF m 17 #[.val (.ref a), .val (.int c), .val (.int (0 : Int32))] [(.int (0 : Int32)), (.int (0 : Int32)), (.int c), (.ref b)]))
  obtain ⟨_, _, ⟨T4, L4, k4, n4⟩, -, X4, ⟨Lc4, hQ4, l4, y4, z4⟩, st4⟩ := Jvm.LawKit.callS X3 hx (y := (⟨"java/lang/StringLatin1", "indexOf", "([BIII)I"⟩ : MethodName)) hown (mvT hZ (hw _ (List.mem_of_getElem? (i := 91) rfl))) (mvT hZ (hw _ (List.mem_of_getElem? (i := 92) rfl))) (mvT hZ (hw _ (List.mem_of_getElem? (i := 61) rfl))) (mvT hZ (hw _ (List.mem_of_getElem? (i := 93) rfl))) (by decide) (backOf (W := 0) (rm5b0 l Z a0 hw hEL wS [] b c kb h0 n0 (Nat.le_trans Z0 Kp0.1) hp3 hp6) hZ (hw _ (List.mem_of_getElem? (i := 93) rfl)) (hw _ (List.mem_of_getElem? (i := 61) rfl)) (by decide) (by decide)) (g := (mkF m 17 #[.val (.ref a), .val (.int c), .val (.int (0 : Int32))] [(.int (0 : Int32)), (.int (0 : Int32)), (.int c), (.ref b)])) rfl (by rw [hml]; rfl) (argsL := [(.ref b), (.int c), (.int (0 : Int32)), (.int (0 : Int32))]) (rest := []) (lenOf pd_113 rfl) rfl (by show 2 * 0 + _ ≤ _; exact Nat.le_of_eq rfl) (hb hby d_jdk_42_method_80_17) (fun _ _ => ⟨rfl, e3, (by decide : 0 + 0 ≤ _), (by decide : 0 + 0 ≤ _)⟩)
  dsimp only [Pt.U, Pt.locs, Pt.cells, Pt.slots] at X4 l4 y4 z4 st4 hQ4
  subst l4 y4 z4
  obtain ⟨rfl, N4q, e4⟩ := hQ4
  have N4 := Fr.app N3 N4q
  refine OwnFin.step st4 ?_
  show OwnFin p e below _ (T4.setTop (mkF m 20 #[.val (.ref a), .val (.int c), .val (.int (0 : Int32))] [(.int (-1 : Int32))]))
  refine OwnFin.step (fun tT kK => XS.goto X4.here hx rfl (pc0 := 20) (pc' := 36) rfl (hb hby d_jdk_42_method_80_20) (by decide) (by decide) kK) ?_
  show OwnFin p e below _ (T4.setTop (mkF m 36 #[.val (.ref a), .val (.int c), .val (.int (0 : Int32))] [(.int (-1 : Int32))]))
  obtain ⟨fs5, hr5, hrun5, hended5, hW5, hsame5⟩ := X4.leave (v := (some (.int (-1 : Int32)))) (fun h => by rw [Bd.returns] at h; cases h)
  refine ⟨_, _, retOut X4 hx Bd.returns rfl (Or.inl ⟨rfl, Or.inl rfl, _, rfl⟩) (hb hby d_jdk_42_method_80_36) hr5, hrun5, hended5, _, _, rfl, ?_, ⟨_, rfl⟩, hW5, hsame5.mono (by decide) (by decide)⟩
  show Q5d0 Z a c b kb cs h0 n0 _ T4.heap _
  rw [e4]
  exact ⟨rfl, N4, rfl⟩
theorem d_jdk_42_method_79_0 : decode jdk_42_method_79_code 0 = .ok (.aload_n 0, 1) := by decide +kernel
theorem d_jdk_42_method_79_1 : decode jdk_42_method_79_code 1 = .ok (.iload_n 1, 1) := by decide +kernel
theorem d_jdk_42_method_79_2 : decode jdk_42_method_79_code 2 = .ok (.iconst 0, 1) := by decide +kernel
theorem d_jdk_42_method_79_3 : decode jdk_42_method_79_code 3 = .ok (.invokevirtual 633, 3) := by decide +kernel
theorem d_jdk_42_method_79_6 : decode jdk_42_method_79_code 6 = .ok (.ireturn, 1) := by decide +kernel
theorem ef_5e0 (m : MethodId) (a : Addr) (c : Int32) : entryFrame m #[(.ref a), (.int c)] 2 = mkF m 0 #[.val (.ref a), .val (.int c)] [] := by first | (simp [entryFrame, mkF, argsToLocals, Value.category]; done) | rfl
def Q5e0 (Z : State) (a : Addr) (c : Int32) (b : Addr) (kb : ClassId) (cs : Int32) (h0 : Heap) (n0 : Nat) (vV : Option Value) (hH : Heap) (LL : List Loc) : Prop := vV = some (.int (-1 : Int32)) ∧ Fr n0 LL ∧ hH = h0
def R5e0 (Z : State) (a : Addr) (c : Int32) (b : Addr) (kb : ClassId) (cs : Int32) (h0 : Heap) (n0 : Nat) (U : State) (oO : Outcome) (U' : State) : Prop := ∃ vV LL, oO = .returned vV ∧ Q5e0 Z a c b kb cs h0 n0 vV U'.heap LL ∧ FrameEnd U oO U' LL ({ frames := 3, cells := 0, slots := 0, locals := 42 } : Room).cells ({ frames := 3, cells := 0, slots := 0, locals := 42 } : Room).slots
set_option maxRecDepth 65536 in
set_option maxHeartbeats 40000000 in
theorem rm5e0 (l : Launch) (Z : State) (a0 : Array Value) (hw : ∀ d ∈ tables_1, d.before a0 Z = true) (hEL : EW Z a0 OwnEL) (wS : ∀ a ∈ Bundle.stringAtoms, a.before a0 Z = true) (ws : List Jvm.Cond) (a : Addr) (c : Int32) (b : Addr) (kb : ClassId) (cs : Int32) (h0 : Heap) (n0 : Nat) (Z0 : n0 ≤ h0.size) (hp0 : Exa Z h0 a "java/lang/String") (hp1 : Fld Z h0 a "java/lang/String" "value" "[B" (.ref b)) (hp2 : Fld Z h0 a "java/lang/String" "coder" "B" (.int (0 : Int32))) (hp3 : Arv Z h0 b kb .byte (0 : Int32) [] (.int (0 : Int32))) (hp4 : Sta Z h0 "java/lang/String" "COMPACT_STRINGS" "Z" (.int cs)) (hp5 : ¬ cs = (0 : Int32)) (hp6 : In8 c) :
    MetFree l (⟨"java/lang/String", "indexOf", "(I)I"⟩ : MethodName) (head1 (Jvm.Cond.code (⟨"java/lang/String", "indexOf", "(I)I"⟩ : MethodName) jdk_42_method_79_code 2 (some .int) :: ws) ({ frames := 3, cells := 0, slots := 0, locals := 42 } : Room)) (fun aA U => aA = #[(.ref a), (.int c)] ∧ Z.Warmed39 U.vm ∧ U.heap = h0) (fun _ _ _ _ _ => True) (fun _ U oO U' => ∃ vV LL, oO = .returned vV ∧ Q5e0 Z a c b kb cs h0 n0 vV U'.heap LL ∧ FrameEnd U oO U' LL ({ frames := 3, cells := 0, slots := 0, locals := 42 } : Room).cells ({ frames := 3, cells := 0, slots := 0, locals := 42 } : Room).slots) := by
  refine MetFree.of_bodySF (plainFor_of_name pn_14) hisR ?_
  intro p e s m args below meth cC s₁ Bd hml0 hP hK
  obtain ⟨rfl, hZ, hh⟩ := hP
  have hx := Bd.exec
  have hby := Bd.bytes
  have hml : cC.maxLocals = 2 := hml0
  have hown : s.vm.findClass "java/lang/String" = some m.cls := findClass_of_methodNamed Bd.named
  have hnm := (name_of_methodNamed Bd.named Bd.method).1
  have X0 : Stand p l e ({ frames := 3, cells := 0, slots := 0, locals := 42 } : Room) s m #[(.ref a), (.int c)] below meth cC s₁ [] 0 0 := Stand.of_body Bd
  have e0 : s₁.heap = h0 := by rw [← hh, Bd.state]; rfl
  have N0 := Fr.nil n0
  have Kp0 := Keep.refl h0 []
  show OwnFin p e below (R5e0 Z a c b kb cs h0 n0 s) (s₁.setTop (entryFrame m #[(.ref a), (.int c)] 2))
  rw [ef_5e0 m a c]
  refine OwnFin.step (fun tT kK => XS.aloadN X0.here hx rfl (hb hby d_jdk_42_method_79_0) rfl rfl kK) ?_
  refine OwnFin.step (fun tT kK => XS.iloadN X0.here hx rfl (hb hby d_jdk_42_method_79_1) rfl kK) ?_
  show OwnFin p e below _ (s₁.setTop (mkF m 2 #[.val (.ref a), .val (.int c)] [(.int c), (.ref a)]))
  refine OwnFin.step (fun tT kK => XS.iconst X0.here hx rfl (hb hby d_jdk_42_method_79_2) kK) ?_
  obtain ⟨cq1, kq1, q1a, q1b, q1c⟩ := isOf hZ e0 hp0
  obtain ⟨_, _, ⟨T1, L1, k1, n1⟩, -, X1, ⟨Lc1, hQ1, l1, y1, z1⟩, st1⟩ := X0.virtualBack hx (y := (⟨"java/lang/String", "indexOf", "(II)I"⟩ : MethodName)) (z := (⟨"java/lang/String", "indexOf", "(II)I"⟩ : MethodName)) hown (mvT hZ (hw _ (List.mem_of_getElem? (i := 76) rfl))) (mvT hZ (hw _ (List.mem_of_getElem? (i := 77) rfl))) (notFace_of_selects (args := #[]) (mvT hZ (hw _ (List.mem_of_getElem? (i := 79) rfl)))) (mvT hZ (hw _ (List.mem_of_getElem? (i := 79) rfl))) (mvT hZ (hw _ (List.mem_of_getElem? (i := 78) rfl))) (by decide) (backOf (W := 0) (rm5d0 l Z a0 hw hEL wS [] a c b kb cs h0 n0 (Nat.le_trans Z0 Kp0.1) hp0 hp1 hp2 hp3 hp4 hp5 hp6) hZ (hw _ (List.mem_of_getElem? (i := 80) rfl)) (hw _ (List.mem_of_getElem? (i := 2) rfl)) (by decide) (by decide)) q1a q1c (g := (mkF m 3 #[.val (.ref a), .val (.int c)] [(.int (0 : Int32)), (.int c), (.ref a)])) rfl (by rw [hml]; rfl) (Steps.refl _) (argsL := [(.int c), (.int (0 : Int32))]) (rest := []) (lenOf pd_82 rfl) rfl (by show 2 * 0 + _ ≤ _; exact Nat.le_of_eq rfl) (hb hby d_jdk_42_method_79_3) (fun _ _ => ⟨rfl, e0, (by decide : 0 + 0 ≤ _), (by decide : 0 + 0 ≤ _)⟩)
  dsimp only [Pt.U, Pt.locs, Pt.cells, Pt.slots] at X1 l1 y1 z1 st1 hQ1
  subst l1 y1 z1
  obtain ⟨rfl, N1q, e1⟩ := hQ1
  have N1 := Fr.app N0 N1q
  refine OwnFin.step (fun tT kK => st1.trans kK) ?_
  show OwnFin p e below _ (T1.setTop (mkF m 6 #[.val (.ref a), .val (.int c)] [(.int (-1 : Int32))]))
  obtain ⟨fs2, hr2, hrun2, hended2, hW2, hsame2⟩ := X1.leave (v := (some (.int (-1 : Int32)))) (fun h => by rw [Bd.returns] at h; cases h)
  refine ⟨_, _, retOut X1 hx Bd.returns rfl (Or.inl ⟨rfl, Or.inl rfl, _, rfl⟩) (hb hby d_jdk_42_method_79_6) hr2, hrun2, hended2, _, _, rfl, ?_, ⟨_, rfl⟩, hW2, hsame2.mono (by decide) (by decide)⟩
  show Q5e0 Z a c b kb cs h0 n0 _ T1.heap _
  rw [e1]
  exact ⟨rfl, N1, rfl⟩
theorem d_jdk_43_method_23_0 : decode jdk_43_method_23_code 0 = .ok (.iload_n 1, 1) := by decide +kernel
theorem d_jdk_43_method_23_1 : decode jdk_43_method_23_code 1 = .ok (.i2b, 1) := by decide +kernel
theorem d_jdk_43_method_23_2 : decode jdk_43_method_23_code 2 = .ok (.istore 4, 2) := by decide +kernel
theorem d_jdk_43_method_23_4 : decode jdk_43_method_23_code 4 = .ok (.iload_n 2, 1) := by decide +kernel
theorem d_jdk_43_method_23_5 : decode jdk_43_method_23_code 5 = .ok (.istore 5, 2) := by decide +kernel
theorem d_jdk_43_method_23_7 : decode jdk_43_method_23_code 7 = .ok (.iload 5, 2) := by decide +kernel
theorem d_jdk_43_method_23_9 : decode jdk_43_method_23_code 9 = .ok (.iload_n 3, 1) := by decide +kernel
theorem d_jdk_43_method_23_10 : decode jdk_43_method_23_code 10 = .ok (.if_icmp .ge 21, 3) := by decide +kernel
theorem d_jdk_43_method_23_13 : decode jdk_43_method_23_code 13 = .ok (.aload_n 0, 1) := by decide +kernel
theorem d_jdk_43_method_23_14 : decode jdk_43_method_23_code 14 = .ok (.iload 5, 2) := by decide +kernel
theorem d_jdk_43_method_23_16 : decode jdk_43_method_23_code 16 = .ok (.baload, 1) := by decide +kernel
theorem d_jdk_43_method_23_17 : decode jdk_43_method_23_code 17 = .ok (.iload 4, 2) := by decide +kernel
theorem d_jdk_43_method_23_19 : decode jdk_43_method_23_code 19 = .ok (.if_icmp .ne 6, 3) := by decide +kernel
theorem d_jdk_43_method_23_22 : decode jdk_43_method_23_code 22 = .ok (.iload 5, 2) := by decide +kernel
theorem d_jdk_43_method_23_24 : decode jdk_43_method_23_code 24 = .ok (.ireturn, 1) := by decide +kernel
theorem d_jdk_43_method_23_25 : decode jdk_43_method_23_code 25 = .ok (.iinc 5 1, 3) := by decide +kernel
theorem d_jdk_43_method_23_28 : decode jdk_43_method_23_code 28 = .ok (.goto (-21), 3) := by decide +kernel
theorem d_jdk_43_method_23_31 : decode jdk_43_method_23_code 31 = .ok (.iconst (-1), 1) := by decide +kernel
theorem d_jdk_43_method_23_32 : decode jdk_43_method_23_code 32 = .ok (.ireturn, 1) := by decide +kernel
theorem ef_5a1 (m : MethodId) (b : Addr) (c : Int32) : entryFrame m #[(.ref b), (.int c), (.int (0 : Int32)), (.int (1 : Int32))] 6 = mkF m 0 #[.val (.ref b), .val (.int c), .val (.int (0 : Int32)), .val (.int (1 : Int32)), .unset, .unset] [] := by first | (simp [entryFrame, mkF, argsToLocals, Value.category]; done) | rfl
def Q5a1 (Z : State) (b : Addr) (c : Int32) (kb : ClassId) (m0 : Int32) (h0 : Heap) (n0 : Nat) (vV : Option Value) (hH : Heap) (LL : List Loc) : Prop := vV = some (.int (if c = m0 then (0 : Int32) else -1)) ∧ Fr n0 LL ∧ hH = h0
def R5a1 (Z : State) (b : Addr) (c : Int32) (kb : ClassId) (m0 : Int32) (h0 : Heap) (n0 : Nat) (U : State) (oO : Outcome) (U' : State) : Prop := ∃ vV LL, oO = .returned vV ∧ Q5a1 Z b c kb m0 h0 n0 vV U'.heap LL ∧ FrameEnd U oO U' LL ({ frames := 0, cells := 0, slots := 0, locals := 0 } : Room).cells ({ frames := 0, cells := 0, slots := 0, locals := 0 } : Room).slots
set_option maxRecDepth 65536 in
set_option maxHeartbeats 40000000 in
theorem rm5a1 (l : Launch) (Z : State) (a0 : Array Value) (hw : ∀ d ∈ tables_1, d.before a0 Z = true) (hEL : EW Z a0 OwnEL) (wS : ∀ a ∈ Bundle.stringAtoms, a.before a0 Z = true) (ws : List Jvm.Cond) (b : Addr) (c : Int32) (kb : ClassId) (m0 : Int32) (h0 : Heap) (n0 : Nat) (Z0 : n0 ≤ h0.size) (hp0 : Arv Z h0 b kb .byte (1 : Int32) [(.int (nar .byte (m0.toInt8.toInt32)))] (.int (0 : Int32))) (hp1 : In8 m0) (hp2 : In8 c) :
    MetFree l (⟨"java/lang/StringLatin1", "indexOfChar", "([BIII)I"⟩ : MethodName) (head1 (Jvm.Cond.code (⟨"java/lang/StringLatin1", "indexOfChar", "([BIII)I"⟩ : MethodName) jdk_43_method_23_code 6 (some .int) :: ws) ({ frames := 0, cells := 0, slots := 0, locals := 0 } : Room)) (fun aA U => aA = #[(.ref b), (.int c), (.int (0 : Int32)), (.int (1 : Int32))] ∧ Z.Warmed39 U.vm ∧ U.heap = h0) (fun _ _ _ _ _ => True) (fun _ U oO U' => ∃ vV LL, oO = .returned vV ∧ Q5a1 Z b c kb m0 h0 n0 vV U'.heap LL ∧ FrameEnd U oO U' LL ({ frames := 0, cells := 0, slots := 0, locals := 0 } : Room).cells ({ frames := 0, cells := 0, slots := 0, locals := 0 } : Room).slots) := by
  refine MetFree.of_bodySF (plainFor_of_name pn_44) hisR ?_
  intro p e s m args below meth cC s₁ Bd hml0 hP hK
  obtain ⟨rfl, hZ, hh⟩ := hP
  have hx := Bd.exec
  have hby := Bd.bytes
  have hml : cC.maxLocals = 6 := hml0
  have hown : s.vm.findClass "java/lang/StringLatin1" = some m.cls := findClass_of_methodNamed Bd.named
  have hnm := (name_of_methodNamed Bd.named Bd.method).1
  have X0 : Stand p l e ({ frames := 0, cells := 0, slots := 0, locals := 0 } : Room) s m #[(.ref b), (.int c), (.int (0 : Int32)), (.int (1 : Int32))] below meth cC s₁ [] 0 0 := Stand.of_body Bd
  have e0 : s₁.heap = h0 := by rw [← hh, Bd.state]; rfl
  have N0 := Fr.nil n0
  have Kp0 := Keep.refl h0 []
  show OwnFin p e below (R5a1 Z b c kb m0 h0 n0 s) (s₁.setTop (entryFrame m #[(.ref b), (.int c), (.int (0 : Int32)), (.int (1 : Int32))] 6))
  rw [ef_5a1 m b c]
  refine OwnFin.step (fun tT kK => XS.iloadN X0.here hx rfl (hb hby d_jdk_43_method_23_0) rfl kK) ?_
  refine OwnFin.step (fun tT kK => XS.i2b X0.here hx rfl (hb hby d_jdk_43_method_23_1) rfl kK) ?_
  show OwnFin p e below _ (s₁.setTop (mkF m 2 #[.val (.ref b), .val (.int c), .val (.int (0 : Int32)), .val (.int (1 : Int32)), .unset, .unset] [(.int (c.toInt8.toInt32))]))
  refine OwnFin.step (fun tT kK => XS.istore X0.here hx rfl (hb hby d_jdk_43_method_23_2) rfl (l' := #[.val (.ref b), .val (.int c), .val (.int (0 : Int32)), .val (.int (1 : Int32)), .val (.int (c.toInt8.toInt32)), .unset]) rfl kK) ?_
  refine OwnFin.step (fun tT kK => XS.iloadN X0.here hx rfl (hb hby d_jdk_43_method_23_4) rfl kK) ?_
  show OwnFin p e below _ (s₁.setTop (mkF m 5 #[.val (.ref b), .val (.int c), .val (.int (0 : Int32)), .val (.int (1 : Int32)), .val (.int (c.toInt8.toInt32)), .unset] [(.int (0 : Int32))]))
  refine OwnFin.step (fun tT kK => XS.istore X0.here hx rfl (hb hby d_jdk_43_method_23_5) rfl (l' := #[.val (.ref b), .val (.int c), .val (.int (0 : Int32)), .val (.int (1 : Int32)), .val (.int (c.toInt8.toInt32)), .val (.int (0 : Int32))]) rfl kK) ?_
  refine OwnFin.step (fun tT kK => XS.iload X0.here hx rfl (hb hby d_jdk_43_method_23_7) rfl kK) ?_
  show OwnFin p e below _ (s₁.setTop (mkF m 9 #[.val (.ref b), .val (.int c), .val (.int (0 : Int32)), .val (.int (1 : Int32)), .val (.int (c.toInt8.toInt32)), .val (.int (0 : Int32))] [(.int (0 : Int32))]))
  refine OwnFin.step (fun tT kK => XS.iloadN X0.here hx rfl (hb hby d_jdk_43_method_23_9) rfl kK) ?_
  refine OwnFin.step (fun tT kK => XS.icmpNo X0.here hx rfl (hb hby d_jdk_43_method_23_10) rfl (tlt (by decide : (0 : Int32) < (1 : Int32))).2.1 kK) ?_
  show OwnFin p e below _ (s₁.setTop (mkF m 13 #[.val (.ref b), .val (.int c), .val (.int (0 : Int32)), .val (.int (1 : Int32)), .val (.int (c.toInt8.toInt32)), .val (.int (0 : Int32))] []))
  refine OwnFin.step (fun tT kK => XS.aloadN X0.here hx rfl (hb hby d_jdk_43_method_23_13) rfl rfl kK) ?_
  show OwnFin p e below _ (s₁.setTop (mkF m 14 #[.val (.ref b), .val (.int c), .val (.int (0 : Int32)), .val (.int (1 : Int32)), .val (.int (c.toInt8.toInt32)), .val (.int (0 : Int32))] [(.ref b)]))
  refine OwnFin.step (fun tT kK => XS.iload X0.here hx rfl (hb hby d_jdk_43_method_23_14) rfl kK) ?_
  obtain ⟨cl1, Ar1, q1, Sz1, Ng1, H1, G1⟩ := id hp0
  have hin1 : ¬ ((0 : Int32) < 0 ∨ cl1.slots.size ≤ ((0 : Int32)).toNatClampNeg) := inb_of Sz1 ⟨by decide, by decide⟩
  refine OwnFin.step (fun tT kK => X0.baloadBytes hx (j := (0 : Int32)) (v := (.int (nar .byte (m0.toInt8.toInt32)))) (by rw [e0]; exact Ar1.1) (State.isArrayOf_alike hZ.alike Ar1.2.1) Ar1.2.2 hin1 (H1.at hin1 rfl) (g := (mkF m 16 #[.val (.ref b), .val (.int c), .val (.int (0 : Int32)), .val (.int (1 : Int32)), .val (.int (c.toInt8.toInt32)), .val (.int (0 : Int32))] [(.int (0 : Int32)), (.ref b)])) rfl rfl (hb hby d_jdk_43_method_23_16) _ kK) ?_
  show OwnFin p e below _ (s₁.setTop (mkF m 17 #[.val (.ref b), .val (.int c), .val (.int (0 : Int32)), .val (.int (1 : Int32)), .val (.int (c.toInt8.toInt32)), .val (.int (0 : Int32))] [(.int (nar .byte (m0.toInt8.toInt32)))]))
  refine OwnFin.step (fun tT kK => XS.iload X0.here hx rfl (hb hby d_jdk_43_method_23_17) rfl kK) ?_
  show OwnFin p e below _ (s₁.setTop (mkF m 19 #[.val (.ref b), .val (.int c), .val (.int (0 : Int32)), .val (.int (1 : Int32)), .val (.int (c.toInt8.toInt32)), .val (.int (0 : Int32))] [(.int (c.toInt8.toInt32)), (.int (nar .byte (m0.toInt8.toInt32)))]))
  by_cases hc2 : (nar .byte (m0.toInt8.toInt32)) = (c.toInt8.toInt32)
  · skip
    refine OwnFin.step (fun tT kK => XS.icmpNo X0.here hx rfl (hb hby d_jdk_43_method_23_19) rfl (teq (hc2 : (nar .byte (m0.toInt8.toInt32)) = (c.toInt8.toInt32))).2 kK) ?_
    show OwnFin p e below _ (s₁.setTop (mkF m 22 #[.val (.ref b), .val (.int c), .val (.int (0 : Int32)), .val (.int (1 : Int32)), .val (.int (c.toInt8.toInt32)), .val (.int (0 : Int32))] []))
    refine OwnFin.step (fun tT kK => XS.iload X0.here hx rfl (hb hby d_jdk_43_method_23_22) rfl kK) ?_
    obtain ⟨fs3, hr3, hrun3, hended3, hW3, hsame3⟩ := X0.leave (v := (some (.int (0 : Int32)))) (fun h => by rw [Bd.returns] at h; cases h)
    refine ⟨_, _, retOut X0 hx Bd.returns rfl (Or.inl ⟨rfl, Or.inl rfl, _, rfl⟩) (hb hby d_jdk_43_method_23_24) hr3, hrun3, hended3, _, _, rfl, ?_, ⟨_, rfl⟩, hW3, hsame3.mono (by decide) (by decide)⟩
    show Q5a1 Z b c kb m0 h0 n0 _ s₁.heap _
    rw [e0]
    exact ⟨(by rw [if_pos ((own_by hp1 hp2).mp hc2)]), N0, rfl⟩
  · skip
    refine OwnFin.step (fun tT kK => XS.icmpYes X0.here hx rfl (pc0 := 19) (pc' := 25) rfl (hb hby d_jdk_43_method_23_19) rfl (feq (hc2 : ¬ ((nar .byte (m0.toInt8.toInt32)) = (c.toInt8.toInt32)))).2 (by decide) (by decide) kK) ?_
    show OwnFin p e below _ (s₁.setTop (mkF m 25 #[.val (.ref b), .val (.int c), .val (.int (0 : Int32)), .val (.int (1 : Int32)), .val (.int (c.toInt8.toInt32)), .val (.int (0 : Int32))] []))
    have hn0 : ¬ c = m0 := fun q => hc2 ((own_by hp1 hp2).mpr q)
    refine OwnFin.step (fun tT kK => XS.iinc X0.here hx rfl (hb hby d_jdk_43_method_23_25) rfl (l' := #[.val (.ref b), .val (.int c), .val (.int (0 : Int32)), .val (.int (1 : Int32)), .val (.int (c.toInt8.toInt32)), .val (.int (1 : Int32))]) rfl kK) ?_
    refine OwnFin.step (fun tT kK => XS.goto X0.here hx rfl (pc0 := 28) (pc' := 7) rfl (hb hby d_jdk_43_method_23_28) (by decide) (by decide) kK) ?_
    show OwnFin p e below _ (s₁.setTop (mkF m 7 #[.val (.ref b), .val (.int c), .val (.int (0 : Int32)), .val (.int (1 : Int32)), .val (.int (c.toInt8.toInt32)), .val (.int (1 : Int32))] []))
    refine OwnFin.step (fun tT kK => XS.iload X0.here hx rfl (hb hby d_jdk_43_method_23_7) rfl kK) ?_
    show OwnFin p e below _ (s₁.setTop (mkF m 9 #[.val (.ref b), .val (.int c), .val (.int (0 : Int32)), .val (.int (1 : Int32)), .val (.int (c.toInt8.toInt32)), .val (.int (1 : Int32))] [(.int (1 : Int32))]))
    refine OwnFin.step (fun tT kK => XS.iloadN X0.here hx rfl (hb hby d_jdk_43_method_23_9) rfl kK) ?_
    refine OwnFin.step (fun tT kK => XS.icmpYes X0.here hx rfl (pc0 := 10) (pc' := 31) rfl (hb hby d_jdk_43_method_23_10) rfl (flt (by decide : ¬ ((1 : Int32) < (1 : Int32)))).2.1 (by decide) (by decide) kK) ?_
    show OwnFin p e below _ (s₁.setTop (mkF m 31 #[.val (.ref b), .val (.int c), .val (.int (0 : Int32)), .val (.int (1 : Int32)), .val (.int (c.toInt8.toInt32)), .val (.int (1 : Int32))] []))
    refine OwnFin.step (fun tT kK => XS.iconst X0.here hx rfl (hb hby d_jdk_43_method_23_31) kK) ?_
    show OwnFin p e below _ (s₁.setTop (mkF m 32 #[.val (.ref b), .val (.int c), .val (.int (0 : Int32)), .val (.int (1 : Int32)), .val (.int (c.toInt8.toInt32)), .val (.int (1 : Int32))] [(.int (-1 : Int32))]))
    obtain ⟨fs4, hr4, hrun4, hended4, hW4, hsame4⟩ := X0.leave (v := (some (.int (-1 : Int32)))) (fun h => by rw [Bd.returns] at h; cases h)
    refine ⟨_, _, retOut X0 hx Bd.returns rfl (Or.inl ⟨rfl, Or.inl rfl, _, rfl⟩) (hb hby d_jdk_43_method_23_32) hr4, hrun4, hended4, _, _, rfl, ?_, ⟨_, rfl⟩, hW4, hsame4.mono (by decide) (by decide)⟩
    show Q5a1 Z b c kb m0 h0 n0 _ s₁.heap _
    rw [e0]
    exact ⟨(by simp [hn0]), N0, rfl⟩
theorem d_jdk_43_method_22_29 : decode jdk_43_method_22_code 29 = .ok (.aload_n 0, 1) := by decide +kernel
theorem d_jdk_43_method_22_30 : decode jdk_43_method_22_code 30 = .ok (.iload_n 1, 1) := by decide +kernel
theorem d_jdk_43_method_22_31 : decode jdk_43_method_22_code 31 = .ok (.iload_n 2, 1) := by decide +kernel
theorem d_jdk_43_method_22_32 : decode jdk_43_method_22_code 32 = .ok (.iload_n 3, 1) := by decide +kernel
theorem d_jdk_43_method_22_33 : decode jdk_43_method_22_code 33 = .ok (.invokestatic 95, 3) := by decide +kernel
theorem d_jdk_43_method_22_36 : decode jdk_43_method_22_code 36 = .ok (.ireturn, 1) := by decide +kernel
theorem ef_5b1 (m : MethodId) (b : Addr) (c : Int32) : entryFrame m #[(.ref b), (.int c), (.int (0 : Int32)), (.int (1 : Int32))] 4 = mkF m 0 #[.val (.ref b), .val (.int c), .val (.int (0 : Int32)), .val (.int (1 : Int32))] [] := by first | (simp [entryFrame, mkF, argsToLocals, Value.category]; done) | rfl
def Q5b1 (Z : State) (b : Addr) (c : Int32) (kb : ClassId) (m0 : Int32) (h0 : Heap) (n0 : Nat) (vV : Option Value) (hH : Heap) (LL : List Loc) : Prop := vV = some (.int (if c = m0 then (0 : Int32) else -1)) ∧ Fr n0 LL ∧ hH = h0
def R5b1 (Z : State) (b : Addr) (c : Int32) (kb : ClassId) (m0 : Int32) (h0 : Heap) (n0 : Nat) (U : State) (oO : Outcome) (U' : State) : Prop := ∃ vV LL, oO = .returned vV ∧ Q5b1 Z b c kb m0 h0 n0 vV U'.heap LL ∧ FrameEnd U oO U' LL ({ frames := 1, cells := 0, slots := 0, locals := 17 } : Room).cells ({ frames := 1, cells := 0, slots := 0, locals := 17 } : Room).slots
set_option maxRecDepth 65536 in
set_option maxHeartbeats 40000000 in
theorem rm5b1 (l : Launch) (Z : State) (a0 : Array Value) (hw : ∀ d ∈ tables_1, d.before a0 Z = true) (hEL : EW Z a0 OwnEL) (wS : ∀ a ∈ Bundle.stringAtoms, a.before a0 Z = true) (ws : List Jvm.Cond) (b : Addr) (c : Int32) (kb : ClassId) (m0 : Int32) (h0 : Heap) (n0 : Nat) (Z0 : n0 ≤ h0.size) (hp0 : Arv Z h0 b kb .byte (1 : Int32) [(.int (nar .byte (m0.toInt8.toInt32)))] (.int (0 : Int32))) (hp1 : In8 m0) (hp2 : In8 c) :
    MetFree l (⟨"java/lang/StringLatin1", "indexOf", "([BIII)I"⟩ : MethodName) (head1 (Jvm.Cond.code (⟨"java/lang/StringLatin1", "indexOf", "([BIII)I"⟩ : MethodName) jdk_43_method_22_code 4 (some .int) :: ws) ({ frames := 1, cells := 0, slots := 0, locals := 17 } : Room)) (fun aA U => aA = #[(.ref b), (.int c), (.int (0 : Int32)), (.int (1 : Int32))] ∧ Z.Warmed39 U.vm ∧ U.heap = h0) (fun _ _ _ _ _ => True) (fun _ U oO U' => ∃ vV LL, oO = .returned vV ∧ Q5b1 Z b c kb m0 h0 n0 vV U'.heap LL ∧ FrameEnd U oO U' LL ({ frames := 1, cells := 0, slots := 0, locals := 17 } : Room).cells ({ frames := 1, cells := 0, slots := 0, locals := 17 } : Room).slots) := by
  refine MetFree.of_bodySF (plainFor_of_name pn_44) hisR ?_
  intro p e s m args below meth cC s₁ Bd hml0 hP hK
  obtain ⟨rfl, hZ, hh⟩ := hP
  have hx := Bd.exec
  have hby := Bd.bytes
  have hml : cC.maxLocals = 4 := hml0
  have hown : s.vm.findClass "java/lang/StringLatin1" = some m.cls := findClass_of_methodNamed Bd.named
  have hnm := (name_of_methodNamed Bd.named Bd.method).1
  have X0 : Stand p l e ({ frames := 1, cells := 0, slots := 0, locals := 17 } : Room) s m #[(.ref b), (.int c), (.int (0 : Int32)), (.int (1 : Int32))] below meth cC s₁ [] 0 0 := Stand.of_body Bd
  have e0 : s₁.heap = h0 := by rw [← hh, Bd.state]; rfl
  have N0 := Fr.nil n0
  have Kp0 := Keep.refl h0 []
  show OwnFin p e below (R5b1 Z b c kb m0 h0 n0 s) (s₁.setTop (entryFrame m #[(.ref b), (.int c), (.int (0 : Int32)), (.int (1 : Int32))] 4))
  rw [ef_5b1 m b c]
  refine OwnFin.step (fun tT kK => XS.iloadN X0.here hx rfl (hb hby d_jdk_43_method_22_0) rfl kK) ?_
  obtain ⟨_, _, ⟨T1, L1, k1, n1⟩, -, X1, ⟨Lc1, hQ1, l1, y1, z1⟩, st1⟩ := Jvm.LawKit.callS X0 hx (y := (⟨"java/lang/StringLatin1", "canEncode", "(I)Z"⟩ : MethodName)) hown (mvT hZ (hw _ (List.mem_of_getElem? (i := 94) rfl))) (mvT hZ (hw _ (List.mem_of_getElem? (i := 95) rfl))) (mvT hZ (hw _ (List.mem_of_getElem? (i := 61) rfl))) (mvT hZ (hw _ (List.mem_of_getElem? (i := 96) rfl))) (by decide) (backOf (W := 0) (rm4a l Z a0 hw hEL wS [] c h0 n0 (Nat.le_trans Z0 Kp0.1) hp2) hZ (hw _ (List.mem_of_getElem? (i := 96) rfl)) (hw _ (List.mem_of_getElem? (i := 61) rfl)) (by decide) (by decide)) (g := (mkF m 1 #[.val (.ref b), .val (.int c), .val (.int (0 : Int32)), .val (.int (1 : Int32))] [(.int c)])) rfl (by rw [hml]; rfl) (argsL := [(.int c)]) (rest := []) (lenOf pd_77 rfl) rfl (by show 2 * 0 + _ ≤ _; exact Nat.le_of_eq rfl) (hb hby d_jdk_43_method_22_1) (fun _ _ => ⟨rfl, e0, (by decide : 0 + 0 ≤ _), (by decide : 0 + 0 ≤ _)⟩)
  dsimp only [Pt.U, Pt.locs, Pt.cells, Pt.slots] at X1 l1 y1 z1 st1 hQ1
  subst l1 y1 z1
  obtain ⟨rfl, N1q, e1⟩ := hQ1
  have N1 := Fr.app N0 N1q
  refine OwnFin.step st1 ?_
  show OwnFin p e below _ (T1.setTop (mkF m 4 #[.val (.ref b), .val (.int c), .val (.int (0 : Int32)), .val (.int (1 : Int32))] [(.int (1 : Int32))]))
  refine OwnFin.step (fun tT kK => XS.ifYes X1.here hx rfl (pc0 := 4) (pc' := 9) rfl (hb hby d_jdk_43_method_22_4) rfl ((if0 _ _).trans (feq (by decide : ¬ ((1 : Int32) = (0 : Int32)))).2) (by decide) (by decide) kK) ?_
  show OwnFin p e below _ (T1.setTop (mkF m 9 #[.val (.ref b), .val (.int c), .val (.int (0 : Int32)), .val (.int (1 : Int32))] []))
  refine OwnFin.step (fun tT kK => XS.iloadN X1.here hx rfl (hb hby d_jdk_43_method_22_9) rfl kK) ?_
  show OwnFin p e below _ (T1.setTop (mkF m 10 #[.val (.ref b), .val (.int c), .val (.int (0 : Int32)), .val (.int (1 : Int32))] [(.int (0 : Int32))]))
  refine OwnFin.step (fun tT kK => XS.iconst X1.here hx rfl (hb hby d_jdk_43_method_22_10) kK) ?_
  obtain ⟨_, _, ⟨T2, L2, k2, n2⟩, -, X2, ⟨Lc2, hQ2, l2, y2, z2⟩, st2⟩ := Jvm.LawKit.callS X1 hx (y := (⟨"java/lang/Math", "max", "(II)I"⟩ : MethodName)) hown (mvT hZ (hw _ (List.mem_of_getElem? (i := 97) rfl))) (mvT hZ (hw _ (List.mem_of_getElem? (i := 39) rfl))) (mvT hZ (hw _ (List.mem_of_getElem? (i := 36) rfl))) (mvT hZ (hw _ (List.mem_of_getElem? (i := 40) rfl))) (by decide) (backOf (W := 0) (rm1a l Z a0 hw hEL wS [] (0 : Int32) (0 : Int32) h0 n0 (Nat.le_trans Z0 Kp0.1) ) hZ (hw _ (List.mem_of_getElem? (i := 40) rfl)) (hw _ (List.mem_of_getElem? (i := 36) rfl)) (by decide) (by decide)) (g := (mkF m 11 #[.val (.ref b), .val (.int c), .val (.int (0 : Int32)), .val (.int (1 : Int32))] [(.int (0 : Int32)), (.int (0 : Int32))])) rfl (by rw [hml]; rfl) (argsL := [(.int (0 : Int32)), (.int (0 : Int32))]) (rest := []) (lenOf pd_82 rfl) rfl (by show 2 * 0 + _ ≤ _; exact Nat.le_of_eq rfl) (hb hby d_jdk_43_method_22_11) (fun _ _ => ⟨rfl, e1, (by decide : 0 + 0 ≤ _), (by decide : 0 + 0 ≤ _)⟩)
  dsimp only [Pt.U, Pt.locs, Pt.cells, Pt.slots] at X2 l2 y2 z2 st2 hQ2
  subst l2 y2 z2
  obtain ⟨rfl, N2q, e2⟩ := hQ2
  have N2 := Fr.app N1 N2q
  refine OwnFin.step st2 ?_
  show OwnFin p e below _ (T2.setTop (mkF m 14 #[.val (.ref b), .val (.int c), .val (.int (0 : Int32)), .val (.int (1 : Int32))] [(.int (if (0 : Int32) < (0 : Int32) then (0 : Int32) else (0 : Int32)))]))
  rw [if_neg (by decide)]
  show OwnFin p e below _ (T2.setTop (mkF m 14 #[.val (.ref b), .val (.int c), .val (.int (0 : Int32)), .val (.int (1 : Int32))] [(.int (0 : Int32))]))
  refine OwnFin.step (fun tT kK => XS.istoreN X2.here hx rfl (hb hby d_jdk_43_method_22_14) rfl (l' := #[.val (.ref b), .val (.int c), .val (.int (0 : Int32)), .val (.int (1 : Int32))]) rfl kK) ?_
  show OwnFin p e below _ (T2.setTop (mkF m 15 #[.val (.ref b), .val (.int c), .val (.int (0 : Int32)), .val (.int (1 : Int32))] []))
  refine OwnFin.step (fun tT kK => XS.iloadN X2.here hx rfl (hb hby d_jdk_43_method_22_15) rfl kK) ?_
  refine OwnFin.step (fun tT kK => XS.aloadN X2.here hx rfl (hb hby d_jdk_43_method_22_16) rfl rfl kK) ?_
  show OwnFin p e below _ (T2.setTop (mkF m 17 #[.val (.ref b), .val (.int c), .val (.int (0 : Int32)), .val (.int (1 : Int32))] [(.ref b), (.int (1 : Int32))]))
  obtain ⟨cl3, Ar3, -, Sz3, Ng3, -, -⟩ := id hp0
  refine OwnFin.step (fun tT kK => own_len X2 hx hZ e2 Ar3 Sz3 Ng3 (g := (mkF m 17 #[.val (.ref b), .val (.int c), .val (.int (0 : Int32)), .val (.int (1 : Int32))] [(.ref b), (.int (1 : Int32))])) rfl rfl (hb hby d_jdk_43_method_22_17) kK) ?_
  obtain ⟨_, _, ⟨T4, L4, k4, n4⟩, -, X4, ⟨Lc4, hQ4, l4, y4, z4⟩, st4⟩ := Jvm.LawKit.callS X2 hx (y := (⟨"java/lang/Math", "min", "(II)I"⟩ : MethodName)) hown (mvT hZ (hw _ (List.mem_of_getElem? (i := 98) rfl))) (mvT hZ (hw _ (List.mem_of_getElem? (i := 35) rfl))) (mvT hZ (hw _ (List.mem_of_getElem? (i := 36) rfl))) (mvT hZ (hw _ (List.mem_of_getElem? (i := 37) rfl))) (by decide) (backOf (W := 0) (rm1b l Z a0 hw hEL wS [] (1 : Int32) (1 : Int32) h0 n0 (Nat.le_trans Z0 Kp0.1) ) hZ (hw _ (List.mem_of_getElem? (i := 37) rfl)) (hw _ (List.mem_of_getElem? (i := 36) rfl)) (by decide) (by decide)) (g := (mkF m 18 #[.val (.ref b), .val (.int c), .val (.int (0 : Int32)), .val (.int (1 : Int32))] [(.int (1 : Int32)), (.int (1 : Int32))])) rfl (by rw [hml]; rfl) (argsL := [(.int (1 : Int32)), (.int (1 : Int32))]) (rest := []) (lenOf pd_82 rfl) rfl (by show 2 * 0 + _ ≤ _; exact Nat.le_of_eq rfl) (hb hby d_jdk_43_method_22_18) (fun _ _ => ⟨rfl, e2, (by decide : 0 + 0 ≤ _), (by decide : 0 + 0 ≤ _)⟩)
  dsimp only [Pt.U, Pt.locs, Pt.cells, Pt.slots] at X4 l4 y4 z4 st4 hQ4
  subst l4 y4 z4
  obtain ⟨rfl, N4q, e4⟩ := hQ4
  have N4 := Fr.app N2 N4q
  refine OwnFin.step st4 ?_
  show OwnFin p e below _ (T4.setTop (mkF m 21 #[.val (.ref b), .val (.int c), .val (.int (0 : Int32)), .val (.int (1 : Int32))] [(.int (if (1 : Int32) < (1 : Int32) then (1 : Int32) else (1 : Int32)))]))
  rw [if_neg (by decide)]
  show OwnFin p e below _ (T4.setTop (mkF m 21 #[.val (.ref b), .val (.int c), .val (.int (0 : Int32)), .val (.int (1 : Int32))] [(.int (1 : Int32))]))
  refine OwnFin.step (fun tT kK => XS.istoreN X4.here hx rfl (hb hby d_jdk_43_method_22_21) rfl (l' := #[.val (.ref b), .val (.int c), .val (.int (0 : Int32)), .val (.int (1 : Int32))]) rfl kK) ?_
  show OwnFin p e below _ (T4.setTop (mkF m 22 #[.val (.ref b), .val (.int c), .val (.int (0 : Int32)), .val (.int (1 : Int32))] []))
  refine OwnFin.step (fun tT kK => XS.iloadN X4.here hx rfl (hb hby d_jdk_43_method_22_22) rfl kK) ?_
  refine OwnFin.step (fun tT kK => XS.iloadN X4.here hx rfl (hb hby d_jdk_43_method_22_23) rfl kK) ?_
  show OwnFin p e below _ (T4.setTop (mkF m 24 #[.val (.ref b), .val (.int c), .val (.int (0 : Int32)), .val (.int (1 : Int32))] [(.int (1 : Int32)), (.int (0 : Int32))]))
  refine OwnFin.step (fun tT kK => XS.icmpYes X4.here hx rfl (pc0 := 24) (pc' := 29) rfl (hb hby d_jdk_43_method_22_24) rfl (tlt (by decide : (0 : Int32) < (1 : Int32))).1 (by decide) (by decide) kK) ?_
  show OwnFin p e below _ (T4.setTop (mkF m 29 #[.val (.ref b), .val (.int c), .val (.int (0 : Int32)), .val (.int (1 : Int32))] []))
  refine OwnFin.step (fun tT kK => XS.aloadN X4.here hx rfl (hb hby d_jdk_43_method_22_29) rfl rfl kK) ?_
  refine OwnFin.step (fun tT kK => XS.iloadN X4.here hx rfl (hb hby d_jdk_43_method_22_30) rfl kK) ?_
  show OwnFin p e below _ (T4.setTop (mkF m 31 #[.val (.ref b), .val (.int c), .val (.int (0 : Int32)), .val (.int (1 : Int32))] [(.int c), (.ref b)]))
  refine OwnFin.step (fun tT kK => XS.iloadN X4.here hx rfl (hb hby d_jdk_43_method_22_31) rfl kK) ?_
  refine OwnFin.step (fun tT kK => XS.iloadN X4.here hx rfl (hb hby d_jdk_43_method_22_32) rfl kK) ?_
  show OwnFin p e below _ (T4.setTop (mkF m 33 #[.val (.ref b), .val (.int c), .val (.int (0 : Int32)), .val (.int (1 : Int32))] [(.int (1 : Int32)), (.int (0 : Int32)), (.int c), (.ref b)]))
  obtain ⟨_, _, ⟨T5, L5, k5, n5⟩, -, X5, ⟨Lc5, hQ5, l5, y5, z5⟩, st5⟩ := Jvm.LawKit.callS X4 hx (y := (⟨"java/lang/StringLatin1", "indexOfChar", "([BIII)I"⟩ : MethodName)) hown (mvT hZ (hw _ (List.mem_of_getElem? (i := 112) rfl))) (mvT hZ (hw _ (List.mem_of_getElem? (i := 113) rfl))) (mvT hZ (hw _ (List.mem_of_getElem? (i := 61) rfl))) (mvT hZ (hw _ (List.mem_of_getElem? (i := 114) rfl))) (by decide) (backOf (W := 0) (rm5a1 l Z a0 hw hEL wS [] b c kb m0 h0 n0 (Nat.le_trans Z0 Kp0.1) hp0 hp1 hp2) hZ (hw _ (List.mem_of_getElem? (i := 114) rfl)) (hw _ (List.mem_of_getElem? (i := 61) rfl)) (by decide) (by decide)) (g := (mkF m 33 #[.val (.ref b), .val (.int c), .val (.int (0 : Int32)), .val (.int (1 : Int32))] [(.int (1 : Int32)), (.int (0 : Int32)), (.int c), (.ref b)])) rfl (by rw [hml]; rfl) (argsL := [(.ref b), (.int c), (.int (0 : Int32)), (.int (1 : Int32))]) (rest := []) (lenOf pd_113 rfl) rfl (by show 2 * 0 + _ ≤ _; exact Nat.le_of_eq rfl) (hb hby d_jdk_43_method_22_33) (fun _ _ => ⟨rfl, e4, (by decide : 0 + 0 ≤ _), (by decide : 0 + 0 ≤ _)⟩)
  dsimp only [Pt.U, Pt.locs, Pt.cells, Pt.slots] at X5 l5 y5 z5 st5 hQ5
  subst l5 y5 z5
  obtain ⟨rfl, N5q, e5⟩ := hQ5
  have N5 := Fr.app N4 N5q
  refine OwnFin.step st5 ?_
  show OwnFin p e below _ (T5.setTop (mkF m 36 #[.val (.ref b), .val (.int c), .val (.int (0 : Int32)), .val (.int (1 : Int32))] [(.int (if c = m0 then (0 : Int32) else -1))]))
  obtain ⟨fs6, hr6, hrun6, hended6, hW6, hsame6⟩ := X5.leave (v := (some (.int (if c = m0 then (0 : Int32) else -1)))) (fun h => by rw [Bd.returns] at h; cases h)
  refine ⟨_, _, retOut X5 hx Bd.returns rfl (Or.inl ⟨rfl, Or.inl rfl, _, rfl⟩) (hb hby d_jdk_43_method_22_36) hr6, hrun6, hended6, _, _, rfl, ?_, ⟨_, rfl⟩, hW6, hsame6.mono (by decide) (by decide)⟩
  show Q5b1 Z b c kb m0 h0 n0 _ T5.heap _
  rw [e5]
  exact ⟨rfl, N5, rfl⟩
theorem ef_5c1 (m : MethodId) (a : Addr) : entryFrame m #[(.ref a)] 1 = mkF m 0 #[.val (.ref a)] [] := by first | (simp [entryFrame, mkF, argsToLocals, Value.category]; done) | rfl
def Q5c1 (Z : State) (a : Addr) (b : Addr) (kb : ClassId) (cs : Int32) (m0 : Int32) (h0 : Heap) (n0 : Nat) (vV : Option Value) (hH : Heap) (LL : List Loc) : Prop := vV = some (.int (1 : Int32)) ∧ Fr n0 LL ∧ hH = h0
def R5c1 (Z : State) (a : Addr) (b : Addr) (kb : ClassId) (cs : Int32) (m0 : Int32) (h0 : Heap) (n0 : Nat) (U : State) (oO : Outcome) (U' : State) : Prop := ∃ vV LL, oO = .returned vV ∧ Q5c1 Z a b kb cs m0 h0 n0 vV U'.heap LL ∧ FrameEnd U oO U' LL ({ frames := 1, cells := 0, slots := 0, locals := 13 } : Room).cells ({ frames := 1, cells := 0, slots := 0, locals := 13 } : Room).slots
set_option maxRecDepth 65536 in
set_option maxHeartbeats 40000000 in
theorem rm5c1 (l : Launch) (Z : State) (a0 : Array Value) (hw : ∀ d ∈ tables_1, d.before a0 Z = true) (hEL : EW Z a0 OwnEL) (wS : ∀ a ∈ Bundle.stringAtoms, a.before a0 Z = true) (ws : List Jvm.Cond) (a : Addr) (b : Addr) (kb : ClassId) (cs : Int32) (m0 : Int32) (h0 : Heap) (n0 : Nat) (Z0 : n0 ≤ h0.size) (hp0 : Exa Z h0 a "java/lang/String") (hp1 : Fld Z h0 a "java/lang/String" "value" "[B" (.ref b)) (hp2 : Fld Z h0 a "java/lang/String" "coder" "B" (.int (0 : Int32))) (hp3 : Arv Z h0 b kb .byte (1 : Int32) [(.int (nar .byte (m0.toInt8.toInt32)))] (.int (0 : Int32))) (hp4 : Sta Z h0 "java/lang/String" "COMPACT_STRINGS" "Z" (.int cs)) (hp5 : ¬ cs = (0 : Int32)) :
    MetFree l (⟨"java/lang/String", "length", "()I"⟩ : MethodName) (head1 (Jvm.Cond.code (⟨"java/lang/String", "length", "()I"⟩ : MethodName) jdk_42_method_54_code 1 (some .int) :: ws) ({ frames := 1, cells := 0, slots := 0, locals := 13 } : Room)) (fun aA U => aA = #[(.ref a)] ∧ Z.Warmed39 U.vm ∧ U.heap = h0) (fun _ _ _ _ _ => True) (fun _ U oO U' => ∃ vV LL, oO = .returned vV ∧ Q5c1 Z a b kb cs m0 h0 n0 vV U'.heap LL ∧ FrameEnd U oO U' LL ({ frames := 1, cells := 0, slots := 0, locals := 13 } : Room).cells ({ frames := 1, cells := 0, slots := 0, locals := 13 } : Room).slots) := by
  refine MetFree.of_bodySF (plainFor_of_name pn_14) hisR ?_
  intro p e s m args below meth cC s₁ Bd hml0 hP hK
  obtain ⟨rfl, hZ, hh⟩ := hP
  have hx := Bd.exec
  have hby := Bd.bytes
  have hml : cC.maxLocals = 1 := hml0
  have hown : s.vm.findClass "java/lang/String" = some m.cls := findClass_of_methodNamed Bd.named
  have hnm := (name_of_methodNamed Bd.named Bd.method).1
  have X0 : Stand p l e ({ frames := 1, cells := 0, slots := 0, locals := 13 } : Room) s m #[(.ref a)] below meth cC s₁ [] 0 0 := Stand.of_body Bd
  have e0 : s₁.heap = h0 := by rw [← hh, Bd.state]; rfl
  have N0 := Fr.nil n0
  have Kp0 := Keep.refl h0 []
  show OwnFin p e below (R5c1 Z a b kb cs m0 h0 n0 s) (s₁.setTop (entryFrame m #[(.ref a)] 1))
  rw [ef_5c1 m a]
  refine OwnFin.step (fun tT kK => XS.aloadN X0.here hx rfl (hb hby d_jdk_42_method_54_0) rfl rfl kK) ?_
  obtain ⟨T1, X1, e1, st1⟩ := getF X0 hx hZ hown (host := "") (Or.inl (hw _ (List.mem_of_getElem? (i := 28) rfl))) Via.refl e0 hp1 (g := (mkF m 1 #[.val (.ref a)] [(.ref a)])) rfl rfl (hb hby d_jdk_42_method_54_1)
  refine OwnFin.step st1 ?_
  show OwnFin p e below _ (T1.setTop (mkF m 4 #[.val (.ref a)] [(.ref b)]))
  obtain ⟨cl2, Ar2, -, Sz2, Ng2, -, -⟩ := id hp3
  refine OwnFin.step (fun tT kK => own_len X1 hx hZ e1 Ar2 Sz2 Ng2 (g := (mkF m 4 #[.val (.ref a)] [(.ref b)])) rfl rfl (hb hby d_jdk_42_method_54_4) kK) ?_
  refine OwnFin.step (fun tT kK => XS.aloadN X1.here hx rfl (hb hby d_jdk_42_method_54_5) rfl rfl kK) ?_
  show OwnFin p e below _ (T1.setTop (mkF m 6 #[.val (.ref a)] [(.ref a), (.int (1 : Int32))]))
  obtain ⟨cq3, kq3, q3a, q3b, q3c⟩ := isOf hZ e1 hp0
  obtain ⟨_, _, ⟨T3, L3, k3, n3⟩, -, X3, ⟨Lc3, hQ3, l3, y3, z3⟩, st3⟩ := X1.virtualBack hx (y := (⟨"java/lang/String", "coder", "()B"⟩ : MethodName)) (z := (⟨"java/lang/String", "coder", "()B"⟩ : MethodName)) hown (mvT hZ (hw _ (List.mem_of_getElem? (i := 86) rfl))) (mvT hZ (hw _ (List.mem_of_getElem? (i := 87) rfl))) (notFace_of_selects (args := #[]) (mvT hZ (hw _ (List.mem_of_getElem? (i := 89) rfl)))) (mvT hZ (hw _ (List.mem_of_getElem? (i := 89) rfl))) (mvT hZ (hw _ (List.mem_of_getElem? (i := 88) rfl))) (by decide) (backOf (W := 1) (rm2b l Z a0 hw hEL wS [] a cs h0 n0 (Nat.le_trans Z0 Kp0.1) hp4 hp5 hp2) hZ (hw _ (List.mem_of_getElem? (i := 90) rfl)) (hw _ (List.mem_of_getElem? (i := 2) rfl)) (by decide) (by decide)) q3a q3c (g := (mkF m 6 #[.val (.ref a)] [(.ref a), (.int (1 : Int32))])) rfl (by rw [hml]; rfl) (Steps.refl _) (argsL := []) (rest := [(.int (1 : Int32))]) (lenOf pd_99 rfl) rfl (by show 2 * 0 + _ ≤ _; exact Nat.le_of_eq rfl) (hb hby d_jdk_42_method_54_6) (fun _ _ => ⟨rfl, e1, (by decide : 0 + 0 ≤ _), (by decide : 0 + 0 ≤ _)⟩)
  dsimp only [Pt.U, Pt.locs, Pt.cells, Pt.slots] at X3 l3 y3 z3 st3 hQ3
  subst l3 y3 z3
  obtain ⟨rfl, N3q, e3⟩ := hQ3
  have N3 := Fr.app N0 N3q
  refine OwnFin.step (fun tT kK => st3.trans kK) ?_
  show OwnFin p e below _ (T3.setTop (mkF m 9 #[.val (.ref a)] [(.int (0 : Int32)), (.int (1 : Int32))]))
  refine OwnFin.step (fun tT kK => XS.ishr X3.here hx rfl (hb hby d_jdk_42_method_54_9) rfl kK) ?_
  obtain ⟨fs4, hr4, hrun4, hended4, hW4, hsame4⟩ := X3.leave (v := (some (.int (1 : Int32)))) (fun h => by rw [Bd.returns] at h; cases h)
  refine ⟨_, _, retOut X3 hx Bd.returns rfl (Or.inl ⟨rfl, Or.inl rfl, _, rfl⟩) (hb hby d_jdk_42_method_54_10) hr4, hrun4, hended4, _, _, rfl, ?_, ⟨_, rfl⟩, hW4, hsame4.mono (by decide) (by decide)⟩
  show Q5c1 Z a b kb cs m0 h0 n0 _ T3.heap _
  rw [e3]
  exact ⟨rfl, N3, rfl⟩
theorem ef_5d1 (m : MethodId) (a : Addr) (c : Int32) : entryFrame m #[(.ref a), (.int c), (.int (0 : Int32))] 3 = mkF m 0 #[.val (.ref a), .val (.int c), .val (.int (0 : Int32))] [] := by first | (simp [entryFrame, mkF, argsToLocals, Value.category]; done) | rfl
def Q5d1 (Z : State) (a : Addr) (c : Int32) (b : Addr) (kb : ClassId) (cs : Int32) (m0 : Int32) (h0 : Heap) (n0 : Nat) (vV : Option Value) (hH : Heap) (LL : List Loc) : Prop := vV = some (.int (if c = m0 then (0 : Int32) else -1)) ∧ Fr n0 LL ∧ hH = h0
def R5d1 (Z : State) (a : Addr) (c : Int32) (b : Addr) (kb : ClassId) (cs : Int32) (m0 : Int32) (h0 : Heap) (n0 : Nat) (U : State) (oO : Outcome) (U' : State) : Prop := ∃ vV LL, oO = .returned vV ∧ Q5d1 Z a c b kb cs m0 h0 n0 vV U'.heap LL ∧ FrameEnd U oO U' LL ({ frames := 2, cells := 0, slots := 0, locals := 32 } : Room).cells ({ frames := 2, cells := 0, slots := 0, locals := 32 } : Room).slots
set_option maxRecDepth 65536 in
set_option maxHeartbeats 40000000 in
theorem rm5d1 (l : Launch) (Z : State) (a0 : Array Value) (hw : ∀ d ∈ tables_1, d.before a0 Z = true) (hEL : EW Z a0 OwnEL) (wS : ∀ a ∈ Bundle.stringAtoms, a.before a0 Z = true) (ws : List Jvm.Cond) (a : Addr) (c : Int32) (b : Addr) (kb : ClassId) (cs : Int32) (m0 : Int32) (h0 : Heap) (n0 : Nat) (Z0 : n0 ≤ h0.size) (hp0 : Exa Z h0 a "java/lang/String") (hp1 : Fld Z h0 a "java/lang/String" "value" "[B" (.ref b)) (hp2 : Fld Z h0 a "java/lang/String" "coder" "B" (.int (0 : Int32))) (hp3 : Arv Z h0 b kb .byte (1 : Int32) [(.int (nar .byte (m0.toInt8.toInt32)))] (.int (0 : Int32))) (hp4 : Sta Z h0 "java/lang/String" "COMPACT_STRINGS" "Z" (.int cs)) (hp5 : ¬ cs = (0 : Int32)) (hp6 : In8 m0) (hp7 : In8 c) :
    MetFree l (⟨"java/lang/String", "indexOf", "(II)I"⟩ : MethodName) (head1 (Jvm.Cond.code (⟨"java/lang/String", "indexOf", "(II)I"⟩ : MethodName) jdk_42_method_80_code 3 (some .int) :: ws) ({ frames := 2, cells := 0, slots := 0, locals := 32 } : Room)) (fun aA U => aA = #[(.ref a), (.int c), (.int (0 : Int32))] ∧ Z.Warmed39 U.vm ∧ U.heap = h0) (fun _ _ _ _ _ => True) (fun _ U oO U' => ∃ vV LL, oO = .returned vV ∧ Q5d1 Z a c b kb cs m0 h0 n0 vV U'.heap LL ∧ FrameEnd U oO U' LL ({ frames := 2, cells := 0, slots := 0, locals := 32 } : Room).cells ({ frames := 2, cells := 0, slots := 0, locals := 32 } : Room).slots) := by
  refine MetFree.of_bodySF (plainFor_of_name pn_14) hisR ?_
  intro p e s m args below meth cC s₁ Bd hml0 hP hK
  obtain ⟨rfl, hZ, hh⟩ := hP
  have hx := Bd.exec
  have hby := Bd.bytes
  have hml : cC.maxLocals = 3 := hml0
  have hown : s.vm.findClass "java/lang/String" = some m.cls := findClass_of_methodNamed Bd.named
  have hnm := (name_of_methodNamed Bd.named Bd.method).1
  have X0 : Stand p l e ({ frames := 2, cells := 0, slots := 0, locals := 32 } : Room) s m #[(.ref a), (.int c), (.int (0 : Int32))] below meth cC s₁ [] 0 0 := Stand.of_body Bd
  have e0 : s₁.heap = h0 := by rw [← hh, Bd.state]; rfl
  have N0 := Fr.nil n0
  have Kp0 := Keep.refl h0 []
  show OwnFin p e below (R5d1 Z a c b kb cs m0 h0 n0 s) (s₁.setTop (entryFrame m #[(.ref a), (.int c), (.int (0 : Int32))] 3))
  rw [ef_5d1 m a c]
  refine OwnFin.step (fun tT kK => XS.aloadN X0.here hx rfl (hb hby d_jdk_42_method_80_0) rfl rfl kK) ?_
  obtain ⟨cq1, kq1, q1a, q1b, q1c⟩ := isOf hZ e0 hp0
  obtain ⟨_, _, ⟨T1, L1, k1, n1⟩, -, X1, ⟨Lc1, hQ1, l1, y1, z1⟩, st1⟩ := X0.virtualBack hx (y := (⟨"java/lang/String", "isLatin1", "()Z"⟩ : MethodName)) (z := (⟨"java/lang/String", "isLatin1", "()Z"⟩ : MethodName)) hown (mvT hZ (hw _ (List.mem_of_getElem? (i := 54) rfl))) (mvT hZ (hw _ (List.mem_of_getElem? (i := 55) rfl))) (notFace_of_selects (args := #[]) (mvT hZ (hw _ (List.mem_of_getElem? (i := 57) rfl)))) (mvT hZ (hw _ (List.mem_of_getElem? (i := 57) rfl))) (mvT hZ (hw _ (List.mem_of_getElem? (i := 56) rfl))) (by decide) (backOf (W := 0) (rm2a l Z a0 hw hEL wS [] a cs h0 n0 (Nat.le_trans Z0 Kp0.1) hp4 hp5 hp2) hZ (hw _ (List.mem_of_getElem? (i := 58) rfl)) (hw _ (List.mem_of_getElem? (i := 2) rfl)) (by decide) (by decide)) q1a q1c (g := (mkF m 1 #[.val (.ref a), .val (.int c), .val (.int (0 : Int32))] [(.ref a)])) rfl (by rw [hml]; rfl) (Steps.refl _) (argsL := []) (rest := []) (lenOf pd_59 rfl) rfl (by show 2 * 0 + _ ≤ _; exact Nat.le_of_eq rfl) (hb hby d_jdk_42_method_80_1) (fun _ _ => ⟨rfl, e0, (by decide : 0 + 0 ≤ _), (by decide : 0 + 0 ≤ _)⟩)
  dsimp only [Pt.U, Pt.locs, Pt.cells, Pt.slots] at X1 l1 y1 z1 st1 hQ1
  subst l1 y1 z1
  obtain ⟨rfl, N1q, e1⟩ := hQ1
  have N1 := Fr.app N0 N1q
  refine OwnFin.step (fun tT kK => st1.trans kK) ?_
  show OwnFin p e below _ (T1.setTop (mkF m 4 #[.val (.ref a), .val (.int c), .val (.int (0 : Int32))] [(.int (1 : Int32))]))
  refine OwnFin.step (fun tT kK => XS.ifNo X1.here hx rfl (hb hby d_jdk_42_method_80_4) rfl ((if0 _ _).trans (feq (by decide : ¬ ((1 : Int32) = (0 : Int32)))).1) kK) ?_
  show OwnFin p e below _ (T1.setTop (mkF m 7 #[.val (.ref a), .val (.int c), .val (.int (0 : Int32))] []))
  refine OwnFin.step (fun tT kK => XS.aloadN X1.here hx rfl (hb hby d_jdk_42_method_80_7) rfl rfl kK) ?_
  show OwnFin p e below _ (T1.setTop (mkF m 8 #[.val (.ref a), .val (.int c), .val (.int (0 : Int32))] [(.ref a)]))
  obtain ⟨T2, X2, e2, st2⟩ := getF X1 hx hZ hown (host := "") (Or.inl (hw _ (List.mem_of_getElem? (i := 28) rfl))) Via.refl e1 hp1 (g := (mkF m 8 #[.val (.ref a), .val (.int c), .val (.int (0 : Int32))] [(.ref a)])) rfl rfl (hb hby d_jdk_42_method_80_8)
  refine OwnFin.step st2 ?_
  show OwnFin p e below _ (T2.setTop (mkF m 11 #[.val (.ref a), .val (.int c), .val (.int (0 : Int32))] [(.ref b)]))
  refine OwnFin.step (fun tT kK => XS.iloadN X2.here hx rfl (hb hby d_jdk_42_method_80_11) rfl kK) ?_
  show OwnFin p e below _ (T2.setTop (mkF m 12 #[.val (.ref a), .val (.int c), .val (.int (0 : Int32))] [(.int c), (.ref b)]))
  refine OwnFin.step (fun tT kK => XS.iloadN X2.here hx rfl (hb hby d_jdk_42_method_80_12) rfl kK) ?_
  refine OwnFin.step (fun tT kK => XS.aloadN X2.here hx rfl (hb hby d_jdk_42_method_80_13) rfl rfl kK) ?_
  show OwnFin p e below _ (T2.setTop (mkF m 14 #[.val (.ref a), .val (.int c), .val (.int (0 : Int32))] [(.ref a), (.int (0 : Int32)), (.int c), (.ref b)]))
  obtain ⟨cq3, kq3, q3a, q3b, q3c⟩ := isOf hZ e2 hp0
  obtain ⟨_, _, ⟨T3, L3, k3, n3⟩, -, X3, ⟨Lc3, hQ3, l3, y3, z3⟩, st3⟩ := X2.virtualBack hx (y := (⟨"java/lang/String", "length", "()I"⟩ : MethodName)) (z := (⟨"java/lang/String", "length", "()I"⟩ : MethodName)) hown (mvT hZ (hw _ (List.mem_of_getElem? (i := 81) rfl))) (mvT hZ (hw _ (List.mem_of_getElem? (i := 82) rfl))) (notFace_of_selects (args := #[]) (mvT hZ (hw _ (List.mem_of_getElem? (i := 84) rfl)))) (mvT hZ (hw _ (List.mem_of_getElem? (i := 84) rfl))) (mvT hZ (hw _ (List.mem_of_getElem? (i := 83) rfl))) (by decide) (backOf (W := 3) (rm5c1 l Z a0 hw hEL wS [] a b kb cs m0 h0 n0 (Nat.le_trans Z0 Kp0.1) hp0 hp1 hp2 hp3 hp4 hp5) hZ (hw _ (List.mem_of_getElem? (i := 85) rfl)) (hw _ (List.mem_of_getElem? (i := 2) rfl)) (by decide) (by decide)) q3a q3c (g := (mkF m 14 #[.val (.ref a), .val (.int c), .val (.int (0 : Int32))] [(.ref a), (.int (0 : Int32)), (.int c), (.ref b)])) rfl (by rw [hml]; rfl) (Steps.refl _) (argsL := []) (rest := [(.int (0 : Int32)), (.int c), (.ref b)]) (lenOf pd_111 rfl) rfl (by show 2 * 0 + _ ≤ _; exact Nat.le_of_eq rfl) (hb hby d_jdk_42_method_80_14) (fun _ _ => ⟨rfl, e2, (by decide : 0 + 0 ≤ _), (by decide : 0 + 0 ≤ _)⟩)
  dsimp only [Pt.U, Pt.locs, Pt.cells, Pt.slots] at X3 l3 y3 z3 st3 hQ3
  subst l3 y3 z3
  obtain ⟨rfl, N3q, e3⟩ := hQ3
  have N3 := Fr.app N1 N3q
  refine OwnFin.step (fun tT kK => st3.trans kK) ?_
  show OwnFin p e below _ (T3.setTop (mkF m 17 #[.val (.ref a), .val (.int c), .val (.int (0 : Int32))] [(.int (1 : Int32)), (.int (0 : Int32)), (.int c), (.ref b)]))
  obtain ⟨_, _, ⟨T4, L4, k4, n4⟩, -, X4, ⟨Lc4, hQ4, l4, y4, z4⟩, st4⟩ := Jvm.LawKit.callS X3 hx (y := (⟨"java/lang/StringLatin1", "indexOf", "([BIII)I"⟩ : MethodName)) hown (mvT hZ (hw _ (List.mem_of_getElem? (i := 91) rfl))) (mvT hZ (hw _ (List.mem_of_getElem? (i := 92) rfl))) (mvT hZ (hw _ (List.mem_of_getElem? (i := 61) rfl))) (mvT hZ (hw _ (List.mem_of_getElem? (i := 93) rfl))) (by decide) (backOf (W := 0) (rm5b1 l Z a0 hw hEL wS [] b c kb m0 h0 n0 (Nat.le_trans Z0 Kp0.1) hp3 hp6 hp7) hZ (hw _ (List.mem_of_getElem? (i := 93) rfl)) (hw _ (List.mem_of_getElem? (i := 61) rfl)) (by decide) (by decide)) (g := (mkF m 17 #[.val (.ref a), .val (.int c), .val (.int (0 : Int32))] [(.int (1 : Int32)), (.int (0 : Int32)), (.int c), (.ref b)])) rfl (by rw [hml]; rfl) (argsL := [(.ref b), (.int c), (.int (0 : Int32)), (.int (1 : Int32))]) (rest := []) (lenOf pd_113 rfl) rfl (by show 2 * 0 + _ ≤ _; exact Nat.le_of_eq rfl) (hb hby d_jdk_42_method_80_17) (fun _ _ => ⟨rfl, e3, (by decide : 0 + 0 ≤ _), (by decide : 0 + 0 ≤ _)⟩)
  dsimp only [Pt.U, Pt.locs, Pt.cells, Pt.slots] at X4 l4 y4 z4 st4 hQ4
  subst l4 y4 z4
  obtain ⟨rfl, N4q, e4⟩ := hQ4
  have N4 := Fr.app N3 N4q
  refine OwnFin.step st4 ?_
  show OwnFin p e below _ (T4.setTop (mkF m 20 #[.val (.ref a), .val (.int c), .val (.int (0 : Int32))] [(.int (if c = m0 then (0 : Int32) else -1))]))
  refine OwnFin.step (fun tT kK => XS.goto X4.here hx rfl (pc0 := 20) (pc' := 36) rfl (hb hby d_jdk_42_method_80_20) (by decide) (by decide) kK) ?_
  show OwnFin p e below _ (T4.setTop (mkF m 36 #[.val (.ref a), .val (.int c), .val (.int (0 : Int32))] [(.int (if c = m0 then (0 : Int32) else -1))]))
  obtain ⟨fs5, hr5, hrun5, hended5, hW5, hsame5⟩ := X4.leave (v := (some (.int (if c = m0 then (0 : Int32) else -1)))) (fun h => by rw [Bd.returns] at h; cases h)
  refine ⟨_, _, retOut X4 hx Bd.returns rfl (Or.inl ⟨rfl, Or.inl rfl, _, rfl⟩) (hb hby d_jdk_42_method_80_36) hr5, hrun5, hended5, _, _, rfl, ?_, ⟨_, rfl⟩, hW5, hsame5.mono (by decide) (by decide)⟩
  show Q5d1 Z a c b kb cs m0 h0 n0 _ T4.heap _
  rw [e4]
  exact ⟨rfl, N4, rfl⟩
theorem ef_5e1 (m : MethodId) (a : Addr) (c : Int32) : entryFrame m #[(.ref a), (.int c)] 2 = mkF m 0 #[.val (.ref a), .val (.int c)] [] := by first | (simp [entryFrame, mkF, argsToLocals, Value.category]; done) | rfl
def Q5e1 (Z : State) (a : Addr) (c : Int32) (b : Addr) (kb : ClassId) (cs : Int32) (m0 : Int32) (h0 : Heap) (n0 : Nat) (vV : Option Value) (hH : Heap) (LL : List Loc) : Prop := vV = some (.int (if c = m0 then (0 : Int32) else -1)) ∧ Fr n0 LL ∧ hH = h0
def R5e1 (Z : State) (a : Addr) (c : Int32) (b : Addr) (kb : ClassId) (cs : Int32) (m0 : Int32) (h0 : Heap) (n0 : Nat) (U : State) (oO : Outcome) (U' : State) : Prop := ∃ vV LL, oO = .returned vV ∧ Q5e1 Z a c b kb cs m0 h0 n0 vV U'.heap LL ∧ FrameEnd U oO U' LL ({ frames := 3, cells := 0, slots := 0, locals := 46 } : Room).cells ({ frames := 3, cells := 0, slots := 0, locals := 46 } : Room).slots
set_option maxRecDepth 65536 in
set_option maxHeartbeats 40000000 in
theorem rm5e1 (l : Launch) (Z : State) (a0 : Array Value) (hw : ∀ d ∈ tables_1, d.before a0 Z = true) (hEL : EW Z a0 OwnEL) (wS : ∀ a ∈ Bundle.stringAtoms, a.before a0 Z = true) (ws : List Jvm.Cond) (a : Addr) (c : Int32) (b : Addr) (kb : ClassId) (cs : Int32) (m0 : Int32) (h0 : Heap) (n0 : Nat) (Z0 : n0 ≤ h0.size) (hp0 : Exa Z h0 a "java/lang/String") (hp1 : Fld Z h0 a "java/lang/String" "value" "[B" (.ref b)) (hp2 : Fld Z h0 a "java/lang/String" "coder" "B" (.int (0 : Int32))) (hp3 : Arv Z h0 b kb .byte (1 : Int32) [(.int (nar .byte (m0.toInt8.toInt32)))] (.int (0 : Int32))) (hp4 : Sta Z h0 "java/lang/String" "COMPACT_STRINGS" "Z" (.int cs)) (hp5 : ¬ cs = (0 : Int32)) (hp6 : In8 m0) (hp7 : In8 c) :
    MetFree l (⟨"java/lang/String", "indexOf", "(I)I"⟩ : MethodName) (head1 (Jvm.Cond.code (⟨"java/lang/String", "indexOf", "(I)I"⟩ : MethodName) jdk_42_method_79_code 2 (some .int) :: ws) ({ frames := 3, cells := 0, slots := 0, locals := 46 } : Room)) (fun aA U => aA = #[(.ref a), (.int c)] ∧ Z.Warmed39 U.vm ∧ U.heap = h0) (fun _ _ _ _ _ => True) (fun _ U oO U' => ∃ vV LL, oO = .returned vV ∧ Q5e1 Z a c b kb cs m0 h0 n0 vV U'.heap LL ∧ FrameEnd U oO U' LL ({ frames := 3, cells := 0, slots := 0, locals := 46 } : Room).cells ({ frames := 3, cells := 0, slots := 0, locals := 46 } : Room).slots) := by
  refine MetFree.of_bodySF (plainFor_of_name pn_14) hisR ?_
  intro p e s m args below meth cC s₁ Bd hml0 hP hK
  obtain ⟨rfl, hZ, hh⟩ := hP
  have hx := Bd.exec
  have hby := Bd.bytes
  have hml : cC.maxLocals = 2 := hml0
  have hown : s.vm.findClass "java/lang/String" = some m.cls := findClass_of_methodNamed Bd.named
  have hnm := (name_of_methodNamed Bd.named Bd.method).1
  have X0 : Stand p l e ({ frames := 3, cells := 0, slots := 0, locals := 46 } : Room) s m #[(.ref a), (.int c)] below meth cC s₁ [] 0 0 := Stand.of_body Bd
  have e0 : s₁.heap = h0 := by rw [← hh, Bd.state]; rfl
  have N0 := Fr.nil n0
  have Kp0 := Keep.refl h0 []
  show OwnFin p e below (R5e1 Z a c b kb cs m0 h0 n0 s) (s₁.setTop (entryFrame m #[(.ref a), (.int c)] 2))
  rw [ef_5e1 m a c]
  refine OwnFin.step (fun tT kK => XS.aloadN X0.here hx rfl (hb hby d_jdk_42_method_79_0) rfl rfl kK) ?_
  refine OwnFin.step (fun tT kK => XS.iloadN X0.here hx rfl (hb hby d_jdk_42_method_79_1) rfl kK) ?_
  show OwnFin p e below _ (s₁.setTop (mkF m 2 #[.val (.ref a), .val (.int c)] [(.int c), (.ref a)]))
  refine OwnFin.step (fun tT kK => XS.iconst X0.here hx rfl (hb hby d_jdk_42_method_79_2) kK) ?_
  obtain ⟨cq1, kq1, q1a, q1b, q1c⟩ := isOf hZ e0 hp0
  obtain ⟨_, _, ⟨T1, L1, k1, n1⟩, -, X1, ⟨Lc1, hQ1, l1, y1, z1⟩, st1⟩ := X0.virtualBack hx (y := (⟨"java/lang/String", "indexOf", "(II)I"⟩ : MethodName)) (z := (⟨"java/lang/String", "indexOf", "(II)I"⟩ : MethodName)) hown (mvT hZ (hw _ (List.mem_of_getElem? (i := 76) rfl))) (mvT hZ (hw _ (List.mem_of_getElem? (i := 77) rfl))) (notFace_of_selects (args := #[]) (mvT hZ (hw _ (List.mem_of_getElem? (i := 79) rfl)))) (mvT hZ (hw _ (List.mem_of_getElem? (i := 79) rfl))) (mvT hZ (hw _ (List.mem_of_getElem? (i := 78) rfl))) (by decide) (backOf (W := 0) (rm5d1 l Z a0 hw hEL wS [] a c b kb cs m0 h0 n0 (Nat.le_trans Z0 Kp0.1) hp0 hp1 hp2 hp3 hp4 hp5 hp6 hp7) hZ (hw _ (List.mem_of_getElem? (i := 80) rfl)) (hw _ (List.mem_of_getElem? (i := 2) rfl)) (by decide) (by decide)) q1a q1c (g := (mkF m 3 #[.val (.ref a), .val (.int c)] [(.int (0 : Int32)), (.int c), (.ref a)])) rfl (by rw [hml]; rfl) (Steps.refl _) (argsL := [(.int c), (.int (0 : Int32))]) (rest := []) (lenOf pd_82 rfl) rfl (by show 2 * 0 + _ ≤ _; exact Nat.le_of_eq rfl) (hb hby d_jdk_42_method_79_3) (fun _ _ => ⟨rfl, e0, (by decide : 0 + 0 ≤ _), (by decide : 0 + 0 ≤ _)⟩)
  dsimp only [Pt.U, Pt.locs, Pt.cells, Pt.slots] at X1 l1 y1 z1 st1 hQ1
  subst l1 y1 z1
  obtain ⟨rfl, N1q, e1⟩ := hQ1
  have N1 := Fr.app N0 N1q
  refine OwnFin.step (fun tT kK => st1.trans kK) ?_
  show OwnFin p e below _ (T1.setTop (mkF m 6 #[.val (.ref a), .val (.int c)] [(.int (if c = m0 then (0 : Int32) else -1))]))
  obtain ⟨fs2, hr2, hrun2, hended2, hW2, hsame2⟩ := X1.leave (v := (some (.int (if c = m0 then (0 : Int32) else -1)))) (fun h => by rw [Bd.returns] at h; cases h)
  refine ⟨_, _, retOut X1 hx Bd.returns rfl (Or.inl ⟨rfl, Or.inl rfl, _, rfl⟩) (hb hby d_jdk_42_method_79_6) hr2, hrun2, hended2, _, _, rfl, ?_, ⟨_, rfl⟩, hW2, hsame2.mono (by decide) (by decide)⟩
  show Q5e1 Z a c b kb cs m0 h0 n0 _ T1.heap _
  rw [e1]
  exact ⟨rfl, N1, rfl⟩
theorem ef_5a2 (m : MethodId) (b : Addr) (c : Int32) : entryFrame m #[(.ref b), (.int c), (.int (0 : Int32)), (.int (2 : Int32))] 6 = mkF m 0 #[.val (.ref b), .val (.int c), .val (.int (0 : Int32)), .val (.int (2 : Int32)), .unset, .unset] [] := by first | (simp [entryFrame, mkF, argsToLocals, Value.category]; done) | rfl
def Q5a2 (Z : State) (b : Addr) (c : Int32) (kb : ClassId) (m0 : Int32) (m1 : Int32) (h0 : Heap) (n0 : Nat) (vV : Option Value) (hH : Heap) (LL : List Loc) : Prop := vV = some (.int (if c = m0 then (0 : Int32) else if c = m1 then 1 else -1)) ∧ Fr n0 LL ∧ hH = h0
def R5a2 (Z : State) (b : Addr) (c : Int32) (kb : ClassId) (m0 : Int32) (m1 : Int32) (h0 : Heap) (n0 : Nat) (U : State) (oO : Outcome) (U' : State) : Prop := ∃ vV LL, oO = .returned vV ∧ Q5a2 Z b c kb m0 m1 h0 n0 vV U'.heap LL ∧ FrameEnd U oO U' LL ({ frames := 0, cells := 0, slots := 0, locals := 0 } : Room).cells ({ frames := 0, cells := 0, slots := 0, locals := 0 } : Room).slots
set_option maxRecDepth 65536 in
set_option maxHeartbeats 40000000 in
theorem rm5a2 (l : Launch) (Z : State) (a0 : Array Value) (hw : ∀ d ∈ tables_1, d.before a0 Z = true) (hEL : EW Z a0 OwnEL) (wS : ∀ a ∈ Bundle.stringAtoms, a.before a0 Z = true) (ws : List Jvm.Cond) (b : Addr) (c : Int32) (kb : ClassId) (m0 : Int32) (m1 : Int32) (h0 : Heap) (n0 : Nat) (Z0 : n0 ≤ h0.size) (hp0 : Arv Z h0 b kb .byte (2 : Int32) [(.int (nar .byte (m0.toInt8.toInt32))), (.int (nar .byte (m1.toInt8.toInt32)))] (.int (0 : Int32))) (hp1 : In8 m0) (hp2 : In8 m1) (hp3 : In8 c) :
    MetFree l (⟨"java/lang/StringLatin1", "indexOfChar", "([BIII)I"⟩ : MethodName) (head1 (Jvm.Cond.code (⟨"java/lang/StringLatin1", "indexOfChar", "([BIII)I"⟩ : MethodName) jdk_43_method_23_code 6 (some .int) :: ws) ({ frames := 0, cells := 0, slots := 0, locals := 0 } : Room)) (fun aA U => aA = #[(.ref b), (.int c), (.int (0 : Int32)), (.int (2 : Int32))] ∧ Z.Warmed39 U.vm ∧ U.heap = h0) (fun _ _ _ _ _ => True) (fun _ U oO U' => ∃ vV LL, oO = .returned vV ∧ Q5a2 Z b c kb m0 m1 h0 n0 vV U'.heap LL ∧ FrameEnd U oO U' LL ({ frames := 0, cells := 0, slots := 0, locals := 0 } : Room).cells ({ frames := 0, cells := 0, slots := 0, locals := 0 } : Room).slots) := by
  refine MetFree.of_bodySF (plainFor_of_name pn_44) hisR ?_
  intro p e s m args below meth cC s₁ Bd hml0 hP hK
  obtain ⟨rfl, hZ, hh⟩ := hP
  have hx := Bd.exec
  have hby := Bd.bytes
  have hml : cC.maxLocals = 6 := hml0
  have hown : s.vm.findClass "java/lang/StringLatin1" = some m.cls := findClass_of_methodNamed Bd.named
  have hnm := (name_of_methodNamed Bd.named Bd.method).1
  have X0 : Stand p l e ({ frames := 0, cells := 0, slots := 0, locals := 0 } : Room) s m #[(.ref b), (.int c), (.int (0 : Int32)), (.int (2 : Int32))] below meth cC s₁ [] 0 0 := Stand.of_body Bd
  have e0 : s₁.heap = h0 := by rw [← hh, Bd.state]; rfl
  have N0 := Fr.nil n0
  have Kp0 := Keep.refl h0 []
  show OwnFin p e below (R5a2 Z b c kb m0 m1 h0 n0 s) (s₁.setTop (entryFrame m #[(.ref b), (.int c), (.int (0 : Int32)), (.int (2 : Int32))] 6))
  rw [ef_5a2 m b c]
  refine OwnFin.step (fun tT kK => XS.iloadN X0.here hx rfl (hb hby d_jdk_43_method_23_0) rfl kK) ?_
  refine OwnFin.step (fun tT kK => XS.i2b X0.here hx rfl (hb hby d_jdk_43_method_23_1) rfl kK) ?_
  show OwnFin p e below _ (s₁.setTop (mkF m 2 #[.val (.ref b), .val (.int c), .val (.int (0 : Int32)), .val (.int (2 : Int32)), .unset, .unset] [(.int (c.toInt8.toInt32))]))
  refine OwnFin.step (fun tT kK => XS.istore X0.here hx rfl (hb hby d_jdk_43_method_23_2) rfl (l' := #[.val (.ref b), .val (.int c), .val (.int (0 : Int32)), .val (.int (2 : Int32)), .val (.int (c.toInt8.toInt32)), .unset]) rfl kK) ?_
  refine OwnFin.step (fun tT kK => XS.iloadN X0.here hx rfl (hb hby d_jdk_43_method_23_4) rfl kK) ?_
  show OwnFin p e below _ (s₁.setTop (mkF m 5 #[.val (.ref b), .val (.int c), .val (.int (0 : Int32)), .val (.int (2 : Int32)), .val (.int (c.toInt8.toInt32)), .unset] [(.int (0 : Int32))]))
  refine OwnFin.step (fun tT kK => XS.istore X0.here hx rfl (hb hby d_jdk_43_method_23_5) rfl (l' := #[.val (.ref b), .val (.int c), .val (.int (0 : Int32)), .val (.int (2 : Int32)), .val (.int (c.toInt8.toInt32)), .val (.int (0 : Int32))]) rfl kK) ?_
  refine OwnFin.step (fun tT kK => XS.iload X0.here hx rfl (hb hby d_jdk_43_method_23_7) rfl kK) ?_
  show OwnFin p e below _ (s₁.setTop (mkF m 9 #[.val (.ref b), .val (.int c), .val (.int (0 : Int32)), .val (.int (2 : Int32)), .val (.int (c.toInt8.toInt32)), .val (.int (0 : Int32))] [(.int (0 : Int32))]))
  refine OwnFin.step (fun tT kK => XS.iloadN X0.here hx rfl (hb hby d_jdk_43_method_23_9) rfl kK) ?_
  refine OwnFin.step (fun tT kK => XS.icmpNo X0.here hx rfl (hb hby d_jdk_43_method_23_10) rfl (tlt (by decide : (0 : Int32) < (2 : Int32))).2.1 kK) ?_
  show OwnFin p e below _ (s₁.setTop (mkF m 13 #[.val (.ref b), .val (.int c), .val (.int (0 : Int32)), .val (.int (2 : Int32)), .val (.int (c.toInt8.toInt32)), .val (.int (0 : Int32))] []))
  refine OwnFin.step (fun tT kK => XS.aloadN X0.here hx rfl (hb hby d_jdk_43_method_23_13) rfl rfl kK) ?_
  show OwnFin p e below _ (s₁.setTop (mkF m 14 #[.val (.ref b), .val (.int c), .val (.int (0 : Int32)), .val (.int (2 : Int32)), .val (.int (c.toInt8.toInt32)), .val (.int (0 : Int32))] [(.ref b)]))
  refine OwnFin.step (fun tT kK => XS.iload X0.here hx rfl (hb hby d_jdk_43_method_23_14) rfl kK) ?_
  obtain ⟨cl1, Ar1, q1, Sz1, Ng1, H1, G1⟩ := id hp0
  have hin1 : ¬ ((0 : Int32) < 0 ∨ cl1.slots.size ≤ ((0 : Int32)).toNatClampNeg) := inb_of Sz1 ⟨by decide, by decide⟩
  refine OwnFin.step (fun tT kK => X0.baloadBytes hx (j := (0 : Int32)) (v := (.int (nar .byte (m0.toInt8.toInt32)))) (by rw [e0]; exact Ar1.1) (State.isArrayOf_alike hZ.alike Ar1.2.1) Ar1.2.2 hin1 (H1.at hin1 rfl) (g := (mkF m 16 #[.val (.ref b), .val (.int c), .val (.int (0 : Int32)), .val (.int (2 : Int32)), .val (.int (c.toInt8.toInt32)), .val (.int (0 : Int32))] [(.int (0 : Int32)), (.ref b)])) rfl rfl (hb hby d_jdk_43_method_23_16) _ kK) ?_
  show OwnFin p e below _ (s₁.setTop (mkF m 17 #[.val (.ref b), .val (.int c), .val (.int (0 : Int32)), .val (.int (2 : Int32)), .val (.int (c.toInt8.toInt32)), .val (.int (0 : Int32))] [(.int (nar .byte (m0.toInt8.toInt32)))]))
  refine OwnFin.step (fun tT kK => XS.iload X0.here hx rfl (hb hby d_jdk_43_method_23_17) rfl kK) ?_
  show OwnFin p e below _ (s₁.setTop (mkF m 19 #[.val (.ref b), .val (.int c), .val (.int (0 : Int32)), .val (.int (2 : Int32)), .val (.int (c.toInt8.toInt32)), .val (.int (0 : Int32))] [(.int (c.toInt8.toInt32)), (.int (nar .byte (m0.toInt8.toInt32)))]))
  by_cases hc2 : (nar .byte (m0.toInt8.toInt32)) = (c.toInt8.toInt32)
  · skip
    refine OwnFin.step (fun tT kK => XS.icmpNo X0.here hx rfl (hb hby d_jdk_43_method_23_19) rfl (teq (hc2 : (nar .byte (m0.toInt8.toInt32)) = (c.toInt8.toInt32))).2 kK) ?_
    show OwnFin p e below _ (s₁.setTop (mkF m 22 #[.val (.ref b), .val (.int c), .val (.int (0 : Int32)), .val (.int (2 : Int32)), .val (.int (c.toInt8.toInt32)), .val (.int (0 : Int32))] []))
    refine OwnFin.step (fun tT kK => XS.iload X0.here hx rfl (hb hby d_jdk_43_method_23_22) rfl kK) ?_
    obtain ⟨fs3, hr3, hrun3, hended3, hW3, hsame3⟩ := X0.leave (v := (some (.int (0 : Int32)))) (fun h => by rw [Bd.returns] at h; cases h)
    refine ⟨_, _, retOut X0 hx Bd.returns rfl (Or.inl ⟨rfl, Or.inl rfl, _, rfl⟩) (hb hby d_jdk_43_method_23_24) hr3, hrun3, hended3, _, _, rfl, ?_, ⟨_, rfl⟩, hW3, hsame3.mono (by decide) (by decide)⟩
    show Q5a2 Z b c kb m0 m1 h0 n0 _ s₁.heap _
    rw [e0]
    exact ⟨(by rw [if_pos ((own_by hp1 hp3).mp hc2)]), N0, rfl⟩
  · skip
    refine OwnFin.step (fun tT kK => XS.icmpYes X0.here hx rfl (pc0 := 19) (pc' := 25) rfl (hb hby d_jdk_43_method_23_19) rfl (feq (hc2 : ¬ ((nar .byte (m0.toInt8.toInt32)) = (c.toInt8.toInt32)))).2 (by decide) (by decide) kK) ?_
    show OwnFin p e below _ (s₁.setTop (mkF m 25 #[.val (.ref b), .val (.int c), .val (.int (0 : Int32)), .val (.int (2 : Int32)), .val (.int (c.toInt8.toInt32)), .val (.int (0 : Int32))] []))
    have hn0 : ¬ c = m0 := fun q => hc2 ((own_by hp1 hp3).mpr q)
    refine OwnFin.step (fun tT kK => XS.iinc X0.here hx rfl (hb hby d_jdk_43_method_23_25) rfl (l' := #[.val (.ref b), .val (.int c), .val (.int (0 : Int32)), .val (.int (2 : Int32)), .val (.int (c.toInt8.toInt32)), .val (.int (1 : Int32))]) rfl kK) ?_
    refine OwnFin.step (fun tT kK => XS.goto X0.here hx rfl (pc0 := 28) (pc' := 7) rfl (hb hby d_jdk_43_method_23_28) (by decide) (by decide) kK) ?_
    show OwnFin p e below _ (s₁.setTop (mkF m 7 #[.val (.ref b), .val (.int c), .val (.int (0 : Int32)), .val (.int (2 : Int32)), .val (.int (c.toInt8.toInt32)), .val (.int (1 : Int32))] []))
    refine OwnFin.step (fun tT kK => XS.iload X0.here hx rfl (hb hby d_jdk_43_method_23_7) rfl kK) ?_
    show OwnFin p e below _ (s₁.setTop (mkF m 9 #[.val (.ref b), .val (.int c), .val (.int (0 : Int32)), .val (.int (2 : Int32)), .val (.int (c.toInt8.toInt32)), .val (.int (1 : Int32))] [(.int (1 : Int32))]))
    refine OwnFin.step (fun tT kK => XS.iloadN X0.here hx rfl (hb hby d_jdk_43_method_23_9) rfl kK) ?_
    refine OwnFin.step (fun tT kK => XS.icmpNo X0.here hx rfl (hb hby d_jdk_43_method_23_10) rfl (tlt (by decide : (1 : Int32) < (2 : Int32))).2.1 kK) ?_
    show OwnFin p e below _ (s₁.setTop (mkF m 13 #[.val (.ref b), .val (.int c), .val (.int (0 : Int32)), .val (.int (2 : Int32)), .val (.int (c.toInt8.toInt32)), .val (.int (1 : Int32))] []))
    refine OwnFin.step (fun tT kK => XS.aloadN X0.here hx rfl (hb hby d_jdk_43_method_23_13) rfl rfl kK) ?_
    show OwnFin p e below _ (s₁.setTop (mkF m 14 #[.val (.ref b), .val (.int c), .val (.int (0 : Int32)), .val (.int (2 : Int32)), .val (.int (c.toInt8.toInt32)), .val (.int (1 : Int32))] [(.ref b)]))
    refine OwnFin.step (fun tT kK => XS.iload X0.here hx rfl (hb hby d_jdk_43_method_23_14) rfl kK) ?_
    obtain ⟨cl4, Ar4, q4, Sz4, Ng4, H4, G4⟩ := id hp0
    have hin4 : ¬ ((1 : Int32) < 0 ∨ cl4.slots.size ≤ ((1 : Int32)).toNatClampNeg) := inb_of Sz4 ⟨by decide, by decide⟩
    refine OwnFin.step (fun tT kK => X0.baloadBytes hx (j := (1 : Int32)) (v := (.int (nar .byte (m1.toInt8.toInt32)))) (by rw [e0]; exact Ar4.1) (State.isArrayOf_alike hZ.alike Ar4.2.1) Ar4.2.2 hin4 (H4.at hin4 rfl) (g := (mkF m 16 #[.val (.ref b), .val (.int c), .val (.int (0 : Int32)), .val (.int (2 : Int32)), .val (.int (c.toInt8.toInt32)), .val (.int (1 : Int32))] [(.int (1 : Int32)), (.ref b)])) rfl rfl (hb hby d_jdk_43_method_23_16) _ kK) ?_
    show OwnFin p e below _ (s₁.setTop (mkF m 17 #[.val (.ref b), .val (.int c), .val (.int (0 : Int32)), .val (.int (2 : Int32)), .val (.int (c.toInt8.toInt32)), .val (.int (1 : Int32))] [(.int (nar .byte (m1.toInt8.toInt32)))]))
    refine OwnFin.step (fun tT kK => XS.iload X0.here hx rfl (hb hby d_jdk_43_method_23_17) rfl kK) ?_
    show OwnFin p e below _ (s₁.setTop (mkF m 19 #[.val (.ref b), .val (.int c), .val (.int (0 : Int32)), .val (.int (2 : Int32)), .val (.int (c.toInt8.toInt32)), .val (.int (1 : Int32))] [(.int (c.toInt8.toInt32)), (.int (nar .byte (m1.toInt8.toInt32)))]))
    by_cases hc5 : (nar .byte (m1.toInt8.toInt32)) = (c.toInt8.toInt32)
    · skip
      refine OwnFin.step (fun tT kK => XS.icmpNo X0.here hx rfl (hb hby d_jdk_43_method_23_19) rfl (teq (hc5 : (nar .byte (m1.toInt8.toInt32)) = (c.toInt8.toInt32))).2 kK) ?_
      show OwnFin p e below _ (s₁.setTop (mkF m 22 #[.val (.ref b), .val (.int c), .val (.int (0 : Int32)), .val (.int (2 : Int32)), .val (.int (c.toInt8.toInt32)), .val (.int (1 : Int32))] []))
      refine OwnFin.step (fun tT kK => XS.iload X0.here hx rfl (hb hby d_jdk_43_method_23_22) rfl kK) ?_
      obtain ⟨fs6, hr6, hrun6, hended6, hW6, hsame6⟩ := X0.leave (v := (some (.int (1 : Int32)))) (fun h => by rw [Bd.returns] at h; cases h)
      refine ⟨_, _, retOut X0 hx Bd.returns rfl (Or.inl ⟨rfl, Or.inl rfl, _, rfl⟩) (hb hby d_jdk_43_method_23_24) hr6, hrun6, hended6, _, _, rfl, ?_, ⟨_, rfl⟩, hW6, hsame6.mono (by decide) (by decide)⟩
      show Q5a2 Z b c kb m0 m1 h0 n0 _ s₁.heap _
      rw [e0]
      exact ⟨(by rw [if_neg hn0, if_pos ((own_by hp2 hp3).mp hc5)]), N0, rfl⟩
    · skip
      refine OwnFin.step (fun tT kK => XS.icmpYes X0.here hx rfl (pc0 := 19) (pc' := 25) rfl (hb hby d_jdk_43_method_23_19) rfl (feq (hc5 : ¬ ((nar .byte (m1.toInt8.toInt32)) = (c.toInt8.toInt32)))).2 (by decide) (by decide) kK) ?_
      show OwnFin p e below _ (s₁.setTop (mkF m 25 #[.val (.ref b), .val (.int c), .val (.int (0 : Int32)), .val (.int (2 : Int32)), .val (.int (c.toInt8.toInt32)), .val (.int (1 : Int32))] []))
      have hn1 : ¬ c = m1 := fun q => hc5 ((own_by hp2 hp3).mpr q)
      refine OwnFin.step (fun tT kK => XS.iinc X0.here hx rfl (hb hby d_jdk_43_method_23_25) rfl (l' := #[.val (.ref b), .val (.int c), .val (.int (0 : Int32)), .val (.int (2 : Int32)), .val (.int (c.toInt8.toInt32)), .val (.int (2 : Int32))]) rfl kK) ?_
      refine OwnFin.step (fun tT kK => XS.goto X0.here hx rfl (pc0 := 28) (pc' := 7) rfl (hb hby d_jdk_43_method_23_28) (by decide) (by decide) kK) ?_
      show OwnFin p e below _ (s₁.setTop (mkF m 7 #[.val (.ref b), .val (.int c), .val (.int (0 : Int32)), .val (.int (2 : Int32)), .val (.int (c.toInt8.toInt32)), .val (.int (2 : Int32))] []))
      refine OwnFin.step (fun tT kK => XS.iload X0.here hx rfl (hb hby d_jdk_43_method_23_7) rfl kK) ?_
      show OwnFin p e below _ (s₁.setTop (mkF m 9 #[.val (.ref b), .val (.int c), .val (.int (0 : Int32)), .val (.int (2 : Int32)), .val (.int (c.toInt8.toInt32)), .val (.int (2 : Int32))] [(.int (2 : Int32))]))
      refine OwnFin.step (fun tT kK => XS.iloadN X0.here hx rfl (hb hby d_jdk_43_method_23_9) rfl kK) ?_
      refine OwnFin.step (fun tT kK => XS.icmpYes X0.here hx rfl (pc0 := 10) (pc' := 31) rfl (hb hby d_jdk_43_method_23_10) rfl (flt (by decide : ¬ ((2 : Int32) < (2 : Int32)))).2.1 (by decide) (by decide) kK) ?_
      show OwnFin p e below _ (s₁.setTop (mkF m 31 #[.val (.ref b), .val (.int c), .val (.int (0 : Int32)), .val (.int (2 : Int32)), .val (.int (c.toInt8.toInt32)), .val (.int (2 : Int32))] []))
      refine OwnFin.step (fun tT kK => XS.iconst X0.here hx rfl (hb hby d_jdk_43_method_23_31) kK) ?_
      show OwnFin p e below _ (s₁.setTop (mkF m 32 #[.val (.ref b), .val (.int c), .val (.int (0 : Int32)), .val (.int (2 : Int32)), .val (.int (c.toInt8.toInt32)), .val (.int (2 : Int32))] [(.int (-1 : Int32))]))
      obtain ⟨fs7, hr7, hrun7, hended7, hW7, hsame7⟩ := X0.leave (v := (some (.int (-1 : Int32)))) (fun h => by rw [Bd.returns] at h; cases h)
      refine ⟨_, _, retOut X0 hx Bd.returns rfl (Or.inl ⟨rfl, Or.inl rfl, _, rfl⟩) (hb hby d_jdk_43_method_23_32) hr7, hrun7, hended7, _, _, rfl, ?_, ⟨_, rfl⟩, hW7, hsame7.mono (by decide) (by decide)⟩
      show Q5a2 Z b c kb m0 m1 h0 n0 _ s₁.heap _
      rw [e0]
      exact ⟨(by simp [hn0, hn1]), N0, rfl⟩
theorem ef_5b2 (m : MethodId) (b : Addr) (c : Int32) : entryFrame m #[(.ref b), (.int c), (.int (0 : Int32)), (.int (2 : Int32))] 4 = mkF m 0 #[.val (.ref b), .val (.int c), .val (.int (0 : Int32)), .val (.int (2 : Int32))] [] := by first | (simp [entryFrame, mkF, argsToLocals, Value.category]; done) | rfl
def Q5b2 (Z : State) (b : Addr) (c : Int32) (kb : ClassId) (m0 : Int32) (m1 : Int32) (h0 : Heap) (n0 : Nat) (vV : Option Value) (hH : Heap) (LL : List Loc) : Prop := vV = some (.int (if c = m0 then (0 : Int32) else if c = m1 then 1 else -1)) ∧ Fr n0 LL ∧ hH = h0
def R5b2 (Z : State) (b : Addr) (c : Int32) (kb : ClassId) (m0 : Int32) (m1 : Int32) (h0 : Heap) (n0 : Nat) (U : State) (oO : Outcome) (U' : State) : Prop := ∃ vV LL, oO = .returned vV ∧ Q5b2 Z b c kb m0 m1 h0 n0 vV U'.heap LL ∧ FrameEnd U oO U' LL ({ frames := 1, cells := 0, slots := 0, locals := 17 } : Room).cells ({ frames := 1, cells := 0, slots := 0, locals := 17 } : Room).slots
set_option maxRecDepth 65536 in
set_option maxHeartbeats 40000000 in
theorem rm5b2 (l : Launch) (Z : State) (a0 : Array Value) (hw : ∀ d ∈ tables_1, d.before a0 Z = true) (hEL : EW Z a0 OwnEL) (wS : ∀ a ∈ Bundle.stringAtoms, a.before a0 Z = true) (ws : List Jvm.Cond) (b : Addr) (c : Int32) (kb : ClassId) (m0 : Int32) (m1 : Int32) (h0 : Heap) (n0 : Nat) (Z0 : n0 ≤ h0.size) (hp0 : Arv Z h0 b kb .byte (2 : Int32) [(.int (nar .byte (m0.toInt8.toInt32))), (.int (nar .byte (m1.toInt8.toInt32)))] (.int (0 : Int32))) (hp1 : In8 m0) (hp2 : In8 m1) (hp3 : In8 c) :
    MetFree l (⟨"java/lang/StringLatin1", "indexOf", "([BIII)I"⟩ : MethodName) (head1 (Jvm.Cond.code (⟨"java/lang/StringLatin1", "indexOf", "([BIII)I"⟩ : MethodName) jdk_43_method_22_code 4 (some .int) :: ws) ({ frames := 1, cells := 0, slots := 0, locals := 17 } : Room)) (fun aA U => aA = #[(.ref b), (.int c), (.int (0 : Int32)), (.int (2 : Int32))] ∧ Z.Warmed39 U.vm ∧ U.heap = h0) (fun _ _ _ _ _ => True) (fun _ U oO U' => ∃ vV LL, oO = .returned vV ∧ Q5b2 Z b c kb m0 m1 h0 n0 vV U'.heap LL ∧ FrameEnd U oO U' LL ({ frames := 1, cells := 0, slots := 0, locals := 17 } : Room).cells ({ frames := 1, cells := 0, slots := 0, locals := 17 } : Room).slots) := by
  refine MetFree.of_bodySF (plainFor_of_name pn_44) hisR ?_
  intro p e s m args below meth cC s₁ Bd hml0 hP hK
  obtain ⟨rfl, hZ, hh⟩ := hP
  have hx := Bd.exec
  have hby := Bd.bytes
  have hml : cC.maxLocals = 4 := hml0
  have hown : s.vm.findClass "java/lang/StringLatin1" = some m.cls := findClass_of_methodNamed Bd.named
  have hnm := (name_of_methodNamed Bd.named Bd.method).1
  have X0 : Stand p l e ({ frames := 1, cells := 0, slots := 0, locals := 17 } : Room) s m #[(.ref b), (.int c), (.int (0 : Int32)), (.int (2 : Int32))] below meth cC s₁ [] 0 0 := Stand.of_body Bd
  have e0 : s₁.heap = h0 := by rw [← hh, Bd.state]; rfl
  have N0 := Fr.nil n0
  have Kp0 := Keep.refl h0 []
  show OwnFin p e below (R5b2 Z b c kb m0 m1 h0 n0 s) (s₁.setTop (entryFrame m #[(.ref b), (.int c), (.int (0 : Int32)), (.int (2 : Int32))] 4))
  rw [ef_5b2 m b c]
  refine OwnFin.step (fun tT kK => XS.iloadN X0.here hx rfl (hb hby d_jdk_43_method_22_0) rfl kK) ?_
  obtain ⟨_, _, ⟨T1, L1, k1, n1⟩, -, X1, ⟨Lc1, hQ1, l1, y1, z1⟩, st1⟩ := Jvm.LawKit.callS X0 hx (y := (⟨"java/lang/StringLatin1", "canEncode", "(I)Z"⟩ : MethodName)) hown (mvT hZ (hw _ (List.mem_of_getElem? (i := 94) rfl))) (mvT hZ (hw _ (List.mem_of_getElem? (i := 95) rfl))) (mvT hZ (hw _ (List.mem_of_getElem? (i := 61) rfl))) (mvT hZ (hw _ (List.mem_of_getElem? (i := 96) rfl))) (by decide) (backOf (W := 0) (rm4a l Z a0 hw hEL wS [] c h0 n0 (Nat.le_trans Z0 Kp0.1) hp3) hZ (hw _ (List.mem_of_getElem? (i := 96) rfl)) (hw _ (List.mem_of_getElem? (i := 61) rfl)) (by decide) (by decide)) (g := (mkF m 1 #[.val (.ref b), .val (.int c), .val (.int (0 : Int32)), .val (.int (2 : Int32))] [(.int c)])) rfl (by rw [hml]; rfl) (argsL := [(.int c)]) (rest := []) (lenOf pd_77 rfl) rfl (by show 2 * 0 + _ ≤ _; exact Nat.le_of_eq rfl) (hb hby d_jdk_43_method_22_1) (fun _ _ => ⟨rfl, e0, (by decide : 0 + 0 ≤ _), (by decide : 0 + 0 ≤ _)⟩)
  dsimp only [Pt.U, Pt.locs, Pt.cells, Pt.slots] at X1 l1 y1 z1 st1 hQ1
  subst l1 y1 z1
  obtain ⟨rfl, N1q, e1⟩ := hQ1
  have N1 := Fr.app N0 N1q
  refine OwnFin.step st1 ?_
  show OwnFin p e below _ (T1.setTop (mkF m 4 #[.val (.ref b), .val (.int c), .val (.int (0 : Int32)), .val (.int (2 : Int32))] [(.int (1 : Int32))]))
  refine OwnFin.step (fun tT kK => XS.ifYes X1.here hx rfl (pc0 := 4) (pc' := 9) rfl (hb hby d_jdk_43_method_22_4) rfl ((if0 _ _).trans (feq (by decide : ¬ ((1 : Int32) = (0 : Int32)))).2) (by decide) (by decide) kK) ?_
  show OwnFin p e below _ (T1.setTop (mkF m 9 #[.val (.ref b), .val (.int c), .val (.int (0 : Int32)), .val (.int (2 : Int32))] []))
  refine OwnFin.step (fun tT kK => XS.iloadN X1.here hx rfl (hb hby d_jdk_43_method_22_9) rfl kK) ?_
  show OwnFin p e below _ (T1.setTop (mkF m 10 #[.val (.ref b), .val (.int c), .val (.int (0 : Int32)), .val (.int (2 : Int32))] [(.int (0 : Int32))]))
  refine OwnFin.step (fun tT kK => XS.iconst X1.here hx rfl (hb hby d_jdk_43_method_22_10) kK) ?_
  obtain ⟨_, _, ⟨T2, L2, k2, n2⟩, -, X2, ⟨Lc2, hQ2, l2, y2, z2⟩, st2⟩ := Jvm.LawKit.callS X1 hx (y := (⟨"java/lang/Math", "max", "(II)I"⟩ : MethodName)) hown (mvT hZ (hw _ (List.mem_of_getElem? (i := 97) rfl))) (mvT hZ (hw _ (List.mem_of_getElem? (i := 39) rfl))) (mvT hZ (hw _ (List.mem_of_getElem? (i := 36) rfl))) (mvT hZ (hw _ (List.mem_of_getElem? (i := 40) rfl))) (by decide) (backOf (W := 0) (rm1a l Z a0 hw hEL wS [] (0 : Int32) (0 : Int32) h0 n0 (Nat.le_trans Z0 Kp0.1) ) hZ (hw _ (List.mem_of_getElem? (i := 40) rfl)) (hw _ (List.mem_of_getElem? (i := 36) rfl)) (by decide) (by decide)) (g := (mkF m 11 #[.val (.ref b), .val (.int c), .val (.int (0 : Int32)), .val (.int (2 : Int32))] [(.int (0 : Int32)), (.int (0 : Int32))])) rfl (by rw [hml]; rfl) (argsL := [(.int (0 : Int32)), (.int (0 : Int32))]) (rest := []) (lenOf pd_82 rfl) rfl (by show 2 * 0 + _ ≤ _; exact Nat.le_of_eq rfl) (hb hby d_jdk_43_method_22_11) (fun _ _ => ⟨rfl, e1, (by decide : 0 + 0 ≤ _), (by decide : 0 + 0 ≤ _)⟩)
  dsimp only [Pt.U, Pt.locs, Pt.cells, Pt.slots] at X2 l2 y2 z2 st2 hQ2
  subst l2 y2 z2
  obtain ⟨rfl, N2q, e2⟩ := hQ2
  have N2 := Fr.app N1 N2q
  refine OwnFin.step st2 ?_
  show OwnFin p e below _ (T2.setTop (mkF m 14 #[.val (.ref b), .val (.int c), .val (.int (0 : Int32)), .val (.int (2 : Int32))] [(.int (if (0 : Int32) < (0 : Int32) then (0 : Int32) else (0 : Int32)))]))
  rw [if_neg (by decide)]
  show OwnFin p e below _ (T2.setTop (mkF m 14 #[.val (.ref b), .val (.int c), .val (.int (0 : Int32)), .val (.int (2 : Int32))] [(.int (0 : Int32))]))
  refine OwnFin.step (fun tT kK => XS.istoreN X2.here hx rfl (hb hby d_jdk_43_method_22_14) rfl (l' := #[.val (.ref b), .val (.int c), .val (.int (0 : Int32)), .val (.int (2 : Int32))]) rfl kK) ?_
  show OwnFin p e below _ (T2.setTop (mkF m 15 #[.val (.ref b), .val (.int c), .val (.int (0 : Int32)), .val (.int (2 : Int32))] []))
  refine OwnFin.step (fun tT kK => XS.iloadN X2.here hx rfl (hb hby d_jdk_43_method_22_15) rfl kK) ?_
  refine OwnFin.step (fun tT kK => XS.aloadN X2.here hx rfl (hb hby d_jdk_43_method_22_16) rfl rfl kK) ?_
  show OwnFin p e below _ (T2.setTop (mkF m 17 #[.val (.ref b), .val (.int c), .val (.int (0 : Int32)), .val (.int (2 : Int32))] [(.ref b), (.int (2 : Int32))]))
  obtain ⟨cl3, Ar3, -, Sz3, Ng3, -, -⟩ := id hp0
  refine OwnFin.step (fun tT kK => own_len X2 hx hZ e2 Ar3 Sz3 Ng3 (g := (mkF m 17 #[.val (.ref b), .val (.int c), .val (.int (0 : Int32)), .val (.int (2 : Int32))] [(.ref b), (.int (2 : Int32))])) rfl rfl (hb hby d_jdk_43_method_22_17) kK) ?_
  obtain ⟨_, _, ⟨T4, L4, k4, n4⟩, -, X4, ⟨Lc4, hQ4, l4, y4, z4⟩, st4⟩ := Jvm.LawKit.callS X2 hx (y := (⟨"java/lang/Math", "min", "(II)I"⟩ : MethodName)) hown (mvT hZ (hw _ (List.mem_of_getElem? (i := 98) rfl))) (mvT hZ (hw _ (List.mem_of_getElem? (i := 35) rfl))) (mvT hZ (hw _ (List.mem_of_getElem? (i := 36) rfl))) (mvT hZ (hw _ (List.mem_of_getElem? (i := 37) rfl))) (by decide) (backOf (W := 0) (rm1b l Z a0 hw hEL wS [] (2 : Int32) (2 : Int32) h0 n0 (Nat.le_trans Z0 Kp0.1) ) hZ (hw _ (List.mem_of_getElem? (i := 37) rfl)) (hw _ (List.mem_of_getElem? (i := 36) rfl)) (by decide) (by decide)) (g := (mkF m 18 #[.val (.ref b), .val (.int c), .val (.int (0 : Int32)), .val (.int (2 : Int32))] [(.int (2 : Int32)), (.int (2 : Int32))])) rfl (by rw [hml]; rfl) (argsL := [(.int (2 : Int32)), (.int (2 : Int32))]) (rest := []) (lenOf pd_82 rfl) rfl (by show 2 * 0 + _ ≤ _; exact Nat.le_of_eq rfl) (hb hby d_jdk_43_method_22_18) (fun _ _ => ⟨rfl, e2, (by decide : 0 + 0 ≤ _), (by decide : 0 + 0 ≤ _)⟩)
  dsimp only [Pt.U, Pt.locs, Pt.cells, Pt.slots] at X4 l4 y4 z4 st4 hQ4
  subst l4 y4 z4
  obtain ⟨rfl, N4q, e4⟩ := hQ4
  have N4 := Fr.app N2 N4q
  refine OwnFin.step st4 ?_
  show OwnFin p e below _ (T4.setTop (mkF m 21 #[.val (.ref b), .val (.int c), .val (.int (0 : Int32)), .val (.int (2 : Int32))] [(.int (if (2 : Int32) < (2 : Int32) then (2 : Int32) else (2 : Int32)))]))
  rw [if_neg (by decide)]
  show OwnFin p e below _ (T4.setTop (mkF m 21 #[.val (.ref b), .val (.int c), .val (.int (0 : Int32)), .val (.int (2 : Int32))] [(.int (2 : Int32))]))
  refine OwnFin.step (fun tT kK => XS.istoreN X4.here hx rfl (hb hby d_jdk_43_method_22_21) rfl (l' := #[.val (.ref b), .val (.int c), .val (.int (0 : Int32)), .val (.int (2 : Int32))]) rfl kK) ?_
  show OwnFin p e below _ (T4.setTop (mkF m 22 #[.val (.ref b), .val (.int c), .val (.int (0 : Int32)), .val (.int (2 : Int32))] []))
  refine OwnFin.step (fun tT kK => XS.iloadN X4.here hx rfl (hb hby d_jdk_43_method_22_22) rfl kK) ?_
  refine OwnFin.step (fun tT kK => XS.iloadN X4.here hx rfl (hb hby d_jdk_43_method_22_23) rfl kK) ?_
  show OwnFin p e below _ (T4.setTop (mkF m 24 #[.val (.ref b), .val (.int c), .val (.int (0 : Int32)), .val (.int (2 : Int32))] [(.int (2 : Int32)), (.int (0 : Int32))]))
  refine OwnFin.step (fun tT kK => XS.icmpYes X4.here hx rfl (pc0 := 24) (pc' := 29) rfl (hb hby d_jdk_43_method_22_24) rfl (tlt (by decide : (0 : Int32) < (2 : Int32))).1 (by decide) (by decide) kK) ?_
  show OwnFin p e below _ (T4.setTop (mkF m 29 #[.val (.ref b), .val (.int c), .val (.int (0 : Int32)), .val (.int (2 : Int32))] []))
  refine OwnFin.step (fun tT kK => XS.aloadN X4.here hx rfl (hb hby d_jdk_43_method_22_29) rfl rfl kK) ?_
  refine OwnFin.step (fun tT kK => XS.iloadN X4.here hx rfl (hb hby d_jdk_43_method_22_30) rfl kK) ?_
  show OwnFin p e below _ (T4.setTop (mkF m 31 #[.val (.ref b), .val (.int c), .val (.int (0 : Int32)), .val (.int (2 : Int32))] [(.int c), (.ref b)]))
  refine OwnFin.step (fun tT kK => XS.iloadN X4.here hx rfl (hb hby d_jdk_43_method_22_31) rfl kK) ?_
  refine OwnFin.step (fun tT kK => XS.iloadN X4.here hx rfl (hb hby d_jdk_43_method_22_32) rfl kK) ?_
  show OwnFin p e below _ (T4.setTop (mkF m 33 #[.val (.ref b), .val (.int c), .val (.int (0 : Int32)), .val (.int (2 : Int32))] [(.int (2 : Int32)), (.int (0 : Int32)), (.int c), (.ref b)]))
  obtain ⟨_, _, ⟨T5, L5, k5, n5⟩, -, X5, ⟨Lc5, hQ5, l5, y5, z5⟩, st5⟩ := Jvm.LawKit.callS X4 hx (y := (⟨"java/lang/StringLatin1", "indexOfChar", "([BIII)I"⟩ : MethodName)) hown (mvT hZ (hw _ (List.mem_of_getElem? (i := 112) rfl))) (mvT hZ (hw _ (List.mem_of_getElem? (i := 113) rfl))) (mvT hZ (hw _ (List.mem_of_getElem? (i := 61) rfl))) (mvT hZ (hw _ (List.mem_of_getElem? (i := 114) rfl))) (by decide) (backOf (W := 0) (rm5a2 l Z a0 hw hEL wS [] b c kb m0 m1 h0 n0 (Nat.le_trans Z0 Kp0.1) hp0 hp1 hp2 hp3) hZ (hw _ (List.mem_of_getElem? (i := 114) rfl)) (hw _ (List.mem_of_getElem? (i := 61) rfl)) (by decide) (by decide)) (g := (mkF m 33 #[.val (.ref b), .val (.int c), .val (.int (0 : Int32)), .val (.int (2 : Int32))] [(.int (2 : Int32)), (.int (0 : Int32)), (.int c), (.ref b)])) rfl (by rw [hml]; rfl) (argsL := [(.ref b), (.int c), (.int (0 : Int32)), (.int (2 : Int32))]) (rest := []) (lenOf pd_113 rfl) rfl (by show 2 * 0 + _ ≤ _; exact Nat.le_of_eq rfl) (hb hby d_jdk_43_method_22_33) (fun _ _ => ⟨rfl, e4, (by decide : 0 + 0 ≤ _), (by decide : 0 + 0 ≤ _)⟩)
  dsimp only [Pt.U, Pt.locs, Pt.cells, Pt.slots] at X5 l5 y5 z5 st5 hQ5
  subst l5 y5 z5
  obtain ⟨rfl, N5q, e5⟩ := hQ5
  have N5 := Fr.app N4 N5q
  refine OwnFin.step st5 ?_
  show OwnFin p e below _ (T5.setTop (mkF m 36 #[.val (.ref b), .val (.int c), .val (.int (0 : Int32)), .val (.int (2 : Int32))] [(.int (if c = m0 then (0 : Int32) else if c = m1 then 1 else -1))]))
  obtain ⟨fs6, hr6, hrun6, hended6, hW6, hsame6⟩ := X5.leave (v := (some (.int (if c = m0 then (0 : Int32) else if c = m1 then 1 else -1)))) (fun h => by rw [Bd.returns] at h; cases h)
  refine ⟨_, _, retOut X5 hx Bd.returns rfl (Or.inl ⟨rfl, Or.inl rfl, _, rfl⟩) (hb hby d_jdk_43_method_22_36) hr6, hrun6, hended6, _, _, rfl, ?_, ⟨_, rfl⟩, hW6, hsame6.mono (by decide) (by decide)⟩
  show Q5b2 Z b c kb m0 m1 h0 n0 _ T5.heap _
  rw [e5]
  exact ⟨rfl, N5, rfl⟩
theorem ef_5c2 (m : MethodId) (a : Addr) : entryFrame m #[(.ref a)] 1 = mkF m 0 #[.val (.ref a)] [] := by first | (simp [entryFrame, mkF, argsToLocals, Value.category]; done) | rfl
def Q5c2 (Z : State) (a : Addr) (b : Addr) (kb : ClassId) (cs : Int32) (m0 : Int32) (m1 : Int32) (h0 : Heap) (n0 : Nat) (vV : Option Value) (hH : Heap) (LL : List Loc) : Prop := vV = some (.int (2 : Int32)) ∧ Fr n0 LL ∧ hH = h0
def R5c2 (Z : State) (a : Addr) (b : Addr) (kb : ClassId) (cs : Int32) (m0 : Int32) (m1 : Int32) (h0 : Heap) (n0 : Nat) (U : State) (oO : Outcome) (U' : State) : Prop := ∃ vV LL, oO = .returned vV ∧ Q5c2 Z a b kb cs m0 m1 h0 n0 vV U'.heap LL ∧ FrameEnd U oO U' LL ({ frames := 1, cells := 0, slots := 0, locals := 13 } : Room).cells ({ frames := 1, cells := 0, slots := 0, locals := 13 } : Room).slots
set_option maxRecDepth 65536 in
set_option maxHeartbeats 40000000 in
theorem rm5c2 (l : Launch) (Z : State) (a0 : Array Value) (hw : ∀ d ∈ tables_1, d.before a0 Z = true) (hEL : EW Z a0 OwnEL) (wS : ∀ a ∈ Bundle.stringAtoms, a.before a0 Z = true) (ws : List Jvm.Cond) (a : Addr) (b : Addr) (kb : ClassId) (cs : Int32) (m0 : Int32) (m1 : Int32) (h0 : Heap) (n0 : Nat) (Z0 : n0 ≤ h0.size) (hp0 : Exa Z h0 a "java/lang/String") (hp1 : Fld Z h0 a "java/lang/String" "value" "[B" (.ref b)) (hp2 : Fld Z h0 a "java/lang/String" "coder" "B" (.int (0 : Int32))) (hp3 : Arv Z h0 b kb .byte (2 : Int32) [(.int (nar .byte (m0.toInt8.toInt32))), (.int (nar .byte (m1.toInt8.toInt32)))] (.int (0 : Int32))) (hp4 : Sta Z h0 "java/lang/String" "COMPACT_STRINGS" "Z" (.int cs)) (hp5 : ¬ cs = (0 : Int32)) :
    MetFree l (⟨"java/lang/String", "length", "()I"⟩ : MethodName) (head1 (Jvm.Cond.code (⟨"java/lang/String", "length", "()I"⟩ : MethodName) jdk_42_method_54_code 1 (some .int) :: ws) ({ frames := 1, cells := 0, slots := 0, locals := 13 } : Room)) (fun aA U => aA = #[(.ref a)] ∧ Z.Warmed39 U.vm ∧ U.heap = h0) (fun _ _ _ _ _ => True) (fun _ U oO U' => ∃ vV LL, oO = .returned vV ∧ Q5c2 Z a b kb cs m0 m1 h0 n0 vV U'.heap LL ∧ FrameEnd U oO U' LL ({ frames := 1, cells := 0, slots := 0, locals := 13 } : Room).cells ({ frames := 1, cells := 0, slots := 0, locals := 13 } : Room).slots) := by
  refine MetFree.of_bodySF (plainFor_of_name pn_14) hisR ?_
  intro p e s m args below meth cC s₁ Bd hml0 hP hK
  obtain ⟨rfl, hZ, hh⟩ := hP
  have hx := Bd.exec
  have hby := Bd.bytes
  have hml : cC.maxLocals = 1 := hml0
  have hown : s.vm.findClass "java/lang/String" = some m.cls := findClass_of_methodNamed Bd.named
  have hnm := (name_of_methodNamed Bd.named Bd.method).1
  have X0 : Stand p l e ({ frames := 1, cells := 0, slots := 0, locals := 13 } : Room) s m #[(.ref a)] below meth cC s₁ [] 0 0 := Stand.of_body Bd
  have e0 : s₁.heap = h0 := by rw [← hh, Bd.state]; rfl
  have N0 := Fr.nil n0
  have Kp0 := Keep.refl h0 []
  show OwnFin p e below (R5c2 Z a b kb cs m0 m1 h0 n0 s) (s₁.setTop (entryFrame m #[(.ref a)] 1))
  rw [ef_5c2 m a]
  refine OwnFin.step (fun tT kK => XS.aloadN X0.here hx rfl (hb hby d_jdk_42_method_54_0) rfl rfl kK) ?_
  obtain ⟨T1, X1, e1, st1⟩ := getF X0 hx hZ hown (host := "") (Or.inl (hw _ (List.mem_of_getElem? (i := 28) rfl))) Via.refl e0 hp1 (g := (mkF m 1 #[.val (.ref a)] [(.ref a)])) rfl rfl (hb hby d_jdk_42_method_54_1)
  refine OwnFin.step st1 ?_
  show OwnFin p e below _ (T1.setTop (mkF m 4 #[.val (.ref a)] [(.ref b)]))
  obtain ⟨cl2, Ar2, -, Sz2, Ng2, -, -⟩ := id hp3
  refine OwnFin.step (fun tT kK => own_len X1 hx hZ e1 Ar2 Sz2 Ng2 (g := (mkF m 4 #[.val (.ref a)] [(.ref b)])) rfl rfl (hb hby d_jdk_42_method_54_4) kK) ?_
  refine OwnFin.step (fun tT kK => XS.aloadN X1.here hx rfl (hb hby d_jdk_42_method_54_5) rfl rfl kK) ?_
  show OwnFin p e below _ (T1.setTop (mkF m 6 #[.val (.ref a)] [(.ref a), (.int (2 : Int32))]))
  obtain ⟨cq3, kq3, q3a, q3b, q3c⟩ := isOf hZ e1 hp0
  obtain ⟨_, _, ⟨T3, L3, k3, n3⟩, -, X3, ⟨Lc3, hQ3, l3, y3, z3⟩, st3⟩ := X1.virtualBack hx (y := (⟨"java/lang/String", "coder", "()B"⟩ : MethodName)) (z := (⟨"java/lang/String", "coder", "()B"⟩ : MethodName)) hown (mvT hZ (hw _ (List.mem_of_getElem? (i := 86) rfl))) (mvT hZ (hw _ (List.mem_of_getElem? (i := 87) rfl))) (notFace_of_selects (args := #[]) (mvT hZ (hw _ (List.mem_of_getElem? (i := 89) rfl)))) (mvT hZ (hw _ (List.mem_of_getElem? (i := 89) rfl))) (mvT hZ (hw _ (List.mem_of_getElem? (i := 88) rfl))) (by decide) (backOf (W := 1) (rm2b l Z a0 hw hEL wS [] a cs h0 n0 (Nat.le_trans Z0 Kp0.1) hp4 hp5 hp2) hZ (hw _ (List.mem_of_getElem? (i := 90) rfl)) (hw _ (List.mem_of_getElem? (i := 2) rfl)) (by decide) (by decide)) q3a q3c (g := (mkF m 6 #[.val (.ref a)] [(.ref a), (.int (2 : Int32))])) rfl (by rw [hml]; rfl) (Steps.refl _) (argsL := []) (rest := [(.int (2 : Int32))]) (lenOf pd_99 rfl) rfl (by show 2 * 0 + _ ≤ _; exact Nat.le_of_eq rfl) (hb hby d_jdk_42_method_54_6) (fun _ _ => ⟨rfl, e1, (by decide : 0 + 0 ≤ _), (by decide : 0 + 0 ≤ _)⟩)
  dsimp only [Pt.U, Pt.locs, Pt.cells, Pt.slots] at X3 l3 y3 z3 st3 hQ3
  subst l3 y3 z3
  obtain ⟨rfl, N3q, e3⟩ := hQ3
  have N3 := Fr.app N0 N3q
  refine OwnFin.step (fun tT kK => st3.trans kK) ?_
  show OwnFin p e below _ (T3.setTop (mkF m 9 #[.val (.ref a)] [(.int (0 : Int32)), (.int (2 : Int32))]))
  refine OwnFin.step (fun tT kK => XS.ishr X3.here hx rfl (hb hby d_jdk_42_method_54_9) rfl kK) ?_
  obtain ⟨fs4, hr4, hrun4, hended4, hW4, hsame4⟩ := X3.leave (v := (some (.int (2 : Int32)))) (fun h => by rw [Bd.returns] at h; cases h)
  refine ⟨_, _, retOut X3 hx Bd.returns rfl (Or.inl ⟨rfl, Or.inl rfl, _, rfl⟩) (hb hby d_jdk_42_method_54_10) hr4, hrun4, hended4, _, _, rfl, ?_, ⟨_, rfl⟩, hW4, hsame4.mono (by decide) (by decide)⟩
  show Q5c2 Z a b kb cs m0 m1 h0 n0 _ T3.heap _
  rw [e3]
  exact ⟨rfl, N3, rfl⟩
theorem ef_5d2 (m : MethodId) (a : Addr) (c : Int32) : entryFrame m #[(.ref a), (.int c), (.int (0 : Int32))] 3 = mkF m 0 #[.val (.ref a), .val (.int c), .val (.int (0 : Int32))] [] := by first | (simp [entryFrame, mkF, argsToLocals, Value.category]; done) | rfl
def Q5d2 (Z : State) (a : Addr) (c : Int32) (b : Addr) (kb : ClassId) (cs : Int32) (m0 : Int32) (m1 : Int32) (h0 : Heap) (n0 : Nat) (vV : Option Value) (hH : Heap) (LL : List Loc) : Prop := vV = some (.int (if c = m0 then (0 : Int32) else if c = m1 then 1 else -1)) ∧ Fr n0 LL ∧ hH = h0
def R5d2 (Z : State) (a : Addr) (c : Int32) (b : Addr) (kb : ClassId) (cs : Int32) (m0 : Int32) (m1 : Int32) (h0 : Heap) (n0 : Nat) (U : State) (oO : Outcome) (U' : State) : Prop := ∃ vV LL, oO = .returned vV ∧ Q5d2 Z a c b kb cs m0 m1 h0 n0 vV U'.heap LL ∧ FrameEnd U oO U' LL ({ frames := 2, cells := 0, slots := 0, locals := 32 } : Room).cells ({ frames := 2, cells := 0, slots := 0, locals := 32 } : Room).slots
set_option maxRecDepth 65536 in
set_option maxHeartbeats 40000000 in
theorem rm5d2 (l : Launch) (Z : State) (a0 : Array Value) (hw : ∀ d ∈ tables_1, d.before a0 Z = true) (hEL : EW Z a0 OwnEL) (wS : ∀ a ∈ Bundle.stringAtoms, a.before a0 Z = true) (ws : List Jvm.Cond) (a : Addr) (c : Int32) (b : Addr) (kb : ClassId) (cs : Int32) (m0 : Int32) (m1 : Int32) (h0 : Heap) (n0 : Nat) (Z0 : n0 ≤ h0.size) (hp0 : Exa Z h0 a "java/lang/String") (hp1 : Fld Z h0 a "java/lang/String" "value" "[B" (.ref b)) (hp2 : Fld Z h0 a "java/lang/String" "coder" "B" (.int (0 : Int32))) (hp3 : Arv Z h0 b kb .byte (2 : Int32) [(.int (nar .byte (m0.toInt8.toInt32))), (.int (nar .byte (m1.toInt8.toInt32)))] (.int (0 : Int32))) (hp4 : Sta Z h0 "java/lang/String" "COMPACT_STRINGS" "Z" (.int cs)) (hp5 : ¬ cs = (0 : Int32)) (hp6 : In8 m0) (hp7 : In8 m1) (hp8 : In8 c) :
    MetFree l (⟨"java/lang/String", "indexOf", "(II)I"⟩ : MethodName) (head1 (Jvm.Cond.code (⟨"java/lang/String", "indexOf", "(II)I"⟩ : MethodName) jdk_42_method_80_code 3 (some .int) :: ws) ({ frames := 2, cells := 0, slots := 0, locals := 32 } : Room)) (fun aA U => aA = #[(.ref a), (.int c), (.int (0 : Int32))] ∧ Z.Warmed39 U.vm ∧ U.heap = h0) (fun _ _ _ _ _ => True) (fun _ U oO U' => ∃ vV LL, oO = .returned vV ∧ Q5d2 Z a c b kb cs m0 m1 h0 n0 vV U'.heap LL ∧ FrameEnd U oO U' LL ({ frames := 2, cells := 0, slots := 0, locals := 32 } : Room).cells ({ frames := 2, cells := 0, slots := 0, locals := 32 } : Room).slots) := by
  refine MetFree.of_bodySF (plainFor_of_name pn_14) hisR ?_
  intro p e s m args below meth cC s₁ Bd hml0 hP hK
  obtain ⟨rfl, hZ, hh⟩ := hP
  have hx := Bd.exec
  have hby := Bd.bytes
  have hml : cC.maxLocals = 3 := hml0
  have hown : s.vm.findClass "java/lang/String" = some m.cls := findClass_of_methodNamed Bd.named
  have hnm := (name_of_methodNamed Bd.named Bd.method).1
  have X0 : Stand p l e ({ frames := 2, cells := 0, slots := 0, locals := 32 } : Room) s m #[(.ref a), (.int c), (.int (0 : Int32))] below meth cC s₁ [] 0 0 := Stand.of_body Bd
  have e0 : s₁.heap = h0 := by rw [← hh, Bd.state]; rfl
  have N0 := Fr.nil n0
  have Kp0 := Keep.refl h0 []
  show OwnFin p e below (R5d2 Z a c b kb cs m0 m1 h0 n0 s) (s₁.setTop (entryFrame m #[(.ref a), (.int c), (.int (0 : Int32))] 3))
  rw [ef_5d2 m a c]
  refine OwnFin.step (fun tT kK => XS.aloadN X0.here hx rfl (hb hby d_jdk_42_method_80_0) rfl rfl kK) ?_
  obtain ⟨cq1, kq1, q1a, q1b, q1c⟩ := isOf hZ e0 hp0
  obtain ⟨_, _, ⟨T1, L1, k1, n1⟩, -, X1, ⟨Lc1, hQ1, l1, y1, z1⟩, st1⟩ := X0.virtualBack hx (y := (⟨"java/lang/String", "isLatin1", "()Z"⟩ : MethodName)) (z := (⟨"java/lang/String", "isLatin1", "()Z"⟩ : MethodName)) hown (mvT hZ (hw _ (List.mem_of_getElem? (i := 54) rfl))) (mvT hZ (hw _ (List.mem_of_getElem? (i := 55) rfl))) (notFace_of_selects (args := #[]) (mvT hZ (hw _ (List.mem_of_getElem? (i := 57) rfl)))) (mvT hZ (hw _ (List.mem_of_getElem? (i := 57) rfl))) (mvT hZ (hw _ (List.mem_of_getElem? (i := 56) rfl))) (by decide) (backOf (W := 0) (rm2a l Z a0 hw hEL wS [] a cs h0 n0 (Nat.le_trans Z0 Kp0.1) hp4 hp5 hp2) hZ (hw _ (List.mem_of_getElem? (i := 58) rfl)) (hw _ (List.mem_of_getElem? (i := 2) rfl)) (by decide) (by decide)) q1a q1c (g := (mkF m 1 #[.val (.ref a), .val (.int c), .val (.int (0 : Int32))] [(.ref a)])) rfl (by rw [hml]; rfl) (Steps.refl _) (argsL := []) (rest := []) (lenOf pd_59 rfl) rfl (by show 2 * 0 + _ ≤ _; exact Nat.le_of_eq rfl) (hb hby d_jdk_42_method_80_1) (fun _ _ => ⟨rfl, e0, (by decide : 0 + 0 ≤ _), (by decide : 0 + 0 ≤ _)⟩)
  dsimp only [Pt.U, Pt.locs, Pt.cells, Pt.slots] at X1 l1 y1 z1 st1 hQ1
  subst l1 y1 z1
  obtain ⟨rfl, N1q, e1⟩ := hQ1
  have N1 := Fr.app N0 N1q
  refine OwnFin.step (fun tT kK => st1.trans kK) ?_
  show OwnFin p e below _ (T1.setTop (mkF m 4 #[.val (.ref a), .val (.int c), .val (.int (0 : Int32))] [(.int (1 : Int32))]))
  refine OwnFin.step (fun tT kK => XS.ifNo X1.here hx rfl (hb hby d_jdk_42_method_80_4) rfl ((if0 _ _).trans (feq (by decide : ¬ ((1 : Int32) = (0 : Int32)))).1) kK) ?_
  show OwnFin p e below _ (T1.setTop (mkF m 7 #[.val (.ref a), .val (.int c), .val (.int (0 : Int32))] []))
  refine OwnFin.step (fun tT kK => XS.aloadN X1.here hx rfl (hb hby d_jdk_42_method_80_7) rfl rfl kK) ?_
  show OwnFin p e below _ (T1.setTop (mkF m 8 #[.val (.ref a), .val (.int c), .val (.int (0 : Int32))] [(.ref a)]))
  obtain ⟨T2, X2, e2, st2⟩ := getF X1 hx hZ hown (host := "") (Or.inl (hw _ (List.mem_of_getElem? (i := 28) rfl))) Via.refl e1 hp1 (g := (mkF m 8 #[.val (.ref a), .val (.int c), .val (.int (0 : Int32))] [(.ref a)])) rfl rfl (hb hby d_jdk_42_method_80_8)
  refine OwnFin.step st2 ?_
  show OwnFin p e below _ (T2.setTop (mkF m 11 #[.val (.ref a), .val (.int c), .val (.int (0 : Int32))] [(.ref b)]))
  refine OwnFin.step (fun tT kK => XS.iloadN X2.here hx rfl (hb hby d_jdk_42_method_80_11) rfl kK) ?_
  show OwnFin p e below _ (T2.setTop (mkF m 12 #[.val (.ref a), .val (.int c), .val (.int (0 : Int32))] [(.int c), (.ref b)]))
  refine OwnFin.step (fun tT kK => XS.iloadN X2.here hx rfl (hb hby d_jdk_42_method_80_12) rfl kK) ?_
  refine OwnFin.step (fun tT kK => XS.aloadN X2.here hx rfl (hb hby d_jdk_42_method_80_13) rfl rfl kK) ?_
  show OwnFin p e below _ (T2.setTop (mkF m 14 #[.val (.ref a), .val (.int c), .val (.int (0 : Int32))] [(.ref a), (.int (0 : Int32)), (.int c), (.ref b)]))
  obtain ⟨cq3, kq3, q3a, q3b, q3c⟩ := isOf hZ e2 hp0
  obtain ⟨_, _, ⟨T3, L3, k3, n3⟩, -, X3, ⟨Lc3, hQ3, l3, y3, z3⟩, st3⟩ := X2.virtualBack hx (y := (⟨"java/lang/String", "length", "()I"⟩ : MethodName)) (z := (⟨"java/lang/String", "length", "()I"⟩ : MethodName)) hown (mvT hZ (hw _ (List.mem_of_getElem? (i := 81) rfl))) (mvT hZ (hw _ (List.mem_of_getElem? (i := 82) rfl))) (notFace_of_selects (args := #[]) (mvT hZ (hw _ (List.mem_of_getElem? (i := 84) rfl)))) (mvT hZ (hw _ (List.mem_of_getElem? (i := 84) rfl))) (mvT hZ (hw _ (List.mem_of_getElem? (i := 83) rfl))) (by decide) (backOf (W := 3) (rm5c2 l Z a0 hw hEL wS [] a b kb cs m0 m1 h0 n0 (Nat.le_trans Z0 Kp0.1) hp0 hp1 hp2 hp3 hp4 hp5) hZ (hw _ (List.mem_of_getElem? (i := 85) rfl)) (hw _ (List.mem_of_getElem? (i := 2) rfl)) (by decide) (by decide)) q3a q3c (g := (mkF m 14 #[.val (.ref a), .val (.int c), .val (.int (0 : Int32))] [(.ref a), (.int (0 : Int32)), (.int c), (.ref b)])) rfl (by rw [hml]; rfl) (Steps.refl _) (argsL := []) (rest := [(.int (0 : Int32)), (.int c), (.ref b)]) (lenOf pd_111 rfl) rfl (by show 2 * 0 + _ ≤ _; exact Nat.le_of_eq rfl) (hb hby d_jdk_42_method_80_14) (fun _ _ => ⟨rfl, e2, (by decide : 0 + 0 ≤ _), (by decide : 0 + 0 ≤ _)⟩)
  dsimp only [Pt.U, Pt.locs, Pt.cells, Pt.slots] at X3 l3 y3 z3 st3 hQ3
  subst l3 y3 z3
  obtain ⟨rfl, N3q, e3⟩ := hQ3
  have N3 := Fr.app N1 N3q
  refine OwnFin.step (fun tT kK => st3.trans kK) ?_
  show OwnFin p e below _ (T3.setTop (mkF m 17 #[.val (.ref a), .val (.int c), .val (.int (0 : Int32))] [(.int (2 : Int32)), (.int (0 : Int32)), (.int c), (.ref b)]))
  obtain ⟨_, _, ⟨T4, L4, k4, n4⟩, -, X4, ⟨Lc4, hQ4, l4, y4, z4⟩, st4⟩ := Jvm.LawKit.callS X3 hx (y := (⟨"java/lang/StringLatin1", "indexOf", "([BIII)I"⟩ : MethodName)) hown (mvT hZ (hw _ (List.mem_of_getElem? (i := 91) rfl))) (mvT hZ (hw _ (List.mem_of_getElem? (i := 92) rfl))) (mvT hZ (hw _ (List.mem_of_getElem? (i := 61) rfl))) (mvT hZ (hw _ (List.mem_of_getElem? (i := 93) rfl))) (by decide) (backOf (W := 0) (rm5b2 l Z a0 hw hEL wS [] b c kb m0 m1 h0 n0 (Nat.le_trans Z0 Kp0.1) hp3 hp6 hp7 hp8) hZ (hw _ (List.mem_of_getElem? (i := 93) rfl)) (hw _ (List.mem_of_getElem? (i := 61) rfl)) (by decide) (by decide)) (g := (mkF m 17 #[.val (.ref a), .val (.int c), .val (.int (0 : Int32))] [(.int (2 : Int32)), (.int (0 : Int32)), (.int c), (.ref b)])) rfl (by rw [hml]; rfl) (argsL := [(.ref b), (.int c), (.int (0 : Int32)), (.int (2 : Int32))]) (rest := []) (lenOf pd_113 rfl) rfl (by show 2 * 0 + _ ≤ _; exact Nat.le_of_eq rfl) (hb hby d_jdk_42_method_80_17) (fun _ _ => ⟨rfl, e3, (by decide : 0 + 0 ≤ _), (by decide : 0 + 0 ≤ _)⟩)
  dsimp only [Pt.U, Pt.locs, Pt.cells, Pt.slots] at X4 l4 y4 z4 st4 hQ4
  subst l4 y4 z4
  obtain ⟨rfl, N4q, e4⟩ := hQ4
  have N4 := Fr.app N3 N4q
  refine OwnFin.step st4 ?_
  show OwnFin p e below _ (T4.setTop (mkF m 20 #[.val (.ref a), .val (.int c), .val (.int (0 : Int32))] [(.int (if c = m0 then (0 : Int32) else if c = m1 then 1 else -1))]))
  refine OwnFin.step (fun tT kK => XS.goto X4.here hx rfl (pc0 := 20) (pc' := 36) rfl (hb hby d_jdk_42_method_80_20) (by decide) (by decide) kK) ?_
  show OwnFin p e below _ (T4.setTop (mkF m 36 #[.val (.ref a), .val (.int c), .val (.int (0 : Int32))] [(.int (if c = m0 then (0 : Int32) else if c = m1 then 1 else -1))]))
  obtain ⟨fs5, hr5, hrun5, hended5, hW5, hsame5⟩ := X4.leave (v := (some (.int (if c = m0 then (0 : Int32) else if c = m1 then 1 else -1)))) (fun h => by rw [Bd.returns] at h; cases h)
  refine ⟨_, _, retOut X4 hx Bd.returns rfl (Or.inl ⟨rfl, Or.inl rfl, _, rfl⟩) (hb hby d_jdk_42_method_80_36) hr5, hrun5, hended5, _, _, rfl, ?_, ⟨_, rfl⟩, hW5, hsame5.mono (by decide) (by decide)⟩
  show Q5d2 Z a c b kb cs m0 m1 h0 n0 _ T4.heap _
  rw [e4]
  exact ⟨rfl, N4, rfl⟩
theorem ef_5e2 (m : MethodId) (a : Addr) (c : Int32) : entryFrame m #[(.ref a), (.int c)] 2 = mkF m 0 #[.val (.ref a), .val (.int c)] [] := by first | (simp [entryFrame, mkF, argsToLocals, Value.category]; done) | rfl
def Q5e2 (Z : State) (a : Addr) (c : Int32) (b : Addr) (kb : ClassId) (cs : Int32) (m0 : Int32) (m1 : Int32) (h0 : Heap) (n0 : Nat) (vV : Option Value) (hH : Heap) (LL : List Loc) : Prop := vV = some (.int (if c = m0 then (0 : Int32) else if c = m1 then 1 else -1)) ∧ Fr n0 LL ∧ hH = h0
def R5e2 (Z : State) (a : Addr) (c : Int32) (b : Addr) (kb : ClassId) (cs : Int32) (m0 : Int32) (m1 : Int32) (h0 : Heap) (n0 : Nat) (U : State) (oO : Outcome) (U' : State) : Prop := ∃ vV LL, oO = .returned vV ∧ Q5e2 Z a c b kb cs m0 m1 h0 n0 vV U'.heap LL ∧ FrameEnd U oO U' LL ({ frames := 3, cells := 0, slots := 0, locals := 46 } : Room).cells ({ frames := 3, cells := 0, slots := 0, locals := 46 } : Room).slots
set_option maxRecDepth 65536 in
set_option maxHeartbeats 40000000 in
theorem rm5e2 (l : Launch) (Z : State) (a0 : Array Value) (hw : ∀ d ∈ tables_1, d.before a0 Z = true) (hEL : EW Z a0 OwnEL) (wS : ∀ a ∈ Bundle.stringAtoms, a.before a0 Z = true) (ws : List Jvm.Cond) (a : Addr) (c : Int32) (b : Addr) (kb : ClassId) (cs : Int32) (m0 : Int32) (m1 : Int32) (h0 : Heap) (n0 : Nat) (Z0 : n0 ≤ h0.size) (hp0 : Exa Z h0 a "java/lang/String") (hp1 : Fld Z h0 a "java/lang/String" "value" "[B" (.ref b)) (hp2 : Fld Z h0 a "java/lang/String" "coder" "B" (.int (0 : Int32))) (hp3 : Arv Z h0 b kb .byte (2 : Int32) [(.int (nar .byte (m0.toInt8.toInt32))), (.int (nar .byte (m1.toInt8.toInt32)))] (.int (0 : Int32))) (hp4 : Sta Z h0 "java/lang/String" "COMPACT_STRINGS" "Z" (.int cs)) (hp5 : ¬ cs = (0 : Int32)) (hp6 : In8 m0) (hp7 : In8 m1) (hp8 : In8 c) :
    MetFree l (⟨"java/lang/String", "indexOf", "(I)I"⟩ : MethodName) (head1 (Jvm.Cond.code (⟨"java/lang/String", "indexOf", "(I)I"⟩ : MethodName) jdk_42_method_79_code 2 (some .int) :: ws) ({ frames := 3, cells := 0, slots := 0, locals := 46 } : Room)) (fun aA U => aA = #[(.ref a), (.int c)] ∧ Z.Warmed39 U.vm ∧ U.heap = h0) (fun _ _ _ _ _ => True) (fun _ U oO U' => ∃ vV LL, oO = .returned vV ∧ Q5e2 Z a c b kb cs m0 m1 h0 n0 vV U'.heap LL ∧ FrameEnd U oO U' LL ({ frames := 3, cells := 0, slots := 0, locals := 46 } : Room).cells ({ frames := 3, cells := 0, slots := 0, locals := 46 } : Room).slots) := by
  refine MetFree.of_bodySF (plainFor_of_name pn_14) hisR ?_
  intro p e s m args below meth cC s₁ Bd hml0 hP hK
  obtain ⟨rfl, hZ, hh⟩ := hP
  have hx := Bd.exec
  have hby := Bd.bytes
  have hml : cC.maxLocals = 2 := hml0
  have hown : s.vm.findClass "java/lang/String" = some m.cls := findClass_of_methodNamed Bd.named
  have hnm := (name_of_methodNamed Bd.named Bd.method).1
  have X0 : Stand p l e ({ frames := 3, cells := 0, slots := 0, locals := 46 } : Room) s m #[(.ref a), (.int c)] below meth cC s₁ [] 0 0 := Stand.of_body Bd
  have e0 : s₁.heap = h0 := by rw [← hh, Bd.state]; rfl
  have N0 := Fr.nil n0
  have Kp0 := Keep.refl h0 []
  show OwnFin p e below (R5e2 Z a c b kb cs m0 m1 h0 n0 s) (s₁.setTop (entryFrame m #[(.ref a), (.int c)] 2))
  rw [ef_5e2 m a c]
  refine OwnFin.step (fun tT kK => XS.aloadN X0.here hx rfl (hb hby d_jdk_42_method_79_0) rfl rfl kK) ?_
  refine OwnFin.step (fun tT kK => XS.iloadN X0.here hx rfl (hb hby d_jdk_42_method_79_1) rfl kK) ?_
  show OwnFin p e below _ (s₁.setTop (mkF m 2 #[.val (.ref a), .val (.int c)] [(.int c), (.ref a)]))
  refine OwnFin.step (fun tT kK => XS.iconst X0.here hx rfl (hb hby d_jdk_42_method_79_2) kK) ?_
  obtain ⟨cq1, kq1, q1a, q1b, q1c⟩ := isOf hZ e0 hp0
  obtain ⟨_, _, ⟨T1, L1, k1, n1⟩, -, X1, ⟨Lc1, hQ1, l1, y1, z1⟩, st1⟩ := X0.virtualBack hx (y := (⟨"java/lang/String", "indexOf", "(II)I"⟩ : MethodName)) (z := (⟨"java/lang/String", "indexOf", "(II)I"⟩ : MethodName)) hown (mvT hZ (hw _ (List.mem_of_getElem? (i := 76) rfl))) (mvT hZ (hw _ (List.mem_of_getElem? (i := 77) rfl))) (notFace_of_selects (args := #[]) (mvT hZ (hw _ (List.mem_of_getElem? (i := 79) rfl)))) (mvT hZ (hw _ (List.mem_of_getElem? (i := 79) rfl))) (mvT hZ (hw _ (List.mem_of_getElem? (i := 78) rfl))) (by decide) (backOf (W := 0) (rm5d2 l Z a0 hw hEL wS [] a c b kb cs m0 m1 h0 n0 (Nat.le_trans Z0 Kp0.1) hp0 hp1 hp2 hp3 hp4 hp5 hp6 hp7 hp8) hZ (hw _ (List.mem_of_getElem? (i := 80) rfl)) (hw _ (List.mem_of_getElem? (i := 2) rfl)) (by decide) (by decide)) q1a q1c (g := (mkF m 3 #[.val (.ref a), .val (.int c)] [(.int (0 : Int32)), (.int c), (.ref a)])) rfl (by rw [hml]; rfl) (Steps.refl _) (argsL := [(.int c), (.int (0 : Int32))]) (rest := []) (lenOf pd_82 rfl) rfl (by show 2 * 0 + _ ≤ _; exact Nat.le_of_eq rfl) (hb hby d_jdk_42_method_79_3) (fun _ _ => ⟨rfl, e0, (by decide : 0 + 0 ≤ _), (by decide : 0 + 0 ≤ _)⟩)
  dsimp only [Pt.U, Pt.locs, Pt.cells, Pt.slots] at X1 l1 y1 z1 st1 hQ1
  subst l1 y1 z1
  obtain ⟨rfl, N1q, e1⟩ := hQ1
  have N1 := Fr.app N0 N1q
  refine OwnFin.step (fun tT kK => st1.trans kK) ?_
  show OwnFin p e below _ (T1.setTop (mkF m 6 #[.val (.ref a), .val (.int c)] [(.int (if c = m0 then (0 : Int32) else if c = m1 then 1 else -1))]))
  obtain ⟨fs2, hr2, hrun2, hended2, hW2, hsame2⟩ := X1.leave (v := (some (.int (if c = m0 then (0 : Int32) else if c = m1 then 1 else -1)))) (fun h => by rw [Bd.returns] at h; cases h)
  refine ⟨_, _, retOut X1 hx Bd.returns rfl (Or.inl ⟨rfl, Or.inl rfl, _, rfl⟩) (hb hby d_jdk_42_method_79_6) hr2, hrun2, hended2, _, _, rfl, ?_, ⟨_, rfl⟩, hW2, hsame2.mono (by decide) (by decide)⟩
  show Q5e2 Z a c b kb cs m0 m1 h0 n0 _ T1.heap _
  rw [e1]
  exact ⟨rfl, N1, rfl⟩
def T0 (lo : Int32) (b0 b1 b2 b3 : Bool) : Int32 := 0
def T1 (lo : Int32) (b0 b1 b2 b3 : Bool) : Int32 := if lo < 1 then (if b0 = true then 1 else T0 lo b0 b1 b2 b3) else 1
def T2 (lo : Int32) (b0 b1 b2 b3 : Bool) : Int32 := if lo < 2 then (if b1 = true then 2 else T1 lo b0 b1 b2 b3) else 2
def T3 (lo : Int32) (b0 b1 b2 b3 : Bool) : Int32 := if lo < 3 then (if b2 = true then 3 else T2 lo b0 b1 b2 b3) else 3
def T4 (lo : Int32) (b0 b1 b2 b3 : Bool) : Int32 := if lo < 4 then (if b3 = true then 4 else T3 lo b0 b1 b2 b3) else 4
def OwnT (lo hi : Int32) (b0 b1 b2 b3 : Bool) : Int32 := if hi = 0 then T0 lo b0 b1 b2 b3 else if hi = 1 then T1 lo b0 b1 b2 b3 else if hi = 2 then T2 lo b0 b1 b2 b3 else if hi = 3 then T3 lo b0 b1 b2 b3 else T4 lo b0 b1 b2 b3
theorem own_tr {lo hi : Int32} (h : OwnP lo hi) (b0 b1 b2 b3 : Bool) : OwnT lo hi b0 b1 b2 b3 = OwnR lo hi b0 b1 b2 b3 := by
  rcases h with ⟨rfl, rfl⟩ | ⟨rfl, rfl⟩ | ⟨rfl, rfl⟩ | ⟨rfl, rfl⟩ | ⟨rfl, rfl⟩ | ⟨rfl, rfl⟩ | ⟨rfl, rfl⟩ | ⟨rfl, rfl⟩ | ⟨rfl, rfl⟩ | ⟨rfl, rfl⟩ | ⟨rfl, rfl⟩ | ⟨rfl, rfl⟩ | ⟨rfl, rfl⟩ | ⟨rfl, rfl⟩ | ⟨rfl, rfl⟩ <;> revert b0 b1 b2 b3 <;> decide +kernel
theorem own_hi {lo hi : Int32} (h : OwnP lo hi) : (hi = 0 ∨ hi = 1 ∨ hi = 2 ∨ hi = 3 ∨ hi = 4) ∧ ¬ lo < 0 := by
  rcases h with ⟨rfl, rfl⟩ | ⟨rfl, rfl⟩ | ⟨rfl, rfl⟩ | ⟨rfl, rfl⟩ | ⟨rfl, rfl⟩ | ⟨rfl, rfl⟩ | ⟨rfl, rfl⟩ | ⟨rfl, rfl⟩ | ⟨rfl, rfl⟩ | ⟨rfl, rfl⟩ | ⟨rfl, rfl⟩ | ⟨rfl, rfl⟩ | ⟨rfl, rfl⟩ | ⟨rfl, rfl⟩ | ⟨rfl, rfl⟩ <;> decide +kernel
theorem pn_146 : plainName "com/example/covenantry/covenantry/text/Phrases" = true := by first | (simp [plainName, overriddenIn]; done) | decide +kernel
theorem d_prog_84_method_13_0 : decode prog_84_method_13_code 0 = .ok (.iload_n 2, 1) := by decide +kernel
theorem d_prog_84_method_13_1 : decode prog_84_method_13_code 1 = .ok (.istore 4, 2) := by decide +kernel
theorem d_prog_84_method_13_3 : decode prog_84_method_13_code 3 = .ok (.iload 4, 2) := by decide +kernel
theorem d_prog_84_method_13_5 : decode prog_84_method_13_code 5 = .ok (.iload_n 1, 1) := by decide +kernel
theorem d_prog_84_method_13_6 : decode prog_84_method_13_code 6 = .ok (.if_icmp .le 24, 3) := by decide +kernel
theorem d_prog_84_method_13_30 : decode prog_84_method_13_code 30 = .ok (.iload 4, 2) := by decide +kernel
theorem d_prog_84_method_13_32 : decode prog_84_method_13_code 32 = .ok (.ireturn, 1) := by decide +kernel
theorem d_prog_84_method_13_9 : decode prog_84_method_13_code 9 = .ok (.aload_n 3, 1) := by decide +kernel
theorem d_prog_84_method_13_10 : decode prog_84_method_13_code 10 = .ok (.aload_n 0, 1) := by decide +kernel
theorem d_prog_84_method_13_11 : decode prog_84_method_13_code 11 = .ok (.iload 4, 2) := by decide +kernel
theorem d_prog_84_method_13_13 : decode prog_84_method_13_code 13 = .ok (.iconst 1, 1) := by decide +kernel
theorem d_prog_84_method_13_14 : decode prog_84_method_13_code 14 = .ok (.isub, 1) := by decide +kernel
theorem d_prog_84_method_13_15 : decode prog_84_method_13_code 15 = .ok (.invokevirtual 25, 3) := by decide +kernel
theorem pd_160 : parseMethodDescriptor "(I)C" = some ⟨[.int], some .char⟩ := by decide +kernel
theorem d_prog_84_method_13_18 : decode prog_84_method_13_code 18 = .ok (.invokevirtual 91, 3) := by decide +kernel
theorem pd_162 : parseMethodDescriptor "(I)I" = some ⟨[.int], some .int⟩ := by decide +kernel
theorem d_prog_84_method_13_21 : decode prog_84_method_13_code 21 = .ok (.ifCond .ge 9, 3) := by decide +kernel
theorem d_prog_84_method_13_24 : decode prog_84_method_13_code 24 = .ok (.iinc 4 (-1), 3) := by decide +kernel
theorem d_prog_84_method_13_27 : decode prog_84_method_13_code 27 = .ok (.goto (-24), 3) := by decide +kernel
theorem ef_60 (m : MethodId) (a : Addr) (lo : Int32) (hi : Int32) (o : Addr) : entryFrame m #[(.ref a), (.int lo), (.int hi), (.ref o)] 5 = mkF m 0 #[.val (.ref a), .val (.int lo), .val (.int hi), .val (.ref o), .unset] [] := by first | (simp [entryFrame, mkF, argsToLocals, Value.category]; done) | rfl
def Q60 (Z : State) (a : Addr) (lo : Int32) (hi : Int32) (o : Addr) (b : Addr) (kb : ClassId) (fm : Value) (cs : Int32) (c0 : Int32) (c1 : Int32) (c2 : Int32) (c3 : Int32) (bo : Addr) (ko : ClassId) (h0 : Heap) (n0 : Nat) (vV : Option Value) (hH : Heap) (LL : List Loc) : Prop := vV = some (.int (OwnT lo hi (decide False) (decide False) (decide False) (decide False))) ∧ Fr n0 LL ∧ hH = h0
def R60 (Z : State) (a : Addr) (lo : Int32) (hi : Int32) (o : Addr) (b : Addr) (kb : ClassId) (fm : Value) (cs : Int32) (c0 : Int32) (c1 : Int32) (c2 : Int32) (c3 : Int32) (bo : Addr) (ko : ClassId) (h0 : Heap) (n0 : Nat) (U : State) (oO : Outcome) (U' : State) : Prop := ∃ vV LL, oO = .returned vV ∧ Q60 Z a lo hi o b kb fm cs c0 c1 c2 c3 bo ko h0 n0 vV U'.heap LL ∧ FrameEnd U oO U' LL ({ frames := 4, cells := 0, slots := 0, locals := 55 } : Room).cells ({ frames := 4, cells := 0, slots := 0, locals := 55 } : Room).slots
set_option maxRecDepth 65536 in
set_option maxHeartbeats 40000000 in
theorem rm60 (l : Launch) (Z : State) (a0 : Array Value) (hw : ∀ d ∈ tables_1, d.before a0 Z = true) (hEL : EW Z a0 OwnEL) (wS : ∀ a ∈ Bundle.stringAtoms, a.before a0 Z = true) (ws : List Jvm.Cond) (a : Addr) (lo : Int32) (hi : Int32) (o : Addr) (b : Addr) (kb : ClassId) (fm : Value) (cs : Int32) (c0 : Int32) (c1 : Int32) (c2 : Int32) (c3 : Int32) (bo : Addr) (ko : ClassId) (h0 : Heap) (n0 : Nat) (Z0 : n0 ≤ h0.size) (hp0 : Sta Z h0 "jdk/internal/util/Preconditions" "SIOOBE_FORMATTER" "Ljava/util/function/BiFunction;" fm) (hp1 : fm.isRef = true) (hp2 : Exa Z h0 a "java/lang/String") (hp3 : Fld Z h0 a "java/lang/String" "value" "[B" (.ref b)) (hp4 : Fld Z h0 a "java/lang/String" "coder" "B" (.int (0 : Int32))) (hp5 : Arv Z h0 b kb .byte (4 : Int32) [(.int (nar .byte (c0.toInt8.toInt32))), (.int (nar .byte (c1.toInt8.toInt32))), (.int (nar .byte (c2.toInt8.toInt32))), (.int (nar .byte (c3.toInt8.toInt32)))] (.int (0 : Int32))) (hp6 : In8 c0) (hp7 : In8 c1) (hp8 : In8 c2) (hp9 : In8 c3) (hp10 : Sta Z h0 "java/lang/String" "COMPACT_STRINGS" "Z" (.int cs)) (hp11 : ¬ cs = (0 : Int32)) (hp12 : Exa Z h0 o "java/lang/String") (hp13 : Fld Z h0 o "java/lang/String" "value" "[B" (.ref bo)) (hp14 : Fld Z h0 o "java/lang/String" "coder" "B" (.int (0 : Int32))) (hp15 : Arv Z h0 bo ko .byte (0 : Int32) [] (.int (0 : Int32))) (hp16 : OwnP lo hi) :
    MetFree l (⟨"com/example/covenantry/covenantry/text/Phrases", "afterLastMark", "(Ljava/lang/String;IILjava/lang/String;)I"⟩ : MethodName) (head1 (Jvm.Cond.code (⟨"com/example/covenantry/covenantry/text/Phrases", "afterLastMark", "(Ljava/lang/String;IILjava/lang/String;)I"⟩ : MethodName) prog_84_method_13_code 5 (some .int) :: ws) ({ frames := 4, cells := 0, slots := 0, locals := 55 } : Room)) (fun aA U => aA = #[(.ref a), (.int lo), (.int hi), (.ref o)] ∧ Z.Warmed39 U.vm ∧ U.heap = h0) (fun _ _ _ _ _ => True) (fun _ U oO U' => ∃ vV LL, oO = .returned vV ∧ Q60 Z a lo hi o b kb fm cs c0 c1 c2 c3 bo ko h0 n0 vV U'.heap LL ∧ FrameEnd U oO U' LL ({ frames := 4, cells := 0, slots := 0, locals := 55 } : Room).cells ({ frames := 4, cells := 0, slots := 0, locals := 55 } : Room).slots) := by
  refine MetFree.of_bodySF (plainFor_of_name pn_146) hisR ?_
  intro p e s m args below meth cC s₁ Bd hml0 hP hK
  obtain ⟨rfl, hZ, hh⟩ := hP
  have hx := Bd.exec
  have hby := Bd.bytes
  have hml : cC.maxLocals = 5 := hml0
  have hown : s.vm.findClass "com/example/covenantry/covenantry/text/Phrases" = some m.cls := findClass_of_methodNamed Bd.named
  have hnm := (name_of_methodNamed Bd.named Bd.method).1
  have X0 : Stand p l e ({ frames := 4, cells := 0, slots := 0, locals := 55 } : Room) s m #[(.ref a), (.int lo), (.int hi), (.ref o)] below meth cC s₁ [] 0 0 := Stand.of_body Bd
  have e0 : s₁.heap = h0 := by rw [← hh, Bd.state]; rfl
  have N0 := Fr.nil n0
  have Kp0 := Keep.refl h0 []
  show OwnFin p e below (R60 Z a lo hi o b kb fm cs c0 c1 c2 c3 bo ko h0 n0 s) (s₁.setTop (entryFrame m #[(.ref a), (.int lo), (.int hi), (.ref o)] 5))
  rw [ef_60 m a lo hi o]
  refine OwnFin.step (fun tT kK => XS.iloadN X0.here hx rfl (hb hby d_prog_84_method_13_0) rfl kK) ?_
  refine OwnFin.step (fun tT kK => XS.istore X0.here hx rfl (hb hby d_prog_84_method_13_1) rfl (l' := #[.val (.ref a), .val (.int lo), .val (.int hi), .val (.ref o), .val (.int hi)]) rfl kK) ?_
  show OwnFin p e below _ (s₁.setTop (mkF m 3 #[.val (.ref a), .val (.int lo), .val (.int hi), .val (.ref o), .val (.int hi)] []))
  have key1 : ∀ (T2 : State) (L2 : List Loc), Stand p l e ({ frames := 4, cells := 0, slots := 0, locals := 55 } : Room) s m #[(.ref a), (.int lo), (.int hi), (.ref o)] below meth cC T2 L2 0 0 → T2.heap = h0 → Fr n0 L2 → (OwnT lo hi (decide False) (decide False) (decide False) (decide False) = T0 lo (decide False) (decide False) (decide False) (decide False)) → OwnFin p e below (R60 Z a lo hi o b kb fm cs c0 c1 c2 c3 bo ko h0 n0 s) (T2.setTop (mkF m 3 #[.val (.ref a), .val (.int lo), .val (.int hi), .val (.ref o), .val (.int (0 : Int32))] [])) := by
    intro T2 L2 X2 e2 N2 hj3
    refine OwnFin.step (fun tT kK => XS.iload X2.here hx rfl (hb hby d_prog_84_method_13_3) rfl kK) ?_
    refine OwnFin.step (fun tT kK => XS.iloadN X2.here hx rfl (hb hby d_prog_84_method_13_5) rfl kK) ?_
    show OwnFin p e below _ (T2.setTop (mkF m 6 #[.val (.ref a), .val (.int lo), .val (.int hi), .val (.ref o), .val (.int (0 : Int32))] [(.int lo), (.int (0 : Int32))]))
    refine OwnFin.step (fun tT kK => XS.icmpYes X2.here hx rfl (pc0 := 6) (pc' := 30) rfl (hb hby d_prog_84_method_13_6) rfl (flt ((own_hi hp16).2 : ¬ (lo < (0 : Int32)))).2.2.2 (by decide) (by decide) kK) ?_
    show OwnFin p e below _ (T2.setTop (mkF m 30 #[.val (.ref a), .val (.int lo), .val (.int hi), .val (.ref o), .val (.int (0 : Int32))] []))
    refine OwnFin.step (fun tT kK => XS.iload X2.here hx rfl (hb hby d_prog_84_method_13_30) rfl kK) ?_
    obtain ⟨fs4, hr4, hrun4, hended4, hW4, hsame4⟩ := X2.leave (v := (some (.int (0 : Int32)))) (fun h => by rw [Bd.returns] at h; cases h)
    refine ⟨_, _, retOut X2 hx Bd.returns rfl (Or.inl ⟨rfl, Or.inl rfl, _, rfl⟩) (hb hby d_prog_84_method_13_32) hr4, hrun4, hended4, _, _, rfl, ?_, ⟨_, rfl⟩, hW4, hsame4.mono (by decide) (by decide)⟩
    show Q60 Z a lo hi o b kb fm cs c0 c1 c2 c3 bo ko h0 n0 _ T2.heap _
    rw [e2]
    exact ⟨(by rw [hj3]; rfl), N2, rfl⟩
  have key5 : ∀ (T6 : State) (L6 : List Loc), Stand p l e ({ frames := 4, cells := 0, slots := 0, locals := 55 } : Room) s m #[(.ref a), (.int lo), (.int hi), (.ref o)] below meth cC T6 L6 0 0 → T6.heap = h0 → Fr n0 L6 → (OwnT lo hi (decide False) (decide False) (decide False) (decide False) = T1 lo (decide False) (decide False) (decide False) (decide False)) → OwnFin p e below (R60 Z a lo hi o b kb fm cs c0 c1 c2 c3 bo ko h0 n0 s) (T6.setTop (mkF m 3 #[.val (.ref a), .val (.int lo), .val (.int hi), .val (.ref o), .val (.int (1 : Int32))] [])) := by
    intro T6 L6 X6 e6 N6 hj7
    refine OwnFin.step (fun tT kK => XS.iload X6.here hx rfl (hb hby d_prog_84_method_13_3) rfl kK) ?_
    refine OwnFin.step (fun tT kK => XS.iloadN X6.here hx rfl (hb hby d_prog_84_method_13_5) rfl kK) ?_
    show OwnFin p e below _ (T6.setTop (mkF m 6 #[.val (.ref a), .val (.int lo), .val (.int hi), .val (.ref o), .val (.int (1 : Int32))] [(.int lo), (.int (1 : Int32))]))
    by_cases hc8 : lo < (1 : Int32)
    · skip
      refine OwnFin.step (fun tT kK => XS.icmpNo X6.here hx rfl (hb hby d_prog_84_method_13_6) rfl (tlt (hc8 : lo < (1 : Int32))).2.2.2 kK) ?_
      show OwnFin p e below _ (T6.setTop (mkF m 9 #[.val (.ref a), .val (.int lo), .val (.int hi), .val (.ref o), .val (.int (1 : Int32))] []))
      refine OwnFin.step (fun tT kK => XS.aloadN X6.here hx rfl (hb hby d_prog_84_method_13_9) rfl rfl kK) ?_
      refine OwnFin.step (fun tT kK => XS.aloadN X6.here hx rfl (hb hby d_prog_84_method_13_10) rfl rfl kK) ?_
      show OwnFin p e below _ (T6.setTop (mkF m 11 #[.val (.ref a), .val (.int lo), .val (.int hi), .val (.ref o), .val (.int (1 : Int32))] [(.ref a), (.ref o)]))
      refine OwnFin.step (fun tT kK => XS.iload X6.here hx rfl (hb hby d_prog_84_method_13_11) rfl kK) ?_
      refine OwnFin.step (fun tT kK => XS.iconst X6.here hx rfl (hb hby d_prog_84_method_13_13) kK) ?_
      show OwnFin p e below _ (T6.setTop (mkF m 14 #[.val (.ref a), .val (.int lo), .val (.int hi), .val (.ref o), .val (.int (1 : Int32))] [(.int (1 : Int32)), (.int (1 : Int32)), (.ref a), (.ref o)]))
      refine OwnFin.step (fun tT kK => XS.isub X6.here hx rfl (hb hby d_prog_84_method_13_14) rfl kK) ?_
      obtain ⟨cq10, kq10, q10a, q10b, q10c⟩ := isOf hZ e6 hp2
      obtain ⟨_, _, ⟨T10, L10, k10, n10⟩, -, X10, ⟨Lc10, hQ10, l10, y10, z10⟩, st10⟩ := X6.virtualBack hx (y := (⟨"java/lang/String", "charAt", "(I)C"⟩ : MethodName)) (z := (⟨"java/lang/String", "charAt", "(I)C"⟩ : MethodName)) hown (mvT hZ (hw _ (List.mem_of_getElem? (i := 49) rfl))) (mvT hZ (hw _ (List.mem_of_getElem? (i := 50) rfl))) (notFace_of_selects (args := #[]) (mvT hZ (hw _ (List.mem_of_getElem? (i := 52) rfl)))) (mvT hZ (hw _ (List.mem_of_getElem? (i := 52) rfl))) (mvT hZ (hw _ (List.mem_of_getElem? (i := 51) rfl))) (by decide) (backOf (W := 1) (rm3d0 l Z a0 hw hEL wS [] a b kb fm cs c0 c1 c2 c3 h0 n0 (Nat.le_trans Z0 Kp0.1) hp0 hp1 hp2 hp3 hp4 hp5 hp6 hp7 hp8 hp9 hp10 hp11) hZ (hw _ (List.mem_of_getElem? (i := 53) rfl)) (hw _ (List.mem_of_getElem? (i := 2) rfl)) (by decide) (by decide)) q10a q10c (g := (mkF m 15 #[.val (.ref a), .val (.int lo), .val (.int hi), .val (.ref o), .val (.int (1 : Int32))] [(.int (0 : Int32)), (.ref a), (.ref o)])) rfl (by rw [hml]; rfl) (Steps.refl _) (argsL := [(.int (0 : Int32))]) (rest := [(.ref o)]) (lenOf pd_160 rfl) rfl (by show 2 * 0 + _ ≤ _; exact Nat.le_of_eq rfl) (hb hby d_prog_84_method_13_15) (fun _ _ => ⟨rfl, e6, (by decide : 0 + 0 ≤ _), (by decide : 0 + 0 ≤ _)⟩)
      dsimp only [Pt.U, Pt.locs, Pt.cells, Pt.slots] at X10 l10 y10 z10 st10 hQ10
      subst l10 y10 z10
      obtain ⟨rfl, N10q, e10⟩ := hQ10
      have N10 := Fr.app N6 N10q
      refine OwnFin.step (fun tT kK => st10.trans kK) ?_
      show OwnFin p e below _ (T10.setTop (mkF m 18 #[.val (.ref a), .val (.int lo), .val (.int hi), .val (.ref o), .val (.int (1 : Int32))] [(.int c0), (.ref o)]))
      obtain ⟨cq11, kq11, q11a, q11b, q11c⟩ := isOf hZ e10 hp12
      obtain ⟨_, _, ⟨T11, L11, k11, n11⟩, -, X11, ⟨Lc11, hQ11, l11, y11, z11⟩, st11⟩ := X10.virtualBack hx (y := (⟨"java/lang/String", "indexOf", "(I)I"⟩ : MethodName)) (z := (⟨"java/lang/String", "indexOf", "(I)I"⟩ : MethodName)) hown (mvT hZ (hw _ (List.mem_of_getElem? (i := 71) rfl))) (mvT hZ (hw _ (List.mem_of_getElem? (i := 72) rfl))) (notFace_of_selects (args := #[]) (mvT hZ (hw _ (List.mem_of_getElem? (i := 74) rfl)))) (mvT hZ (hw _ (List.mem_of_getElem? (i := 74) rfl))) (mvT hZ (hw _ (List.mem_of_getElem? (i := 73) rfl))) (by decide) (backOf (W := 0) (rm5e0 l Z a0 hw hEL wS [] o c0 bo ko cs h0 n0 (Nat.le_trans Z0 Kp0.1) hp12 hp13 hp14 hp15 hp10 hp11 hp6) hZ (hw _ (List.mem_of_getElem? (i := 75) rfl)) (hw _ (List.mem_of_getElem? (i := 2) rfl)) (by decide) (by decide)) q11a q11c (g := (mkF m 18 #[.val (.ref a), .val (.int lo), .val (.int hi), .val (.ref o), .val (.int (1 : Int32))] [(.int c0), (.ref o)])) rfl (by rw [hml]; rfl) (Steps.refl _) (argsL := [(.int c0)]) (rest := []) (lenOf pd_162 rfl) rfl (by show 2 * 0 + _ ≤ _; exact Nat.le_of_eq rfl) (hb hby d_prog_84_method_13_18) (fun _ _ => ⟨rfl, e10, (by decide : 0 + 0 ≤ _), (by decide : 0 + 0 ≤ _)⟩)
      dsimp only [Pt.U, Pt.locs, Pt.cells, Pt.slots] at X11 l11 y11 z11 st11 hQ11
      subst l11 y11 z11
      obtain ⟨rfl, N11q, e11⟩ := hQ11
      have N11 := Fr.app N10 N11q
      refine OwnFin.step (fun tT kK => st11.trans kK) ?_
      show OwnFin p e below _ (T11.setTop (mkF m 21 #[.val (.ref a), .val (.int lo), .val (.int hi), .val (.ref o), .val (.int (1 : Int32))] [(.int (-1 : Int32))]))
      refine OwnFin.step (fun tT kK => XS.ifNo X11.here hx rfl (hb hby d_prog_84_method_13_21) rfl ((if0 _ _).trans (tlt (by decide : (-1 : Int32) < (0 : Int32))).2.1) kK) ?_
      show OwnFin p e below _ (T11.setTop (mkF m 24 #[.val (.ref a), .val (.int lo), .val (.int hi), .val (.ref o), .val (.int (1 : Int32))] []))
      refine OwnFin.step (fun tT kK => XS.iinc X11.here hx rfl (hb hby d_prog_84_method_13_24) rfl (l' := #[.val (.ref a), .val (.int lo), .val (.int hi), .val (.ref o), .val (.int (0 : Int32))]) rfl kK) ?_
      show OwnFin p e below _ (T11.setTop (mkF m 27 #[.val (.ref a), .val (.int lo), .val (.int hi), .val (.ref o), .val (.int (0 : Int32))] []))
      refine OwnFin.step (fun tT kK => XS.goto X11.here hx rfl (pc0 := 27) (pc' := 3) rfl (hb hby d_prog_84_method_13_27) (by decide) (by decide) kK) ?_
      show OwnFin p e below _ (T11.setTop (mkF m 3 #[.val (.ref a), .val (.int lo), .val (.int hi), .val (.ref o), .val (.int (0 : Int32))] []))
      exact key1 _ _ X11 e11 N11  (by rw [hj7, T1, if_pos hc8, if_neg (by decide)])
    · skip
      refine OwnFin.step (fun tT kK => XS.icmpYes X6.here hx rfl (pc0 := 6) (pc' := 30) rfl (hb hby d_prog_84_method_13_6) rfl (flt (hc8 : ¬ (lo < (1 : Int32)))).2.2.2 (by decide) (by decide) kK) ?_
      show OwnFin p e below _ (T6.setTop (mkF m 30 #[.val (.ref a), .val (.int lo), .val (.int hi), .val (.ref o), .val (.int (1 : Int32))] []))
      refine OwnFin.step (fun tT kK => XS.iload X6.here hx rfl (hb hby d_prog_84_method_13_30) rfl kK) ?_
      obtain ⟨fs9, hr9, hrun9, hended9, hW9, hsame9⟩ := X6.leave (v := (some (.int (1 : Int32)))) (fun h => by rw [Bd.returns] at h; cases h)
      refine ⟨_, _, retOut X6 hx Bd.returns rfl (Or.inl ⟨rfl, Or.inl rfl, _, rfl⟩) (hb hby d_prog_84_method_13_32) hr9, hrun9, hended9, _, _, rfl, ?_, ⟨_, rfl⟩, hW9, hsame9.mono (by decide) (by decide)⟩
      show Q60 Z a lo hi o b kb fm cs c0 c1 c2 c3 bo ko h0 n0 _ T6.heap _
      rw [e6]
      exact ⟨(by rw [hj7, T1, if_neg hc8]), N6, rfl⟩
  have key12 : ∀ (T13 : State) (L13 : List Loc), Stand p l e ({ frames := 4, cells := 0, slots := 0, locals := 55 } : Room) s m #[(.ref a), (.int lo), (.int hi), (.ref o)] below meth cC T13 L13 0 0 → T13.heap = h0 → Fr n0 L13 → (OwnT lo hi (decide False) (decide False) (decide False) (decide False) = T2 lo (decide False) (decide False) (decide False) (decide False)) → OwnFin p e below (R60 Z a lo hi o b kb fm cs c0 c1 c2 c3 bo ko h0 n0 s) (T13.setTop (mkF m 3 #[.val (.ref a), .val (.int lo), .val (.int hi), .val (.ref o), .val (.int (2 : Int32))] [])) := by
    intro T13 L13 X13 e13 N13 hj14
    refine OwnFin.step (fun tT kK => XS.iload X13.here hx rfl (hb hby d_prog_84_method_13_3) rfl kK) ?_
    refine OwnFin.step (fun tT kK => XS.iloadN X13.here hx rfl (hb hby d_prog_84_method_13_5) rfl kK) ?_
    show OwnFin p e below _ (T13.setTop (mkF m 6 #[.val (.ref a), .val (.int lo), .val (.int hi), .val (.ref o), .val (.int (2 : Int32))] [(.int lo), (.int (2 : Int32))]))
    by_cases hc15 : lo < (2 : Int32)
    · skip
      refine OwnFin.step (fun tT kK => XS.icmpNo X13.here hx rfl (hb hby d_prog_84_method_13_6) rfl (tlt (hc15 : lo < (2 : Int32))).2.2.2 kK) ?_
      show OwnFin p e below _ (T13.setTop (mkF m 9 #[.val (.ref a), .val (.int lo), .val (.int hi), .val (.ref o), .val (.int (2 : Int32))] []))
      refine OwnFin.step (fun tT kK => XS.aloadN X13.here hx rfl (hb hby d_prog_84_method_13_9) rfl rfl kK) ?_
      refine OwnFin.step (fun tT kK => XS.aloadN X13.here hx rfl (hb hby d_prog_84_method_13_10) rfl rfl kK) ?_
      show OwnFin p e below _ (T13.setTop (mkF m 11 #[.val (.ref a), .val (.int lo), .val (.int hi), .val (.ref o), .val (.int (2 : Int32))] [(.ref a), (.ref o)]))
      refine OwnFin.step (fun tT kK => XS.iload X13.here hx rfl (hb hby d_prog_84_method_13_11) rfl kK) ?_
      refine OwnFin.step (fun tT kK => XS.iconst X13.here hx rfl (hb hby d_prog_84_method_13_13) kK) ?_
      show OwnFin p e below _ (T13.setTop (mkF m 14 #[.val (.ref a), .val (.int lo), .val (.int hi), .val (.ref o), .val (.int (2 : Int32))] [(.int (1 : Int32)), (.int (2 : Int32)), (.ref a), (.ref o)]))
      refine OwnFin.step (fun tT kK => XS.isub X13.here hx rfl (hb hby d_prog_84_method_13_14) rfl kK) ?_
      obtain ⟨cq17, kq17, q17a, q17b, q17c⟩ := isOf hZ e13 hp2
      obtain ⟨_, _, ⟨T17, L17, k17, n17⟩, -, X17, ⟨Lc17, hQ17, l17, y17, z17⟩, st17⟩ := X13.virtualBack hx (y := (⟨"java/lang/String", "charAt", "(I)C"⟩ : MethodName)) (z := (⟨"java/lang/String", "charAt", "(I)C"⟩ : MethodName)) hown (mvT hZ (hw _ (List.mem_of_getElem? (i := 49) rfl))) (mvT hZ (hw _ (List.mem_of_getElem? (i := 50) rfl))) (notFace_of_selects (args := #[]) (mvT hZ (hw _ (List.mem_of_getElem? (i := 52) rfl)))) (mvT hZ (hw _ (List.mem_of_getElem? (i := 52) rfl))) (mvT hZ (hw _ (List.mem_of_getElem? (i := 51) rfl))) (by decide) (backOf (W := 1) (rm3d1 l Z a0 hw hEL wS [] a b kb fm cs c0 c1 c2 c3 h0 n0 (Nat.le_trans Z0 Kp0.1) hp0 hp1 hp2 hp3 hp4 hp5 hp6 hp7 hp8 hp9 hp10 hp11) hZ (hw _ (List.mem_of_getElem? (i := 53) rfl)) (hw _ (List.mem_of_getElem? (i := 2) rfl)) (by decide) (by decide)) q17a q17c (g := (mkF m 15 #[.val (.ref a), .val (.int lo), .val (.int hi), .val (.ref o), .val (.int (2 : Int32))] [(.int (1 : Int32)), (.ref a), (.ref o)])) rfl (by rw [hml]; rfl) (Steps.refl _) (argsL := [(.int (1 : Int32))]) (rest := [(.ref o)]) (lenOf pd_160 rfl) rfl (by show 2 * 0 + _ ≤ _; exact Nat.le_of_eq rfl) (hb hby d_prog_84_method_13_15) (fun _ _ => ⟨rfl, e13, (by decide : 0 + 0 ≤ _), (by decide : 0 + 0 ≤ _)⟩)
      dsimp only [Pt.U, Pt.locs, Pt.cells, Pt.slots] at X17 l17 y17 z17 st17 hQ17
      subst l17 y17 z17
      obtain ⟨rfl, N17q, e17⟩ := hQ17
      have N17 := Fr.app N13 N17q
      refine OwnFin.step (fun tT kK => st17.trans kK) ?_
      show OwnFin p e below _ (T17.setTop (mkF m 18 #[.val (.ref a), .val (.int lo), .val (.int hi), .val (.ref o), .val (.int (2 : Int32))] [(.int c1), (.ref o)]))
      obtain ⟨cq18, kq18, q18a, q18b, q18c⟩ := isOf hZ e17 hp12
      obtain ⟨_, _, ⟨T18, L18, k18, n18⟩, -, X18, ⟨Lc18, hQ18, l18, y18, z18⟩, st18⟩ := X17.virtualBack hx (y := (⟨"java/lang/String", "indexOf", "(I)I"⟩ : MethodName)) (z := (⟨"java/lang/String", "indexOf", "(I)I"⟩ : MethodName)) hown (mvT hZ (hw _ (List.mem_of_getElem? (i := 71) rfl))) (mvT hZ (hw _ (List.mem_of_getElem? (i := 72) rfl))) (notFace_of_selects (args := #[]) (mvT hZ (hw _ (List.mem_of_getElem? (i := 74) rfl)))) (mvT hZ (hw _ (List.mem_of_getElem? (i := 74) rfl))) (mvT hZ (hw _ (List.mem_of_getElem? (i := 73) rfl))) (by decide) (backOf (W := 0) (rm5e0 l Z a0 hw hEL wS [] o c1 bo ko cs h0 n0 (Nat.le_trans Z0 Kp0.1) hp12 hp13 hp14 hp15 hp10 hp11 hp7) hZ (hw _ (List.mem_of_getElem? (i := 75) rfl)) (hw _ (List.mem_of_getElem? (i := 2) rfl)) (by decide) (by decide)) q18a q18c (g := (mkF m 18 #[.val (.ref a), .val (.int lo), .val (.int hi), .val (.ref o), .val (.int (2 : Int32))] [(.int c1), (.ref o)])) rfl (by rw [hml]; rfl) (Steps.refl _) (argsL := [(.int c1)]) (rest := []) (lenOf pd_162 rfl) rfl (by show 2 * 0 + _ ≤ _; exact Nat.le_of_eq rfl) (hb hby d_prog_84_method_13_18) (fun _ _ => ⟨rfl, e17, (by decide : 0 + 0 ≤ _), (by decide : 0 + 0 ≤ _)⟩)
      dsimp only [Pt.U, Pt.locs, Pt.cells, Pt.slots] at X18 l18 y18 z18 st18 hQ18
      subst l18 y18 z18
      obtain ⟨rfl, N18q, e18⟩ := hQ18
      have N18 := Fr.app N17 N18q
      refine OwnFin.step (fun tT kK => st18.trans kK) ?_
      show OwnFin p e below _ (T18.setTop (mkF m 21 #[.val (.ref a), .val (.int lo), .val (.int hi), .val (.ref o), .val (.int (2 : Int32))] [(.int (-1 : Int32))]))
      refine OwnFin.step (fun tT kK => XS.ifNo X18.here hx rfl (hb hby d_prog_84_method_13_21) rfl ((if0 _ _).trans (tlt (by decide : (-1 : Int32) < (0 : Int32))).2.1) kK) ?_
      show OwnFin p e below _ (T18.setTop (mkF m 24 #[.val (.ref a), .val (.int lo), .val (.int hi), .val (.ref o), .val (.int (2 : Int32))] []))
      refine OwnFin.step (fun tT kK => XS.iinc X18.here hx rfl (hb hby d_prog_84_method_13_24) rfl (l' := #[.val (.ref a), .val (.int lo), .val (.int hi), .val (.ref o), .val (.int (1 : Int32))]) rfl kK) ?_
      show OwnFin p e below _ (T18.setTop (mkF m 27 #[.val (.ref a), .val (.int lo), .val (.int hi), .val (.ref o), .val (.int (1 : Int32))] []))
      refine OwnFin.step (fun tT kK => XS.goto X18.here hx rfl (pc0 := 27) (pc' := 3) rfl (hb hby d_prog_84_method_13_27) (by decide) (by decide) kK) ?_
      show OwnFin p e below _ (T18.setTop (mkF m 3 #[.val (.ref a), .val (.int lo), .val (.int hi), .val (.ref o), .val (.int (1 : Int32))] []))
      exact key5 _ _ X18 e18 N18  (by rw [hj14, T2, if_pos hc15, if_neg (by decide)])
    · skip
      refine OwnFin.step (fun tT kK => XS.icmpYes X13.here hx rfl (pc0 := 6) (pc' := 30) rfl (hb hby d_prog_84_method_13_6) rfl (flt (hc15 : ¬ (lo < (2 : Int32)))).2.2.2 (by decide) (by decide) kK) ?_
      show OwnFin p e below _ (T13.setTop (mkF m 30 #[.val (.ref a), .val (.int lo), .val (.int hi), .val (.ref o), .val (.int (2 : Int32))] []))
      refine OwnFin.step (fun tT kK => XS.iload X13.here hx rfl (hb hby d_prog_84_method_13_30) rfl kK) ?_
      obtain ⟨fs16, hr16, hrun16, hended16, hW16, hsame16⟩ := X13.leave (v := (some (.int (2 : Int32)))) (fun h => by rw [Bd.returns] at h; cases h)
      refine ⟨_, _, retOut X13 hx Bd.returns rfl (Or.inl ⟨rfl, Or.inl rfl, _, rfl⟩) (hb hby d_prog_84_method_13_32) hr16, hrun16, hended16, _, _, rfl, ?_, ⟨_, rfl⟩, hW16, hsame16.mono (by decide) (by decide)⟩
      show Q60 Z a lo hi o b kb fm cs c0 c1 c2 c3 bo ko h0 n0 _ T13.heap _
      rw [e13]
      exact ⟨(by rw [hj14, T2, if_neg hc15]), N13, rfl⟩
  have key19 : ∀ (T20 : State) (L20 : List Loc), Stand p l e ({ frames := 4, cells := 0, slots := 0, locals := 55 } : Room) s m #[(.ref a), (.int lo), (.int hi), (.ref o)] below meth cC T20 L20 0 0 → T20.heap = h0 → Fr n0 L20 → (OwnT lo hi (decide False) (decide False) (decide False) (decide False) = T3 lo (decide False) (decide False) (decide False) (decide False)) → OwnFin p e below (R60 Z a lo hi o b kb fm cs c0 c1 c2 c3 bo ko h0 n0 s) (T20.setTop (mkF m 3 #[.val (.ref a), .val (.int lo), .val (.int hi), .val (.ref o), .val (.int (3 : Int32))] [])) := by
    intro T20 L20 X20 e20 N20 hj21
    refine OwnFin.step (fun tT kK => XS.iload X20.here hx rfl (hb hby d_prog_84_method_13_3) rfl kK) ?_
    refine OwnFin.step (fun tT kK => XS.iloadN X20.here hx rfl (hb hby d_prog_84_method_13_5) rfl kK) ?_
    show OwnFin p e below _ (T20.setTop (mkF m 6 #[.val (.ref a), .val (.int lo), .val (.int hi), .val (.ref o), .val (.int (3 : Int32))] [(.int lo), (.int (3 : Int32))]))
    by_cases hc22 : lo < (3 : Int32)
    · skip
      refine OwnFin.step (fun tT kK => XS.icmpNo X20.here hx rfl (hb hby d_prog_84_method_13_6) rfl (tlt (hc22 : lo < (3 : Int32))).2.2.2 kK) ?_
      show OwnFin p e below _ (T20.setTop (mkF m 9 #[.val (.ref a), .val (.int lo), .val (.int hi), .val (.ref o), .val (.int (3 : Int32))] []))
      refine OwnFin.step (fun tT kK => XS.aloadN X20.here hx rfl (hb hby d_prog_84_method_13_9) rfl rfl kK) ?_
      refine OwnFin.step (fun tT kK => XS.aloadN X20.here hx rfl (hb hby d_prog_84_method_13_10) rfl rfl kK) ?_
      show OwnFin p e below _ (T20.setTop (mkF m 11 #[.val (.ref a), .val (.int lo), .val (.int hi), .val (.ref o), .val (.int (3 : Int32))] [(.ref a), (.ref o)]))
      refine OwnFin.step (fun tT kK => XS.iload X20.here hx rfl (hb hby d_prog_84_method_13_11) rfl kK) ?_
      refine OwnFin.step (fun tT kK => XS.iconst X20.here hx rfl (hb hby d_prog_84_method_13_13) kK) ?_
      show OwnFin p e below _ (T20.setTop (mkF m 14 #[.val (.ref a), .val (.int lo), .val (.int hi), .val (.ref o), .val (.int (3 : Int32))] [(.int (1 : Int32)), (.int (3 : Int32)), (.ref a), (.ref o)]))
      refine OwnFin.step (fun tT kK => XS.isub X20.here hx rfl (hb hby d_prog_84_method_13_14) rfl kK) ?_
      obtain ⟨cq24, kq24, q24a, q24b, q24c⟩ := isOf hZ e20 hp2
      obtain ⟨_, _, ⟨T24, L24, k24, n24⟩, -, X24, ⟨Lc24, hQ24, l24, y24, z24⟩, st24⟩ := X20.virtualBack hx (y := (⟨"java/lang/String", "charAt", "(I)C"⟩ : MethodName)) (z := (⟨"java/lang/String", "charAt", "(I)C"⟩ : MethodName)) hown (mvT hZ (hw _ (List.mem_of_getElem? (i := 49) rfl))) (mvT hZ (hw _ (List.mem_of_getElem? (i := 50) rfl))) (notFace_of_selects (args := #[]) (mvT hZ (hw _ (List.mem_of_getElem? (i := 52) rfl)))) (mvT hZ (hw _ (List.mem_of_getElem? (i := 52) rfl))) (mvT hZ (hw _ (List.mem_of_getElem? (i := 51) rfl))) (by decide) (backOf (W := 1) (rm3d2 l Z a0 hw hEL wS [] a b kb fm cs c0 c1 c2 c3 h0 n0 (Nat.le_trans Z0 Kp0.1) hp0 hp1 hp2 hp3 hp4 hp5 hp6 hp7 hp8 hp9 hp10 hp11) hZ (hw _ (List.mem_of_getElem? (i := 53) rfl)) (hw _ (List.mem_of_getElem? (i := 2) rfl)) (by decide) (by decide)) q24a q24c (g := (mkF m 15 #[.val (.ref a), .val (.int lo), .val (.int hi), .val (.ref o), .val (.int (3 : Int32))] [(.int (2 : Int32)), (.ref a), (.ref o)])) rfl (by rw [hml]; rfl) (Steps.refl _) (argsL := [(.int (2 : Int32))]) (rest := [(.ref o)]) (lenOf pd_160 rfl) rfl (by show 2 * 0 + _ ≤ _; exact Nat.le_of_eq rfl) (hb hby d_prog_84_method_13_15) (fun _ _ => ⟨rfl, e20, (by decide : 0 + 0 ≤ _), (by decide : 0 + 0 ≤ _)⟩)
      dsimp only [Pt.U, Pt.locs, Pt.cells, Pt.slots] at X24 l24 y24 z24 st24 hQ24
      subst l24 y24 z24
      obtain ⟨rfl, N24q, e24⟩ := hQ24
      have N24 := Fr.app N20 N24q
      refine OwnFin.step (fun tT kK => st24.trans kK) ?_
      show OwnFin p e below _ (T24.setTop (mkF m 18 #[.val (.ref a), .val (.int lo), .val (.int hi), .val (.ref o), .val (.int (3 : Int32))] [(.int c2), (.ref o)]))
      obtain ⟨cq25, kq25, q25a, q25b, q25c⟩ := isOf hZ e24 hp12
      obtain ⟨_, _, ⟨T25, L25, k25, n25⟩, -, X25, ⟨Lc25, hQ25, l25, y25, z25⟩, st25⟩ := X24.virtualBack hx (y := (⟨"java/lang/String", "indexOf", "(I)I"⟩ : MethodName)) (z := (⟨"java/lang/String", "indexOf", "(I)I"⟩ : MethodName)) hown (mvT hZ (hw _ (List.mem_of_getElem? (i := 71) rfl))) (mvT hZ (hw _ (List.mem_of_getElem? (i := 72) rfl))) (notFace_of_selects (args := #[]) (mvT hZ (hw _ (List.mem_of_getElem? (i := 74) rfl)))) (mvT hZ (hw _ (List.mem_of_getElem? (i := 74) rfl))) (mvT hZ (hw _ (List.mem_of_getElem? (i := 73) rfl))) (by decide) (backOf (W := 0) (rm5e0 l Z a0 hw hEL wS [] o c2 bo ko cs h0 n0 (Nat.le_trans Z0 Kp0.1) hp12 hp13 hp14 hp15 hp10 hp11 hp8) hZ (hw _ (List.mem_of_getElem? (i := 75) rfl)) (hw _ (List.mem_of_getElem? (i := 2) rfl)) (by decide) (by decide)) q25a q25c (g := (mkF m 18 #[.val (.ref a), .val (.int lo), .val (.int hi), .val (.ref o), .val (.int (3 : Int32))] [(.int c2), (.ref o)])) rfl (by rw [hml]; rfl) (Steps.refl _) (argsL := [(.int c2)]) (rest := []) (lenOf pd_162 rfl) rfl (by show 2 * 0 + _ ≤ _; exact Nat.le_of_eq rfl) (hb hby d_prog_84_method_13_18) (fun _ _ => ⟨rfl, e24, (by decide : 0 + 0 ≤ _), (by decide : 0 + 0 ≤ _)⟩)
      dsimp only [Pt.U, Pt.locs, Pt.cells, Pt.slots] at X25 l25 y25 z25 st25 hQ25
      subst l25 y25 z25
      obtain ⟨rfl, N25q, e25⟩ := hQ25
      have N25 := Fr.app N24 N25q
      refine OwnFin.step (fun tT kK => st25.trans kK) ?_
      show OwnFin p e below _ (T25.setTop (mkF m 21 #[.val (.ref a), .val (.int lo), .val (.int hi), .val (.ref o), .val (.int (3 : Int32))] [(.int (-1 : Int32))]))
      refine OwnFin.step (fun tT kK => XS.ifNo X25.here hx rfl (hb hby d_prog_84_method_13_21) rfl ((if0 _ _).trans (tlt (by decide : (-1 : Int32) < (0 : Int32))).2.1) kK) ?_
      show OwnFin p e below _ (T25.setTop (mkF m 24 #[.val (.ref a), .val (.int lo), .val (.int hi), .val (.ref o), .val (.int (3 : Int32))] []))
      refine OwnFin.step (fun tT kK => XS.iinc X25.here hx rfl (hb hby d_prog_84_method_13_24) rfl (l' := #[.val (.ref a), .val (.int lo), .val (.int hi), .val (.ref o), .val (.int (2 : Int32))]) rfl kK) ?_
      show OwnFin p e below _ (T25.setTop (mkF m 27 #[.val (.ref a), .val (.int lo), .val (.int hi), .val (.ref o), .val (.int (2 : Int32))] []))
      refine OwnFin.step (fun tT kK => XS.goto X25.here hx rfl (pc0 := 27) (pc' := 3) rfl (hb hby d_prog_84_method_13_27) (by decide) (by decide) kK) ?_
      show OwnFin p e below _ (T25.setTop (mkF m 3 #[.val (.ref a), .val (.int lo), .val (.int hi), .val (.ref o), .val (.int (2 : Int32))] []))
      exact key12 _ _ X25 e25 N25  (by rw [hj21, T3, if_pos hc22, if_neg (by decide)])
    · skip
      refine OwnFin.step (fun tT kK => XS.icmpYes X20.here hx rfl (pc0 := 6) (pc' := 30) rfl (hb hby d_prog_84_method_13_6) rfl (flt (hc22 : ¬ (lo < (3 : Int32)))).2.2.2 (by decide) (by decide) kK) ?_
      show OwnFin p e below _ (T20.setTop (mkF m 30 #[.val (.ref a), .val (.int lo), .val (.int hi), .val (.ref o), .val (.int (3 : Int32))] []))
      refine OwnFin.step (fun tT kK => XS.iload X20.here hx rfl (hb hby d_prog_84_method_13_30) rfl kK) ?_
      obtain ⟨fs23, hr23, hrun23, hended23, hW23, hsame23⟩ := X20.leave (v := (some (.int (3 : Int32)))) (fun h => by rw [Bd.returns] at h; cases h)
      refine ⟨_, _, retOut X20 hx Bd.returns rfl (Or.inl ⟨rfl, Or.inl rfl, _, rfl⟩) (hb hby d_prog_84_method_13_32) hr23, hrun23, hended23, _, _, rfl, ?_, ⟨_, rfl⟩, hW23, hsame23.mono (by decide) (by decide)⟩
      show Q60 Z a lo hi o b kb fm cs c0 c1 c2 c3 bo ko h0 n0 _ T20.heap _
      rw [e20]
      exact ⟨(by rw [hj21, T3, if_neg hc22]), N20, rfl⟩
  have key26 : ∀ (T27 : State) (L27 : List Loc), Stand p l e ({ frames := 4, cells := 0, slots := 0, locals := 55 } : Room) s m #[(.ref a), (.int lo), (.int hi), (.ref o)] below meth cC T27 L27 0 0 → T27.heap = h0 → Fr n0 L27 → (OwnT lo hi (decide False) (decide False) (decide False) (decide False) = T4 lo (decide False) (decide False) (decide False) (decide False)) → OwnFin p e below (R60 Z a lo hi o b kb fm cs c0 c1 c2 c3 bo ko h0 n0 s) (T27.setTop (mkF m 3 #[.val (.ref a), .val (.int lo), .val (.int hi), .val (.ref o), .val (.int (4 : Int32))] [])) := by
    intro T27 L27 X27 e27 N27 hj28
    refine OwnFin.step (fun tT kK => XS.iload X27.here hx rfl (hb hby d_prog_84_method_13_3) rfl kK) ?_
    refine OwnFin.step (fun tT kK => XS.iloadN X27.here hx rfl (hb hby d_prog_84_method_13_5) rfl kK) ?_
    show OwnFin p e below _ (T27.setTop (mkF m 6 #[.val (.ref a), .val (.int lo), .val (.int hi), .val (.ref o), .val (.int (4 : Int32))] [(.int lo), (.int (4 : Int32))]))
    by_cases hc29 : lo < (4 : Int32)
    · skip
      refine OwnFin.step (fun tT kK => XS.icmpNo X27.here hx rfl (hb hby d_prog_84_method_13_6) rfl (tlt (hc29 : lo < (4 : Int32))).2.2.2 kK) ?_
      show OwnFin p e below _ (T27.setTop (mkF m 9 #[.val (.ref a), .val (.int lo), .val (.int hi), .val (.ref o), .val (.int (4 : Int32))] []))
      refine OwnFin.step (fun tT kK => XS.aloadN X27.here hx rfl (hb hby d_prog_84_method_13_9) rfl rfl kK) ?_
      refine OwnFin.step (fun tT kK => XS.aloadN X27.here hx rfl (hb hby d_prog_84_method_13_10) rfl rfl kK) ?_
      show OwnFin p e below _ (T27.setTop (mkF m 11 #[.val (.ref a), .val (.int lo), .val (.int hi), .val (.ref o), .val (.int (4 : Int32))] [(.ref a), (.ref o)]))
      refine OwnFin.step (fun tT kK => XS.iload X27.here hx rfl (hb hby d_prog_84_method_13_11) rfl kK) ?_
      refine OwnFin.step (fun tT kK => XS.iconst X27.here hx rfl (hb hby d_prog_84_method_13_13) kK) ?_
      show OwnFin p e below _ (T27.setTop (mkF m 14 #[.val (.ref a), .val (.int lo), .val (.int hi), .val (.ref o), .val (.int (4 : Int32))] [(.int (1 : Int32)), (.int (4 : Int32)), (.ref a), (.ref o)]))
      refine OwnFin.step (fun tT kK => XS.isub X27.here hx rfl (hb hby d_prog_84_method_13_14) rfl kK) ?_
      obtain ⟨cq31, kq31, q31a, q31b, q31c⟩ := isOf hZ e27 hp2
      obtain ⟨_, _, ⟨T31, L31, k31, n31⟩, -, X31, ⟨Lc31, hQ31, l31, y31, z31⟩, st31⟩ := X27.virtualBack hx (y := (⟨"java/lang/String", "charAt", "(I)C"⟩ : MethodName)) (z := (⟨"java/lang/String", "charAt", "(I)C"⟩ : MethodName)) hown (mvT hZ (hw _ (List.mem_of_getElem? (i := 49) rfl))) (mvT hZ (hw _ (List.mem_of_getElem? (i := 50) rfl))) (notFace_of_selects (args := #[]) (mvT hZ (hw _ (List.mem_of_getElem? (i := 52) rfl)))) (mvT hZ (hw _ (List.mem_of_getElem? (i := 52) rfl))) (mvT hZ (hw _ (List.mem_of_getElem? (i := 51) rfl))) (by decide) (backOf (W := 1) (rm3d3 l Z a0 hw hEL wS [] a b kb fm cs c0 c1 c2 c3 h0 n0 (Nat.le_trans Z0 Kp0.1) hp0 hp1 hp2 hp3 hp4 hp5 hp6 hp7 hp8 hp9 hp10 hp11) hZ (hw _ (List.mem_of_getElem? (i := 53) rfl)) (hw _ (List.mem_of_getElem? (i := 2) rfl)) (by decide) (by decide)) q31a q31c (g := (mkF m 15 #[.val (.ref a), .val (.int lo), .val (.int hi), .val (.ref o), .val (.int (4 : Int32))] [(.int (3 : Int32)), (.ref a), (.ref o)])) rfl (by rw [hml]; rfl) (Steps.refl _) (argsL := [(.int (3 : Int32))]) (rest := [(.ref o)]) (lenOf pd_160 rfl) rfl (by show 2 * 0 + _ ≤ _; exact Nat.le_of_eq rfl) (hb hby d_prog_84_method_13_15) (fun _ _ => ⟨rfl, e27, (by decide : 0 + 0 ≤ _), (by decide : 0 + 0 ≤ _)⟩)
      dsimp only [Pt.U, Pt.locs, Pt.cells, Pt.slots] at X31 l31 y31 z31 st31 hQ31
      subst l31 y31 z31
      obtain ⟨rfl, N31q, e31⟩ := hQ31
      have N31 := Fr.app N27 N31q
      refine OwnFin.step (fun tT kK => st31.trans kK) ?_
      show OwnFin p e below _ (T31.setTop (mkF m 18 #[.val (.ref a), .val (.int lo), .val (.int hi), .val (.ref o), .val (.int (4 : Int32))] [(.int c3), (.ref o)]))
      obtain ⟨cq32, kq32, q32a, q32b, q32c⟩ := isOf hZ e31 hp12
      obtain ⟨_, _, ⟨T32, L32, k32, n32⟩, -, X32, ⟨Lc32, hQ32, l32, y32, z32⟩, st32⟩ := X31.virtualBack hx (y := (⟨"java/lang/String", "indexOf", "(I)I"⟩ : MethodName)) (z := (⟨"java/lang/String", "indexOf", "(I)I"⟩ : MethodName)) hown (mvT hZ (hw _ (List.mem_of_getElem? (i := 71) rfl))) (mvT hZ (hw _ (List.mem_of_getElem? (i := 72) rfl))) (notFace_of_selects (args := #[]) (mvT hZ (hw _ (List.mem_of_getElem? (i := 74) rfl)))) (mvT hZ (hw _ (List.mem_of_getElem? (i := 74) rfl))) (mvT hZ (hw _ (List.mem_of_getElem? (i := 73) rfl))) (by decide) (backOf (W := 0) (rm5e0 l Z a0 hw hEL wS [] o c3 bo ko cs h0 n0 (Nat.le_trans Z0 Kp0.1) hp12 hp13 hp14 hp15 hp10 hp11 hp9) hZ (hw _ (List.mem_of_getElem? (i := 75) rfl)) (hw _ (List.mem_of_getElem? (i := 2) rfl)) (by decide) (by decide)) q32a q32c (g := (mkF m 18 #[.val (.ref a), .val (.int lo), .val (.int hi), .val (.ref o), .val (.int (4 : Int32))] [(.int c3), (.ref o)])) rfl (by rw [hml]; rfl) (Steps.refl _) (argsL := [(.int c3)]) (rest := []) (lenOf pd_162 rfl) rfl (by show 2 * 0 + _ ≤ _; exact Nat.le_of_eq rfl) (hb hby d_prog_84_method_13_18) (fun _ _ => ⟨rfl, e31, (by decide : 0 + 0 ≤ _), (by decide : 0 + 0 ≤ _)⟩)
      dsimp only [Pt.U, Pt.locs, Pt.cells, Pt.slots] at X32 l32 y32 z32 st32 hQ32
      subst l32 y32 z32
      obtain ⟨rfl, N32q, e32⟩ := hQ32
      have N32 := Fr.app N31 N32q
      refine OwnFin.step (fun tT kK => st32.trans kK) ?_
      show OwnFin p e below _ (T32.setTop (mkF m 21 #[.val (.ref a), .val (.int lo), .val (.int hi), .val (.ref o), .val (.int (4 : Int32))] [(.int (-1 : Int32))]))
      refine OwnFin.step (fun tT kK => XS.ifNo X32.here hx rfl (hb hby d_prog_84_method_13_21) rfl ((if0 _ _).trans (tlt (by decide : (-1 : Int32) < (0 : Int32))).2.1) kK) ?_
      show OwnFin p e below _ (T32.setTop (mkF m 24 #[.val (.ref a), .val (.int lo), .val (.int hi), .val (.ref o), .val (.int (4 : Int32))] []))
      refine OwnFin.step (fun tT kK => XS.iinc X32.here hx rfl (hb hby d_prog_84_method_13_24) rfl (l' := #[.val (.ref a), .val (.int lo), .val (.int hi), .val (.ref o), .val (.int (3 : Int32))]) rfl kK) ?_
      show OwnFin p e below _ (T32.setTop (mkF m 27 #[.val (.ref a), .val (.int lo), .val (.int hi), .val (.ref o), .val (.int (3 : Int32))] []))
      refine OwnFin.step (fun tT kK => XS.goto X32.here hx rfl (pc0 := 27) (pc' := 3) rfl (hb hby d_prog_84_method_13_27) (by decide) (by decide) kK) ?_
      show OwnFin p e below _ (T32.setTop (mkF m 3 #[.val (.ref a), .val (.int lo), .val (.int hi), .val (.ref o), .val (.int (3 : Int32))] []))
      exact key19 _ _ X32 e32 N32  (by rw [hj28, T4, if_pos hc29, if_neg (by decide)])
    · skip
      refine OwnFin.step (fun tT kK => XS.icmpYes X27.here hx rfl (pc0 := 6) (pc' := 30) rfl (hb hby d_prog_84_method_13_6) rfl (flt (hc29 : ¬ (lo < (4 : Int32)))).2.2.2 (by decide) (by decide) kK) ?_
      show OwnFin p e below _ (T27.setTop (mkF m 30 #[.val (.ref a), .val (.int lo), .val (.int hi), .val (.ref o), .val (.int (4 : Int32))] []))
      refine OwnFin.step (fun tT kK => XS.iload X27.here hx rfl (hb hby d_prog_84_method_13_30) rfl kK) ?_
      obtain ⟨fs30, hr30, hrun30, hended30, hW30, hsame30⟩ := X27.leave (v := (some (.int (4 : Int32)))) (fun h => by rw [Bd.returns] at h; cases h)
      refine ⟨_, _, retOut X27 hx Bd.returns rfl (Or.inl ⟨rfl, Or.inl rfl, _, rfl⟩) (hb hby d_prog_84_method_13_32) hr30, hrun30, hended30, _, _, rfl, ?_, ⟨_, rfl⟩, hW30, hsame30.mono (by decide) (by decide)⟩
      show Q60 Z a lo hi o b kb fm cs c0 c1 c2 c3 bo ko h0 n0 _ T27.heap _
      rw [e27]
      exact ⟨(by rw [hj28, T4, if_neg hc29]), N27, rfl⟩
  rcases (own_hi hp16).1 with rfl | rfl | rfl | rfl | rfl
  · skip
    show OwnFin p e below _ (s₁.setTop (mkF m 3 #[.val (.ref a), .val (.int lo), .val (.int (0 : Int32)), .val (.ref o), .val (.int (0 : Int32))] []))
    exact key1 _ _ X0 e0 N0  (rfl)
  · skip
    show OwnFin p e below _ (s₁.setTop (mkF m 3 #[.val (.ref a), .val (.int lo), .val (.int (1 : Int32)), .val (.ref o), .val (.int (1 : Int32))] []))
    exact key5 _ _ X0 e0 N0  (rfl)
  · skip
    show OwnFin p e below _ (s₁.setTop (mkF m 3 #[.val (.ref a), .val (.int lo), .val (.int (2 : Int32)), .val (.ref o), .val (.int (2 : Int32))] []))
    exact key12 _ _ X0 e0 N0  (rfl)
  · skip
    show OwnFin p e below _ (s₁.setTop (mkF m 3 #[.val (.ref a), .val (.int lo), .val (.int (3 : Int32)), .val (.ref o), .val (.int (3 : Int32))] []))
    exact key19 _ _ X0 e0 N0  (rfl)
  · skip
    show OwnFin p e below _ (s₁.setTop (mkF m 3 #[.val (.ref a), .val (.int lo), .val (.int (4 : Int32)), .val (.ref o), .val (.int (4 : Int32))] []))
    exact key26 _ _ X0 e0 N0  (rfl)
theorem ef_61 (m : MethodId) (a : Addr) (lo : Int32) (hi : Int32) (o : Addr) : entryFrame m #[(.ref a), (.int lo), (.int hi), (.ref o)] 5 = mkF m 0 #[.val (.ref a), .val (.int lo), .val (.int hi), .val (.ref o), .unset] [] := by first | (simp [entryFrame, mkF, argsToLocals, Value.category]; done) | rfl
def Q61 (Z : State) (a : Addr) (lo : Int32) (hi : Int32) (o : Addr) (b : Addr) (kb : ClassId) (fm : Value) (cs : Int32) (c0 : Int32) (c1 : Int32) (c2 : Int32) (c3 : Int32) (bo : Addr) (ko : ClassId) (m0 : Int32) (h0 : Heap) (n0 : Nat) (vV : Option Value) (hH : Heap) (LL : List Loc) : Prop := vV = some (.int (OwnT lo hi (decide (c0 = m0)) (decide (c1 = m0)) (decide (c2 = m0)) (decide (c3 = m0)))) ∧ Fr n0 LL ∧ hH = h0
def R61 (Z : State) (a : Addr) (lo : Int32) (hi : Int32) (o : Addr) (b : Addr) (kb : ClassId) (fm : Value) (cs : Int32) (c0 : Int32) (c1 : Int32) (c2 : Int32) (c3 : Int32) (bo : Addr) (ko : ClassId) (m0 : Int32) (h0 : Heap) (n0 : Nat) (U : State) (oO : Outcome) (U' : State) : Prop := ∃ vV LL, oO = .returned vV ∧ Q61 Z a lo hi o b kb fm cs c0 c1 c2 c3 bo ko m0 h0 n0 vV U'.heap LL ∧ FrameEnd U oO U' LL ({ frames := 4, cells := 0, slots := 0, locals := 59 } : Room).cells ({ frames := 4, cells := 0, slots := 0, locals := 59 } : Room).slots
set_option maxRecDepth 65536 in
set_option maxHeartbeats 40000000 in
theorem rm61 (l : Launch) (Z : State) (a0 : Array Value) (hw : ∀ d ∈ tables_1, d.before a0 Z = true) (hEL : EW Z a0 OwnEL) (wS : ∀ a ∈ Bundle.stringAtoms, a.before a0 Z = true) (ws : List Jvm.Cond) (a : Addr) (lo : Int32) (hi : Int32) (o : Addr) (b : Addr) (kb : ClassId) (fm : Value) (cs : Int32) (c0 : Int32) (c1 : Int32) (c2 : Int32) (c3 : Int32) (bo : Addr) (ko : ClassId) (m0 : Int32) (h0 : Heap) (n0 : Nat) (Z0 : n0 ≤ h0.size) (hp0 : Sta Z h0 "jdk/internal/util/Preconditions" "SIOOBE_FORMATTER" "Ljava/util/function/BiFunction;" fm) (hp1 : fm.isRef = true) (hp2 : Exa Z h0 a "java/lang/String") (hp3 : Fld Z h0 a "java/lang/String" "value" "[B" (.ref b)) (hp4 : Fld Z h0 a "java/lang/String" "coder" "B" (.int (0 : Int32))) (hp5 : Arv Z h0 b kb .byte (4 : Int32) [(.int (nar .byte (c0.toInt8.toInt32))), (.int (nar .byte (c1.toInt8.toInt32))), (.int (nar .byte (c2.toInt8.toInt32))), (.int (nar .byte (c3.toInt8.toInt32)))] (.int (0 : Int32))) (hp6 : In8 c0) (hp7 : In8 c1) (hp8 : In8 c2) (hp9 : In8 c3) (hp10 : Sta Z h0 "java/lang/String" "COMPACT_STRINGS" "Z" (.int cs)) (hp11 : ¬ cs = (0 : Int32)) (hp12 : Exa Z h0 o "java/lang/String") (hp13 : Fld Z h0 o "java/lang/String" "value" "[B" (.ref bo)) (hp14 : Fld Z h0 o "java/lang/String" "coder" "B" (.int (0 : Int32))) (hp15 : Arv Z h0 bo ko .byte (1 : Int32) [(.int (nar .byte (m0.toInt8.toInt32)))] (.int (0 : Int32))) (hp16 : In8 m0) (hp17 : OwnP lo hi) :
    MetFree l (⟨"com/example/covenantry/covenantry/text/Phrases", "afterLastMark", "(Ljava/lang/String;IILjava/lang/String;)I"⟩ : MethodName) (head1 (Jvm.Cond.code (⟨"com/example/covenantry/covenantry/text/Phrases", "afterLastMark", "(Ljava/lang/String;IILjava/lang/String;)I"⟩ : MethodName) prog_84_method_13_code 5 (some .int) :: ws) ({ frames := 4, cells := 0, slots := 0, locals := 59 } : Room)) (fun aA U => aA = #[(.ref a), (.int lo), (.int hi), (.ref o)] ∧ Z.Warmed39 U.vm ∧ U.heap = h0) (fun _ _ _ _ _ => True) (fun _ U oO U' => ∃ vV LL, oO = .returned vV ∧ Q61 Z a lo hi o b kb fm cs c0 c1 c2 c3 bo ko m0 h0 n0 vV U'.heap LL ∧ FrameEnd U oO U' LL ({ frames := 4, cells := 0, slots := 0, locals := 59 } : Room).cells ({ frames := 4, cells := 0, slots := 0, locals := 59 } : Room).slots) := by
  refine MetFree.of_bodySF (plainFor_of_name pn_146) hisR ?_
  intro p e s m args below meth cC s₁ Bd hml0 hP hK
  obtain ⟨rfl, hZ, hh⟩ := hP
  have hx := Bd.exec
  have hby := Bd.bytes
  have hml : cC.maxLocals = 5 := hml0
  have hown : s.vm.findClass "com/example/covenantry/covenantry/text/Phrases" = some m.cls := findClass_of_methodNamed Bd.named
  have hnm := (name_of_methodNamed Bd.named Bd.method).1
  have X0 : Stand p l e ({ frames := 4, cells := 0, slots := 0, locals := 59 } : Room) s m #[(.ref a), (.int lo), (.int hi), (.ref o)] below meth cC s₁ [] 0 0 := Stand.of_body Bd
  have e0 : s₁.heap = h0 := by rw [← hh, Bd.state]; rfl
  have N0 := Fr.nil n0
  have Kp0 := Keep.refl h0 []
  show OwnFin p e below (R61 Z a lo hi o b kb fm cs c0 c1 c2 c3 bo ko m0 h0 n0 s) (s₁.setTop (entryFrame m #[(.ref a), (.int lo), (.int hi), (.ref o)] 5))
  rw [ef_61 m a lo hi o]
  refine OwnFin.step (fun tT kK => XS.iloadN X0.here hx rfl (hb hby d_prog_84_method_13_0) rfl kK) ?_
  refine OwnFin.step (fun tT kK => XS.istore X0.here hx rfl (hb hby d_prog_84_method_13_1) rfl (l' := #[.val (.ref a), .val (.int lo), .val (.int hi), .val (.ref o), .val (.int hi)]) rfl kK) ?_
  show OwnFin p e below _ (s₁.setTop (mkF m 3 #[.val (.ref a), .val (.int lo), .val (.int hi), .val (.ref o), .val (.int hi)] []))
  have key1 : ∀ (T2 : State) (L2 : List Loc), Stand p l e ({ frames := 4, cells := 0, slots := 0, locals := 59 } : Room) s m #[(.ref a), (.int lo), (.int hi), (.ref o)] below meth cC T2 L2 0 0 → T2.heap = h0 → Fr n0 L2 → (OwnT lo hi (decide (c0 = m0)) (decide (c1 = m0)) (decide (c2 = m0)) (decide (c3 = m0)) = T0 lo (decide (c0 = m0)) (decide (c1 = m0)) (decide (c2 = m0)) (decide (c3 = m0))) → OwnFin p e below (R61 Z a lo hi o b kb fm cs c0 c1 c2 c3 bo ko m0 h0 n0 s) (T2.setTop (mkF m 3 #[.val (.ref a), .val (.int lo), .val (.int hi), .val (.ref o), .val (.int (0 : Int32))] [])) := by
    intro T2 L2 X2 e2 N2 hj3
    refine OwnFin.step (fun tT kK => XS.iload X2.here hx rfl (hb hby d_prog_84_method_13_3) rfl kK) ?_
    refine OwnFin.step (fun tT kK => XS.iloadN X2.here hx rfl (hb hby d_prog_84_method_13_5) rfl kK) ?_
    show OwnFin p e below _ (T2.setTop (mkF m 6 #[.val (.ref a), .val (.int lo), .val (.int hi), .val (.ref o), .val (.int (0 : Int32))] [(.int lo), (.int (0 : Int32))]))
    refine OwnFin.step (fun tT kK => XS.icmpYes X2.here hx rfl (pc0 := 6) (pc' := 30) rfl (hb hby d_prog_84_method_13_6) rfl (flt ((own_hi hp17).2 : ¬ (lo < (0 : Int32)))).2.2.2 (by decide) (by decide) kK) ?_
    show OwnFin p e below _ (T2.setTop (mkF m 30 #[.val (.ref a), .val (.int lo), .val (.int hi), .val (.ref o), .val (.int (0 : Int32))] []))
    refine OwnFin.step (fun tT kK => XS.iload X2.here hx rfl (hb hby d_prog_84_method_13_30) rfl kK) ?_
    obtain ⟨fs4, hr4, hrun4, hended4, hW4, hsame4⟩ := X2.leave (v := (some (.int (0 : Int32)))) (fun h => by rw [Bd.returns] at h; cases h)
    refine ⟨_, _, retOut X2 hx Bd.returns rfl (Or.inl ⟨rfl, Or.inl rfl, _, rfl⟩) (hb hby d_prog_84_method_13_32) hr4, hrun4, hended4, _, _, rfl, ?_, ⟨_, rfl⟩, hW4, hsame4.mono (by decide) (by decide)⟩
    show Q61 Z a lo hi o b kb fm cs c0 c1 c2 c3 bo ko m0 h0 n0 _ T2.heap _
    rw [e2]
    exact ⟨(by rw [hj3]; rfl), N2, rfl⟩
  have key5 : ∀ (T6 : State) (L6 : List Loc), Stand p l e ({ frames := 4, cells := 0, slots := 0, locals := 59 } : Room) s m #[(.ref a), (.int lo), (.int hi), (.ref o)] below meth cC T6 L6 0 0 → T6.heap = h0 → Fr n0 L6 → (OwnT lo hi (decide (c0 = m0)) (decide (c1 = m0)) (decide (c2 = m0)) (decide (c3 = m0)) = T1 lo (decide (c0 = m0)) (decide (c1 = m0)) (decide (c2 = m0)) (decide (c3 = m0))) → OwnFin p e below (R61 Z a lo hi o b kb fm cs c0 c1 c2 c3 bo ko m0 h0 n0 s) (T6.setTop (mkF m 3 #[.val (.ref a), .val (.int lo), .val (.int hi), .val (.ref o), .val (.int (1 : Int32))] [])) := by
    intro T6 L6 X6 e6 N6 hj7
    refine OwnFin.step (fun tT kK => XS.iload X6.here hx rfl (hb hby d_prog_84_method_13_3) rfl kK) ?_
    refine OwnFin.step (fun tT kK => XS.iloadN X6.here hx rfl (hb hby d_prog_84_method_13_5) rfl kK) ?_
    show OwnFin p e below _ (T6.setTop (mkF m 6 #[.val (.ref a), .val (.int lo), .val (.int hi), .val (.ref o), .val (.int (1 : Int32))] [(.int lo), (.int (1 : Int32))]))
    by_cases hc8 : lo < (1 : Int32)
    · skip
      refine OwnFin.step (fun tT kK => XS.icmpNo X6.here hx rfl (hb hby d_prog_84_method_13_6) rfl (tlt (hc8 : lo < (1 : Int32))).2.2.2 kK) ?_
      show OwnFin p e below _ (T6.setTop (mkF m 9 #[.val (.ref a), .val (.int lo), .val (.int hi), .val (.ref o), .val (.int (1 : Int32))] []))
      refine OwnFin.step (fun tT kK => XS.aloadN X6.here hx rfl (hb hby d_prog_84_method_13_9) rfl rfl kK) ?_
      refine OwnFin.step (fun tT kK => XS.aloadN X6.here hx rfl (hb hby d_prog_84_method_13_10) rfl rfl kK) ?_
      show OwnFin p e below _ (T6.setTop (mkF m 11 #[.val (.ref a), .val (.int lo), .val (.int hi), .val (.ref o), .val (.int (1 : Int32))] [(.ref a), (.ref o)]))
      refine OwnFin.step (fun tT kK => XS.iload X6.here hx rfl (hb hby d_prog_84_method_13_11) rfl kK) ?_
      refine OwnFin.step (fun tT kK => XS.iconst X6.here hx rfl (hb hby d_prog_84_method_13_13) kK) ?_
      show OwnFin p e below _ (T6.setTop (mkF m 14 #[.val (.ref a), .val (.int lo), .val (.int hi), .val (.ref o), .val (.int (1 : Int32))] [(.int (1 : Int32)), (.int (1 : Int32)), (.ref a), (.ref o)]))
      refine OwnFin.step (fun tT kK => XS.isub X6.here hx rfl (hb hby d_prog_84_method_13_14) rfl kK) ?_
      obtain ⟨cq10, kq10, q10a, q10b, q10c⟩ := isOf hZ e6 hp2
      obtain ⟨_, _, ⟨T10, L10, k10, n10⟩, -, X10, ⟨Lc10, hQ10, l10, y10, z10⟩, st10⟩ := X6.virtualBack hx (y := (⟨"java/lang/String", "charAt", "(I)C"⟩ : MethodName)) (z := (⟨"java/lang/String", "charAt", "(I)C"⟩ : MethodName)) hown (mvT hZ (hw _ (List.mem_of_getElem? (i := 49) rfl))) (mvT hZ (hw _ (List.mem_of_getElem? (i := 50) rfl))) (notFace_of_selects (args := #[]) (mvT hZ (hw _ (List.mem_of_getElem? (i := 52) rfl)))) (mvT hZ (hw _ (List.mem_of_getElem? (i := 52) rfl))) (mvT hZ (hw _ (List.mem_of_getElem? (i := 51) rfl))) (by decide) (backOf (W := 1) (rm3d0 l Z a0 hw hEL wS [] a b kb fm cs c0 c1 c2 c3 h0 n0 (Nat.le_trans Z0 Kp0.1) hp0 hp1 hp2 hp3 hp4 hp5 hp6 hp7 hp8 hp9 hp10 hp11) hZ (hw _ (List.mem_of_getElem? (i := 53) rfl)) (hw _ (List.mem_of_getElem? (i := 2) rfl)) (by decide) (by decide)) q10a q10c (g := (mkF m 15 #[.val (.ref a), .val (.int lo), .val (.int hi), .val (.ref o), .val (.int (1 : Int32))] [(.int (0 : Int32)), (.ref a), (.ref o)])) rfl (by rw [hml]; rfl) (Steps.refl _) (argsL := [(.int (0 : Int32))]) (rest := [(.ref o)]) (lenOf pd_160 rfl) rfl (by show 2 * 0 + _ ≤ _; exact Nat.le_of_eq rfl) (hb hby d_prog_84_method_13_15) (fun _ _ => ⟨rfl, e6, (by decide : 0 + 0 ≤ _), (by decide : 0 + 0 ≤ _)⟩)
      dsimp only [Pt.U, Pt.locs, Pt.cells, Pt.slots] at X10 l10 y10 z10 st10 hQ10
      subst l10 y10 z10
      obtain ⟨rfl, N10q, e10⟩ := hQ10
      have N10 := Fr.app N6 N10q
      refine OwnFin.step (fun tT kK => st10.trans kK) ?_
      show OwnFin p e below _ (T10.setTop (mkF m 18 #[.val (.ref a), .val (.int lo), .val (.int hi), .val (.ref o), .val (.int (1 : Int32))] [(.int c0), (.ref o)]))
      obtain ⟨cq11, kq11, q11a, q11b, q11c⟩ := isOf hZ e10 hp12
      obtain ⟨_, _, ⟨T11, L11, k11, n11⟩, -, X11, ⟨Lc11, hQ11, l11, y11, z11⟩, st11⟩ := X10.virtualBack hx (y := (⟨"java/lang/String", "indexOf", "(I)I"⟩ : MethodName)) (z := (⟨"java/lang/String", "indexOf", "(I)I"⟩ : MethodName)) hown (mvT hZ (hw _ (List.mem_of_getElem? (i := 71) rfl))) (mvT hZ (hw _ (List.mem_of_getElem? (i := 72) rfl))) (notFace_of_selects (args := #[]) (mvT hZ (hw _ (List.mem_of_getElem? (i := 74) rfl)))) (mvT hZ (hw _ (List.mem_of_getElem? (i := 74) rfl))) (mvT hZ (hw _ (List.mem_of_getElem? (i := 73) rfl))) (by decide) (backOf (W := 0) (rm5e1 l Z a0 hw hEL wS [] o c0 bo ko cs m0 h0 n0 (Nat.le_trans Z0 Kp0.1) hp12 hp13 hp14 hp15 hp10 hp11 hp16 hp6) hZ (hw _ (List.mem_of_getElem? (i := 75) rfl)) (hw _ (List.mem_of_getElem? (i := 2) rfl)) (by decide) (by decide)) q11a q11c (g := (mkF m 18 #[.val (.ref a), .val (.int lo), .val (.int hi), .val (.ref o), .val (.int (1 : Int32))] [(.int c0), (.ref o)])) rfl (by rw [hml]; rfl) (Steps.refl _) (argsL := [(.int c0)]) (rest := []) (lenOf pd_162 rfl) rfl (by show 2 * 0 + _ ≤ _; exact Nat.le_of_eq rfl) (hb hby d_prog_84_method_13_18) (fun _ _ => ⟨rfl, e10, (by decide : 0 + 0 ≤ _), (by decide : 0 + 0 ≤ _)⟩)
      dsimp only [Pt.U, Pt.locs, Pt.cells, Pt.slots] at X11 l11 y11 z11 st11 hQ11
      subst l11 y11 z11
      obtain ⟨rfl, N11q, e11⟩ := hQ11
      have N11 := Fr.app N10 N11q
      refine OwnFin.step (fun tT kK => st11.trans kK) ?_
      show OwnFin p e below _ (T11.setTop (mkF m 21 #[.val (.ref a), .val (.int lo), .val (.int hi), .val (.ref o), .val (.int (1 : Int32))] [(.int (if c0 = m0 then (0 : Int32) else -1))]))
      by_cases hc12 : (c0 = m0)
      · skip
        rw [if_pos hc12]
        show OwnFin p e below _ (T11.setTop (mkF m 21 #[.val (.ref a), .val (.int lo), .val (.int hi), .val (.ref o), .val (.int (1 : Int32))] [(.int (0 : Int32))]))
        refine OwnFin.step (fun tT kK => XS.ifYes X11.here hx rfl (pc0 := 21) (pc' := 30) rfl (hb hby d_prog_84_method_13_21) rfl ((if0 _ _).trans (flt (by decide : ¬ ((0 : Int32) < (0 : Int32)))).2.1) (by decide) (by decide) kK) ?_
        show OwnFin p e below _ (T11.setTop (mkF m 30 #[.val (.ref a), .val (.int lo), .val (.int hi), .val (.ref o), .val (.int (1 : Int32))] []))
        refine OwnFin.step (fun tT kK => XS.iload X11.here hx rfl (hb hby d_prog_84_method_13_30) rfl kK) ?_
        show OwnFin p e below _ (T11.setTop (mkF m 32 #[.val (.ref a), .val (.int lo), .val (.int hi), .val (.ref o), .val (.int (1 : Int32))] [(.int (1 : Int32))]))
        obtain ⟨fs13, hr13, hrun13, hended13, hW13, hsame13⟩ := X11.leave (v := (some (.int (1 : Int32)))) (fun h => by rw [Bd.returns] at h; cases h)
        refine ⟨_, _, retOut X11 hx Bd.returns rfl (Or.inl ⟨rfl, Or.inl rfl, _, rfl⟩) (hb hby d_prog_84_method_13_32) hr13, hrun13, hended13, _, _, rfl, ?_, ⟨_, rfl⟩, hW13, hsame13.mono (by decide) (by decide)⟩
        show Q61 Z a lo hi o b kb fm cs c0 c1 c2 c3 bo ko m0 h0 n0 _ T11.heap _
        rw [e11]
        exact ⟨(by rw [hj7, T1, if_pos hc8, if_pos (decide_eq_true hc12)]), N11, rfl⟩
      · skip
        rw [if_neg hc12]
        show OwnFin p e below _ (T11.setTop (mkF m 21 #[.val (.ref a), .val (.int lo), .val (.int hi), .val (.ref o), .val (.int (1 : Int32))] [(.int (-1 : Int32))]))
        refine OwnFin.step (fun tT kK => XS.ifNo X11.here hx rfl (hb hby d_prog_84_method_13_21) rfl ((if0 _ _).trans (tlt (by decide : (-1 : Int32) < (0 : Int32))).2.1) kK) ?_
        show OwnFin p e below _ (T11.setTop (mkF m 24 #[.val (.ref a), .val (.int lo), .val (.int hi), .val (.ref o), .val (.int (1 : Int32))] []))
        refine OwnFin.step (fun tT kK => XS.iinc X11.here hx rfl (hb hby d_prog_84_method_13_24) rfl (l' := #[.val (.ref a), .val (.int lo), .val (.int hi), .val (.ref o), .val (.int (0 : Int32))]) rfl kK) ?_
        show OwnFin p e below _ (T11.setTop (mkF m 27 #[.val (.ref a), .val (.int lo), .val (.int hi), .val (.ref o), .val (.int (0 : Int32))] []))
        refine OwnFin.step (fun tT kK => XS.goto X11.here hx rfl (pc0 := 27) (pc' := 3) rfl (hb hby d_prog_84_method_13_27) (by decide) (by decide) kK) ?_
        show OwnFin p e below _ (T11.setTop (mkF m 3 #[.val (.ref a), .val (.int lo), .val (.int hi), .val (.ref o), .val (.int (0 : Int32))] []))
        exact key1 _ _ X11 e11 N11  (by rw [hj7, T1, if_pos hc8, if_neg (by rw [decide_eq_false hc12]; decide)])
    · skip
      refine OwnFin.step (fun tT kK => XS.icmpYes X6.here hx rfl (pc0 := 6) (pc' := 30) rfl (hb hby d_prog_84_method_13_6) rfl (flt (hc8 : ¬ (lo < (1 : Int32)))).2.2.2 (by decide) (by decide) kK) ?_
      show OwnFin p e below _ (T6.setTop (mkF m 30 #[.val (.ref a), .val (.int lo), .val (.int hi), .val (.ref o), .val (.int (1 : Int32))] []))
      refine OwnFin.step (fun tT kK => XS.iload X6.here hx rfl (hb hby d_prog_84_method_13_30) rfl kK) ?_
      obtain ⟨fs9, hr9, hrun9, hended9, hW9, hsame9⟩ := X6.leave (v := (some (.int (1 : Int32)))) (fun h => by rw [Bd.returns] at h; cases h)
      refine ⟨_, _, retOut X6 hx Bd.returns rfl (Or.inl ⟨rfl, Or.inl rfl, _, rfl⟩) (hb hby d_prog_84_method_13_32) hr9, hrun9, hended9, _, _, rfl, ?_, ⟨_, rfl⟩, hW9, hsame9.mono (by decide) (by decide)⟩
      show Q61 Z a lo hi o b kb fm cs c0 c1 c2 c3 bo ko m0 h0 n0 _ T6.heap _
      rw [e6]
      exact ⟨(by rw [hj7, T1, if_neg hc8]), N6, rfl⟩
  have key14 : ∀ (T15 : State) (L15 : List Loc), Stand p l e ({ frames := 4, cells := 0, slots := 0, locals := 59 } : Room) s m #[(.ref a), (.int lo), (.int hi), (.ref o)] below meth cC T15 L15 0 0 → T15.heap = h0 → Fr n0 L15 → (OwnT lo hi (decide (c0 = m0)) (decide (c1 = m0)) (decide (c2 = m0)) (decide (c3 = m0)) = T2 lo (decide (c0 = m0)) (decide (c1 = m0)) (decide (c2 = m0)) (decide (c3 = m0))) → OwnFin p e below (R61 Z a lo hi o b kb fm cs c0 c1 c2 c3 bo ko m0 h0 n0 s) (T15.setTop (mkF m 3 #[.val (.ref a), .val (.int lo), .val (.int hi), .val (.ref o), .val (.int (2 : Int32))] [])) := by
    intro T15 L15 X15 e15 N15 hj16
    refine OwnFin.step (fun tT kK => XS.iload X15.here hx rfl (hb hby d_prog_84_method_13_3) rfl kK) ?_
    refine OwnFin.step (fun tT kK => XS.iloadN X15.here hx rfl (hb hby d_prog_84_method_13_5) rfl kK) ?_
    show OwnFin p e below _ (T15.setTop (mkF m 6 #[.val (.ref a), .val (.int lo), .val (.int hi), .val (.ref o), .val (.int (2 : Int32))] [(.int lo), (.int (2 : Int32))]))
    by_cases hc17 : lo < (2 : Int32)
    · skip
      refine OwnFin.step (fun tT kK => XS.icmpNo X15.here hx rfl (hb hby d_prog_84_method_13_6) rfl (tlt (hc17 : lo < (2 : Int32))).2.2.2 kK) ?_
      show OwnFin p e below _ (T15.setTop (mkF m 9 #[.val (.ref a), .val (.int lo), .val (.int hi), .val (.ref o), .val (.int (2 : Int32))] []))
      refine OwnFin.step (fun tT kK => XS.aloadN X15.here hx rfl (hb hby d_prog_84_method_13_9) rfl rfl kK) ?_
      refine OwnFin.step (fun tT kK => XS.aloadN X15.here hx rfl (hb hby d_prog_84_method_13_10) rfl rfl kK) ?_
      show OwnFin p e below _ (T15.setTop (mkF m 11 #[.val (.ref a), .val (.int lo), .val (.int hi), .val (.ref o), .val (.int (2 : Int32))] [(.ref a), (.ref o)]))
      refine OwnFin.step (fun tT kK => XS.iload X15.here hx rfl (hb hby d_prog_84_method_13_11) rfl kK) ?_
      refine OwnFin.step (fun tT kK => XS.iconst X15.here hx rfl (hb hby d_prog_84_method_13_13) kK) ?_
      show OwnFin p e below _ (T15.setTop (mkF m 14 #[.val (.ref a), .val (.int lo), .val (.int hi), .val (.ref o), .val (.int (2 : Int32))] [(.int (1 : Int32)), (.int (2 : Int32)), (.ref a), (.ref o)]))
      refine OwnFin.step (fun tT kK => XS.isub X15.here hx rfl (hb hby d_prog_84_method_13_14) rfl kK) ?_
      obtain ⟨cq19, kq19, q19a, q19b, q19c⟩ := isOf hZ e15 hp2
      obtain ⟨_, _, ⟨T19, L19, k19, n19⟩, -, X19, ⟨Lc19, hQ19, l19, y19, z19⟩, st19⟩ := X15.virtualBack hx (y := (⟨"java/lang/String", "charAt", "(I)C"⟩ : MethodName)) (z := (⟨"java/lang/String", "charAt", "(I)C"⟩ : MethodName)) hown (mvT hZ (hw _ (List.mem_of_getElem? (i := 49) rfl))) (mvT hZ (hw _ (List.mem_of_getElem? (i := 50) rfl))) (notFace_of_selects (args := #[]) (mvT hZ (hw _ (List.mem_of_getElem? (i := 52) rfl)))) (mvT hZ (hw _ (List.mem_of_getElem? (i := 52) rfl))) (mvT hZ (hw _ (List.mem_of_getElem? (i := 51) rfl))) (by decide) (backOf (W := 1) (rm3d1 l Z a0 hw hEL wS [] a b kb fm cs c0 c1 c2 c3 h0 n0 (Nat.le_trans Z0 Kp0.1) hp0 hp1 hp2 hp3 hp4 hp5 hp6 hp7 hp8 hp9 hp10 hp11) hZ (hw _ (List.mem_of_getElem? (i := 53) rfl)) (hw _ (List.mem_of_getElem? (i := 2) rfl)) (by decide) (by decide)) q19a q19c (g := (mkF m 15 #[.val (.ref a), .val (.int lo), .val (.int hi), .val (.ref o), .val (.int (2 : Int32))] [(.int (1 : Int32)), (.ref a), (.ref o)])) rfl (by rw [hml]; rfl) (Steps.refl _) (argsL := [(.int (1 : Int32))]) (rest := [(.ref o)]) (lenOf pd_160 rfl) rfl (by show 2 * 0 + _ ≤ _; exact Nat.le_of_eq rfl) (hb hby d_prog_84_method_13_15) (fun _ _ => ⟨rfl, e15, (by decide : 0 + 0 ≤ _), (by decide : 0 + 0 ≤ _)⟩)
      dsimp only [Pt.U, Pt.locs, Pt.cells, Pt.slots] at X19 l19 y19 z19 st19 hQ19
      subst l19 y19 z19
      obtain ⟨rfl, N19q, e19⟩ := hQ19
      have N19 := Fr.app N15 N19q
      refine OwnFin.step (fun tT kK => st19.trans kK) ?_
      show OwnFin p e below _ (T19.setTop (mkF m 18 #[.val (.ref a), .val (.int lo), .val (.int hi), .val (.ref o), .val (.int (2 : Int32))] [(.int c1), (.ref o)]))
      obtain ⟨cq20, kq20, q20a, q20b, q20c⟩ := isOf hZ e19 hp12
      obtain ⟨_, _, ⟨T20, L20, k20, n20⟩, -, X20, ⟨Lc20, hQ20, l20, y20, z20⟩, st20⟩ := X19.virtualBack hx (y := (⟨"java/lang/String", "indexOf", "(I)I"⟩ : MethodName)) (z := (⟨"java/lang/String", "indexOf", "(I)I"⟩ : MethodName)) hown (mvT hZ (hw _ (List.mem_of_getElem? (i := 71) rfl))) (mvT hZ (hw _ (List.mem_of_getElem? (i := 72) rfl))) (notFace_of_selects (args := #[]) (mvT hZ (hw _ (List.mem_of_getElem? (i := 74) rfl)))) (mvT hZ (hw _ (List.mem_of_getElem? (i := 74) rfl))) (mvT hZ (hw _ (List.mem_of_getElem? (i := 73) rfl))) (by decide) (backOf (W := 0) (rm5e1 l Z a0 hw hEL wS [] o c1 bo ko cs m0 h0 n0 (Nat.le_trans Z0 Kp0.1) hp12 hp13 hp14 hp15 hp10 hp11 hp16 hp7) hZ (hw _ (List.mem_of_getElem? (i := 75) rfl)) (hw _ (List.mem_of_getElem? (i := 2) rfl)) (by decide) (by decide)) q20a q20c (g := (mkF m 18 #[.val (.ref a), .val (.int lo), .val (.int hi), .val (.ref o), .val (.int (2 : Int32))] [(.int c1), (.ref o)])) rfl (by rw [hml]; rfl) (Steps.refl _) (argsL := [(.int c1)]) (rest := []) (lenOf pd_162 rfl) rfl (by show 2 * 0 + _ ≤ _; exact Nat.le_of_eq rfl) (hb hby d_prog_84_method_13_18) (fun _ _ => ⟨rfl, e19, (by decide : 0 + 0 ≤ _), (by decide : 0 + 0 ≤ _)⟩)
      dsimp only [Pt.U, Pt.locs, Pt.cells, Pt.slots] at X20 l20 y20 z20 st20 hQ20
      subst l20 y20 z20
      obtain ⟨rfl, N20q, e20⟩ := hQ20
      have N20 := Fr.app N19 N20q
      refine OwnFin.step (fun tT kK => st20.trans kK) ?_
      show OwnFin p e below _ (T20.setTop (mkF m 21 #[.val (.ref a), .val (.int lo), .val (.int hi), .val (.ref o), .val (.int (2 : Int32))] [(.int (if c1 = m0 then (0 : Int32) else -1))]))
      by_cases hc21 : (c1 = m0)
      · skip
        rw [if_pos hc21]
        show OwnFin p e below _ (T20.setTop (mkF m 21 #[.val (.ref a), .val (.int lo), .val (.int hi), .val (.ref o), .val (.int (2 : Int32))] [(.int (0 : Int32))]))
        refine OwnFin.step (fun tT kK => XS.ifYes X20.here hx rfl (pc0 := 21) (pc' := 30) rfl (hb hby d_prog_84_method_13_21) rfl ((if0 _ _).trans (flt (by decide : ¬ ((0 : Int32) < (0 : Int32)))).2.1) (by decide) (by decide) kK) ?_
        show OwnFin p e below _ (T20.setTop (mkF m 30 #[.val (.ref a), .val (.int lo), .val (.int hi), .val (.ref o), .val (.int (2 : Int32))] []))
        refine OwnFin.step (fun tT kK => XS.iload X20.here hx rfl (hb hby d_prog_84_method_13_30) rfl kK) ?_
        show OwnFin p e below _ (T20.setTop (mkF m 32 #[.val (.ref a), .val (.int lo), .val (.int hi), .val (.ref o), .val (.int (2 : Int32))] [(.int (2 : Int32))]))
        obtain ⟨fs22, hr22, hrun22, hended22, hW22, hsame22⟩ := X20.leave (v := (some (.int (2 : Int32)))) (fun h => by rw [Bd.returns] at h; cases h)
        refine ⟨_, _, retOut X20 hx Bd.returns rfl (Or.inl ⟨rfl, Or.inl rfl, _, rfl⟩) (hb hby d_prog_84_method_13_32) hr22, hrun22, hended22, _, _, rfl, ?_, ⟨_, rfl⟩, hW22, hsame22.mono (by decide) (by decide)⟩
        show Q61 Z a lo hi o b kb fm cs c0 c1 c2 c3 bo ko m0 h0 n0 _ T20.heap _
        rw [e20]
        exact ⟨(by rw [hj16, T2, if_pos hc17, if_pos (decide_eq_true hc21)]), N20, rfl⟩
      · skip
        rw [if_neg hc21]
        show OwnFin p e below _ (T20.setTop (mkF m 21 #[.val (.ref a), .val (.int lo), .val (.int hi), .val (.ref o), .val (.int (2 : Int32))] [(.int (-1 : Int32))]))
        refine OwnFin.step (fun tT kK => XS.ifNo X20.here hx rfl (hb hby d_prog_84_method_13_21) rfl ((if0 _ _).trans (tlt (by decide : (-1 : Int32) < (0 : Int32))).2.1) kK) ?_
        show OwnFin p e below _ (T20.setTop (mkF m 24 #[.val (.ref a), .val (.int lo), .val (.int hi), .val (.ref o), .val (.int (2 : Int32))] []))
        refine OwnFin.step (fun tT kK => XS.iinc X20.here hx rfl (hb hby d_prog_84_method_13_24) rfl (l' := #[.val (.ref a), .val (.int lo), .val (.int hi), .val (.ref o), .val (.int (1 : Int32))]) rfl kK) ?_
        show OwnFin p e below _ (T20.setTop (mkF m 27 #[.val (.ref a), .val (.int lo), .val (.int hi), .val (.ref o), .val (.int (1 : Int32))] []))
        refine OwnFin.step (fun tT kK => XS.goto X20.here hx rfl (pc0 := 27) (pc' := 3) rfl (hb hby d_prog_84_method_13_27) (by decide) (by decide) kK) ?_
        show OwnFin p e below _ (T20.setTop (mkF m 3 #[.val (.ref a), .val (.int lo), .val (.int hi), .val (.ref o), .val (.int (1 : Int32))] []))
        exact key5 _ _ X20 e20 N20  (by rw [hj16, T2, if_pos hc17, if_neg (by rw [decide_eq_false hc21]; decide)])
    · skip
      refine OwnFin.step (fun tT kK => XS.icmpYes X15.here hx rfl (pc0 := 6) (pc' := 30) rfl (hb hby d_prog_84_method_13_6) rfl (flt (hc17 : ¬ (lo < (2 : Int32)))).2.2.2 (by decide) (by decide) kK) ?_
      show OwnFin p e below _ (T15.setTop (mkF m 30 #[.val (.ref a), .val (.int lo), .val (.int hi), .val (.ref o), .val (.int (2 : Int32))] []))
      refine OwnFin.step (fun tT kK => XS.iload X15.here hx rfl (hb hby d_prog_84_method_13_30) rfl kK) ?_
      obtain ⟨fs18, hr18, hrun18, hended18, hW18, hsame18⟩ := X15.leave (v := (some (.int (2 : Int32)))) (fun h => by rw [Bd.returns] at h; cases h)
      refine ⟨_, _, retOut X15 hx Bd.returns rfl (Or.inl ⟨rfl, Or.inl rfl, _, rfl⟩) (hb hby d_prog_84_method_13_32) hr18, hrun18, hended18, _, _, rfl, ?_, ⟨_, rfl⟩, hW18, hsame18.mono (by decide) (by decide)⟩
      show Q61 Z a lo hi o b kb fm cs c0 c1 c2 c3 bo ko m0 h0 n0 _ T15.heap _
      rw [e15]
      exact ⟨(by rw [hj16, T2, if_neg hc17]), N15, rfl⟩
  have key23 : ∀ (T24 : State) (L24 : List Loc), Stand p l e ({ frames := 4, cells := 0, slots := 0, locals := 59 } : Room) s m #[(.ref a), (.int lo), (.int hi), (.ref o)] below meth cC T24 L24 0 0 → T24.heap = h0 → Fr n0 L24 → (OwnT lo hi (decide (c0 = m0)) (decide (c1 = m0)) (decide (c2 = m0)) (decide (c3 = m0)) = T3 lo (decide (c0 = m0)) (decide (c1 = m0)) (decide (c2 = m0)) (decide (c3 = m0))) → OwnFin p e below (R61 Z a lo hi o b kb fm cs c0 c1 c2 c3 bo ko m0 h0 n0 s) (T24.setTop (mkF m 3 #[.val (.ref a), .val (.int lo), .val (.int hi), .val (.ref o), .val (.int (3 : Int32))] [])) := by
    intro T24 L24 X24 e24 N24 hj25
    refine OwnFin.step (fun tT kK => XS.iload X24.here hx rfl (hb hby d_prog_84_method_13_3) rfl kK) ?_
    refine OwnFin.step (fun tT kK => XS.iloadN X24.here hx rfl (hb hby d_prog_84_method_13_5) rfl kK) ?_
    show OwnFin p e below _ (T24.setTop (mkF m 6 #[.val (.ref a), .val (.int lo), .val (.int hi), .val (.ref o), .val (.int (3 : Int32))] [(.int lo), (.int (3 : Int32))]))
    by_cases hc26 : lo < (3 : Int32)
    · skip
      refine OwnFin.step (fun tT kK => XS.icmpNo X24.here hx rfl (hb hby d_prog_84_method_13_6) rfl (tlt (hc26 : lo < (3 : Int32))).2.2.2 kK) ?_
      show OwnFin p e below _ (T24.setTop (mkF m 9 #[.val (.ref a), .val (.int lo), .val (.int hi), .val (.ref o), .val (.int (3 : Int32))] []))
      refine OwnFin.step (fun tT kK => XS.aloadN X24.here hx rfl (hb hby d_prog_84_method_13_9) rfl rfl kK) ?_
      refine OwnFin.step (fun tT kK => XS.aloadN X24.here hx rfl (hb hby d_prog_84_method_13_10) rfl rfl kK) ?_
      show OwnFin p e below _ (T24.setTop (mkF m 11 #[.val (.ref a), .val (.int lo), .val (.int hi), .val (.ref o), .val (.int (3 : Int32))] [(.ref a), (.ref o)]))
      refine OwnFin.step (fun tT kK => XS.iload X24.here hx rfl (hb hby d_prog_84_method_13_11) rfl kK) ?_
      refine OwnFin.step (fun tT kK => XS.iconst X24.here hx rfl (hb hby d_prog_84_method_13_13) kK) ?_
      show OwnFin p e below _ (T24.setTop (mkF m 14 #[.val (.ref a), .val (.int lo), .val (.int hi), .val (.ref o), .val (.int (3 : Int32))] [(.int (1 : Int32)), (.int (3 : Int32)), (.ref a), (.ref o)]))
      refine OwnFin.step (fun tT kK => XS.isub X24.here hx rfl (hb hby d_prog_84_method_13_14) rfl kK) ?_
      obtain ⟨cq28, kq28, q28a, q28b, q28c⟩ := isOf hZ e24 hp2
      obtain ⟨_, _, ⟨T28, L28, k28, n28⟩, -, X28, ⟨Lc28, hQ28, l28, y28, z28⟩, st28⟩ := X24.virtualBack hx (y := (⟨"java/lang/String", "charAt", "(I)C"⟩ : MethodName)) (z := (⟨"java/lang/String", "charAt", "(I)C"⟩ : MethodName)) hown (mvT hZ (hw _ (List.mem_of_getElem? (i := 49) rfl))) (mvT hZ (hw _ (List.mem_of_getElem? (i := 50) rfl))) (notFace_of_selects (args := #[]) (mvT hZ (hw _ (List.mem_of_getElem? (i := 52) rfl)))) (mvT hZ (hw _ (List.mem_of_getElem? (i := 52) rfl))) (mvT hZ (hw _ (List.mem_of_getElem? (i := 51) rfl))) (by decide) (backOf (W := 1) (rm3d2 l Z a0 hw hEL wS [] a b kb fm cs c0 c1 c2 c3 h0 n0 (Nat.le_trans Z0 Kp0.1) hp0 hp1 hp2 hp3 hp4 hp5 hp6 hp7 hp8 hp9 hp10 hp11) hZ (hw _ (List.mem_of_getElem? (i := 53) rfl)) (hw _ (List.mem_of_getElem? (i := 2) rfl)) (by decide) (by decide)) q28a q28c (g := (mkF m 15 #[.val (.ref a), .val (.int lo), .val (.int hi), .val (.ref o), .val (.int (3 : Int32))] [(.int (2 : Int32)), (.ref a), (.ref o)])) rfl (by rw [hml]; rfl) (Steps.refl _) (argsL := [(.int (2 : Int32))]) (rest := [(.ref o)]) (lenOf pd_160 rfl) rfl (by show 2 * 0 + _ ≤ _; exact Nat.le_of_eq rfl) (hb hby d_prog_84_method_13_15) (fun _ _ => ⟨rfl, e24, (by decide : 0 + 0 ≤ _), (by decide : 0 + 0 ≤ _)⟩)
      dsimp only [Pt.U, Pt.locs, Pt.cells, Pt.slots] at X28 l28 y28 z28 st28 hQ28
      subst l28 y28 z28
      obtain ⟨rfl, N28q, e28⟩ := hQ28
      have N28 := Fr.app N24 N28q
      refine OwnFin.step (fun tT kK => st28.trans kK) ?_
      show OwnFin p e below _ (T28.setTop (mkF m 18 #[.val (.ref a), .val (.int lo), .val (.int hi), .val (.ref o), .val (.int (3 : Int32))] [(.int c2), (.ref o)]))
      obtain ⟨cq29, kq29, q29a, q29b, q29c⟩ := isOf hZ e28 hp12
      obtain ⟨_, _, ⟨T29, L29, k29, n29⟩, -, X29, ⟨Lc29, hQ29, l29, y29, z29⟩, st29⟩ := X28.virtualBack hx (y := (⟨"java/lang/String", "indexOf", "(I)I"⟩ : MethodName)) (z := (⟨"java/lang/String", "indexOf", "(I)I"⟩ : MethodName)) hown (mvT hZ (hw _ (List.mem_of_getElem? (i := 71) rfl))) (mvT hZ (hw _ (List.mem_of_getElem? (i := 72) rfl))) (notFace_of_selects (args := #[]) (mvT hZ (hw _ (List.mem_of_getElem? (i := 74) rfl)))) (mvT hZ (hw _ (List.mem_of_getElem? (i := 74) rfl))) (mvT hZ (hw _ (List.mem_of_getElem? (i := 73) rfl))) (by decide) (backOf (W := 0) (rm5e1 l Z a0 hw hEL wS [] o c2 bo ko cs m0 h0 n0 (Nat.le_trans Z0 Kp0.1) hp12 hp13 hp14 hp15 hp10 hp11 hp16 hp8) hZ (hw _ (List.mem_of_getElem? (i := 75) rfl)) (hw _ (List.mem_of_getElem? (i := 2) rfl)) (by decide) (by decide)) q29a q29c (g := (mkF m 18 #[.val (.ref a), .val (.int lo), .val (.int hi), .val (.ref o), .val (.int (3 : Int32))] [(.int c2), (.ref o)])) rfl (by rw [hml]; rfl) (Steps.refl _) (argsL := [(.int c2)]) (rest := []) (lenOf pd_162 rfl) rfl (by show 2 * 0 + _ ≤ _; exact Nat.le_of_eq rfl) (hb hby d_prog_84_method_13_18) (fun _ _ => ⟨rfl, e28, (by decide : 0 + 0 ≤ _), (by decide : 0 + 0 ≤ _)⟩)
      dsimp only [Pt.U, Pt.locs, Pt.cells, Pt.slots] at X29 l29 y29 z29 st29 hQ29
      subst l29 y29 z29
      obtain ⟨rfl, N29q, e29⟩ := hQ29
      have N29 := Fr.app N28 N29q
      refine OwnFin.step (fun tT kK => st29.trans kK) ?_
      show OwnFin p e below _ (T29.setTop (mkF m 21 #[.val (.ref a), .val (.int lo), .val (.int hi), .val (.ref o), .val (.int (3 : Int32))] [(.int (if c2 = m0 then (0 : Int32) else -1))]))
      by_cases hc30 : (c2 = m0)
      · skip
        rw [if_pos hc30]
        show OwnFin p e below _ (T29.setTop (mkF m 21 #[.val (.ref a), .val (.int lo), .val (.int hi), .val (.ref o), .val (.int (3 : Int32))] [(.int (0 : Int32))]))
        refine OwnFin.step (fun tT kK => XS.ifYes X29.here hx rfl (pc0 := 21) (pc' := 30) rfl (hb hby d_prog_84_method_13_21) rfl ((if0 _ _).trans (flt (by decide : ¬ ((0 : Int32) < (0 : Int32)))).2.1) (by decide) (by decide) kK) ?_
        show OwnFin p e below _ (T29.setTop (mkF m 30 #[.val (.ref a), .val (.int lo), .val (.int hi), .val (.ref o), .val (.int (3 : Int32))] []))
        refine OwnFin.step (fun tT kK => XS.iload X29.here hx rfl (hb hby d_prog_84_method_13_30) rfl kK) ?_
        show OwnFin p e below _ (T29.setTop (mkF m 32 #[.val (.ref a), .val (.int lo), .val (.int hi), .val (.ref o), .val (.int (3 : Int32))] [(.int (3 : Int32))]))
        obtain ⟨fs31, hr31, hrun31, hended31, hW31, hsame31⟩ := X29.leave (v := (some (.int (3 : Int32)))) (fun h => by rw [Bd.returns] at h; cases h)
        refine ⟨_, _, retOut X29 hx Bd.returns rfl (Or.inl ⟨rfl, Or.inl rfl, _, rfl⟩) (hb hby d_prog_84_method_13_32) hr31, hrun31, hended31, _, _, rfl, ?_, ⟨_, rfl⟩, hW31, hsame31.mono (by decide) (by decide)⟩
        show Q61 Z a lo hi o b kb fm cs c0 c1 c2 c3 bo ko m0 h0 n0 _ T29.heap _
        rw [e29]
        exact ⟨(by rw [hj25, T3, if_pos hc26, if_pos (decide_eq_true hc30)]), N29, rfl⟩
      · skip
        rw [if_neg hc30]
        show OwnFin p e below _ (T29.setTop (mkF m 21 #[.val (.ref a), .val (.int lo), .val (.int hi), .val (.ref o), .val (.int (3 : Int32))] [(.int (-1 : Int32))]))
        refine OwnFin.step (fun tT kK => XS.ifNo X29.here hx rfl (hb hby d_prog_84_method_13_21) rfl ((if0 _ _).trans (tlt (by decide : (-1 : Int32) < (0 : Int32))).2.1) kK) ?_
        show OwnFin p e below _ (T29.setTop (mkF m 24 #[.val (.ref a), .val (.int lo), .val (.int hi), .val (.ref o), .val (.int (3 : Int32))] []))
        refine OwnFin.step (fun tT kK => XS.iinc X29.here hx rfl (hb hby d_prog_84_method_13_24) rfl (l' := #[.val (.ref a), .val (.int lo), .val (.int hi), .val (.ref o), .val (.int (2 : Int32))]) rfl kK) ?_
        show OwnFin p e below _ (T29.setTop (mkF m 27 #[.val (.ref a), .val (.int lo), .val (.int hi), .val (.ref o), .val (.int (2 : Int32))] []))
        refine OwnFin.step (fun tT kK => XS.goto X29.here hx rfl (pc0 := 27) (pc' := 3) rfl (hb hby d_prog_84_method_13_27) (by decide) (by decide) kK) ?_
        show OwnFin p e below _ (T29.setTop (mkF m 3 #[.val (.ref a), .val (.int lo), .val (.int hi), .val (.ref o), .val (.int (2 : Int32))] []))
        exact key14 _ _ X29 e29 N29  (by rw [hj25, T3, if_pos hc26, if_neg (by rw [decide_eq_false hc30]; decide)])
    · skip
      refine OwnFin.step (fun tT kK => XS.icmpYes X24.here hx rfl (pc0 := 6) (pc' := 30) rfl (hb hby d_prog_84_method_13_6) rfl (flt (hc26 : ¬ (lo < (3 : Int32)))).2.2.2 (by decide) (by decide) kK) ?_
      show OwnFin p e below _ (T24.setTop (mkF m 30 #[.val (.ref a), .val (.int lo), .val (.int hi), .val (.ref o), .val (.int (3 : Int32))] []))
      refine OwnFin.step (fun tT kK => XS.iload X24.here hx rfl (hb hby d_prog_84_method_13_30) rfl kK) ?_
      obtain ⟨fs27, hr27, hrun27, hended27, hW27, hsame27⟩ := X24.leave (v := (some (.int (3 : Int32)))) (fun h => by rw [Bd.returns] at h; cases h)
      refine ⟨_, _, retOut X24 hx Bd.returns rfl (Or.inl ⟨rfl, Or.inl rfl, _, rfl⟩) (hb hby d_prog_84_method_13_32) hr27, hrun27, hended27, _, _, rfl, ?_, ⟨_, rfl⟩, hW27, hsame27.mono (by decide) (by decide)⟩
      show Q61 Z a lo hi o b kb fm cs c0 c1 c2 c3 bo ko m0 h0 n0 _ T24.heap _
      rw [e24]
      exact ⟨(by rw [hj25, T3, if_neg hc26]), N24, rfl⟩
  have key32 : ∀ (T33 : State) (L33 : List Loc), Stand p l e ({ frames := 4, cells := 0, slots := 0, locals := 59 } : Room) s m #[(.ref a), (.int lo), (.int hi), (.ref o)] below meth cC T33 L33 0 0 → T33.heap = h0 → Fr n0 L33 → (OwnT lo hi (decide (c0 = m0)) (decide (c1 = m0)) (decide (c2 = m0)) (decide (c3 = m0)) = T4 lo (decide (c0 = m0)) (decide (c1 = m0)) (decide (c2 = m0)) (decide (c3 = m0))) → OwnFin p e below (R61 Z a lo hi o b kb fm cs c0 c1 c2 c3 bo ko m0 h0 n0 s) (T33.setTop (mkF m 3 #[.val (.ref a), .val (.int lo), .val (.int hi), .val (.ref o), .val (.int (4 : Int32))] [])) := by
    intro T33 L33 X33 e33 N33 hj34
    refine OwnFin.step (fun tT kK => XS.iload X33.here hx rfl (hb hby d_prog_84_method_13_3) rfl kK) ?_
    refine OwnFin.step (fun tT kK => XS.iloadN X33.here hx rfl (hb hby d_prog_84_method_13_5) rfl kK) ?_
    show OwnFin p e below _ (T33.setTop (mkF m 6 #[.val (.ref a), .val (.int lo), .val (.int hi), .val (.ref o), .val (.int (4 : Int32))] [(.int lo), (.int (4 : Int32))]))
    by_cases hc35 : lo < (4 : Int32)
    · skip
      refine OwnFin.step (fun tT kK => XS.icmpNo X33.here hx rfl (hb hby d_prog_84_method_13_6) rfl (tlt (hc35 : lo < (4 : Int32))).2.2.2 kK) ?_
      show OwnFin p e below _ (T33.setTop (mkF m 9 #[.val (.ref a), .val (.int lo), .val (.int hi), .val (.ref o), .val (.int (4 : Int32))] []))
      refine OwnFin.step (fun tT kK => XS.aloadN X33.here hx rfl (hb hby d_prog_84_method_13_9) rfl rfl kK) ?_
      refine OwnFin.step (fun tT kK => XS.aloadN X33.here hx rfl (hb hby d_prog_84_method_13_10) rfl rfl kK) ?_
      show OwnFin p e below _ (T33.setTop (mkF m 11 #[.val (.ref a), .val (.int lo), .val (.int hi), .val (.ref o), .val (.int (4 : Int32))] [(.ref a), (.ref o)]))
      refine OwnFin.step (fun tT kK => XS.iload X33.here hx rfl (hb hby d_prog_84_method_13_11) rfl kK) ?_
      refine OwnFin.step (fun tT kK => XS.iconst X33.here hx rfl (hb hby d_prog_84_method_13_13) kK) ?_
      show OwnFin p e below _ (T33.setTop (mkF m 14 #[.val (.ref a), .val (.int lo), .val (.int hi), .val (.ref o), .val (.int (4 : Int32))] [(.int (1 : Int32)), (.int (4 : Int32)), (.ref a), (.ref o)]))
      refine OwnFin.step (fun tT kK => XS.isub X33.here hx rfl (hb hby d_prog_84_method_13_14) rfl kK) ?_
      obtain ⟨cq37, kq37, q37a, q37b, q37c⟩ := isOf hZ e33 hp2
      obtain ⟨_, _, ⟨T37, L37, k37, n37⟩, -, X37, ⟨Lc37, hQ37, l37, y37, z37⟩, st37⟩ := X33.virtualBack hx (y := (⟨"java/lang/String", "charAt", "(I)C"⟩ : MethodName)) (z := (⟨"java/lang/String", "charAt", "(I)C"⟩ : MethodName)) hown (mvT hZ (hw _ (List.mem_of_getElem? (i := 49) rfl))) (mvT hZ (hw _ (List.mem_of_getElem? (i := 50) rfl))) (notFace_of_selects (args := #[]) (mvT hZ (hw _ (List.mem_of_getElem? (i := 52) rfl)))) (mvT hZ (hw _ (List.mem_of_getElem? (i := 52) rfl))) (mvT hZ (hw _ (List.mem_of_getElem? (i := 51) rfl))) (by decide) (backOf (W := 1) (rm3d3 l Z a0 hw hEL wS [] a b kb fm cs c0 c1 c2 c3 h0 n0 (Nat.le_trans Z0 Kp0.1) hp0 hp1 hp2 hp3 hp4 hp5 hp6 hp7 hp8 hp9 hp10 hp11) hZ (hw _ (List.mem_of_getElem? (i := 53) rfl)) (hw _ (List.mem_of_getElem? (i := 2) rfl)) (by decide) (by decide)) q37a q37c (g := (mkF m 15 #[.val (.ref a), .val (.int lo), .val (.int hi), .val (.ref o), .val (.int (4 : Int32))] [(.int (3 : Int32)), (.ref a), (.ref o)])) rfl (by rw [hml]; rfl) (Steps.refl _) (argsL := [(.int (3 : Int32))]) (rest := [(.ref o)]) (lenOf pd_160 rfl) rfl (by show 2 * 0 + _ ≤ _; exact Nat.le_of_eq rfl) (hb hby d_prog_84_method_13_15) (fun _ _ => ⟨rfl, e33, (by decide : 0 + 0 ≤ _), (by decide : 0 + 0 ≤ _)⟩)
      dsimp only [Pt.U, Pt.locs, Pt.cells, Pt.slots] at X37 l37 y37 z37 st37 hQ37
      subst l37 y37 z37
      obtain ⟨rfl, N37q, e37⟩ := hQ37
      have N37 := Fr.app N33 N37q
      refine OwnFin.step (fun tT kK => st37.trans kK) ?_
      show OwnFin p e below _ (T37.setTop (mkF m 18 #[.val (.ref a), .val (.int lo), .val (.int hi), .val (.ref o), .val (.int (4 : Int32))] [(.int c3), (.ref o)]))
      obtain ⟨cq38, kq38, q38a, q38b, q38c⟩ := isOf hZ e37 hp12
      obtain ⟨_, _, ⟨T38, L38, k38, n38⟩, -, X38, ⟨Lc38, hQ38, l38, y38, z38⟩, st38⟩ := X37.virtualBack hx (y := (⟨"java/lang/String", "indexOf", "(I)I"⟩ : MethodName)) (z := (⟨"java/lang/String", "indexOf", "(I)I"⟩ : MethodName)) hown (mvT hZ (hw _ (List.mem_of_getElem? (i := 71) rfl))) (mvT hZ (hw _ (List.mem_of_getElem? (i := 72) rfl))) (notFace_of_selects (args := #[]) (mvT hZ (hw _ (List.mem_of_getElem? (i := 74) rfl)))) (mvT hZ (hw _ (List.mem_of_getElem? (i := 74) rfl))) (mvT hZ (hw _ (List.mem_of_getElem? (i := 73) rfl))) (by decide) (backOf (W := 0) (rm5e1 l Z a0 hw hEL wS [] o c3 bo ko cs m0 h0 n0 (Nat.le_trans Z0 Kp0.1) hp12 hp13 hp14 hp15 hp10 hp11 hp16 hp9) hZ (hw _ (List.mem_of_getElem? (i := 75) rfl)) (hw _ (List.mem_of_getElem? (i := 2) rfl)) (by decide) (by decide)) q38a q38c (g := (mkF m 18 #[.val (.ref a), .val (.int lo), .val (.int hi), .val (.ref o), .val (.int (4 : Int32))] [(.int c3), (.ref o)])) rfl (by rw [hml]; rfl) (Steps.refl _) (argsL := [(.int c3)]) (rest := []) (lenOf pd_162 rfl) rfl (by show 2 * 0 + _ ≤ _; exact Nat.le_of_eq rfl) (hb hby d_prog_84_method_13_18) (fun _ _ => ⟨rfl, e37, (by decide : 0 + 0 ≤ _), (by decide : 0 + 0 ≤ _)⟩)
      dsimp only [Pt.U, Pt.locs, Pt.cells, Pt.slots] at X38 l38 y38 z38 st38 hQ38
      subst l38 y38 z38
      obtain ⟨rfl, N38q, e38⟩ := hQ38
      have N38 := Fr.app N37 N38q
      refine OwnFin.step (fun tT kK => st38.trans kK) ?_
      show OwnFin p e below _ (T38.setTop (mkF m 21 #[.val (.ref a), .val (.int lo), .val (.int hi), .val (.ref o), .val (.int (4 : Int32))] [(.int (if c3 = m0 then (0 : Int32) else -1))]))
      by_cases hc39 : (c3 = m0)
      · skip
        rw [if_pos hc39]
        show OwnFin p e below _ (T38.setTop (mkF m 21 #[.val (.ref a), .val (.int lo), .val (.int hi), .val (.ref o), .val (.int (4 : Int32))] [(.int (0 : Int32))]))
        refine OwnFin.step (fun tT kK => XS.ifYes X38.here hx rfl (pc0 := 21) (pc' := 30) rfl (hb hby d_prog_84_method_13_21) rfl ((if0 _ _).trans (flt (by decide : ¬ ((0 : Int32) < (0 : Int32)))).2.1) (by decide) (by decide) kK) ?_
        show OwnFin p e below _ (T38.setTop (mkF m 30 #[.val (.ref a), .val (.int lo), .val (.int hi), .val (.ref o), .val (.int (4 : Int32))] []))
        refine OwnFin.step (fun tT kK => XS.iload X38.here hx rfl (hb hby d_prog_84_method_13_30) rfl kK) ?_
        show OwnFin p e below _ (T38.setTop (mkF m 32 #[.val (.ref a), .val (.int lo), .val (.int hi), .val (.ref o), .val (.int (4 : Int32))] [(.int (4 : Int32))]))
        obtain ⟨fs40, hr40, hrun40, hended40, hW40, hsame40⟩ := X38.leave (v := (some (.int (4 : Int32)))) (fun h => by rw [Bd.returns] at h; cases h)
        refine ⟨_, _, retOut X38 hx Bd.returns rfl (Or.inl ⟨rfl, Or.inl rfl, _, rfl⟩) (hb hby d_prog_84_method_13_32) hr40, hrun40, hended40, _, _, rfl, ?_, ⟨_, rfl⟩, hW40, hsame40.mono (by decide) (by decide)⟩
        show Q61 Z a lo hi o b kb fm cs c0 c1 c2 c3 bo ko m0 h0 n0 _ T38.heap _
        rw [e38]
        exact ⟨(by rw [hj34, T4, if_pos hc35, if_pos (decide_eq_true hc39)]), N38, rfl⟩
      · skip
        rw [if_neg hc39]
        show OwnFin p e below _ (T38.setTop (mkF m 21 #[.val (.ref a), .val (.int lo), .val (.int hi), .val (.ref o), .val (.int (4 : Int32))] [(.int (-1 : Int32))]))
        refine OwnFin.step (fun tT kK => XS.ifNo X38.here hx rfl (hb hby d_prog_84_method_13_21) rfl ((if0 _ _).trans (tlt (by decide : (-1 : Int32) < (0 : Int32))).2.1) kK) ?_
        show OwnFin p e below _ (T38.setTop (mkF m 24 #[.val (.ref a), .val (.int lo), .val (.int hi), .val (.ref o), .val (.int (4 : Int32))] []))
        refine OwnFin.step (fun tT kK => XS.iinc X38.here hx rfl (hb hby d_prog_84_method_13_24) rfl (l' := #[.val (.ref a), .val (.int lo), .val (.int hi), .val (.ref o), .val (.int (3 : Int32))]) rfl kK) ?_
        show OwnFin p e below _ (T38.setTop (mkF m 27 #[.val (.ref a), .val (.int lo), .val (.int hi), .val (.ref o), .val (.int (3 : Int32))] []))
        refine OwnFin.step (fun tT kK => XS.goto X38.here hx rfl (pc0 := 27) (pc' := 3) rfl (hb hby d_prog_84_method_13_27) (by decide) (by decide) kK) ?_
        show OwnFin p e below _ (T38.setTop (mkF m 3 #[.val (.ref a), .val (.int lo), .val (.int hi), .val (.ref o), .val (.int (3 : Int32))] []))
        exact key23 _ _ X38 e38 N38  (by rw [hj34, T4, if_pos hc35, if_neg (by rw [decide_eq_false hc39]; decide)])
    · skip
      refine OwnFin.step (fun tT kK => XS.icmpYes X33.here hx rfl (pc0 := 6) (pc' := 30) rfl (hb hby d_prog_84_method_13_6) rfl (flt (hc35 : ¬ (lo < (4 : Int32)))).2.2.2 (by decide) (by decide) kK) ?_
      show OwnFin p e below _ (T33.setTop (mkF m 30 #[.val (.ref a), .val (.int lo), .val (.int hi), .val (.ref o), .val (.int (4 : Int32))] []))
      refine OwnFin.step (fun tT kK => XS.iload X33.here hx rfl (hb hby d_prog_84_method_13_30) rfl kK) ?_
      obtain ⟨fs36, hr36, hrun36, hended36, hW36, hsame36⟩ := X33.leave (v := (some (.int (4 : Int32)))) (fun h => by rw [Bd.returns] at h; cases h)
      refine ⟨_, _, retOut X33 hx Bd.returns rfl (Or.inl ⟨rfl, Or.inl rfl, _, rfl⟩) (hb hby d_prog_84_method_13_32) hr36, hrun36, hended36, _, _, rfl, ?_, ⟨_, rfl⟩, hW36, hsame36.mono (by decide) (by decide)⟩
      show Q61 Z a lo hi o b kb fm cs c0 c1 c2 c3 bo ko m0 h0 n0 _ T33.heap _
      rw [e33]
      exact ⟨(by rw [hj34, T4, if_neg hc35]), N33, rfl⟩
  rcases (own_hi hp17).1 with rfl | rfl | rfl | rfl | rfl
  · skip
    show OwnFin p e below _ (s₁.setTop (mkF m 3 #[.val (.ref a), .val (.int lo), .val (.int (0 : Int32)), .val (.ref o), .val (.int (0 : Int32))] []))
    exact key1 _ _ X0 e0 N0  (rfl)
  · skip
    show OwnFin p e below _ (s₁.setTop (mkF m 3 #[.val (.ref a), .val (.int lo), .val (.int (1 : Int32)), .val (.ref o), .val (.int (1 : Int32))] []))
    exact key5 _ _ X0 e0 N0  (rfl)
  · skip
    show OwnFin p e below _ (s₁.setTop (mkF m 3 #[.val (.ref a), .val (.int lo), .val (.int (2 : Int32)), .val (.ref o), .val (.int (2 : Int32))] []))
    exact key14 _ _ X0 e0 N0  (rfl)
  · skip
    show OwnFin p e below _ (s₁.setTop (mkF m 3 #[.val (.ref a), .val (.int lo), .val (.int (3 : Int32)), .val (.ref o), .val (.int (3 : Int32))] []))
    exact key23 _ _ X0 e0 N0  (rfl)
  · skip
    show OwnFin p e below _ (s₁.setTop (mkF m 3 #[.val (.ref a), .val (.int lo), .val (.int (4 : Int32)), .val (.ref o), .val (.int (4 : Int32))] []))
    exact key32 _ _ X0 e0 N0  (rfl)
theorem ef_62 (m : MethodId) (a : Addr) (lo : Int32) (hi : Int32) (o : Addr) : entryFrame m #[(.ref a), (.int lo), (.int hi), (.ref o)] 5 = mkF m 0 #[.val (.ref a), .val (.int lo), .val (.int hi), .val (.ref o), .unset] [] := by first | (simp [entryFrame, mkF, argsToLocals, Value.category]; done) | rfl
def Q62 (Z : State) (a : Addr) (lo : Int32) (hi : Int32) (o : Addr) (b : Addr) (kb : ClassId) (fm : Value) (cs : Int32) (c0 : Int32) (c1 : Int32) (c2 : Int32) (c3 : Int32) (bo : Addr) (ko : ClassId) (m0 : Int32) (m1 : Int32) (h0 : Heap) (n0 : Nat) (vV : Option Value) (hH : Heap) (LL : List Loc) : Prop := vV = some (.int (OwnT lo hi (decide (c0 = m0 ∨ c0 = m1)) (decide (c1 = m0 ∨ c1 = m1)) (decide (c2 = m0 ∨ c2 = m1)) (decide (c3 = m0 ∨ c3 = m1)))) ∧ Fr n0 LL ∧ hH = h0
def R62 (Z : State) (a : Addr) (lo : Int32) (hi : Int32) (o : Addr) (b : Addr) (kb : ClassId) (fm : Value) (cs : Int32) (c0 : Int32) (c1 : Int32) (c2 : Int32) (c3 : Int32) (bo : Addr) (ko : ClassId) (m0 : Int32) (m1 : Int32) (h0 : Heap) (n0 : Nat) (U : State) (oO : Outcome) (U' : State) : Prop := ∃ vV LL, oO = .returned vV ∧ Q62 Z a lo hi o b kb fm cs c0 c1 c2 c3 bo ko m0 m1 h0 n0 vV U'.heap LL ∧ FrameEnd U oO U' LL ({ frames := 4, cells := 0, slots := 0, locals := 59 } : Room).cells ({ frames := 4, cells := 0, slots := 0, locals := 59 } : Room).slots
set_option maxRecDepth 65536 in
set_option maxHeartbeats 40000000 in
theorem rm62 (l : Launch) (Z : State) (a0 : Array Value) (hw : ∀ d ∈ tables_1, d.before a0 Z = true) (hEL : EW Z a0 OwnEL) (wS : ∀ a ∈ Bundle.stringAtoms, a.before a0 Z = true) (ws : List Jvm.Cond) (a : Addr) (lo : Int32) (hi : Int32) (o : Addr) (b : Addr) (kb : ClassId) (fm : Value) (cs : Int32) (c0 : Int32) (c1 : Int32) (c2 : Int32) (c3 : Int32) (bo : Addr) (ko : ClassId) (m0 : Int32) (m1 : Int32) (h0 : Heap) (n0 : Nat) (Z0 : n0 ≤ h0.size) (hp0 : Sta Z h0 "jdk/internal/util/Preconditions" "SIOOBE_FORMATTER" "Ljava/util/function/BiFunction;" fm) (hp1 : fm.isRef = true) (hp2 : Exa Z h0 a "java/lang/String") (hp3 : Fld Z h0 a "java/lang/String" "value" "[B" (.ref b)) (hp4 : Fld Z h0 a "java/lang/String" "coder" "B" (.int (0 : Int32))) (hp5 : Arv Z h0 b kb .byte (4 : Int32) [(.int (nar .byte (c0.toInt8.toInt32))), (.int (nar .byte (c1.toInt8.toInt32))), (.int (nar .byte (c2.toInt8.toInt32))), (.int (nar .byte (c3.toInt8.toInt32)))] (.int (0 : Int32))) (hp6 : In8 c0) (hp7 : In8 c1) (hp8 : In8 c2) (hp9 : In8 c3) (hp10 : Sta Z h0 "java/lang/String" "COMPACT_STRINGS" "Z" (.int cs)) (hp11 : ¬ cs = (0 : Int32)) (hp12 : Exa Z h0 o "java/lang/String") (hp13 : Fld Z h0 o "java/lang/String" "value" "[B" (.ref bo)) (hp14 : Fld Z h0 o "java/lang/String" "coder" "B" (.int (0 : Int32))) (hp15 : Arv Z h0 bo ko .byte (2 : Int32) [(.int (nar .byte (m0.toInt8.toInt32))), (.int (nar .byte (m1.toInt8.toInt32)))] (.int (0 : Int32))) (hp16 : In8 m0) (hp17 : In8 m1) (hp18 : OwnP lo hi) :
    MetFree l (⟨"com/example/covenantry/covenantry/text/Phrases", "afterLastMark", "(Ljava/lang/String;IILjava/lang/String;)I"⟩ : MethodName) (head1 (Jvm.Cond.code (⟨"com/example/covenantry/covenantry/text/Phrases", "afterLastMark", "(Ljava/lang/String;IILjava/lang/String;)I"⟩ : MethodName) prog_84_method_13_code 5 (some .int) :: ws) ({ frames := 4, cells := 0, slots := 0, locals := 59 } : Room)) (fun aA U => aA = #[(.ref a), (.int lo), (.int hi), (.ref o)] ∧ Z.Warmed39 U.vm ∧ U.heap = h0) (fun _ _ _ _ _ => True) (fun _ U oO U' => ∃ vV LL, oO = .returned vV ∧ Q62 Z a lo hi o b kb fm cs c0 c1 c2 c3 bo ko m0 m1 h0 n0 vV U'.heap LL ∧ FrameEnd U oO U' LL ({ frames := 4, cells := 0, slots := 0, locals := 59 } : Room).cells ({ frames := 4, cells := 0, slots := 0, locals := 59 } : Room).slots) := by
  refine MetFree.of_bodySF (plainFor_of_name pn_146) hisR ?_
  intro p e s m args below meth cC s₁ Bd hml0 hP hK
  obtain ⟨rfl, hZ, hh⟩ := hP
  have hx := Bd.exec
  have hby := Bd.bytes
  have hml : cC.maxLocals = 5 := hml0
  have hown : s.vm.findClass "com/example/covenantry/covenantry/text/Phrases" = some m.cls := findClass_of_methodNamed Bd.named
  have hnm := (name_of_methodNamed Bd.named Bd.method).1
  have X0 : Stand p l e ({ frames := 4, cells := 0, slots := 0, locals := 59 } : Room) s m #[(.ref a), (.int lo), (.int hi), (.ref o)] below meth cC s₁ [] 0 0 := Stand.of_body Bd
  have e0 : s₁.heap = h0 := by rw [← hh, Bd.state]; rfl
  have N0 := Fr.nil n0
  have Kp0 := Keep.refl h0 []
  show OwnFin p e below (R62 Z a lo hi o b kb fm cs c0 c1 c2 c3 bo ko m0 m1 h0 n0 s) (s₁.setTop (entryFrame m #[(.ref a), (.int lo), (.int hi), (.ref o)] 5))
  rw [ef_62 m a lo hi o]
  refine OwnFin.step (fun tT kK => XS.iloadN X0.here hx rfl (hb hby d_prog_84_method_13_0) rfl kK) ?_
  refine OwnFin.step (fun tT kK => XS.istore X0.here hx rfl (hb hby d_prog_84_method_13_1) rfl (l' := #[.val (.ref a), .val (.int lo), .val (.int hi), .val (.ref o), .val (.int hi)]) rfl kK) ?_
  show OwnFin p e below _ (s₁.setTop (mkF m 3 #[.val (.ref a), .val (.int lo), .val (.int hi), .val (.ref o), .val (.int hi)] []))
  have key1 : ∀ (T2 : State) (L2 : List Loc), Stand p l e ({ frames := 4, cells := 0, slots := 0, locals := 59 } : Room) s m #[(.ref a), (.int lo), (.int hi), (.ref o)] below meth cC T2 L2 0 0 → T2.heap = h0 → Fr n0 L2 → (OwnT lo hi (decide (c0 = m0 ∨ c0 = m1)) (decide (c1 = m0 ∨ c1 = m1)) (decide (c2 = m0 ∨ c2 = m1)) (decide (c3 = m0 ∨ c3 = m1)) = T0 lo (decide (c0 = m0 ∨ c0 = m1)) (decide (c1 = m0 ∨ c1 = m1)) (decide (c2 = m0 ∨ c2 = m1)) (decide (c3 = m0 ∨ c3 = m1))) → OwnFin p e below (R62 Z a lo hi o b kb fm cs c0 c1 c2 c3 bo ko m0 m1 h0 n0 s) (T2.setTop (mkF m 3 #[.val (.ref a), .val (.int lo), .val (.int hi), .val (.ref o), .val (.int (0 : Int32))] [])) := by
    intro T2 L2 X2 e2 N2 hj3
    refine OwnFin.step (fun tT kK => XS.iload X2.here hx rfl (hb hby d_prog_84_method_13_3) rfl kK) ?_
    refine OwnFin.step (fun tT kK => XS.iloadN X2.here hx rfl (hb hby d_prog_84_method_13_5) rfl kK) ?_
    show OwnFin p e below _ (T2.setTop (mkF m 6 #[.val (.ref a), .val (.int lo), .val (.int hi), .val (.ref o), .val (.int (0 : Int32))] [(.int lo), (.int (0 : Int32))]))
    refine OwnFin.step (fun tT kK => XS.icmpYes X2.here hx rfl (pc0 := 6) (pc' := 30) rfl (hb hby d_prog_84_method_13_6) rfl (flt ((own_hi hp18).2 : ¬ (lo < (0 : Int32)))).2.2.2 (by decide) (by decide) kK) ?_
    show OwnFin p e below _ (T2.setTop (mkF m 30 #[.val (.ref a), .val (.int lo), .val (.int hi), .val (.ref o), .val (.int (0 : Int32))] []))
    refine OwnFin.step (fun tT kK => XS.iload X2.here hx rfl (hb hby d_prog_84_method_13_30) rfl kK) ?_
    obtain ⟨fs4, hr4, hrun4, hended4, hW4, hsame4⟩ := X2.leave (v := (some (.int (0 : Int32)))) (fun h => by rw [Bd.returns] at h; cases h)
    refine ⟨_, _, retOut X2 hx Bd.returns rfl (Or.inl ⟨rfl, Or.inl rfl, _, rfl⟩) (hb hby d_prog_84_method_13_32) hr4, hrun4, hended4, _, _, rfl, ?_, ⟨_, rfl⟩, hW4, hsame4.mono (by decide) (by decide)⟩
    show Q62 Z a lo hi o b kb fm cs c0 c1 c2 c3 bo ko m0 m1 h0 n0 _ T2.heap _
    rw [e2]
    exact ⟨(by rw [hj3]; rfl), N2, rfl⟩
  have key5 : ∀ (T6 : State) (L6 : List Loc), Stand p l e ({ frames := 4, cells := 0, slots := 0, locals := 59 } : Room) s m #[(.ref a), (.int lo), (.int hi), (.ref o)] below meth cC T6 L6 0 0 → T6.heap = h0 → Fr n0 L6 → (OwnT lo hi (decide (c0 = m0 ∨ c0 = m1)) (decide (c1 = m0 ∨ c1 = m1)) (decide (c2 = m0 ∨ c2 = m1)) (decide (c3 = m0 ∨ c3 = m1)) = T1 lo (decide (c0 = m0 ∨ c0 = m1)) (decide (c1 = m0 ∨ c1 = m1)) (decide (c2 = m0 ∨ c2 = m1)) (decide (c3 = m0 ∨ c3 = m1))) → OwnFin p e below (R62 Z a lo hi o b kb fm cs c0 c1 c2 c3 bo ko m0 m1 h0 n0 s) (T6.setTop (mkF m 3 #[.val (.ref a), .val (.int lo), .val (.int hi), .val (.ref o), .val (.int (1 : Int32))] [])) := by
    intro T6 L6 X6 e6 N6 hj7
    refine OwnFin.step (fun tT kK => XS.iload X6.here hx rfl (hb hby d_prog_84_method_13_3) rfl kK) ?_
    refine OwnFin.step (fun tT kK => XS.iloadN X6.here hx rfl (hb hby d_prog_84_method_13_5) rfl kK) ?_
    show OwnFin p e below _ (T6.setTop (mkF m 6 #[.val (.ref a), .val (.int lo), .val (.int hi), .val (.ref o), .val (.int (1 : Int32))] [(.int lo), (.int (1 : Int32))]))
    by_cases hc8 : lo < (1 : Int32)
    · skip
      refine OwnFin.step (fun tT kK => XS.icmpNo X6.here hx rfl (hb hby d_prog_84_method_13_6) rfl (tlt (hc8 : lo < (1 : Int32))).2.2.2 kK) ?_
      show OwnFin p e below _ (T6.setTop (mkF m 9 #[.val (.ref a), .val (.int lo), .val (.int hi), .val (.ref o), .val (.int (1 : Int32))] []))
      refine OwnFin.step (fun tT kK => XS.aloadN X6.here hx rfl (hb hby d_prog_84_method_13_9) rfl rfl kK) ?_
      refine OwnFin.step (fun tT kK => XS.aloadN X6.here hx rfl (hb hby d_prog_84_method_13_10) rfl rfl kK) ?_
      show OwnFin p e below _ (T6.setTop (mkF m 11 #[.val (.ref a), .val (.int lo), .val (.int hi), .val (.ref o), .val (.int (1 : Int32))] [(.ref a), (.ref o)]))
      refine OwnFin.step (fun tT kK => XS.iload X6.here hx rfl (hb hby d_prog_84_method_13_11) rfl kK) ?_
      refine OwnFin.step (fun tT kK => XS.iconst X6.here hx rfl (hb hby d_prog_84_method_13_13) kK) ?_
      show OwnFin p e below _ (T6.setTop (mkF m 14 #[.val (.ref a), .val (.int lo), .val (.int hi), .val (.ref o), .val (.int (1 : Int32))] [(.int (1 : Int32)), (.int (1 : Int32)), (.ref a), (.ref o)]))
      refine OwnFin.step (fun tT kK => XS.isub X6.here hx rfl (hb hby d_prog_84_method_13_14) rfl kK) ?_
      obtain ⟨cq10, kq10, q10a, q10b, q10c⟩ := isOf hZ e6 hp2
      obtain ⟨_, _, ⟨T10, L10, k10, n10⟩, -, X10, ⟨Lc10, hQ10, l10, y10, z10⟩, st10⟩ := X6.virtualBack hx (y := (⟨"java/lang/String", "charAt", "(I)C"⟩ : MethodName)) (z := (⟨"java/lang/String", "charAt", "(I)C"⟩ : MethodName)) hown (mvT hZ (hw _ (List.mem_of_getElem? (i := 49) rfl))) (mvT hZ (hw _ (List.mem_of_getElem? (i := 50) rfl))) (notFace_of_selects (args := #[]) (mvT hZ (hw _ (List.mem_of_getElem? (i := 52) rfl)))) (mvT hZ (hw _ (List.mem_of_getElem? (i := 52) rfl))) (mvT hZ (hw _ (List.mem_of_getElem? (i := 51) rfl))) (by decide) (backOf (W := 1) (rm3d0 l Z a0 hw hEL wS [] a b kb fm cs c0 c1 c2 c3 h0 n0 (Nat.le_trans Z0 Kp0.1) hp0 hp1 hp2 hp3 hp4 hp5 hp6 hp7 hp8 hp9 hp10 hp11) hZ (hw _ (List.mem_of_getElem? (i := 53) rfl)) (hw _ (List.mem_of_getElem? (i := 2) rfl)) (by decide) (by decide)) q10a q10c (g := (mkF m 15 #[.val (.ref a), .val (.int lo), .val (.int hi), .val (.ref o), .val (.int (1 : Int32))] [(.int (0 : Int32)), (.ref a), (.ref o)])) rfl (by rw [hml]; rfl) (Steps.refl _) (argsL := [(.int (0 : Int32))]) (rest := [(.ref o)]) (lenOf pd_160 rfl) rfl (by show 2 * 0 + _ ≤ _; exact Nat.le_of_eq rfl) (hb hby d_prog_84_method_13_15) (fun _ _ => ⟨rfl, e6, (by decide : 0 + 0 ≤ _), (by decide : 0 + 0 ≤ _)⟩)
      dsimp only [Pt.U, Pt.locs, Pt.cells, Pt.slots] at X10 l10 y10 z10 st10 hQ10
      subst l10 y10 z10
      obtain ⟨rfl, N10q, e10⟩ := hQ10
      have N10 := Fr.app N6 N10q
      refine OwnFin.step (fun tT kK => st10.trans kK) ?_
      show OwnFin p e below _ (T10.setTop (mkF m 18 #[.val (.ref a), .val (.int lo), .val (.int hi), .val (.ref o), .val (.int (1 : Int32))] [(.int c0), (.ref o)]))
      obtain ⟨cq11, kq11, q11a, q11b, q11c⟩ := isOf hZ e10 hp12
      obtain ⟨_, _, ⟨T11, L11, k11, n11⟩, -, X11, ⟨Lc11, hQ11, l11, y11, z11⟩, st11⟩ := X10.virtualBack hx (y := (⟨"java/lang/String", "indexOf", "(I)I"⟩ : MethodName)) (z := (⟨"java/lang/String", "indexOf", "(I)I"⟩ : MethodName)) hown (mvT hZ (hw _ (List.mem_of_getElem? (i := 71) rfl))) (mvT hZ (hw _ (List.mem_of_getElem? (i := 72) rfl))) (notFace_of_selects (args := #[]) (mvT hZ (hw _ (List.mem_of_getElem? (i := 74) rfl)))) (mvT hZ (hw _ (List.mem_of_getElem? (i := 74) rfl))) (mvT hZ (hw _ (List.mem_of_getElem? (i := 73) rfl))) (by decide) (backOf (W := 0) (rm5e2 l Z a0 hw hEL wS [] o c0 bo ko cs m0 m1 h0 n0 (Nat.le_trans Z0 Kp0.1) hp12 hp13 hp14 hp15 hp10 hp11 hp16 hp17 hp6) hZ (hw _ (List.mem_of_getElem? (i := 75) rfl)) (hw _ (List.mem_of_getElem? (i := 2) rfl)) (by decide) (by decide)) q11a q11c (g := (mkF m 18 #[.val (.ref a), .val (.int lo), .val (.int hi), .val (.ref o), .val (.int (1 : Int32))] [(.int c0), (.ref o)])) rfl (by rw [hml]; rfl) (Steps.refl _) (argsL := [(.int c0)]) (rest := []) (lenOf pd_162 rfl) rfl (by show 2 * 0 + _ ≤ _; exact Nat.le_of_eq rfl) (hb hby d_prog_84_method_13_18) (fun _ _ => ⟨rfl, e10, (by decide : 0 + 0 ≤ _), (by decide : 0 + 0 ≤ _)⟩)
      dsimp only [Pt.U, Pt.locs, Pt.cells, Pt.slots] at X11 l11 y11 z11 st11 hQ11
      subst l11 y11 z11
      obtain ⟨rfl, N11q, e11⟩ := hQ11
      have N11 := Fr.app N10 N11q
      refine OwnFin.step (fun tT kK => st11.trans kK) ?_
      show OwnFin p e below _ (T11.setTop (mkF m 21 #[.val (.ref a), .val (.int lo), .val (.int hi), .val (.ref o), .val (.int (1 : Int32))] [(.int (if c0 = m0 then (0 : Int32) else if c0 = m1 then 1 else -1))]))
      by_cases hc12 : (c0 = m0 ∨ c0 = m1)
      · skip
        have hix : ¬ ((if c0 = m0 then (0 : Int32) else if c0 = m1 then 1 else -1)) < (0 : Int32) := by rcases hc12 with q | q <;> simp only [q, if_true] <;> (try split) <;> decide
        refine OwnFin.step (fun tT kK => XS.ifYes X11.here hx rfl (pc0 := 21) (pc' := 30) rfl (hb hby d_prog_84_method_13_21) rfl ((if0 _ _).trans (flt (hix : ¬ ((if c0 = m0 then (0 : Int32) else if c0 = m1 then 1 else -1) < (0 : Int32)))).2.1) (by decide) (by decide) kK) ?_
        show OwnFin p e below _ (T11.setTop (mkF m 30 #[.val (.ref a), .val (.int lo), .val (.int hi), .val (.ref o), .val (.int (1 : Int32))] []))
        refine OwnFin.step (fun tT kK => XS.iload X11.here hx rfl (hb hby d_prog_84_method_13_30) rfl kK) ?_
        show OwnFin p e below _ (T11.setTop (mkF m 32 #[.val (.ref a), .val (.int lo), .val (.int hi), .val (.ref o), .val (.int (1 : Int32))] [(.int (1 : Int32))]))
        obtain ⟨fs13, hr13, hrun13, hended13, hW13, hsame13⟩ := X11.leave (v := (some (.int (1 : Int32)))) (fun h => by rw [Bd.returns] at h; cases h)
        refine ⟨_, _, retOut X11 hx Bd.returns rfl (Or.inl ⟨rfl, Or.inl rfl, _, rfl⟩) (hb hby d_prog_84_method_13_32) hr13, hrun13, hended13, _, _, rfl, ?_, ⟨_, rfl⟩, hW13, hsame13.mono (by decide) (by decide)⟩
        show Q62 Z a lo hi o b kb fm cs c0 c1 c2 c3 bo ko m0 m1 h0 n0 _ T11.heap _
        rw [e11]
        exact ⟨(by rw [hj7, T1, if_pos hc8, if_pos (decide_eq_true hc12)]), N11, rfl⟩
      · skip
        rw [if_neg (fun q => hc12 (Or.inl q)), if_neg (fun q => hc12 (Or.inr q))]
        show OwnFin p e below _ (T11.setTop (mkF m 21 #[.val (.ref a), .val (.int lo), .val (.int hi), .val (.ref o), .val (.int (1 : Int32))] [(.int (-1 : Int32))]))
        refine OwnFin.step (fun tT kK => XS.ifNo X11.here hx rfl (hb hby d_prog_84_method_13_21) rfl ((if0 _ _).trans (tlt (by decide : (-1 : Int32) < (0 : Int32))).2.1) kK) ?_
        show OwnFin p e below _ (T11.setTop (mkF m 24 #[.val (.ref a), .val (.int lo), .val (.int hi), .val (.ref o), .val (.int (1 : Int32))] []))
        refine OwnFin.step (fun tT kK => XS.iinc X11.here hx rfl (hb hby d_prog_84_method_13_24) rfl (l' := #[.val (.ref a), .val (.int lo), .val (.int hi), .val (.ref o), .val (.int (0 : Int32))]) rfl kK) ?_
        show OwnFin p e below _ (T11.setTop (mkF m 27 #[.val (.ref a), .val (.int lo), .val (.int hi), .val (.ref o), .val (.int (0 : Int32))] []))
        refine OwnFin.step (fun tT kK => XS.goto X11.here hx rfl (pc0 := 27) (pc' := 3) rfl (hb hby d_prog_84_method_13_27) (by decide) (by decide) kK) ?_
        show OwnFin p e below _ (T11.setTop (mkF m 3 #[.val (.ref a), .val (.int lo), .val (.int hi), .val (.ref o), .val (.int (0 : Int32))] []))
        exact key1 _ _ X11 e11 N11  (by rw [hj7, T1, if_pos hc8, if_neg (by rw [decide_eq_false hc12]; decide)])
    · skip
      refine OwnFin.step (fun tT kK => XS.icmpYes X6.here hx rfl (pc0 := 6) (pc' := 30) rfl (hb hby d_prog_84_method_13_6) rfl (flt (hc8 : ¬ (lo < (1 : Int32)))).2.2.2 (by decide) (by decide) kK) ?_
      show OwnFin p e below _ (T6.setTop (mkF m 30 #[.val (.ref a), .val (.int lo), .val (.int hi), .val (.ref o), .val (.int (1 : Int32))] []))
      refine OwnFin.step (fun tT kK => XS.iload X6.here hx rfl (hb hby d_prog_84_method_13_30) rfl kK) ?_
      obtain ⟨fs9, hr9, hrun9, hended9, hW9, hsame9⟩ := X6.leave (v := (some (.int (1 : Int32)))) (fun h => by rw [Bd.returns] at h; cases h)
      refine ⟨_, _, retOut X6 hx Bd.returns rfl (Or.inl ⟨rfl, Or.inl rfl, _, rfl⟩) (hb hby d_prog_84_method_13_32) hr9, hrun9, hended9, _, _, rfl, ?_, ⟨_, rfl⟩, hW9, hsame9.mono (by decide) (by decide)⟩
      show Q62 Z a lo hi o b kb fm cs c0 c1 c2 c3 bo ko m0 m1 h0 n0 _ T6.heap _
      rw [e6]
      exact ⟨(by rw [hj7, T1, if_neg hc8]), N6, rfl⟩
  have key14 : ∀ (T15 : State) (L15 : List Loc), Stand p l e ({ frames := 4, cells := 0, slots := 0, locals := 59 } : Room) s m #[(.ref a), (.int lo), (.int hi), (.ref o)] below meth cC T15 L15 0 0 → T15.heap = h0 → Fr n0 L15 → (OwnT lo hi (decide (c0 = m0 ∨ c0 = m1)) (decide (c1 = m0 ∨ c1 = m1)) (decide (c2 = m0 ∨ c2 = m1)) (decide (c3 = m0 ∨ c3 = m1)) = T2 lo (decide (c0 = m0 ∨ c0 = m1)) (decide (c1 = m0 ∨ c1 = m1)) (decide (c2 = m0 ∨ c2 = m1)) (decide (c3 = m0 ∨ c3 = m1))) → OwnFin p e below (R62 Z a lo hi o b kb fm cs c0 c1 c2 c3 bo ko m0 m1 h0 n0 s) (T15.setTop (mkF m 3 #[.val (.ref a), .val (.int lo), .val (.int hi), .val (.ref o), .val (.int (2 : Int32))] [])) := by
    intro T15 L15 X15 e15 N15 hj16
    refine OwnFin.step (fun tT kK => XS.iload X15.here hx rfl (hb hby d_prog_84_method_13_3) rfl kK) ?_
    refine OwnFin.step (fun tT kK => XS.iloadN X15.here hx rfl (hb hby d_prog_84_method_13_5) rfl kK) ?_
    show OwnFin p e below _ (T15.setTop (mkF m 6 #[.val (.ref a), .val (.int lo), .val (.int hi), .val (.ref o), .val (.int (2 : Int32))] [(.int lo), (.int (2 : Int32))]))
    by_cases hc17 : lo < (2 : Int32)
    · skip
      refine OwnFin.step (fun tT kK => XS.icmpNo X15.here hx rfl (hb hby d_prog_84_method_13_6) rfl (tlt (hc17 : lo < (2 : Int32))).2.2.2 kK) ?_
      show OwnFin p e below _ (T15.setTop (mkF m 9 #[.val (.ref a), .val (.int lo), .val (.int hi), .val (.ref o), .val (.int (2 : Int32))] []))
      refine OwnFin.step (fun tT kK => XS.aloadN X15.here hx rfl (hb hby d_prog_84_method_13_9) rfl rfl kK) ?_
      refine OwnFin.step (fun tT kK => XS.aloadN X15.here hx rfl (hb hby d_prog_84_method_13_10) rfl rfl kK) ?_
      show OwnFin p e below _ (T15.setTop (mkF m 11 #[.val (.ref a), .val (.int lo), .val (.int hi), .val (.ref o), .val (.int (2 : Int32))] [(.ref a), (.ref o)]))
      refine OwnFin.step (fun tT kK => XS.iload X15.here hx rfl (hb hby d_prog_84_method_13_11) rfl kK) ?_
      refine OwnFin.step (fun tT kK => XS.iconst X15.here hx rfl (hb hby d_prog_84_method_13_13) kK) ?_
      show OwnFin p e below _ (T15.setTop (mkF m 14 #[.val (.ref a), .val (.int lo), .val (.int hi), .val (.ref o), .val (.int (2 : Int32))] [(.int (1 : Int32)), (.int (2 : Int32)), (.ref a), (.ref o)]))
      refine OwnFin.step (fun tT kK => XS.isub X15.here hx rfl (hb hby d_prog_84_method_13_14) rfl kK) ?_
      obtain ⟨cq19, kq19, q19a, q19b, q19c⟩ := isOf hZ e15 hp2
      obtain ⟨_, _, ⟨T19, L19, k19, n19⟩, -, X19, ⟨Lc19, hQ19, l19, y19, z19⟩, st19⟩ := X15.virtualBack hx (y := (⟨"java/lang/String", "charAt", "(I)C"⟩ : MethodName)) (z := (⟨"java/lang/String", "charAt", "(I)C"⟩ : MethodName)) hown (mvT hZ (hw _ (List.mem_of_getElem? (i := 49) rfl))) (mvT hZ (hw _ (List.mem_of_getElem? (i := 50) rfl))) (notFace_of_selects (args := #[]) (mvT hZ (hw _ (List.mem_of_getElem? (i := 52) rfl)))) (mvT hZ (hw _ (List.mem_of_getElem? (i := 52) rfl))) (mvT hZ (hw _ (List.mem_of_getElem? (i := 51) rfl))) (by decide) (backOf (W := 1) (rm3d1 l Z a0 hw hEL wS [] a b kb fm cs c0 c1 c2 c3 h0 n0 (Nat.le_trans Z0 Kp0.1) hp0 hp1 hp2 hp3 hp4 hp5 hp6 hp7 hp8 hp9 hp10 hp11) hZ (hw _ (List.mem_of_getElem? (i := 53) rfl)) (hw _ (List.mem_of_getElem? (i := 2) rfl)) (by decide) (by decide)) q19a q19c (g := (mkF m 15 #[.val (.ref a), .val (.int lo), .val (.int hi), .val (.ref o), .val (.int (2 : Int32))] [(.int (1 : Int32)), (.ref a), (.ref o)])) rfl (by rw [hml]; rfl) (Steps.refl _) (argsL := [(.int (1 : Int32))]) (rest := [(.ref o)]) (lenOf pd_160 rfl) rfl (by show 2 * 0 + _ ≤ _; exact Nat.le_of_eq rfl) (hb hby d_prog_84_method_13_15) (fun _ _ => ⟨rfl, e15, (by decide : 0 + 0 ≤ _), (by decide : 0 + 0 ≤ _)⟩)
      dsimp only [Pt.U, Pt.locs, Pt.cells, Pt.slots] at X19 l19 y19 z19 st19 hQ19
      subst l19 y19 z19
      obtain ⟨rfl, N19q, e19⟩ := hQ19
      have N19 := Fr.app N15 N19q
      refine OwnFin.step (fun tT kK => st19.trans kK) ?_
      show OwnFin p e below _ (T19.setTop (mkF m 18 #[.val (.ref a), .val (.int lo), .val (.int hi), .val (.ref o), .val (.int (2 : Int32))] [(.int c1), (.ref o)]))
      obtain ⟨cq20, kq20, q20a, q20b, q20c⟩ := isOf hZ e19 hp12
      obtain ⟨_, _, ⟨T20, L20, k20, n20⟩, -, X20, ⟨Lc20, hQ20, l20, y20, z20⟩, st20⟩ := X19.virtualBack hx (y := (⟨"java/lang/String", "indexOf", "(I)I"⟩ : MethodName)) (z := (⟨"java/lang/String", "indexOf", "(I)I"⟩ : MethodName)) hown (mvT hZ (hw _ (List.mem_of_getElem? (i := 71) rfl))) (mvT hZ (hw _ (List.mem_of_getElem? (i := 72) rfl))) (notFace_of_selects (args := #[]) (mvT hZ (hw _ (List.mem_of_getElem? (i := 74) rfl)))) (mvT hZ (hw _ (List.mem_of_getElem? (i := 74) rfl))) (mvT hZ (hw _ (List.mem_of_getElem? (i := 73) rfl))) (by decide) (backOf (W := 0) (rm5e2 l Z a0 hw hEL wS [] o c1 bo ko cs m0 m1 h0 n0 (Nat.le_trans Z0 Kp0.1) hp12 hp13 hp14 hp15 hp10 hp11 hp16 hp17 hp7) hZ (hw _ (List.mem_of_getElem? (i := 75) rfl)) (hw _ (List.mem_of_getElem? (i := 2) rfl)) (by decide) (by decide)) q20a q20c (g := (mkF m 18 #[.val (.ref a), .val (.int lo), .val (.int hi), .val (.ref o), .val (.int (2 : Int32))] [(.int c1), (.ref o)])) rfl (by rw [hml]; rfl) (Steps.refl _) (argsL := [(.int c1)]) (rest := []) (lenOf pd_162 rfl) rfl (by show 2 * 0 + _ ≤ _; exact Nat.le_of_eq rfl) (hb hby d_prog_84_method_13_18) (fun _ _ => ⟨rfl, e19, (by decide : 0 + 0 ≤ _), (by decide : 0 + 0 ≤ _)⟩)
      dsimp only [Pt.U, Pt.locs, Pt.cells, Pt.slots] at X20 l20 y20 z20 st20 hQ20
      subst l20 y20 z20
      obtain ⟨rfl, N20q, e20⟩ := hQ20
      have N20 := Fr.app N19 N20q
      refine OwnFin.step (fun tT kK => st20.trans kK) ?_
      show OwnFin p e below _ (T20.setTop (mkF m 21 #[.val (.ref a), .val (.int lo), .val (.int hi), .val (.ref o), .val (.int (2 : Int32))] [(.int (if c1 = m0 then (0 : Int32) else if c1 = m1 then 1 else -1))]))
      by_cases hc21 : (c1 = m0 ∨ c1 = m1)
      · skip
        have hix : ¬ ((if c1 = m0 then (0 : Int32) else if c1 = m1 then 1 else -1)) < (0 : Int32) := by rcases hc21 with q | q <;> simp only [q, if_true] <;> (try split) <;> decide
        refine OwnFin.step (fun tT kK => XS.ifYes X20.here hx rfl (pc0 := 21) (pc' := 30) rfl (hb hby d_prog_84_method_13_21) rfl ((if0 _ _).trans (flt (hix : ¬ ((if c1 = m0 then (0 : Int32) else if c1 = m1 then 1 else -1) < (0 : Int32)))).2.1) (by decide) (by decide) kK) ?_
        show OwnFin p e below _ (T20.setTop (mkF m 30 #[.val (.ref a), .val (.int lo), .val (.int hi), .val (.ref o), .val (.int (2 : Int32))] []))
        refine OwnFin.step (fun tT kK => XS.iload X20.here hx rfl (hb hby d_prog_84_method_13_30) rfl kK) ?_
        show OwnFin p e below _ (T20.setTop (mkF m 32 #[.val (.ref a), .val (.int lo), .val (.int hi), .val (.ref o), .val (.int (2 : Int32))] [(.int (2 : Int32))]))
        obtain ⟨fs22, hr22, hrun22, hended22, hW22, hsame22⟩ := X20.leave (v := (some (.int (2 : Int32)))) (fun h => by rw [Bd.returns] at h; cases h)
        refine ⟨_, _, retOut X20 hx Bd.returns rfl (Or.inl ⟨rfl, Or.inl rfl, _, rfl⟩) (hb hby d_prog_84_method_13_32) hr22, hrun22, hended22, _, _, rfl, ?_, ⟨_, rfl⟩, hW22, hsame22.mono (by decide) (by decide)⟩
        show Q62 Z a lo hi o b kb fm cs c0 c1 c2 c3 bo ko m0 m1 h0 n0 _ T20.heap _
        rw [e20]
        exact ⟨(by rw [hj16, T2, if_pos hc17, if_pos (decide_eq_true hc21)]), N20, rfl⟩
      · skip
        rw [if_neg (fun q => hc21 (Or.inl q)), if_neg (fun q => hc21 (Or.inr q))]
        show OwnFin p e below _ (T20.setTop (mkF m 21 #[.val (.ref a), .val (.int lo), .val (.int hi), .val (.ref o), .val (.int (2 : Int32))] [(.int (-1 : Int32))]))
        refine OwnFin.step (fun tT kK => XS.ifNo X20.here hx rfl (hb hby d_prog_84_method_13_21) rfl ((if0 _ _).trans (tlt (by decide : (-1 : Int32) < (0 : Int32))).2.1) kK) ?_
        show OwnFin p e below _ (T20.setTop (mkF m 24 #[.val (.ref a), .val (.int lo), .val (.int hi), .val (.ref o), .val (.int (2 : Int32))] []))
        refine OwnFin.step (fun tT kK => XS.iinc X20.here hx rfl (hb hby d_prog_84_method_13_24) rfl (l' := #[.val (.ref a), .val (.int lo), .val (.int hi), .val (.ref o), .val (.int (1 : Int32))]) rfl kK) ?_
        show OwnFin p e below _ (T20.setTop (mkF m 27 #[.val (.ref a), .val (.int lo), .val (.int hi), .val (.ref o), .val (.int (1 : Int32))] []))
        refine OwnFin.step (fun tT kK => XS.goto X20.here hx rfl (pc0 := 27) (pc' := 3) rfl (hb hby d_prog_84_method_13_27) (by decide) (by decide) kK) ?_
        show OwnFin p e below _ (T20.setTop (mkF m 3 #[.val (.ref a), .val (.int lo), .val (.int hi), .val (.ref o), .val (.int (1 : Int32))] []))
        exact key5 _ _ X20 e20 N20  (by rw [hj16, T2, if_pos hc17, if_neg (by rw [decide_eq_false hc21]; decide)])
    · skip
      refine OwnFin.step (fun tT kK => XS.icmpYes X15.here hx rfl (pc0 := 6) (pc' := 30) rfl (hb hby d_prog_84_method_13_6) rfl (flt (hc17 : ¬ (lo < (2 : Int32)))).2.2.2 (by decide) (by decide) kK) ?_
      show OwnFin p e below _ (T15.setTop (mkF m 30 #[.val (.ref a), .val (.int lo), .val (.int hi), .val (.ref o), .val (.int (2 : Int32))] []))
      refine OwnFin.step (fun tT kK => XS.iload X15.here hx rfl (hb hby d_prog_84_method_13_30) rfl kK) ?_
      obtain ⟨fs18, hr18, hrun18, hended18, hW18, hsame18⟩ := X15.leave (v := (some (.int (2 : Int32)))) (fun h => by rw [Bd.returns] at h; cases h)
      refine ⟨_, _, retOut X15 hx Bd.returns rfl (Or.inl ⟨rfl, Or.inl rfl, _, rfl⟩) (hb hby d_prog_84_method_13_32) hr18, hrun18, hended18, _, _, rfl, ?_, ⟨_, rfl⟩, hW18, hsame18.mono (by decide) (by decide)⟩
      show Q62 Z a lo hi o b kb fm cs c0 c1 c2 c3 bo ko m0 m1 h0 n0 _ T15.heap _
      rw [e15]
      exact ⟨(by rw [hj16, T2, if_neg hc17]), N15, rfl⟩
  have key23 : ∀ (T24 : State) (L24 : List Loc), Stand p l e ({ frames := 4, cells := 0, slots := 0, locals := 59 } : Room) s m #[(.ref a), (.int lo), (.int hi), (.ref o)] below meth cC T24 L24 0 0 → T24.heap = h0 → Fr n0 L24 → (OwnT lo hi (decide (c0 = m0 ∨ c0 = m1)) (decide (c1 = m0 ∨ c1 = m1)) (decide (c2 = m0 ∨ c2 = m1)) (decide (c3 = m0 ∨ c3 = m1)) = T3 lo (decide (c0 = m0 ∨ c0 = m1)) (decide (c1 = m0 ∨ c1 = m1)) (decide (c2 = m0 ∨ c2 = m1)) (decide (c3 = m0 ∨ c3 = m1))) → OwnFin p e below (R62 Z a lo hi o b kb fm cs c0 c1 c2 c3 bo ko m0 m1 h0 n0 s) (T24.setTop (mkF m 3 #[.val (.ref a), .val (.int lo), .val (.int hi), .val (.ref o), .val (.int (3 : Int32))] [])) := by
    intro T24 L24 X24 e24 N24 hj25
    refine OwnFin.step (fun tT kK => XS.iload X24.here hx rfl (hb hby d_prog_84_method_13_3) rfl kK) ?_
    refine OwnFin.step (fun tT kK => XS.iloadN X24.here hx rfl (hb hby d_prog_84_method_13_5) rfl kK) ?_
    show OwnFin p e below _ (T24.setTop (mkF m 6 #[.val (.ref a), .val (.int lo), .val (.int hi), .val (.ref o), .val (.int (3 : Int32))] [(.int lo), (.int (3 : Int32))]))
    by_cases hc26 : lo < (3 : Int32)
    · skip
      refine OwnFin.step (fun tT kK => XS.icmpNo X24.here hx rfl (hb hby d_prog_84_method_13_6) rfl (tlt (hc26 : lo < (3 : Int32))).2.2.2 kK) ?_
      show OwnFin p e below _ (T24.setTop (mkF m 9 #[.val (.ref a), .val (.int lo), .val (.int hi), .val (.ref o), .val (.int (3 : Int32))] []))
      refine OwnFin.step (fun tT kK => XS.aloadN X24.here hx rfl (hb hby d_prog_84_method_13_9) rfl rfl kK) ?_
      refine OwnFin.step (fun tT kK => XS.aloadN X24.here hx rfl (hb hby d_prog_84_method_13_10) rfl rfl kK) ?_
      show OwnFin p e below _ (T24.setTop (mkF m 11 #[.val (.ref a), .val (.int lo), .val (.int hi), .val (.ref o), .val (.int (3 : Int32))] [(.ref a), (.ref o)]))
      refine OwnFin.step (fun tT kK => XS.iload X24.here hx rfl (hb hby d_prog_84_method_13_11) rfl kK) ?_
      refine OwnFin.step (fun tT kK => XS.iconst X24.here hx rfl (hb hby d_prog_84_method_13_13) kK) ?_
      show OwnFin p e below _ (T24.setTop (mkF m 14 #[.val (.ref a), .val (.int lo), .val (.int hi), .val (.ref o), .val (.int (3 : Int32))] [(.int (1 : Int32)), (.int (3 : Int32)), (.ref a), (.ref o)]))
      refine OwnFin.step (fun tT kK => XS.isub X24.here hx rfl (hb hby d_prog_84_method_13_14) rfl kK) ?_
      obtain ⟨cq28, kq28, q28a, q28b, q28c⟩ := isOf hZ e24 hp2
      obtain ⟨_, _, ⟨T28, L28, k28, n28⟩, -, X28, ⟨Lc28, hQ28, l28, y28, z28⟩, st28⟩ := X24.virtualBack hx (y := (⟨"java/lang/String", "charAt", "(I)C"⟩ : MethodName)) (z := (⟨"java/lang/String", "charAt", "(I)C"⟩ : MethodName)) hown (mvT hZ (hw _ (List.mem_of_getElem? (i := 49) rfl))) (mvT hZ (hw _ (List.mem_of_getElem? (i := 50) rfl))) (notFace_of_selects (args := #[]) (mvT hZ (hw _ (List.mem_of_getElem? (i := 52) rfl)))) (mvT hZ (hw _ (List.mem_of_getElem? (i := 52) rfl))) (mvT hZ (hw _ (List.mem_of_getElem? (i := 51) rfl))) (by decide) (backOf (W := 1) (rm3d2 l Z a0 hw hEL wS [] a b kb fm cs c0 c1 c2 c3 h0 n0 (Nat.le_trans Z0 Kp0.1) hp0 hp1 hp2 hp3 hp4 hp5 hp6 hp7 hp8 hp9 hp10 hp11) hZ (hw _ (List.mem_of_getElem? (i := 53) rfl)) (hw _ (List.mem_of_getElem? (i := 2) rfl)) (by decide) (by decide)) q28a q28c (g := (mkF m 15 #[.val (.ref a), .val (.int lo), .val (.int hi), .val (.ref o), .val (.int (3 : Int32))] [(.int (2 : Int32)), (.ref a), (.ref o)])) rfl (by rw [hml]; rfl) (Steps.refl _) (argsL := [(.int (2 : Int32))]) (rest := [(.ref o)]) (lenOf pd_160 rfl) rfl (by show 2 * 0 + _ ≤ _; exact Nat.le_of_eq rfl) (hb hby d_prog_84_method_13_15) (fun _ _ => ⟨rfl, e24, (by decide : 0 + 0 ≤ _), (by decide : 0 + 0 ≤ _)⟩)
      dsimp only [Pt.U, Pt.locs, Pt.cells, Pt.slots] at X28 l28 y28 z28 st28 hQ28
      subst l28 y28 z28
      obtain ⟨rfl, N28q, e28⟩ := hQ28
      have N28 := Fr.app N24 N28q
      refine OwnFin.step (fun tT kK => st28.trans kK) ?_
      show OwnFin p e below _ (T28.setTop (mkF m 18 #[.val (.ref a), .val (.int lo), .val (.int hi), .val (.ref o), .val (.int (3 : Int32))] [(.int c2), (.ref o)]))
      obtain ⟨cq29, kq29, q29a, q29b, q29c⟩ := isOf hZ e28 hp12
      obtain ⟨_, _, ⟨T29, L29, k29, n29⟩, -, X29, ⟨Lc29, hQ29, l29, y29, z29⟩, st29⟩ := X28.virtualBack hx (y := (⟨"java/lang/String", "indexOf", "(I)I"⟩ : MethodName)) (z := (⟨"java/lang/String", "indexOf", "(I)I"⟩ : MethodName)) hown (mvT hZ (hw _ (List.mem_of_getElem? (i := 71) rfl))) (mvT hZ (hw _ (List.mem_of_getElem? (i := 72) rfl))) (notFace_of_selects (args := #[]) (mvT hZ (hw _ (List.mem_of_getElem? (i := 74) rfl)))) (mvT hZ (hw _ (List.mem_of_getElem? (i := 74) rfl))) (mvT hZ (hw _ (List.mem_of_getElem? (i := 73) rfl))) (by decide) (backOf (W := 0) (rm5e2 l Z a0 hw hEL wS [] o c2 bo ko cs m0 m1 h0 n0 (Nat.le_trans Z0 Kp0.1) hp12 hp13 hp14 hp15 hp10 hp11 hp16 hp17 hp8) hZ (hw _ (List.mem_of_getElem? (i := 75) rfl)) (hw _ (List.mem_of_getElem? (i := 2) rfl)) (by decide) (by decide)) q29a q29c (g := (mkF m 18 #[.val (.ref a), .val (.int lo), .val (.int hi), .val (.ref o), .val (.int (3 : Int32))] [(.int c2), (.ref o)])) rfl (by rw [hml]; rfl) (Steps.refl _) (argsL := [(.int c2)]) (rest := []) (lenOf pd_162 rfl) rfl (by show 2 * 0 + _ ≤ _; exact Nat.le_of_eq rfl) (hb hby d_prog_84_method_13_18) (fun _ _ => ⟨rfl, e28, (by decide : 0 + 0 ≤ _), (by decide : 0 + 0 ≤ _)⟩)
      dsimp only [Pt.U, Pt.locs, Pt.cells, Pt.slots] at X29 l29 y29 z29 st29 hQ29
      subst l29 y29 z29
      obtain ⟨rfl, N29q, e29⟩ := hQ29
      have N29 := Fr.app N28 N29q
      refine OwnFin.step (fun tT kK => st29.trans kK) ?_
      show OwnFin p e below _ (T29.setTop (mkF m 21 #[.val (.ref a), .val (.int lo), .val (.int hi), .val (.ref o), .val (.int (3 : Int32))] [(.int (if c2 = m0 then (0 : Int32) else if c2 = m1 then 1 else -1))]))
      by_cases hc30 : (c2 = m0 ∨ c2 = m1)
      · skip
        have hix : ¬ ((if c2 = m0 then (0 : Int32) else if c2 = m1 then 1 else -1)) < (0 : Int32) := by rcases hc30 with q | q <;> simp only [q, if_true] <;> (try split) <;> decide
        refine OwnFin.step (fun tT kK => XS.ifYes X29.here hx rfl (pc0 := 21) (pc' := 30) rfl (hb hby d_prog_84_method_13_21) rfl ((if0 _ _).trans (flt (hix : ¬ ((if c2 = m0 then (0 : Int32) else if c2 = m1 then 1 else -1) < (0 : Int32)))).2.1) (by decide) (by decide) kK) ?_
        show OwnFin p e below _ (T29.setTop (mkF m 30 #[.val (.ref a), .val (.int lo), .val (.int hi), .val (.ref o), .val (.int (3 : Int32))] []))
        refine OwnFin.step (fun tT kK => XS.iload X29.here hx rfl (hb hby d_prog_84_method_13_30) rfl kK) ?_
        show OwnFin p e below _ (T29.setTop (mkF m 32 #[.val (.ref a), .val (.int lo), .val (.int hi), .val (.ref o), .val (.int (3 : Int32))] [(.int (3 : Int32))]))
        obtain ⟨fs31, hr31, hrun31, hended31, hW31, hsame31⟩ := X29.leave (v := (some (.int (3 : Int32)))) (fun h => by rw [Bd.returns] at h; cases h)
        refine ⟨_, _, retOut X29 hx Bd.returns rfl (Or.inl ⟨rfl, Or.inl rfl, _, rfl⟩) (hb hby d_prog_84_method_13_32) hr31, hrun31, hended31, _, _, rfl, ?_, ⟨_, rfl⟩, hW31, hsame31.mono (by decide) (by decide)⟩
        show Q62 Z a lo hi o b kb fm cs c0 c1 c2 c3 bo ko m0 m1 h0 n0 _ T29.heap _
        rw [e29]
        exact ⟨(by rw [hj25, T3, if_pos hc26, if_pos (decide_eq_true hc30)]), N29, rfl⟩
      · skip
        rw [if_neg (fun q => hc30 (Or.inl q)), if_neg (fun q => hc30 (Or.inr q))]
        show OwnFin p e below _ (T29.setTop (mkF m 21 #[.val (.ref a), .val (.int lo), .val (.int hi), .val (.ref o), .val (.int (3 : Int32))] [(.int (-1 : Int32))]))
        refine OwnFin.step (fun tT kK => XS.ifNo X29.here hx rfl (hb hby d_prog_84_method_13_21) rfl ((if0 _ _).trans (tlt (by decide : (-1 : Int32) < (0 : Int32))).2.1) kK) ?_
        show OwnFin p e below _ (T29.setTop (mkF m 24 #[.val (.ref a), .val (.int lo), .val (.int hi), .val (.ref o), .val (.int (3 : Int32))] []))
        refine OwnFin.step (fun tT kK => XS.iinc X29.here hx rfl (hb hby d_prog_84_method_13_24) rfl (l' := #[.val (.ref a), .val (.int lo), .val (.int hi), .val (.ref o), .val (.int (2 : Int32))]) rfl kK) ?_
        show OwnFin p e below _ (T29.setTop (mkF m 27 #[.val (.ref a), .val (.int lo), .val (.int hi), .val (.ref o), .val (.int (2 : Int32))] []))
        refine OwnFin.step (fun tT kK => XS.goto X29.here hx rfl (pc0 := 27) (pc' := 3) rfl (hb hby d_prog_84_method_13_27) (by decide) (by decide) kK) ?_
        show OwnFin p e below _ (T29.setTop (mkF m 3 #[.val (.ref a), .val (.int lo), .val (.int hi), .val (.ref o), .val (.int (2 : Int32))] []))
        exact key14 _ _ X29 e29 N29  (by rw [hj25, T3, if_pos hc26, if_neg (by rw [decide_eq_false hc30]; decide)])
    · skip
      refine OwnFin.step (fun tT kK => XS.icmpYes X24.here hx rfl (pc0 := 6) (pc' := 30) rfl (hb hby d_prog_84_method_13_6) rfl (flt (hc26 : ¬ (lo < (3 : Int32)))).2.2.2 (by decide) (by decide) kK) ?_
      show OwnFin p e below _ (T24.setTop (mkF m 30 #[.val (.ref a), .val (.int lo), .val (.int hi), .val (.ref o), .val (.int (3 : Int32))] []))
      refine OwnFin.step (fun tT kK => XS.iload X24.here hx rfl (hb hby d_prog_84_method_13_30) rfl kK) ?_
      obtain ⟨fs27, hr27, hrun27, hended27, hW27, hsame27⟩ := X24.leave (v := (some (.int (3 : Int32)))) (fun h => by rw [Bd.returns] at h; cases h)
      refine ⟨_, _, retOut X24 hx Bd.returns rfl (Or.inl ⟨rfl, Or.inl rfl, _, rfl⟩) (hb hby d_prog_84_method_13_32) hr27, hrun27, hended27, _, _, rfl, ?_, ⟨_, rfl⟩, hW27, hsame27.mono (by decide) (by decide)⟩
      show Q62 Z a lo hi o b kb fm cs c0 c1 c2 c3 bo ko m0 m1 h0 n0 _ T24.heap _
      rw [e24]
      exact ⟨(by rw [hj25, T3, if_neg hc26]), N24, rfl⟩
  have key32 : ∀ (T33 : State) (L33 : List Loc), Stand p l e ({ frames := 4, cells := 0, slots := 0, locals := 59 } : Room) s m #[(.ref a), (.int lo), (.int hi), (.ref o)] below meth cC T33 L33 0 0 → T33.heap = h0 → Fr n0 L33 → (OwnT lo hi (decide (c0 = m0 ∨ c0 = m1)) (decide (c1 = m0 ∨ c1 = m1)) (decide (c2 = m0 ∨ c2 = m1)) (decide (c3 = m0 ∨ c3 = m1)) = T4 lo (decide (c0 = m0 ∨ c0 = m1)) (decide (c1 = m0 ∨ c1 = m1)) (decide (c2 = m0 ∨ c2 = m1)) (decide (c3 = m0 ∨ c3 = m1))) → OwnFin p e below (R62 Z a lo hi o b kb fm cs c0 c1 c2 c3 bo ko m0 m1 h0 n0 s) (T33.setTop (mkF m 3 #[.val (.ref a), .val (.int lo), .val (.int hi), .val (.ref o), .val (.int (4 : Int32))] [])) := by
    intro T33 L33 X33 e33 N33 hj34
    refine OwnFin.step (fun tT kK => XS.iload X33.here hx rfl (hb hby d_prog_84_method_13_3) rfl kK) ?_
    refine OwnFin.step (fun tT kK => XS.iloadN X33.here hx rfl (hb hby d_prog_84_method_13_5) rfl kK) ?_
    show OwnFin p e below _ (T33.setTop (mkF m 6 #[.val (.ref a), .val (.int lo), .val (.int hi), .val (.ref o), .val (.int (4 : Int32))] [(.int lo), (.int (4 : Int32))]))
    by_cases hc35 : lo < (4 : Int32)
    · skip
      refine OwnFin.step (fun tT kK => XS.icmpNo X33.here hx rfl (hb hby d_prog_84_method_13_6) rfl (tlt (hc35 : lo < (4 : Int32))).2.2.2 kK) ?_
      show OwnFin p e below _ (T33.setTop (mkF m 9 #[.val (.ref a), .val (.int lo), .val (.int hi), .val (.ref o), .val (.int (4 : Int32))] []))
      refine OwnFin.step (fun tT kK => XS.aloadN X33.here hx rfl (hb hby d_prog_84_method_13_9) rfl rfl kK) ?_
      refine OwnFin.step (fun tT kK => XS.aloadN X33.here hx rfl (hb hby d_prog_84_method_13_10) rfl rfl kK) ?_
      show OwnFin p e below _ (T33.setTop (mkF m 11 #[.val (.ref a), .val (.int lo), .val (.int hi), .val (.ref o), .val (.int (4 : Int32))] [(.ref a), (.ref o)]))
      refine OwnFin.step (fun tT kK => XS.iload X33.here hx rfl (hb hby d_prog_84_method_13_11) rfl kK) ?_
      refine OwnFin.step (fun tT kK => XS.iconst X33.here hx rfl (hb hby d_prog_84_method_13_13) kK) ?_
      show OwnFin p e below _ (T33.setTop (mkF m 14 #[.val (.ref a), .val (.int lo), .val (.int hi), .val (.ref o), .val (.int (4 : Int32))] [(.int (1 : Int32)), (.int (4 : Int32)), (.ref a), (.ref o)]))
      refine OwnFin.step (fun tT kK => XS.isub X33.here hx rfl (hb hby d_prog_84_method_13_14) rfl kK) ?_
      obtain ⟨cq37, kq37, q37a, q37b, q37c⟩ := isOf hZ e33 hp2
      obtain ⟨_, _, ⟨T37, L37, k37, n37⟩, -, X37, ⟨Lc37, hQ37, l37, y37, z37⟩, st37⟩ := X33.virtualBack hx (y := (⟨"java/lang/String", "charAt", "(I)C"⟩ : MethodName)) (z := (⟨"java/lang/String", "charAt", "(I)C"⟩ : MethodName)) hown (mvT hZ (hw _ (List.mem_of_getElem? (i := 49) rfl))) (mvT hZ (hw _ (List.mem_of_getElem? (i := 50) rfl))) (notFace_of_selects (args := #[]) (mvT hZ (hw _ (List.mem_of_getElem? (i := 52) rfl)))) (mvT hZ (hw _ (List.mem_of_getElem? (i := 52) rfl))) (mvT hZ (hw _ (List.mem_of_getElem? (i := 51) rfl))) (by decide) (backOf (W := 1) (rm3d3 l Z a0 hw hEL wS [] a b kb fm cs c0 c1 c2 c3 h0 n0 (Nat.le_trans Z0 Kp0.1) hp0 hp1 hp2 hp3 hp4 hp5 hp6 hp7 hp8 hp9 hp10 hp11) hZ (hw _ (List.mem_of_getElem? (i := 53) rfl)) (hw _ (List.mem_of_getElem? (i := 2) rfl)) (by decide) (by decide)) q37a q37c (g := (mkF m 15 #[.val (.ref a), .val (.int lo), .val (.int hi), .val (.ref o), .val (.int (4 : Int32))] [(.int (3 : Int32)), (.ref a), (.ref o)])) rfl (by rw [hml]; rfl) (Steps.refl _) (argsL := [(.int (3 : Int32))]) (rest := [(.ref o)]) (lenOf pd_160 rfl) rfl (by show 2 * 0 + _ ≤ _; exact Nat.le_of_eq rfl) (hb hby d_prog_84_method_13_15) (fun _ _ => ⟨rfl, e33, (by decide : 0 + 0 ≤ _), (by decide : 0 + 0 ≤ _)⟩)
      dsimp only [Pt.U, Pt.locs, Pt.cells, Pt.slots] at X37 l37 y37 z37 st37 hQ37
      subst l37 y37 z37
      obtain ⟨rfl, N37q, e37⟩ := hQ37
      have N37 := Fr.app N33 N37q
      refine OwnFin.step (fun tT kK => st37.trans kK) ?_
      show OwnFin p e below _ (T37.setTop (mkF m 18 #[.val (.ref a), .val (.int lo), .val (.int hi), .val (.ref o), .val (.int (4 : Int32))] [(.int c3), (.ref o)]))
      obtain ⟨cq38, kq38, q38a, q38b, q38c⟩ := isOf hZ e37 hp12
      obtain ⟨_, _, ⟨T38, L38, k38, n38⟩, -, X38, ⟨Lc38, hQ38, l38, y38, z38⟩, st38⟩ := X37.virtualBack hx (y := (⟨"java/lang/String", "indexOf", "(I)I"⟩ : MethodName)) (z := (⟨"java/lang/String", "indexOf", "(I)I"⟩ : MethodName)) hown (mvT hZ (hw _ (List.mem_of_getElem? (i := 71) rfl))) (mvT hZ (hw _ (List.mem_of_getElem? (i := 72) rfl))) (notFace_of_selects (args := #[]) (mvT hZ (hw _ (List.mem_of_getElem? (i := 74) rfl)))) (mvT hZ (hw _ (List.mem_of_getElem? (i := 74) rfl))) (mvT hZ (hw _ (List.mem_of_getElem? (i := 73) rfl))) (by decide) (backOf (W := 0) (rm5e2 l Z a0 hw hEL wS [] o c3 bo ko cs m0 m1 h0 n0 (Nat.le_trans Z0 Kp0.1) hp12 hp13 hp14 hp15 hp10 hp11 hp16 hp17 hp9) hZ (hw _ (List.mem_of_getElem? (i := 75) rfl)) (hw _ (List.mem_of_getElem? (i := 2) rfl)) (by decide) (by decide)) q38a q38c (g := (mkF m 18 #[.val (.ref a), .val (.int lo), .val (.int hi), .val (.ref o), .val (.int (4 : Int32))] [(.int c3), (.ref o)])) rfl (by rw [hml]; rfl) (Steps.refl _) (argsL := [(.int c3)]) (rest := []) (lenOf pd_162 rfl) rfl (by show 2 * 0 + _ ≤ _; exact Nat.le_of_eq rfl) (hb hby d_prog_84_method_13_18) (fun _ _ => ⟨rfl, e37, (by decide : 0 + 0 ≤ _), (by decide : 0 + 0 ≤ _)⟩)
      dsimp only [Pt.U, Pt.locs, Pt.cells, Pt.slots] at X38 l38 y38 z38 st38 hQ38
      subst l38 y38 z38
      obtain ⟨rfl, N38q, e38⟩ := hQ38
      have N38 := Fr.app N37 N38q
      refine OwnFin.step (fun tT kK => st38.trans kK) ?_
      show OwnFin p e below _ (T38.setTop (mkF m 21 #[.val (.ref a), .val (.int lo), .val (.int hi), .val (.ref o), .val (.int (4 : Int32))] [(.int (if c3 = m0 then (0 : Int32) else if c3 = m1 then 1 else -1))]))
      by_cases hc39 : (c3 = m0 ∨ c3 = m1)
      · skip
        have hix : ¬ ((if c3 = m0 then (0 : Int32) else if c3 = m1 then 1 else -1)) < (0 : Int32) := by rcases hc39 with q | q <;> simp only [q, if_true] <;> (try split) <;> decide
        refine OwnFin.step (fun tT kK => XS.ifYes X38.here hx rfl (pc0 := 21) (pc' := 30) rfl (hb hby d_prog_84_method_13_21) rfl ((if0 _ _).trans (flt (hix : ¬ ((if c3 = m0 then (0 : Int32) else if c3 = m1 then 1 else -1) < (0 : Int32)))).2.1) (by decide) (by decide) kK) ?_
        show OwnFin p e below _ (T38.setTop (mkF m 30 #[.val (.ref a), .val (.int lo), .val (.int hi), .val (.ref o), .val (.int (4 : Int32))] []))
        refine OwnFin.step (fun tT kK => XS.iload X38.here hx rfl (hb hby d_prog_84_method_13_30) rfl kK) ?_
        show OwnFin p e below _ (T38.setTop (mkF m 32 #[.val (.ref a), .val (.int lo), .val (.int hi), .val (.ref o), .val (.int (4 : Int32))] [(.int (4 : Int32))]))
        obtain ⟨fs40, hr40, hrun40, hended40, hW40, hsame40⟩ := X38.leave (v := (some (.int (4 : Int32)))) (fun h => by rw [Bd.returns] at h; cases h)
        refine ⟨_, _, retOut X38 hx Bd.returns rfl (Or.inl ⟨rfl, Or.inl rfl, _, rfl⟩) (hb hby d_prog_84_method_13_32) hr40, hrun40, hended40, _, _, rfl, ?_, ⟨_, rfl⟩, hW40, hsame40.mono (by decide) (by decide)⟩
        show Q62 Z a lo hi o b kb fm cs c0 c1 c2 c3 bo ko m0 m1 h0 n0 _ T38.heap _
        rw [e38]
        exact ⟨(by rw [hj34, T4, if_pos hc35, if_pos (decide_eq_true hc39)]), N38, rfl⟩
      · skip
        rw [if_neg (fun q => hc39 (Or.inl q)), if_neg (fun q => hc39 (Or.inr q))]
        show OwnFin p e below _ (T38.setTop (mkF m 21 #[.val (.ref a), .val (.int lo), .val (.int hi), .val (.ref o), .val (.int (4 : Int32))] [(.int (-1 : Int32))]))
        refine OwnFin.step (fun tT kK => XS.ifNo X38.here hx rfl (hb hby d_prog_84_method_13_21) rfl ((if0 _ _).trans (tlt (by decide : (-1 : Int32) < (0 : Int32))).2.1) kK) ?_
        show OwnFin p e below _ (T38.setTop (mkF m 24 #[.val (.ref a), .val (.int lo), .val (.int hi), .val (.ref o), .val (.int (4 : Int32))] []))
        refine OwnFin.step (fun tT kK => XS.iinc X38.here hx rfl (hb hby d_prog_84_method_13_24) rfl (l' := #[.val (.ref a), .val (.int lo), .val (.int hi), .val (.ref o), .val (.int (3 : Int32))]) rfl kK) ?_
        show OwnFin p e below _ (T38.setTop (mkF m 27 #[.val (.ref a), .val (.int lo), .val (.int hi), .val (.ref o), .val (.int (3 : Int32))] []))
        refine OwnFin.step (fun tT kK => XS.goto X38.here hx rfl (pc0 := 27) (pc' := 3) rfl (hb hby d_prog_84_method_13_27) (by decide) (by decide) kK) ?_
        show OwnFin p e below _ (T38.setTop (mkF m 3 #[.val (.ref a), .val (.int lo), .val (.int hi), .val (.ref o), .val (.int (3 : Int32))] []))
        exact key23 _ _ X38 e38 N38  (by rw [hj34, T4, if_pos hc35, if_neg (by rw [decide_eq_false hc39]; decide)])
    · skip
      refine OwnFin.step (fun tT kK => XS.icmpYes X33.here hx rfl (pc0 := 6) (pc' := 30) rfl (hb hby d_prog_84_method_13_6) rfl (flt (hc35 : ¬ (lo < (4 : Int32)))).2.2.2 (by decide) (by decide) kK) ?_
      show OwnFin p e below _ (T33.setTop (mkF m 30 #[.val (.ref a), .val (.int lo), .val (.int hi), .val (.ref o), .val (.int (4 : Int32))] []))
      refine OwnFin.step (fun tT kK => XS.iload X33.here hx rfl (hb hby d_prog_84_method_13_30) rfl kK) ?_
      obtain ⟨fs36, hr36, hrun36, hended36, hW36, hsame36⟩ := X33.leave (v := (some (.int (4 : Int32)))) (fun h => by rw [Bd.returns] at h; cases h)
      refine ⟨_, _, retOut X33 hx Bd.returns rfl (Or.inl ⟨rfl, Or.inl rfl, _, rfl⟩) (hb hby d_prog_84_method_13_32) hr36, hrun36, hended36, _, _, rfl, ?_, ⟨_, rfl⟩, hW36, hsame36.mono (by decide) (by decide)⟩
      show Q62 Z a lo hi o b kb fm cs c0 c1 c2 c3 bo ko m0 m1 h0 n0 _ T33.heap _
      rw [e33]
      exact ⟨(by rw [hj34, T4, if_neg hc35]), N33, rfl⟩
  rcases (own_hi hp18).1 with rfl | rfl | rfl | rfl | rfl
  · skip
    show OwnFin p e below _ (s₁.setTop (mkF m 3 #[.val (.ref a), .val (.int lo), .val (.int (0 : Int32)), .val (.ref o), .val (.int (0 : Int32))] []))
    exact key1 _ _ X0 e0 N0  (rfl)
  · skip
    show OwnFin p e below _ (s₁.setTop (mkF m 3 #[.val (.ref a), .val (.int lo), .val (.int (1 : Int32)), .val (.ref o), .val (.int (1 : Int32))] []))
    exact key5 _ _ X0 e0 N0  (rfl)
  · skip
    show OwnFin p e below _ (s₁.setTop (mkF m 3 #[.val (.ref a), .val (.int lo), .val (.int (2 : Int32)), .val (.ref o), .val (.int (2 : Int32))] []))
    exact key14 _ _ X0 e0 N0  (rfl)
  · skip
    show OwnFin p e below _ (s₁.setTop (mkF m 3 #[.val (.ref a), .val (.int lo), .val (.int (3 : Int32)), .val (.ref o), .val (.int (3 : Int32))] []))
    exact key23 _ _ X0 e0 N0  (rfl)
  · skip
    show OwnFin p e below _ (s₁.setTop (mkF m 3 #[.val (.ref a), .val (.int lo), .val (.int (4 : Int32)), .val (.ref o), .val (.int (4 : Int32))] []))
    exact key32 _ _ X0 e0 N0  (rfl)
theorem pn_166 : plainName "com/example/covenantry/covenantry/text/PhrasesAfterLastMarkPinLaw" = true := by first | (simp [plainName, overriddenIn]; done) | decide +kernel
theorem d_method_2_0 : decode method_2_code 0 = .ok (.iload_n 1, 1) := by decide +kernel
theorem d_method_2_1 : decode method_2_code 1 = .ok (.iconst 1, 1) := by decide +kernel
theorem d_method_2_2 : decode method_2_code 2 = .ok (.if_icmp .lt 8, 3) := by decide +kernel
theorem d_method_2_10 : decode method_2_code 10 = .ok (.iload_n 1, 1) := by decide +kernel
theorem d_method_2_11 : decode method_2_code 11 = .ok (.iconst 2, 1) := by decide +kernel
theorem d_method_2_12 : decode method_2_code 12 = .ok (.if_icmp .lt 12, 3) := by decide +kernel
theorem d_method_2_24 : decode method_2_code 24 = .ok (.iconst 0, 1) := by decide +kernel
theorem d_method_2_25 : decode method_2_code 25 = .ok (.ireturn, 1) := by decide +kernel
theorem ef_70 (m : MethodId) (c : Int32) (m0 : Int32) (m1 : Int32) : entryFrame m #[(.int c), (.int (0 : Int32)), (.int m0), (.int m1)] 4 = mkF m 0 #[.val (.int c), .val (.int (0 : Int32)), .val (.int m0), .val (.int m1)] [] := by first | (simp [entryFrame, mkF, argsToLocals, Value.category]; done) | rfl
def Q70 (Z : State) (c : Int32) (m0 : Int32) (m1 : Int32) (h0 : Heap) (n0 : Nat) (vV : Option Value) (hH : Heap) (LL : List Loc) : Prop := vV = some (.int (0 : Int32)) ∧ Fr n0 LL ∧ hH = h0
def R70 (Z : State) (c : Int32) (m0 : Int32) (m1 : Int32) (h0 : Heap) (n0 : Nat) (U : State) (oO : Outcome) (U' : State) : Prop := ∃ vV LL, oO = .returned vV ∧ Q70 Z c m0 m1 h0 n0 vV U'.heap LL ∧ FrameEnd U oO U' LL ({ frames := 0, cells := 0, slots := 0, locals := 0 } : Room).cells ({ frames := 0, cells := 0, slots := 0, locals := 0 } : Room).slots
set_option maxRecDepth 65536 in
set_option maxHeartbeats 40000000 in
theorem rm70 (l : Launch) (Z : State) (a0 : Array Value) (hw : ∀ d ∈ tables_1, d.before a0 Z = true) (hEL : EW Z a0 OwnEL) (wS : ∀ a ∈ Bundle.stringAtoms, a.before a0 Z = true) (ws : List Jvm.Cond) (c : Int32) (m0 : Int32) (m1 : Int32) (h0 : Heap) (n0 : Nat) (Z0 : n0 ≤ h0.size) :
    MetFree l (⟨"com/example/covenantry/covenantry/text/PhrasesAfterLastMarkPinLaw", "isMark", "(CICC)Z"⟩ : MethodName) (head1 (Jvm.Cond.code (⟨"com/example/covenantry/covenantry/text/PhrasesAfterLastMarkPinLaw", "isMark", "(CICC)Z"⟩ : MethodName) method_2_code 4 (some .boolean) :: ws) ({ frames := 0, cells := 0, slots := 0, locals := 0 } : Room)) (fun aA U => aA = #[(.int c), (.int (0 : Int32)), (.int m0), (.int m1)] ∧ Z.Warmed39 U.vm ∧ U.heap = h0) (fun _ _ _ _ _ => True) (fun _ U oO U' => ∃ vV LL, oO = .returned vV ∧ Q70 Z c m0 m1 h0 n0 vV U'.heap LL ∧ FrameEnd U oO U' LL ({ frames := 0, cells := 0, slots := 0, locals := 0 } : Room).cells ({ frames := 0, cells := 0, slots := 0, locals := 0 } : Room).slots) := by
  refine MetFree.of_bodySF (plainFor_of_name pn_166) hisR ?_
  intro p e s m args below meth cC s₁ Bd hml0 hP hK
  obtain ⟨rfl, hZ, hh⟩ := hP
  have hx := Bd.exec
  have hby := Bd.bytes
  have hml : cC.maxLocals = 4 := hml0
  have hown : s.vm.findClass "com/example/covenantry/covenantry/text/PhrasesAfterLastMarkPinLaw" = some m.cls := findClass_of_methodNamed Bd.named
  have hnm := (name_of_methodNamed Bd.named Bd.method).1
  have X0 : Stand p l e ({ frames := 0, cells := 0, slots := 0, locals := 0 } : Room) s m #[(.int c), (.int (0 : Int32)), (.int m0), (.int m1)] below meth cC s₁ [] 0 0 := Stand.of_body Bd
  have e0 : s₁.heap = h0 := by rw [← hh, Bd.state]; rfl
  have N0 := Fr.nil n0
  have Kp0 := Keep.refl h0 []
  show OwnFin p e below (R70 Z c m0 m1 h0 n0 s) (s₁.setTop (entryFrame m #[(.int c), (.int (0 : Int32)), (.int m0), (.int m1)] 4))
  rw [ef_70 m c m0 m1]
  refine OwnFin.step (fun tT kK => XS.iloadN X0.here hx rfl (hb hby d_method_2_0) rfl kK) ?_
  refine OwnFin.step (fun tT kK => XS.iconst X0.here hx rfl (hb hby d_method_2_1) kK) ?_
  show OwnFin p e below _ (s₁.setTop (mkF m 2 #[.val (.int c), .val (.int (0 : Int32)), .val (.int m0), .val (.int m1)] [(.int (1 : Int32)), (.int (0 : Int32))]))
  refine OwnFin.step (fun tT kK => XS.icmpYes X0.here hx rfl (pc0 := 2) (pc' := 10) rfl (hb hby d_method_2_2) rfl (tlt (by decide : (0 : Int32) < (1 : Int32))).1 (by decide) (by decide) kK) ?_
  show OwnFin p e below _ (s₁.setTop (mkF m 10 #[.val (.int c), .val (.int (0 : Int32)), .val (.int m0), .val (.int m1)] []))
  refine OwnFin.step (fun tT kK => XS.iloadN X0.here hx rfl (hb hby d_method_2_10) rfl kK) ?_
  refine OwnFin.step (fun tT kK => XS.iconst X0.here hx rfl (hb hby d_method_2_11) kK) ?_
  show OwnFin p e below _ (s₁.setTop (mkF m 12 #[.val (.int c), .val (.int (0 : Int32)), .val (.int m0), .val (.int m1)] [(.int (2 : Int32)), (.int (0 : Int32))]))
  refine OwnFin.step (fun tT kK => XS.icmpYes X0.here hx rfl (pc0 := 12) (pc' := 24) rfl (hb hby d_method_2_12) rfl (tlt (by decide : (0 : Int32) < (2 : Int32))).1 (by decide) (by decide) kK) ?_
  show OwnFin p e below _ (s₁.setTop (mkF m 24 #[.val (.int c), .val (.int (0 : Int32)), .val (.int m0), .val (.int m1)] []))
  refine OwnFin.step (fun tT kK => XS.iconst X0.here hx rfl (hb hby d_method_2_24) kK) ?_
  obtain ⟨fs1, hr1, hrun1, hended1, hW1, hsame1⟩ := X0.leave (v := (some (.int (0 : Int32)))) (fun h => by rw [Bd.returns] at h; cases h)
  refine ⟨_, _, retN X0 hx (t := .boolean) Bd.returns (by simp) (hb hby d_method_2_25) hr1, hrun1, hended1, _, _, rfl, ?_, ⟨_, rfl⟩, hW1, hsame1.mono (by decide) (by decide)⟩
  show Q70 Z c m0 m1 h0 n0 _ s₁.heap _
  rw [e0]
  exact ⟨rfl, N0, rfl⟩
theorem d_method_2_5 : decode method_2_code 5 = .ok (.iload_n 0, 1) := by decide +kernel
theorem d_method_2_6 : decode method_2_code 6 = .ok (.iload_n 2, 1) := by decide +kernel
theorem d_method_2_7 : decode method_2_code 7 = .ok (.if_icmp .eq 13, 3) := by decide +kernel
theorem d_method_2_20 : decode method_2_code 20 = .ok (.iconst 1, 1) := by decide +kernel
theorem d_method_2_21 : decode method_2_code 21 = .ok (.goto 4, 3) := by decide +kernel
theorem ef_71 (m : MethodId) (c : Int32) (m0 : Int32) (m1 : Int32) : entryFrame m #[(.int c), (.int (1 : Int32)), (.int m0), (.int m1)] 4 = mkF m 0 #[.val (.int c), .val (.int (1 : Int32)), .val (.int m0), .val (.int m1)] [] := by first | (simp [entryFrame, mkF, argsToLocals, Value.category]; done) | rfl
def Q71 (Z : State) (c : Int32) (m0 : Int32) (m1 : Int32) (h0 : Heap) (n0 : Nat) (vV : Option Value) (hH : Heap) (LL : List Loc) : Prop := vV = some (.int (if c = m0 then 1 else 0)) ∧ Fr n0 LL ∧ hH = h0
def R71 (Z : State) (c : Int32) (m0 : Int32) (m1 : Int32) (h0 : Heap) (n0 : Nat) (U : State) (oO : Outcome) (U' : State) : Prop := ∃ vV LL, oO = .returned vV ∧ Q71 Z c m0 m1 h0 n0 vV U'.heap LL ∧ FrameEnd U oO U' LL ({ frames := 0, cells := 0, slots := 0, locals := 0 } : Room).cells ({ frames := 0, cells := 0, slots := 0, locals := 0 } : Room).slots
set_option maxRecDepth 65536 in
set_option maxHeartbeats 40000000 in
theorem rm71 (l : Launch) (Z : State) (a0 : Array Value) (hw : ∀ d ∈ tables_1, d.before a0 Z = true) (hEL : EW Z a0 OwnEL) (wS : ∀ a ∈ Bundle.stringAtoms, a.before a0 Z = true) (ws : List Jvm.Cond) (c : Int32) (m0 : Int32) (m1 : Int32) (h0 : Heap) (n0 : Nat) (Z0 : n0 ≤ h0.size) :
    MetFree l (⟨"com/example/covenantry/covenantry/text/PhrasesAfterLastMarkPinLaw", "isMark", "(CICC)Z"⟩ : MethodName) (head1 (Jvm.Cond.code (⟨"com/example/covenantry/covenantry/text/PhrasesAfterLastMarkPinLaw", "isMark", "(CICC)Z"⟩ : MethodName) method_2_code 4 (some .boolean) :: ws) ({ frames := 0, cells := 0, slots := 0, locals := 0 } : Room)) (fun aA U => aA = #[(.int c), (.int (1 : Int32)), (.int m0), (.int m1)] ∧ Z.Warmed39 U.vm ∧ U.heap = h0) (fun _ _ _ _ _ => True) (fun _ U oO U' => ∃ vV LL, oO = .returned vV ∧ Q71 Z c m0 m1 h0 n0 vV U'.heap LL ∧ FrameEnd U oO U' LL ({ frames := 0, cells := 0, slots := 0, locals := 0 } : Room).cells ({ frames := 0, cells := 0, slots := 0, locals := 0 } : Room).slots) := by
  refine MetFree.of_bodySF (plainFor_of_name pn_166) hisR ?_
  intro p e s m args below meth cC s₁ Bd hml0 hP hK
  obtain ⟨rfl, hZ, hh⟩ := hP
  have hx := Bd.exec
  have hby := Bd.bytes
  have hml : cC.maxLocals = 4 := hml0
  have hown : s.vm.findClass "com/example/covenantry/covenantry/text/PhrasesAfterLastMarkPinLaw" = some m.cls := findClass_of_methodNamed Bd.named
  have hnm := (name_of_methodNamed Bd.named Bd.method).1
  have X0 : Stand p l e ({ frames := 0, cells := 0, slots := 0, locals := 0 } : Room) s m #[(.int c), (.int (1 : Int32)), (.int m0), (.int m1)] below meth cC s₁ [] 0 0 := Stand.of_body Bd
  have e0 : s₁.heap = h0 := by rw [← hh, Bd.state]; rfl
  have N0 := Fr.nil n0
  have Kp0 := Keep.refl h0 []
  show OwnFin p e below (R71 Z c m0 m1 h0 n0 s) (s₁.setTop (entryFrame m #[(.int c), (.int (1 : Int32)), (.int m0), (.int m1)] 4))
  rw [ef_71 m c m0 m1]
  refine OwnFin.step (fun tT kK => XS.iloadN X0.here hx rfl (hb hby d_method_2_0) rfl kK) ?_
  refine OwnFin.step (fun tT kK => XS.iconst X0.here hx rfl (hb hby d_method_2_1) kK) ?_
  show OwnFin p e below _ (s₁.setTop (mkF m 2 #[.val (.int c), .val (.int (1 : Int32)), .val (.int m0), .val (.int m1)] [(.int (1 : Int32)), (.int (1 : Int32))]))
  refine OwnFin.step (fun tT kK => XS.icmpNo X0.here hx rfl (hb hby d_method_2_2) rfl (flt (by decide : ¬ ((1 : Int32) < (1 : Int32)))).1 kK) ?_
  show OwnFin p e below _ (s₁.setTop (mkF m 5 #[.val (.int c), .val (.int (1 : Int32)), .val (.int m0), .val (.int m1)] []))
  refine OwnFin.step (fun tT kK => XS.iloadN X0.here hx rfl (hb hby d_method_2_5) rfl kK) ?_
  refine OwnFin.step (fun tT kK => XS.iloadN X0.here hx rfl (hb hby d_method_2_6) rfl kK) ?_
  show OwnFin p e below _ (s₁.setTop (mkF m 7 #[.val (.int c), .val (.int (1 : Int32)), .val (.int m0), .val (.int m1)] [(.int m0), (.int c)]))
  by_cases hc1 : c = m0
  · skip
    refine OwnFin.step (fun tT kK => XS.icmpYes X0.here hx rfl (pc0 := 7) (pc' := 20) rfl (hb hby d_method_2_7) rfl (teq (hc1 : c = m0)).1 (by decide) (by decide) kK) ?_
    show OwnFin p e below _ (s₁.setTop (mkF m 20 #[.val (.int c), .val (.int (1 : Int32)), .val (.int m0), .val (.int m1)] []))
    refine OwnFin.step (fun tT kK => XS.iconst X0.here hx rfl (hb hby d_method_2_20) kK) ?_
    refine OwnFin.step (fun tT kK => XS.goto X0.here hx rfl (pc0 := 21) (pc' := 25) rfl (hb hby d_method_2_21) (by decide) (by decide) kK) ?_
    show OwnFin p e below _ (s₁.setTop (mkF m 25 #[.val (.int c), .val (.int (1 : Int32)), .val (.int m0), .val (.int m1)] [(.int (1 : Int32))]))
    obtain ⟨fs2, hr2, hrun2, hended2, hW2, hsame2⟩ := X0.leave (v := (some (.int (1 : Int32)))) (fun h => by rw [Bd.returns] at h; cases h)
    refine ⟨_, _, retN X0 hx (t := .boolean) Bd.returns (by simp) (hb hby d_method_2_25) hr2, hrun2, hended2, _, _, rfl, ?_, ⟨_, rfl⟩, hW2, hsame2.mono (by decide) (by decide)⟩
    show Q71 Z c m0 m1 h0 n0 _ s₁.heap _
    rw [e0]
    exact ⟨(by simp [hc1]), N0, rfl⟩
  · skip
    refine OwnFin.step (fun tT kK => XS.icmpNo X0.here hx rfl (hb hby d_method_2_7) rfl (feq (hc1 : ¬ (c = m0))).1 kK) ?_
    show OwnFin p e below _ (s₁.setTop (mkF m 10 #[.val (.int c), .val (.int (1 : Int32)), .val (.int m0), .val (.int m1)] []))
    refine OwnFin.step (fun tT kK => XS.iloadN X0.here hx rfl (hb hby d_method_2_10) rfl kK) ?_
    refine OwnFin.step (fun tT kK => XS.iconst X0.here hx rfl (hb hby d_method_2_11) kK) ?_
    show OwnFin p e below _ (s₁.setTop (mkF m 12 #[.val (.int c), .val (.int (1 : Int32)), .val (.int m0), .val (.int m1)] [(.int (2 : Int32)), (.int (1 : Int32))]))
    refine OwnFin.step (fun tT kK => XS.icmpYes X0.here hx rfl (pc0 := 12) (pc' := 24) rfl (hb hby d_method_2_12) rfl (tlt (by decide : (1 : Int32) < (2 : Int32))).1 (by decide) (by decide) kK) ?_
    show OwnFin p e below _ (s₁.setTop (mkF m 24 #[.val (.int c), .val (.int (1 : Int32)), .val (.int m0), .val (.int m1)] []))
    refine OwnFin.step (fun tT kK => XS.iconst X0.here hx rfl (hb hby d_method_2_24) kK) ?_
    obtain ⟨fs3, hr3, hrun3, hended3, hW3, hsame3⟩ := X0.leave (v := (some (.int (0 : Int32)))) (fun h => by rw [Bd.returns] at h; cases h)
    refine ⟨_, _, retN X0 hx (t := .boolean) Bd.returns (by simp) (hb hby d_method_2_25) hr3, hrun3, hended3, _, _, rfl, ?_, ⟨_, rfl⟩, hW3, hsame3.mono (by decide) (by decide)⟩
    show Q71 Z c m0 m1 h0 n0 _ s₁.heap _
    rw [e0]
    exact ⟨(by simp [hc1]), N0, rfl⟩
theorem d_method_2_15 : decode method_2_code 15 = .ok (.iload_n 0, 1) := by decide +kernel
theorem d_method_2_16 : decode method_2_code 16 = .ok (.iload_n 3, 1) := by decide +kernel
theorem d_method_2_17 : decode method_2_code 17 = .ok (.if_icmp .ne 7, 3) := by decide +kernel
theorem ef_72 (m : MethodId) (c : Int32) (m0 : Int32) (m1 : Int32) : entryFrame m #[(.int c), (.int (2 : Int32)), (.int m0), (.int m1)] 4 = mkF m 0 #[.val (.int c), .val (.int (2 : Int32)), .val (.int m0), .val (.int m1)] [] := by first | (simp [entryFrame, mkF, argsToLocals, Value.category]; done) | rfl
def Q72 (Z : State) (c : Int32) (m0 : Int32) (m1 : Int32) (h0 : Heap) (n0 : Nat) (vV : Option Value) (hH : Heap) (LL : List Loc) : Prop := vV = some (.int (if c = m0 ∨ c = m1 then 1 else 0)) ∧ Fr n0 LL ∧ hH = h0
def R72 (Z : State) (c : Int32) (m0 : Int32) (m1 : Int32) (h0 : Heap) (n0 : Nat) (U : State) (oO : Outcome) (U' : State) : Prop := ∃ vV LL, oO = .returned vV ∧ Q72 Z c m0 m1 h0 n0 vV U'.heap LL ∧ FrameEnd U oO U' LL ({ frames := 0, cells := 0, slots := 0, locals := 0 } : Room).cells ({ frames := 0, cells := 0, slots := 0, locals := 0 } : Room).slots
set_option maxRecDepth 65536 in
set_option maxHeartbeats 40000000 in
theorem rm72 (l : Launch) (Z : State) (a0 : Array Value) (hw : ∀ d ∈ tables_1, d.before a0 Z = true) (hEL : EW Z a0 OwnEL) (wS : ∀ a ∈ Bundle.stringAtoms, a.before a0 Z = true) (ws : List Jvm.Cond) (c : Int32) (m0 : Int32) (m1 : Int32) (h0 : Heap) (n0 : Nat) (Z0 : n0 ≤ h0.size) :
    MetFree l (⟨"com/example/covenantry/covenantry/text/PhrasesAfterLastMarkPinLaw", "isMark", "(CICC)Z"⟩ : MethodName) (head1 (Jvm.Cond.code (⟨"com/example/covenantry/covenantry/text/PhrasesAfterLastMarkPinLaw", "isMark", "(CICC)Z"⟩ : MethodName) method_2_code 4 (some .boolean) :: ws) ({ frames := 0, cells := 0, slots := 0, locals := 0 } : Room)) (fun aA U => aA = #[(.int c), (.int (2 : Int32)), (.int m0), (.int m1)] ∧ Z.Warmed39 U.vm ∧ U.heap = h0) (fun _ _ _ _ _ => True) (fun _ U oO U' => ∃ vV LL, oO = .returned vV ∧ Q72 Z c m0 m1 h0 n0 vV U'.heap LL ∧ FrameEnd U oO U' LL ({ frames := 0, cells := 0, slots := 0, locals := 0 } : Room).cells ({ frames := 0, cells := 0, slots := 0, locals := 0 } : Room).slots) := by
  refine MetFree.of_bodySF (plainFor_of_name pn_166) hisR ?_
  intro p e s m args below meth cC s₁ Bd hml0 hP hK
  obtain ⟨rfl, hZ, hh⟩ := hP
  have hx := Bd.exec
  have hby := Bd.bytes
  have hml : cC.maxLocals = 4 := hml0
  have hown : s.vm.findClass "com/example/covenantry/covenantry/text/PhrasesAfterLastMarkPinLaw" = some m.cls := findClass_of_methodNamed Bd.named
  have hnm := (name_of_methodNamed Bd.named Bd.method).1
  have X0 : Stand p l e ({ frames := 0, cells := 0, slots := 0, locals := 0 } : Room) s m #[(.int c), (.int (2 : Int32)), (.int m0), (.int m1)] below meth cC s₁ [] 0 0 := Stand.of_body Bd
  have e0 : s₁.heap = h0 := by rw [← hh, Bd.state]; rfl
  have N0 := Fr.nil n0
  have Kp0 := Keep.refl h0 []
  show OwnFin p e below (R72 Z c m0 m1 h0 n0 s) (s₁.setTop (entryFrame m #[(.int c), (.int (2 : Int32)), (.int m0), (.int m1)] 4))
  rw [ef_72 m c m0 m1]
  refine OwnFin.step (fun tT kK => XS.iloadN X0.here hx rfl (hb hby d_method_2_0) rfl kK) ?_
  refine OwnFin.step (fun tT kK => XS.iconst X0.here hx rfl (hb hby d_method_2_1) kK) ?_
  show OwnFin p e below _ (s₁.setTop (mkF m 2 #[.val (.int c), .val (.int (2 : Int32)), .val (.int m0), .val (.int m1)] [(.int (1 : Int32)), (.int (2 : Int32))]))
  refine OwnFin.step (fun tT kK => XS.icmpNo X0.here hx rfl (hb hby d_method_2_2) rfl (flt (by decide : ¬ ((2 : Int32) < (1 : Int32)))).1 kK) ?_
  show OwnFin p e below _ (s₁.setTop (mkF m 5 #[.val (.int c), .val (.int (2 : Int32)), .val (.int m0), .val (.int m1)] []))
  refine OwnFin.step (fun tT kK => XS.iloadN X0.here hx rfl (hb hby d_method_2_5) rfl kK) ?_
  refine OwnFin.step (fun tT kK => XS.iloadN X0.here hx rfl (hb hby d_method_2_6) rfl kK) ?_
  show OwnFin p e below _ (s₁.setTop (mkF m 7 #[.val (.int c), .val (.int (2 : Int32)), .val (.int m0), .val (.int m1)] [(.int m0), (.int c)]))
  by_cases hc1 : c = m0
  · skip
    refine OwnFin.step (fun tT kK => XS.icmpYes X0.here hx rfl (pc0 := 7) (pc' := 20) rfl (hb hby d_method_2_7) rfl (teq (hc1 : c = m0)).1 (by decide) (by decide) kK) ?_
    show OwnFin p e below _ (s₁.setTop (mkF m 20 #[.val (.int c), .val (.int (2 : Int32)), .val (.int m0), .val (.int m1)] []))
    refine OwnFin.step (fun tT kK => XS.iconst X0.here hx rfl (hb hby d_method_2_20) kK) ?_
    refine OwnFin.step (fun tT kK => XS.goto X0.here hx rfl (pc0 := 21) (pc' := 25) rfl (hb hby d_method_2_21) (by decide) (by decide) kK) ?_
    show OwnFin p e below _ (s₁.setTop (mkF m 25 #[.val (.int c), .val (.int (2 : Int32)), .val (.int m0), .val (.int m1)] [(.int (1 : Int32))]))
    obtain ⟨fs2, hr2, hrun2, hended2, hW2, hsame2⟩ := X0.leave (v := (some (.int (1 : Int32)))) (fun h => by rw [Bd.returns] at h; cases h)
    refine ⟨_, _, retN X0 hx (t := .boolean) Bd.returns (by simp) (hb hby d_method_2_25) hr2, hrun2, hended2, _, _, rfl, ?_, ⟨_, rfl⟩, hW2, hsame2.mono (by decide) (by decide)⟩
    show Q72 Z c m0 m1 h0 n0 _ s₁.heap _
    rw [e0]
    exact ⟨(by simp [hc1]), N0, rfl⟩
  · skip
    refine OwnFin.step (fun tT kK => XS.icmpNo X0.here hx rfl (hb hby d_method_2_7) rfl (feq (hc1 : ¬ (c = m0))).1 kK) ?_
    show OwnFin p e below _ (s₁.setTop (mkF m 10 #[.val (.int c), .val (.int (2 : Int32)), .val (.int m0), .val (.int m1)] []))
    refine OwnFin.step (fun tT kK => XS.iloadN X0.here hx rfl (hb hby d_method_2_10) rfl kK) ?_
    refine OwnFin.step (fun tT kK => XS.iconst X0.here hx rfl (hb hby d_method_2_11) kK) ?_
    show OwnFin p e below _ (s₁.setTop (mkF m 12 #[.val (.int c), .val (.int (2 : Int32)), .val (.int m0), .val (.int m1)] [(.int (2 : Int32)), (.int (2 : Int32))]))
    refine OwnFin.step (fun tT kK => XS.icmpNo X0.here hx rfl (hb hby d_method_2_12) rfl (flt (by decide : ¬ ((2 : Int32) < (2 : Int32)))).1 kK) ?_
    show OwnFin p e below _ (s₁.setTop (mkF m 15 #[.val (.int c), .val (.int (2 : Int32)), .val (.int m0), .val (.int m1)] []))
    refine OwnFin.step (fun tT kK => XS.iloadN X0.here hx rfl (hb hby d_method_2_15) rfl kK) ?_
    refine OwnFin.step (fun tT kK => XS.iloadN X0.here hx rfl (hb hby d_method_2_16) rfl kK) ?_
    show OwnFin p e below _ (s₁.setTop (mkF m 17 #[.val (.int c), .val (.int (2 : Int32)), .val (.int m0), .val (.int m1)] [(.int m1), (.int c)]))
    by_cases hc3 : c = m1
    · skip
      refine OwnFin.step (fun tT kK => XS.icmpNo X0.here hx rfl (hb hby d_method_2_17) rfl (teq (hc3 : c = m1)).2 kK) ?_
      show OwnFin p e below _ (s₁.setTop (mkF m 20 #[.val (.int c), .val (.int (2 : Int32)), .val (.int m0), .val (.int m1)] []))
      refine OwnFin.step (fun tT kK => XS.iconst X0.here hx rfl (hb hby d_method_2_20) kK) ?_
      refine OwnFin.step (fun tT kK => XS.goto X0.here hx rfl (pc0 := 21) (pc' := 25) rfl (hb hby d_method_2_21) (by decide) (by decide) kK) ?_
      show OwnFin p e below _ (s₁.setTop (mkF m 25 #[.val (.int c), .val (.int (2 : Int32)), .val (.int m0), .val (.int m1)] [(.int (1 : Int32))]))
      obtain ⟨fs4, hr4, hrun4, hended4, hW4, hsame4⟩ := X0.leave (v := (some (.int (1 : Int32)))) (fun h => by rw [Bd.returns] at h; cases h)
      refine ⟨_, _, retN X0 hx (t := .boolean) Bd.returns (by simp) (hb hby d_method_2_25) hr4, hrun4, hended4, _, _, rfl, ?_, ⟨_, rfl⟩, hW4, hsame4.mono (by decide) (by decide)⟩
      show Q72 Z c m0 m1 h0 n0 _ s₁.heap _
      rw [e0]
      exact ⟨(by simp [hc3]), N0, rfl⟩
    · skip
      refine OwnFin.step (fun tT kK => XS.icmpYes X0.here hx rfl (pc0 := 17) (pc' := 24) rfl (hb hby d_method_2_17) rfl (feq (hc3 : ¬ (c = m1))).2 (by decide) (by decide) kK) ?_
      show OwnFin p e below _ (s₁.setTop (mkF m 24 #[.val (.int c), .val (.int (2 : Int32)), .val (.int m0), .val (.int m1)] []))
      refine OwnFin.step (fun tT kK => XS.iconst X0.here hx rfl (hb hby d_method_2_24) kK) ?_
      obtain ⟨fs5, hr5, hrun5, hended5, hW5, hsame5⟩ := X0.leave (v := (some (.int (0 : Int32)))) (fun h => by rw [Bd.returns] at h; cases h)
      refine ⟨_, _, retN X0 hx (t := .boolean) Bd.returns (by simp) (hb hby d_method_2_25) hr5, hrun5, hended5, _, _, rfl, ?_, ⟨_, rfl⟩, hW5, hsame5.mono (by decide) (by decide)⟩
      show Q72 Z c m0 m1 h0 n0 _ s₁.heap _
      rw [e0]
      exact ⟨(by simp [hc1, hc3]), N0, rfl⟩
theorem pn_183 : plainName "java/lang/StringUTF16" = true := by first | (simp [plainName, overriddenIn]; done) | decide +kernel
theorem d_jdk_52_method_21_0 : decode jdk_52_method_21_code 0 = .ok (.iconst 0, 1) := by decide +kernel
theorem d_jdk_52_method_21_1 : decode jdk_52_method_21_code 1 = .ok (.istore 5, 2) := by decide +kernel
theorem d_jdk_52_method_21_3 : decode jdk_52_method_21_code 3 = .ok (.iload 5, 2) := by decide +kernel
theorem d_jdk_52_method_21_5 : decode jdk_52_method_21_code 5 = .ok (.iload 4, 2) := by decide +kernel
theorem d_jdk_52_method_21_7 : decode jdk_52_method_21_code 7 = .ok (.if_icmp .ge 37, 3) := by decide +kernel
theorem d_jdk_52_method_21_10 : decode jdk_52_method_21_code 10 = .ok (.aload_n 0, 1) := by decide +kernel
theorem d_jdk_52_method_21_11 : decode jdk_52_method_21_code 11 = .ok (.iload_n 1, 1) := by decide +kernel
theorem d_jdk_52_method_21_12 : decode jdk_52_method_21_code 12 = .ok (.caload, 1) := by decide +kernel
theorem d_jdk_52_method_21_13 : decode jdk_52_method_21_code 13 = .ok (.istore 6, 2) := by decide +kernel
theorem d_jdk_52_method_21_15 : decode jdk_52_method_21_code 15 = .ok (.iload 6, 2) := by decide +kernel
theorem d_jdk_52_method_21_17 : decode jdk_52_method_21_code 17 = .ok (.sipush 255, 3) := by decide +kernel
theorem d_jdk_52_method_21_20 : decode jdk_52_method_21_code 20 = .ok (.if_icmp .le 6, 3) := by decide +kernel
theorem d_jdk_52_method_21_26 : decode jdk_52_method_21_code 26 = .ok (.aload_n 2, 1) := by decide +kernel
theorem d_jdk_52_method_21_27 : decode jdk_52_method_21_code 27 = .ok (.iload_n 3, 1) := by decide +kernel
theorem d_jdk_52_method_21_28 : decode jdk_52_method_21_code 28 = .ok (.iload 6, 2) := by decide +kernel
theorem d_jdk_52_method_21_30 : decode jdk_52_method_21_code 30 = .ok (.i2b, 1) := by decide +kernel
theorem d_jdk_52_method_21_31 : decode jdk_52_method_21_code 31 = .ok (.bastore, 1) := by decide +kernel
theorem d_jdk_52_method_21_32 : decode jdk_52_method_21_code 32 = .ok (.iinc 1 1, 3) := by decide +kernel
theorem d_jdk_52_method_21_35 : decode jdk_52_method_21_code 35 = .ok (.iinc 3 1, 3) := by decide +kernel
theorem d_jdk_52_method_21_38 : decode jdk_52_method_21_code 38 = .ok (.iinc 5 1, 3) := by decide +kernel
theorem d_jdk_52_method_21_41 : decode jdk_52_method_21_code 41 = .ok (.goto (-38), 3) := by decide +kernel
theorem d_jdk_52_method_21_44 : decode jdk_52_method_21_code 44 = .ok (.iload 4, 2) := by decide +kernel
theorem d_jdk_52_method_21_46 : decode jdk_52_method_21_code 46 = .ok (.ireturn, 1) := by decide +kernel
theorem ef_84a (m : MethodId) (ar : Addr) (yb : Addr) : entryFrame m #[(.ref ar), (.int (0 : Int32)), (.ref yb), (.int (0 : Int32)), (.int (4 : Int32))] 7 = mkF m 0 #[.val (.ref ar), .val (.int (0 : Int32)), .val (.ref yb), .val (.int (0 : Int32)), .val (.int (4 : Int32)), .unset, .unset] [] := by first | (simp [entryFrame, mkF, argsToLocals, Value.category]; done) | rfl
def Q84a (Z : State) (ar : Addr) (yb : Addr) (k : ClassId) (kb : ClassId) (c0 : Int32) (c1 : Int32) (c2 : Int32) (c3 : Int32) (h0 : Heap) (n0 : Nat) (vV : Option Value) (hH : Heap) (LL : List Loc) : Prop := vV = some (.int (4 : Int32)) ∧ Fr n0 LL ∧ Keep h0 hH [yb] ∧ (Arv Z hH yb kb .byte (4 : Int32) [(.int (nar .byte (c0.toInt8.toInt32))), (.int (nar .byte (c1.toInt8.toInt32))), (.int (nar .byte (c2.toInt8.toInt32))), (.int (nar .byte (c3.toInt8.toInt32)))] (.int (0 : Int32)))
def R84a (Z : State) (ar : Addr) (yb : Addr) (k : ClassId) (kb : ClassId) (c0 : Int32) (c1 : Int32) (c2 : Int32) (c3 : Int32) (h0 : Heap) (n0 : Nat) (U : State) (oO : Outcome) (U' : State) : Prop := ∃ vV LL, oO = .returned vV ∧ Q84a Z ar yb k kb c0 c1 c2 c3 h0 n0 vV U'.heap LL ∧ FrameEnd U oO U' LL ({ frames := 0, cells := 0, slots := 0, locals := 0 } : Room).cells ({ frames := 0, cells := 0, slots := 0, locals := 0 } : Room).slots
set_option maxRecDepth 65536 in
set_option maxHeartbeats 40000000 in
theorem rm84a (l : Launch) (Z : State) (a0 : Array Value) (hw : ∀ d ∈ tables_1, d.before a0 Z = true) (hEL : EW Z a0 OwnEL) (wS : ∀ a ∈ Bundle.stringAtoms, a.before a0 Z = true) (ws : List Jvm.Cond) (ar : Addr) (yb : Addr) (k : ClassId) (kb : ClassId) (c0 : Int32) (c1 : Int32) (c2 : Int32) (c3 : Int32) (h0 : Heap) (n0 : Nat) (Z0 : n0 ≤ h0.size) (hp0 : Arv Z h0 ar k .char (4 : Int32) [(.int c0), (.int c1), (.int c2), (.int c3)] (.int (0 : Int32))) (hp1 : Arv Z h0 yb kb .byte (4 : Int32) [(.int (0 : Int32)), (.int (0 : Int32)), (.int (0 : Int32)), (.int (0 : Int32))] (.int (0 : Int32))) (hp2 : ¬ (255 : Int32) < c0) (hp3 : ¬ (255 : Int32) < c1) (hp4 : ¬ (255 : Int32) < c2) (hp5 : ¬ (255 : Int32) < c3) (hp6 : n0 ≤ yb) (hp7 : ar ≠ yb) :
    MetFree l (⟨"java/lang/StringUTF16", "compress", "([CI[BII)I"⟩ : MethodName) (head1 (Jvm.Cond.code (⟨"java/lang/StringUTF16", "compress", "([CI[BII)I"⟩ : MethodName) jdk_52_method_21_code 7 (some .int) :: ws) ({ frames := 0, cells := 0, slots := 0, locals := 0 } : Room)) (fun aA U => aA = #[(.ref ar), (.int (0 : Int32)), (.ref yb), (.int (0 : Int32)), (.int (4 : Int32))] ∧ Z.Warmed39 U.vm ∧ U.heap = h0) (fun _ _ _ _ _ => True) (fun _ U oO U' => ∃ vV LL, oO = .returned vV ∧ Q84a Z ar yb k kb c0 c1 c2 c3 h0 n0 vV U'.heap LL ∧ FrameEnd U oO U' LL ({ frames := 0, cells := 0, slots := 0, locals := 0 } : Room).cells ({ frames := 0, cells := 0, slots := 0, locals := 0 } : Room).slots) := by
  refine MetFree.of_bodySF (plainFor_of_name pn_183) hisR ?_
  intro p e s m args below meth cC s₁ Bd hml0 hP hK
  obtain ⟨rfl, hZ, hh⟩ := hP
  have hx := Bd.exec
  have hby := Bd.bytes
  have hml : cC.maxLocals = 7 := hml0
  have hown : s.vm.findClass "java/lang/StringUTF16" = some m.cls := findClass_of_methodNamed Bd.named
  have hnm := (name_of_methodNamed Bd.named Bd.method).1
  have X0 : Stand p l e ({ frames := 0, cells := 0, slots := 0, locals := 0 } : Room) s m #[(.ref ar), (.int (0 : Int32)), (.ref yb), (.int (0 : Int32)), (.int (4 : Int32))] below meth cC s₁ [] 0 0 := Stand.of_body Bd
  have e0 : s₁.heap = h0 := by rw [← hh, Bd.state]; rfl
  have N0 := Fr.nil n0
  have Kp0 := Keep.refl h0 []
  show OwnFin p e below (R84a Z ar yb k kb c0 c1 c2 c3 h0 n0 s) (s₁.setTop (entryFrame m #[(.ref ar), (.int (0 : Int32)), (.ref yb), (.int (0 : Int32)), (.int (4 : Int32))] 7))
  rw [ef_84a m ar yb]
  refine OwnFin.step (fun tT kK => XS.iconst X0.here hx rfl (hb hby d_jdk_52_method_21_0) kK) ?_
  refine OwnFin.step (fun tT kK => XS.istore X0.here hx rfl (hb hby d_jdk_52_method_21_1) rfl (l' := #[.val (.ref ar), .val (.int (0 : Int32)), .val (.ref yb), .val (.int (0 : Int32)), .val (.int (4 : Int32)), .val (.int (0 : Int32)), .unset]) rfl kK) ?_
  show OwnFin p e below _ (s₁.setTop (mkF m 3 #[.val (.ref ar), .val (.int (0 : Int32)), .val (.ref yb), .val (.int (0 : Int32)), .val (.int (4 : Int32)), .val (.int (0 : Int32)), .unset] []))
  refine OwnFin.step (fun tT kK => XS.iload X0.here hx rfl (hb hby d_jdk_52_method_21_3) rfl kK) ?_
  refine OwnFin.step (fun tT kK => XS.iload X0.here hx rfl (hb hby d_jdk_52_method_21_5) rfl kK) ?_
  show OwnFin p e below _ (s₁.setTop (mkF m 7 #[.val (.ref ar), .val (.int (0 : Int32)), .val (.ref yb), .val (.int (0 : Int32)), .val (.int (4 : Int32)), .val (.int (0 : Int32)), .unset] [(.int (4 : Int32)), (.int (0 : Int32))]))
  refine OwnFin.step (fun tT kK => XS.icmpNo X0.here hx rfl (hb hby d_jdk_52_method_21_7) rfl (tlt (by decide : (0 : Int32) < (4 : Int32))).2.1 kK) ?_
  show OwnFin p e below _ (s₁.setTop (mkF m 10 #[.val (.ref ar), .val (.int (0 : Int32)), .val (.ref yb), .val (.int (0 : Int32)), .val (.int (4 : Int32)), .val (.int (0 : Int32)), .unset] []))
  refine OwnFin.step (fun tT kK => XS.aloadN X0.here hx rfl (hb hby d_jdk_52_method_21_10) rfl rfl kK) ?_
  refine OwnFin.step (fun tT kK => XS.iloadN X0.here hx rfl (hb hby d_jdk_52_method_21_11) rfl kK) ?_
  show OwnFin p e below _ (s₁.setTop (mkF m 12 #[.val (.ref ar), .val (.int (0 : Int32)), .val (.ref yb), .val (.int (0 : Int32)), .val (.int (4 : Int32)), .val (.int (0 : Int32)), .unset] [(.int (0 : Int32)), (.ref ar)]))
  obtain ⟨cl1, Ar1, q1, Sz1, Ng1, H1, G1⟩ := id hp0
  have hin1 : ¬ ((0 : Int32) < 0 ∨ cl1.slots.size ≤ ((0 : Int32)).toNatClampNeg) := inb_of Sz1 ⟨by decide, by decide⟩
  refine OwnFin.step (fun tT kK => X0.caload hx (j := (0 : Int32)) (v := (.int c0)) (by rw [e0]; exact Ar1.1) (State.isArrayOf_alike hZ.alike Ar1.2.1) Ar1.2.2 hin1 (H1.at hin1 rfl) (g := (mkF m 12 #[.val (.ref ar), .val (.int (0 : Int32)), .val (.ref yb), .val (.int (0 : Int32)), .val (.int (4 : Int32)), .val (.int (0 : Int32)), .unset] [(.int (0 : Int32)), (.ref ar)])) rfl rfl (hb hby d_jdk_52_method_21_12) _ kK) ?_
  show OwnFin p e below _ (s₁.setTop (mkF m 13 #[.val (.ref ar), .val (.int (0 : Int32)), .val (.ref yb), .val (.int (0 : Int32)), .val (.int (4 : Int32)), .val (.int (0 : Int32)), .unset] [(.int c0)]))
  refine OwnFin.step (fun tT kK => XS.istore X0.here hx rfl (hb hby d_jdk_52_method_21_13) rfl (l' := #[.val (.ref ar), .val (.int (0 : Int32)), .val (.ref yb), .val (.int (0 : Int32)), .val (.int (4 : Int32)), .val (.int (0 : Int32)), .val (.int c0)]) rfl kK) ?_
  refine OwnFin.step (fun tT kK => XS.iload X0.here hx rfl (hb hby d_jdk_52_method_21_15) rfl kK) ?_
  show OwnFin p e below _ (s₁.setTop (mkF m 17 #[.val (.ref ar), .val (.int (0 : Int32)), .val (.ref yb), .val (.int (0 : Int32)), .val (.int (4 : Int32)), .val (.int (0 : Int32)), .val (.int c0)] [(.int c0)]))
  refine OwnFin.step (fun tT kK => XS.sipush X0.here hx rfl (hb hby d_jdk_52_method_21_17) kK) ?_
  refine OwnFin.step (fun tT kK => XS.icmpYes X0.here hx rfl (pc0 := 20) (pc' := 26) rfl (hb hby d_jdk_52_method_21_20) rfl (flt (hp2 : ¬ ((255 : Int32) < c0))).2.2.2 (by decide) (by decide) kK) ?_
  show OwnFin p e below _ (s₁.setTop (mkF m 26 #[.val (.ref ar), .val (.int (0 : Int32)), .val (.ref yb), .val (.int (0 : Int32)), .val (.int (4 : Int32)), .val (.int (0 : Int32)), .val (.int c0)] []))
  refine OwnFin.step (fun tT kK => XS.aloadN X0.here hx rfl (hb hby d_jdk_52_method_21_26) rfl rfl kK) ?_
  show OwnFin p e below _ (s₁.setTop (mkF m 27 #[.val (.ref ar), .val (.int (0 : Int32)), .val (.ref yb), .val (.int (0 : Int32)), .val (.int (4 : Int32)), .val (.int (0 : Int32)), .val (.int c0)] [(.ref yb)]))
  refine OwnFin.step (fun tT kK => XS.iloadN X0.here hx rfl (hb hby d_jdk_52_method_21_27) rfl kK) ?_
  refine OwnFin.step (fun tT kK => XS.iload X0.here hx rfl (hb hby d_jdk_52_method_21_28) rfl kK) ?_
  show OwnFin p e below _ (s₁.setTop (mkF m 30 #[.val (.ref ar), .val (.int (0 : Int32)), .val (.ref yb), .val (.int (0 : Int32)), .val (.int (4 : Int32)), .val (.int (0 : Int32)), .val (.int c0)] [(.int c0), (.int (0 : Int32)), (.ref yb)]))
  refine OwnFin.step (fun tT kK => XS.i2b X0.here hx rfl (hb hby d_jdk_52_method_21_30) rfl kK) ?_
  obtain ⟨cl2, Ar2, q2, Sz2, Ng2, H2, G2⟩ := id hp1
  have hin2 : ¬ ((0 : Int32) < 0 ∨ cl2.slots.size ≤ ((0 : Int32)).toNatClampNeg) := inb_of Sz2 ⟨by decide, by decide⟩
  obtain ⟨T3, h3, X3, e3, W3, st3⟩ := stB X0 hx hZ e0 Ar2 (j := (0 : Int32)) hin2 (g := (mkF m 31 #[.val (.ref ar), .val (.int (0 : Int32)), .val (.ref yb), .val (.int (0 : Int32)), .val (.int (4 : Int32)), .val (.int (0 : Int32)), .val (.int c0)] [(.int (c0.toInt8.toInt32)), (.int (0 : Int32)), (.ref yb)])) rfl rfl (hb hby d_jdk_52_method_21_31)
  refine OwnFin.step st3 ?_
  have N3 := Fr.snoc X3 N0 hp6
  have V3 : Arv Z h3 yb kb .byte (4 : Int32) [(.int (nar .byte (c0.toInt8.toInt32))), (.int (0 : Int32)), (.int (0 : Int32)), (.int (0 : Int32))] (.int (0 : Int32)) := Arv.set Ar2 q2 Sz2 Ng2 H2 G2 (fits_nar_byte _) W3 0 rfl (Nat.le_of_ble_eq_true rfl)
  show OwnFin p e below _ (T3.setTop (mkF m 32 #[.val (.ref ar), .val (.int (0 : Int32)), .val (.ref yb), .val (.int (0 : Int32)), .val (.int (4 : Int32)), .val (.int (0 : Int32)), .val (.int c0)] []))
  refine OwnFin.step (fun tT kK => XS.iinc X3.here hx rfl (hb hby d_jdk_52_method_21_32) rfl (l' := #[.val (.ref ar), .val (.int (1 : Int32)), .val (.ref yb), .val (.int (0 : Int32)), .val (.int (4 : Int32)), .val (.int (0 : Int32)), .val (.int c0)]) rfl kK) ?_
  show OwnFin p e below _ (T3.setTop (mkF m 35 #[.val (.ref ar), .val (.int (1 : Int32)), .val (.ref yb), .val (.int (0 : Int32)), .val (.int (4 : Int32)), .val (.int (0 : Int32)), .val (.int c0)] []))
  refine OwnFin.step (fun tT kK => XS.iinc X3.here hx rfl (hb hby d_jdk_52_method_21_35) rfl (l' := #[.val (.ref ar), .val (.int (1 : Int32)), .val (.ref yb), .val (.int (1 : Int32)), .val (.int (4 : Int32)), .val (.int (0 : Int32)), .val (.int c0)]) rfl kK) ?_
  refine OwnFin.step (fun tT kK => XS.iinc X3.here hx rfl (hb hby d_jdk_52_method_21_38) rfl (l' := #[.val (.ref ar), .val (.int (1 : Int32)), .val (.ref yb), .val (.int (1 : Int32)), .val (.int (4 : Int32)), .val (.int (1 : Int32)), .val (.int c0)]) rfl kK) ?_
  show OwnFin p e below _ (T3.setTop (mkF m 41 #[.val (.ref ar), .val (.int (1 : Int32)), .val (.ref yb), .val (.int (1 : Int32)), .val (.int (4 : Int32)), .val (.int (1 : Int32)), .val (.int c0)] []))
  refine OwnFin.step (fun tT kK => XS.goto X3.here hx rfl (pc0 := 41) (pc' := 3) rfl (hb hby d_jdk_52_method_21_41) (by decide) (by decide) kK) ?_
  show OwnFin p e below _ (T3.setTop (mkF m 3 #[.val (.ref ar), .val (.int (1 : Int32)), .val (.ref yb), .val (.int (1 : Int32)), .val (.int (4 : Int32)), .val (.int (1 : Int32)), .val (.int c0)] []))
  refine OwnFin.step (fun tT kK => XS.iload X3.here hx rfl (hb hby d_jdk_52_method_21_3) rfl kK) ?_
  refine OwnFin.step (fun tT kK => XS.iload X3.here hx rfl (hb hby d_jdk_52_method_21_5) rfl kK) ?_
  show OwnFin p e below _ (T3.setTop (mkF m 7 #[.val (.ref ar), .val (.int (1 : Int32)), .val (.ref yb), .val (.int (1 : Int32)), .val (.int (4 : Int32)), .val (.int (1 : Int32)), .val (.int c0)] [(.int (4 : Int32)), (.int (1 : Int32))]))
  refine OwnFin.step (fun tT kK => XS.icmpNo X3.here hx rfl (hb hby d_jdk_52_method_21_7) rfl (tlt (by decide : (1 : Int32) < (4 : Int32))).2.1 kK) ?_
  show OwnFin p e below _ (T3.setTop (mkF m 10 #[.val (.ref ar), .val (.int (1 : Int32)), .val (.ref yb), .val (.int (1 : Int32)), .val (.int (4 : Int32)), .val (.int (1 : Int32)), .val (.int c0)] []))
  refine OwnFin.step (fun tT kK => XS.aloadN X3.here hx rfl (hb hby d_jdk_52_method_21_10) rfl rfl kK) ?_
  refine OwnFin.step (fun tT kK => XS.iloadN X3.here hx rfl (hb hby d_jdk_52_method_21_11) rfl kK) ?_
  show OwnFin p e below _ (T3.setTop (mkF m 12 #[.val (.ref ar), .val (.int (1 : Int32)), .val (.ref yb), .val (.int (1 : Int32)), .val (.int (4 : Int32)), .val (.int (1 : Int32)), .val (.int c0)] [(.int (1 : Int32)), (.ref ar)]))
  have f5 : Arv Z h3 ar k .char (4 : Int32) [(.int c0), (.int c1), (.int c2), (.int c3)] (.int (0 : Int32)) := (hp0.other W3 hp7)
  obtain ⟨cl6, Ar6, q6, Sz6, Ng6, H6, G6⟩ := id f5
  have hin6 : ¬ ((1 : Int32) < 0 ∨ cl6.slots.size ≤ ((1 : Int32)).toNatClampNeg) := inb_of Sz6 ⟨by decide, by decide⟩
  refine OwnFin.step (fun tT kK => X3.caload hx (j := (1 : Int32)) (v := (.int c1)) (by rw [e3]; exact Ar6.1) (State.isArrayOf_alike hZ.alike Ar6.2.1) Ar6.2.2 hin6 (H6.at hin6 rfl) (g := (mkF m 12 #[.val (.ref ar), .val (.int (1 : Int32)), .val (.ref yb), .val (.int (1 : Int32)), .val (.int (4 : Int32)), .val (.int (1 : Int32)), .val (.int c0)] [(.int (1 : Int32)), (.ref ar)])) rfl rfl (hb hby d_jdk_52_method_21_12) _ kK) ?_
  show OwnFin p e below _ (T3.setTop (mkF m 13 #[.val (.ref ar), .val (.int (1 : Int32)), .val (.ref yb), .val (.int (1 : Int32)), .val (.int (4 : Int32)), .val (.int (1 : Int32)), .val (.int c0)] [(.int c1)]))
  refine OwnFin.step (fun tT kK => XS.istore X3.here hx rfl (hb hby d_jdk_52_method_21_13) rfl (l' := #[.val (.ref ar), .val (.int (1 : Int32)), .val (.ref yb), .val (.int (1 : Int32)), .val (.int (4 : Int32)), .val (.int (1 : Int32)), .val (.int c1)]) rfl kK) ?_
  refine OwnFin.step (fun tT kK => XS.iload X3.here hx rfl (hb hby d_jdk_52_method_21_15) rfl kK) ?_
  show OwnFin p e below _ (T3.setTop (mkF m 17 #[.val (.ref ar), .val (.int (1 : Int32)), .val (.ref yb), .val (.int (1 : Int32)), .val (.int (4 : Int32)), .val (.int (1 : Int32)), .val (.int c1)] [(.int c1)]))
  refine OwnFin.step (fun tT kK => XS.sipush X3.here hx rfl (hb hby d_jdk_52_method_21_17) kK) ?_
  refine OwnFin.step (fun tT kK => XS.icmpYes X3.here hx rfl (pc0 := 20) (pc' := 26) rfl (hb hby d_jdk_52_method_21_20) rfl (flt (hp3 : ¬ ((255 : Int32) < c1))).2.2.2 (by decide) (by decide) kK) ?_
  show OwnFin p e below _ (T3.setTop (mkF m 26 #[.val (.ref ar), .val (.int (1 : Int32)), .val (.ref yb), .val (.int (1 : Int32)), .val (.int (4 : Int32)), .val (.int (1 : Int32)), .val (.int c1)] []))
  refine OwnFin.step (fun tT kK => XS.aloadN X3.here hx rfl (hb hby d_jdk_52_method_21_26) rfl rfl kK) ?_
  show OwnFin p e below _ (T3.setTop (mkF m 27 #[.val (.ref ar), .val (.int (1 : Int32)), .val (.ref yb), .val (.int (1 : Int32)), .val (.int (4 : Int32)), .val (.int (1 : Int32)), .val (.int c1)] [(.ref yb)]))
  refine OwnFin.step (fun tT kK => XS.iloadN X3.here hx rfl (hb hby d_jdk_52_method_21_27) rfl kK) ?_
  refine OwnFin.step (fun tT kK => XS.iload X3.here hx rfl (hb hby d_jdk_52_method_21_28) rfl kK) ?_
  show OwnFin p e below _ (T3.setTop (mkF m 30 #[.val (.ref ar), .val (.int (1 : Int32)), .val (.ref yb), .val (.int (1 : Int32)), .val (.int (4 : Int32)), .val (.int (1 : Int32)), .val (.int c1)] [(.int c1), (.int (1 : Int32)), (.ref yb)]))
  refine OwnFin.step (fun tT kK => XS.i2b X3.here hx rfl (hb hby d_jdk_52_method_21_30) rfl kK) ?_
  obtain ⟨cl7, Ar7, q7, Sz7, Ng7, H7, G7⟩ := id V3
  have hin7 : ¬ ((1 : Int32) < 0 ∨ cl7.slots.size ≤ ((1 : Int32)).toNatClampNeg) := inb_of Sz7 ⟨by decide, by decide⟩
  obtain ⟨T8, h8, X8, e8, W8, st8⟩ := stB X3 hx hZ e3 Ar7 (j := (1 : Int32)) hin7 (g := (mkF m 31 #[.val (.ref ar), .val (.int (1 : Int32)), .val (.ref yb), .val (.int (1 : Int32)), .val (.int (4 : Int32)), .val (.int (1 : Int32)), .val (.int c1)] [(.int (c1.toInt8.toInt32)), (.int (1 : Int32)), (.ref yb)])) rfl rfl (hb hby d_jdk_52_method_21_31)
  refine OwnFin.step st8 ?_
  have N8 := Fr.snoc X8 N3 hp6
  have V8 : Arv Z h8 yb kb .byte (4 : Int32) [(.int (nar .byte (c0.toInt8.toInt32))), (.int (nar .byte (c1.toInt8.toInt32))), (.int (0 : Int32)), (.int (0 : Int32))] (.int (0 : Int32)) := Arv.set Ar7 q7 Sz7 Ng7 H7 G7 (fits_nar_byte _) W8 1 rfl (Nat.le_of_ble_eq_true rfl)
  show OwnFin p e below _ (T8.setTop (mkF m 32 #[.val (.ref ar), .val (.int (1 : Int32)), .val (.ref yb), .val (.int (1 : Int32)), .val (.int (4 : Int32)), .val (.int (1 : Int32)), .val (.int c1)] []))
  refine OwnFin.step (fun tT kK => XS.iinc X8.here hx rfl (hb hby d_jdk_52_method_21_32) rfl (l' := #[.val (.ref ar), .val (.int (2 : Int32)), .val (.ref yb), .val (.int (1 : Int32)), .val (.int (4 : Int32)), .val (.int (1 : Int32)), .val (.int c1)]) rfl kK) ?_
  show OwnFin p e below _ (T8.setTop (mkF m 35 #[.val (.ref ar), .val (.int (2 : Int32)), .val (.ref yb), .val (.int (1 : Int32)), .val (.int (4 : Int32)), .val (.int (1 : Int32)), .val (.int c1)] []))
  refine OwnFin.step (fun tT kK => XS.iinc X8.here hx rfl (hb hby d_jdk_52_method_21_35) rfl (l' := #[.val (.ref ar), .val (.int (2 : Int32)), .val (.ref yb), .val (.int (2 : Int32)), .val (.int (4 : Int32)), .val (.int (1 : Int32)), .val (.int c1)]) rfl kK) ?_
  refine OwnFin.step (fun tT kK => XS.iinc X8.here hx rfl (hb hby d_jdk_52_method_21_38) rfl (l' := #[.val (.ref ar), .val (.int (2 : Int32)), .val (.ref yb), .val (.int (2 : Int32)), .val (.int (4 : Int32)), .val (.int (2 : Int32)), .val (.int c1)]) rfl kK) ?_
  show OwnFin p e below _ (T8.setTop (mkF m 41 #[.val (.ref ar), .val (.int (2 : Int32)), .val (.ref yb), .val (.int (2 : Int32)), .val (.int (4 : Int32)), .val (.int (2 : Int32)), .val (.int c1)] []))
  refine OwnFin.step (fun tT kK => XS.goto X8.here hx rfl (pc0 := 41) (pc' := 3) rfl (hb hby d_jdk_52_method_21_41) (by decide) (by decide) kK) ?_
  show OwnFin p e below _ (T8.setTop (mkF m 3 #[.val (.ref ar), .val (.int (2 : Int32)), .val (.ref yb), .val (.int (2 : Int32)), .val (.int (4 : Int32)), .val (.int (2 : Int32)), .val (.int c1)] []))
  refine OwnFin.step (fun tT kK => XS.iload X8.here hx rfl (hb hby d_jdk_52_method_21_3) rfl kK) ?_
  refine OwnFin.step (fun tT kK => XS.iload X8.here hx rfl (hb hby d_jdk_52_method_21_5) rfl kK) ?_
  show OwnFin p e below _ (T8.setTop (mkF m 7 #[.val (.ref ar), .val (.int (2 : Int32)), .val (.ref yb), .val (.int (2 : Int32)), .val (.int (4 : Int32)), .val (.int (2 : Int32)), .val (.int c1)] [(.int (4 : Int32)), (.int (2 : Int32))]))
  refine OwnFin.step (fun tT kK => XS.icmpNo X8.here hx rfl (hb hby d_jdk_52_method_21_7) rfl (tlt (by decide : (2 : Int32) < (4 : Int32))).2.1 kK) ?_
  show OwnFin p e below _ (T8.setTop (mkF m 10 #[.val (.ref ar), .val (.int (2 : Int32)), .val (.ref yb), .val (.int (2 : Int32)), .val (.int (4 : Int32)), .val (.int (2 : Int32)), .val (.int c1)] []))
  refine OwnFin.step (fun tT kK => XS.aloadN X8.here hx rfl (hb hby d_jdk_52_method_21_10) rfl rfl kK) ?_
  refine OwnFin.step (fun tT kK => XS.iloadN X8.here hx rfl (hb hby d_jdk_52_method_21_11) rfl kK) ?_
  show OwnFin p e below _ (T8.setTop (mkF m 12 #[.val (.ref ar), .val (.int (2 : Int32)), .val (.ref yb), .val (.int (2 : Int32)), .val (.int (4 : Int32)), .val (.int (2 : Int32)), .val (.int c1)] [(.int (2 : Int32)), (.ref ar)]))
  have f9 : Arv Z h8 ar k .char (4 : Int32) [(.int c0), (.int c1), (.int c2), (.int c3)] (.int (0 : Int32)) := (f5.other W8 hp7)
  obtain ⟨cl10, Ar10, q10, Sz10, Ng10, H10, G10⟩ := id f9
  have hin10 : ¬ ((2 : Int32) < 0 ∨ cl10.slots.size ≤ ((2 : Int32)).toNatClampNeg) := inb_of Sz10 ⟨by decide, by decide⟩
  refine OwnFin.step (fun tT kK => X8.caload hx (j := (2 : Int32)) (v := (.int c2)) (by rw [e8]; exact Ar10.1) (State.isArrayOf_alike hZ.alike Ar10.2.1) Ar10.2.2 hin10 (H10.at hin10 rfl) (g := (mkF m 12 #[.val (.ref ar), .val (.int (2 : Int32)), .val (.ref yb), .val (.int (2 : Int32)), .val (.int (4 : Int32)), .val (.int (2 : Int32)), .val (.int c1)] [(.int (2 : Int32)), (.ref ar)])) rfl rfl (hb hby d_jdk_52_method_21_12) _ kK) ?_
  show OwnFin p e below _ (T8.setTop (mkF m 13 #[.val (.ref ar), .val (.int (2 : Int32)), .val (.ref yb), .val (.int (2 : Int32)), .val (.int (4 : Int32)), .val (.int (2 : Int32)), .val (.int c1)] [(.int c2)]))
  refine OwnFin.step (fun tT kK => XS.istore X8.here hx rfl (hb hby d_jdk_52_method_21_13) rfl (l' := #[.val (.ref ar), .val (.int (2 : Int32)), .val (.ref yb), .val (.int (2 : Int32)), .val (.int (4 : Int32)), .val (.int (2 : Int32)), .val (.int c2)]) rfl kK) ?_
  refine OwnFin.step (fun tT kK => XS.iload X8.here hx rfl (hb hby d_jdk_52_method_21_15) rfl kK) ?_
  show OwnFin p e below _ (T8.setTop (mkF m 17 #[.val (.ref ar), .val (.int (2 : Int32)), .val (.ref yb), .val (.int (2 : Int32)), .val (.int (4 : Int32)), .val (.int (2 : Int32)), .val (.int c2)] [(.int c2)]))
  refine OwnFin.step (fun tT kK => XS.sipush X8.here hx rfl (hb hby d_jdk_52_method_21_17) kK) ?_
  refine OwnFin.step (fun tT kK => XS.icmpYes X8.here hx rfl (pc0 := 20) (pc' := 26) rfl (hb hby d_jdk_52_method_21_20) rfl (flt (hp4 : ¬ ((255 : Int32) < c2))).2.2.2 (by decide) (by decide) kK) ?_
  show OwnFin p e below _ (T8.setTop (mkF m 26 #[.val (.ref ar), .val (.int (2 : Int32)), .val (.ref yb), .val (.int (2 : Int32)), .val (.int (4 : Int32)), .val (.int (2 : Int32)), .val (.int c2)] []))
  refine OwnFin.step (fun tT kK => XS.aloadN X8.here hx rfl (hb hby d_jdk_52_method_21_26) rfl rfl kK) ?_
  show OwnFin p e below _ (T8.setTop (mkF m 27 #[.val (.ref ar), .val (.int (2 : Int32)), .val (.ref yb), .val (.int (2 : Int32)), .val (.int (4 : Int32)), .val (.int (2 : Int32)), .val (.int c2)] [(.ref yb)]))
  refine OwnFin.step (fun tT kK => XS.iloadN X8.here hx rfl (hb hby d_jdk_52_method_21_27) rfl kK) ?_
  refine OwnFin.step (fun tT kK => XS.iload X8.here hx rfl (hb hby d_jdk_52_method_21_28) rfl kK) ?_
  show OwnFin p e below _ (T8.setTop (mkF m 30 #[.val (.ref ar), .val (.int (2 : Int32)), .val (.ref yb), .val (.int (2 : Int32)), .val (.int (4 : Int32)), .val (.int (2 : Int32)), .val (.int c2)] [(.int c2), (.int (2 : Int32)), (.ref yb)]))
  refine OwnFin.step (fun tT kK => XS.i2b X8.here hx rfl (hb hby d_jdk_52_method_21_30) rfl kK) ?_
  obtain ⟨cl11, Ar11, q11, Sz11, Ng11, H11, G11⟩ := id V8
  have hin11 : ¬ ((2 : Int32) < 0 ∨ cl11.slots.size ≤ ((2 : Int32)).toNatClampNeg) := inb_of Sz11 ⟨by decide, by decide⟩
  obtain ⟨T12, h12, X12, e12, W12, st12⟩ := stB X8 hx hZ e8 Ar11 (j := (2 : Int32)) hin11 (g := (mkF m 31 #[.val (.ref ar), .val (.int (2 : Int32)), .val (.ref yb), .val (.int (2 : Int32)), .val (.int (4 : Int32)), .val (.int (2 : Int32)), .val (.int c2)] [(.int (c2.toInt8.toInt32)), (.int (2 : Int32)), (.ref yb)])) rfl rfl (hb hby d_jdk_52_method_21_31)
  refine OwnFin.step st12 ?_
  have N12 := Fr.snoc X12 N8 hp6
  have V12 : Arv Z h12 yb kb .byte (4 : Int32) [(.int (nar .byte (c0.toInt8.toInt32))), (.int (nar .byte (c1.toInt8.toInt32))), (.int (nar .byte (c2.toInt8.toInt32))), (.int (0 : Int32))] (.int (0 : Int32)) := Arv.set Ar11 q11 Sz11 Ng11 H11 G11 (fits_nar_byte _) W12 2 rfl (Nat.le_of_ble_eq_true rfl)
  show OwnFin p e below _ (T12.setTop (mkF m 32 #[.val (.ref ar), .val (.int (2 : Int32)), .val (.ref yb), .val (.int (2 : Int32)), .val (.int (4 : Int32)), .val (.int (2 : Int32)), .val (.int c2)] []))
  refine OwnFin.step (fun tT kK => XS.iinc X12.here hx rfl (hb hby d_jdk_52_method_21_32) rfl (l' := #[.val (.ref ar), .val (.int (3 : Int32)), .val (.ref yb), .val (.int (2 : Int32)), .val (.int (4 : Int32)), .val (.int (2 : Int32)), .val (.int c2)]) rfl kK) ?_
  show OwnFin p e below _ (T12.setTop (mkF m 35 #[.val (.ref ar), .val (.int (3 : Int32)), .val (.ref yb), .val (.int (2 : Int32)), .val (.int (4 : Int32)), .val (.int (2 : Int32)), .val (.int c2)] []))
  refine OwnFin.step (fun tT kK => XS.iinc X12.here hx rfl (hb hby d_jdk_52_method_21_35) rfl (l' := #[.val (.ref ar), .val (.int (3 : Int32)), .val (.ref yb), .val (.int (3 : Int32)), .val (.int (4 : Int32)), .val (.int (2 : Int32)), .val (.int c2)]) rfl kK) ?_
  refine OwnFin.step (fun tT kK => XS.iinc X12.here hx rfl (hb hby d_jdk_52_method_21_38) rfl (l' := #[.val (.ref ar), .val (.int (3 : Int32)), .val (.ref yb), .val (.int (3 : Int32)), .val (.int (4 : Int32)), .val (.int (3 : Int32)), .val (.int c2)]) rfl kK) ?_
  show OwnFin p e below _ (T12.setTop (mkF m 41 #[.val (.ref ar), .val (.int (3 : Int32)), .val (.ref yb), .val (.int (3 : Int32)), .val (.int (4 : Int32)), .val (.int (3 : Int32)), .val (.int c2)] []))
  refine OwnFin.step (fun tT kK => XS.goto X12.here hx rfl (pc0 := 41) (pc' := 3) rfl (hb hby d_jdk_52_method_21_41) (by decide) (by decide) kK) ?_
  show OwnFin p e below _ (T12.setTop (mkF m 3 #[.val (.ref ar), .val (.int (3 : Int32)), .val (.ref yb), .val (.int (3 : Int32)), .val (.int (4 : Int32)), .val (.int (3 : Int32)), .val (.int c2)] []))
  refine OwnFin.step (fun tT kK => XS.iload X12.here hx rfl (hb hby d_jdk_52_method_21_3) rfl kK) ?_
  refine OwnFin.step (fun tT kK => XS.iload X12.here hx rfl (hb hby d_jdk_52_method_21_5) rfl kK) ?_
  show OwnFin p e below _ (T12.setTop (mkF m 7 #[.val (.ref ar), .val (.int (3 : Int32)), .val (.ref yb), .val (.int (3 : Int32)), .val (.int (4 : Int32)), .val (.int (3 : Int32)), .val (.int c2)] [(.int (4 : Int32)), (.int (3 : Int32))]))
  refine OwnFin.step (fun tT kK => XS.icmpNo X12.here hx rfl (hb hby d_jdk_52_method_21_7) rfl (tlt (by decide : (3 : Int32) < (4 : Int32))).2.1 kK) ?_
  show OwnFin p e below _ (T12.setTop (mkF m 10 #[.val (.ref ar), .val (.int (3 : Int32)), .val (.ref yb), .val (.int (3 : Int32)), .val (.int (4 : Int32)), .val (.int (3 : Int32)), .val (.int c2)] []))
  refine OwnFin.step (fun tT kK => XS.aloadN X12.here hx rfl (hb hby d_jdk_52_method_21_10) rfl rfl kK) ?_
  refine OwnFin.step (fun tT kK => XS.iloadN X12.here hx rfl (hb hby d_jdk_52_method_21_11) rfl kK) ?_
  show OwnFin p e below _ (T12.setTop (mkF m 12 #[.val (.ref ar), .val (.int (3 : Int32)), .val (.ref yb), .val (.int (3 : Int32)), .val (.int (4 : Int32)), .val (.int (3 : Int32)), .val (.int c2)] [(.int (3 : Int32)), (.ref ar)]))
  have f13 : Arv Z h12 ar k .char (4 : Int32) [(.int c0), (.int c1), (.int c2), (.int c3)] (.int (0 : Int32)) := (f9.other W12 hp7)
  obtain ⟨cl14, Ar14, q14, Sz14, Ng14, H14, G14⟩ := id f13
  have hin14 : ¬ ((3 : Int32) < 0 ∨ cl14.slots.size ≤ ((3 : Int32)).toNatClampNeg) := inb_of Sz14 ⟨by decide, by decide⟩
  refine OwnFin.step (fun tT kK => X12.caload hx (j := (3 : Int32)) (v := (.int c3)) (by rw [e12]; exact Ar14.1) (State.isArrayOf_alike hZ.alike Ar14.2.1) Ar14.2.2 hin14 (H14.at hin14 rfl) (g := (mkF m 12 #[.val (.ref ar), .val (.int (3 : Int32)), .val (.ref yb), .val (.int (3 : Int32)), .val (.int (4 : Int32)), .val (.int (3 : Int32)), .val (.int c2)] [(.int (3 : Int32)), (.ref ar)])) rfl rfl (hb hby d_jdk_52_method_21_12) _ kK) ?_
  show OwnFin p e below _ (T12.setTop (mkF m 13 #[.val (.ref ar), .val (.int (3 : Int32)), .val (.ref yb), .val (.int (3 : Int32)), .val (.int (4 : Int32)), .val (.int (3 : Int32)), .val (.int c2)] [(.int c3)]))
  refine OwnFin.step (fun tT kK => XS.istore X12.here hx rfl (hb hby d_jdk_52_method_21_13) rfl (l' := #[.val (.ref ar), .val (.int (3 : Int32)), .val (.ref yb), .val (.int (3 : Int32)), .val (.int (4 : Int32)), .val (.int (3 : Int32)), .val (.int c3)]) rfl kK) ?_
  refine OwnFin.step (fun tT kK => XS.iload X12.here hx rfl (hb hby d_jdk_52_method_21_15) rfl kK) ?_
  show OwnFin p e below _ (T12.setTop (mkF m 17 #[.val (.ref ar), .val (.int (3 : Int32)), .val (.ref yb), .val (.int (3 : Int32)), .val (.int (4 : Int32)), .val (.int (3 : Int32)), .val (.int c3)] [(.int c3)]))
  refine OwnFin.step (fun tT kK => XS.sipush X12.here hx rfl (hb hby d_jdk_52_method_21_17) kK) ?_
  refine OwnFin.step (fun tT kK => XS.icmpYes X12.here hx rfl (pc0 := 20) (pc' := 26) rfl (hb hby d_jdk_52_method_21_20) rfl (flt (hp5 : ¬ ((255 : Int32) < c3))).2.2.2 (by decide) (by decide) kK) ?_
  show OwnFin p e below _ (T12.setTop (mkF m 26 #[.val (.ref ar), .val (.int (3 : Int32)), .val (.ref yb), .val (.int (3 : Int32)), .val (.int (4 : Int32)), .val (.int (3 : Int32)), .val (.int c3)] []))
  refine OwnFin.step (fun tT kK => XS.aloadN X12.here hx rfl (hb hby d_jdk_52_method_21_26) rfl rfl kK) ?_
  show OwnFin p e below _ (T12.setTop (mkF m 27 #[.val (.ref ar), .val (.int (3 : Int32)), .val (.ref yb), .val (.int (3 : Int32)), .val (.int (4 : Int32)), .val (.int (3 : Int32)), .val (.int c3)] [(.ref yb)]))
  refine OwnFin.step (fun tT kK => XS.iloadN X12.here hx rfl (hb hby d_jdk_52_method_21_27) rfl kK) ?_
  refine OwnFin.step (fun tT kK => XS.iload X12.here hx rfl (hb hby d_jdk_52_method_21_28) rfl kK) ?_
  show OwnFin p e below _ (T12.setTop (mkF m 30 #[.val (.ref ar), .val (.int (3 : Int32)), .val (.ref yb), .val (.int (3 : Int32)), .val (.int (4 : Int32)), .val (.int (3 : Int32)), .val (.int c3)] [(.int c3), (.int (3 : Int32)), (.ref yb)]))
  refine OwnFin.step (fun tT kK => XS.i2b X12.here hx rfl (hb hby d_jdk_52_method_21_30) rfl kK) ?_
  obtain ⟨cl15, Ar15, q15, Sz15, Ng15, H15, G15⟩ := id V12
  have hin15 : ¬ ((3 : Int32) < 0 ∨ cl15.slots.size ≤ ((3 : Int32)).toNatClampNeg) := inb_of Sz15 ⟨by decide, by decide⟩
  obtain ⟨T16, h16, X16, e16, W16, st16⟩ := stB X12 hx hZ e12 Ar15 (j := (3 : Int32)) hin15 (g := (mkF m 31 #[.val (.ref ar), .val (.int (3 : Int32)), .val (.ref yb), .val (.int (3 : Int32)), .val (.int (4 : Int32)), .val (.int (3 : Int32)), .val (.int c3)] [(.int (c3.toInt8.toInt32)), (.int (3 : Int32)), (.ref yb)])) rfl rfl (hb hby d_jdk_52_method_21_31)
  refine OwnFin.step st16 ?_
  have N16 := Fr.snoc X16 N12 hp6
  have V16 : Arv Z h16 yb kb .byte (4 : Int32) [(.int (nar .byte (c0.toInt8.toInt32))), (.int (nar .byte (c1.toInt8.toInt32))), (.int (nar .byte (c2.toInt8.toInt32))), (.int (nar .byte (c3.toInt8.toInt32)))] (.int (0 : Int32)) := Arv.set Ar15 q15 Sz15 Ng15 H15 G15 (fits_nar_byte _) W16 3 rfl (Nat.le_of_ble_eq_true rfl)
  show OwnFin p e below _ (T16.setTop (mkF m 32 #[.val (.ref ar), .val (.int (3 : Int32)), .val (.ref yb), .val (.int (3 : Int32)), .val (.int (4 : Int32)), .val (.int (3 : Int32)), .val (.int c3)] []))
  refine OwnFin.step (fun tT kK => XS.iinc X16.here hx rfl (hb hby d_jdk_52_method_21_32) rfl (l' := #[.val (.ref ar), .val (.int (4 : Int32)), .val (.ref yb), .val (.int (3 : Int32)), .val (.int (4 : Int32)), .val (.int (3 : Int32)), .val (.int c3)]) rfl kK) ?_
  show OwnFin p e below _ (T16.setTop (mkF m 35 #[.val (.ref ar), .val (.int (4 : Int32)), .val (.ref yb), .val (.int (3 : Int32)), .val (.int (4 : Int32)), .val (.int (3 : Int32)), .val (.int c3)] []))
  refine OwnFin.step (fun tT kK => XS.iinc X16.here hx rfl (hb hby d_jdk_52_method_21_35) rfl (l' := #[.val (.ref ar), .val (.int (4 : Int32)), .val (.ref yb), .val (.int (4 : Int32)), .val (.int (4 : Int32)), .val (.int (3 : Int32)), .val (.int c3)]) rfl kK) ?_
  refine OwnFin.step (fun tT kK => XS.iinc X16.here hx rfl (hb hby d_jdk_52_method_21_38) rfl (l' := #[.val (.ref ar), .val (.int (4 : Int32)), .val (.ref yb), .val (.int (4 : Int32)), .val (.int (4 : Int32)), .val (.int (4 : Int32)), .val (.int c3)]) rfl kK) ?_
  show OwnFin p e below _ (T16.setTop (mkF m 41 #[.val (.ref ar), .val (.int (4 : Int32)), .val (.ref yb), .val (.int (4 : Int32)), .val (.int (4 : Int32)), .val (.int (4 : Int32)), .val (.int c3)] []))
  refine OwnFin.step (fun tT kK => XS.goto X16.here hx rfl (pc0 := 41) (pc' := 3) rfl (hb hby d_jdk_52_method_21_41) (by decide) (by decide) kK) ?_
  show OwnFin p e below _ (T16.setTop (mkF m 3 #[.val (.ref ar), .val (.int (4 : Int32)), .val (.ref yb), .val (.int (4 : Int32)), .val (.int (4 : Int32)), .val (.int (4 : Int32)), .val (.int c3)] []))
  refine OwnFin.step (fun tT kK => XS.iload X16.here hx rfl (hb hby d_jdk_52_method_21_3) rfl kK) ?_
  refine OwnFin.step (fun tT kK => XS.iload X16.here hx rfl (hb hby d_jdk_52_method_21_5) rfl kK) ?_
  show OwnFin p e below _ (T16.setTop (mkF m 7 #[.val (.ref ar), .val (.int (4 : Int32)), .val (.ref yb), .val (.int (4 : Int32)), .val (.int (4 : Int32)), .val (.int (4 : Int32)), .val (.int c3)] [(.int (4 : Int32)), (.int (4 : Int32))]))
  refine OwnFin.step (fun tT kK => XS.icmpYes X16.here hx rfl (pc0 := 7) (pc' := 44) rfl (hb hby d_jdk_52_method_21_7) rfl (flt (by decide : ¬ ((4 : Int32) < (4 : Int32)))).2.1 (by decide) (by decide) kK) ?_
  show OwnFin p e below _ (T16.setTop (mkF m 44 #[.val (.ref ar), .val (.int (4 : Int32)), .val (.ref yb), .val (.int (4 : Int32)), .val (.int (4 : Int32)), .val (.int (4 : Int32)), .val (.int c3)] []))
  refine OwnFin.step (fun tT kK => XS.iload X16.here hx rfl (hb hby d_jdk_52_method_21_44) rfl kK) ?_
  obtain ⟨fs17, hr17, hrun17, hended17, hW17, hsame17⟩ := X16.leave (v := (some (.int (4 : Int32)))) (fun h => by rw [Bd.returns] at h; cases h)
  refine ⟨_, _, retOut X16 hx Bd.returns rfl (Or.inl ⟨rfl, Or.inl rfl, _, rfl⟩) (hb hby d_jdk_52_method_21_46) hr17, hrun17, hended17, _, _, rfl, ?_, ⟨_, rfl⟩, hW17, hsame17.mono (by decide) (by decide)⟩
  show Q84a Z ar yb k kb c0 c1 c2 c3 h0 n0 _ T16.heap _
  rw [e16]
  exact ⟨rfl, N16, (((((Keep.refl h0 [yb]).wr W3 (Or.inl (List.mem_of_getElem? (i := 0) rfl))).wr W8 (Or.inl (List.mem_of_getElem? (i := 0) rfl))).wr W12 (Or.inl (List.mem_of_getElem? (i := 0) rfl))).wr W16 (Or.inl (List.mem_of_getElem? (i := 0) rfl))), V16⟩
theorem d_jdk_52_method_16_0 : decode jdk_52_method_16_code 0 = .ok (.iload_n 2, 1) := by decide +kernel
theorem d_jdk_52_method_16_1 : decode jdk_52_method_16_code 1 = .ok (.newarray .byte, 2) := by decide +kernel
theorem d_jdk_52_method_16_3 : decode jdk_52_method_16_code 3 = .ok (.astore_n 3, 1) := by decide +kernel
theorem d_jdk_52_method_16_4 : decode jdk_52_method_16_code 4 = .ok (.aload_n 0, 1) := by decide +kernel
theorem d_jdk_52_method_16_5 : decode jdk_52_method_16_code 5 = .ok (.iload_n 1, 1) := by decide +kernel
theorem d_jdk_52_method_16_6 : decode jdk_52_method_16_code 6 = .ok (.aload_n 3, 1) := by decide +kernel
theorem d_jdk_52_method_16_7 : decode jdk_52_method_16_code 7 = .ok (.iconst 0, 1) := by decide +kernel
theorem d_jdk_52_method_16_8 : decode jdk_52_method_16_code 8 = .ok (.iload_n 2, 1) := by decide +kernel
theorem d_jdk_52_method_16_9 : decode jdk_52_method_16_code 9 = .ok (.invokestatic 115, 3) := by decide +kernel
theorem pd_216 : parseMethodDescriptor "([CI[BII)I" = some ⟨[(.array .char), .int, (.array .byte), .int, .int], some .int⟩ := by decide +kernel
theorem d_jdk_52_method_16_12 : decode jdk_52_method_16_code 12 = .ok (.istore 4, 2) := by decide +kernel
theorem d_jdk_52_method_16_14 : decode jdk_52_method_16_code 14 = .ok (.iload 4, 2) := by decide +kernel
theorem d_jdk_52_method_16_16 : decode jdk_52_method_16_code 16 = .ok (.iload_n 2, 1) := by decide +kernel
theorem d_jdk_52_method_16_17 : decode jdk_52_method_16_code 17 = .ok (.if_icmp .eq 40, 3) := by decide +kernel
theorem d_jdk_52_method_16_57 : decode jdk_52_method_16_code 57 = .ok (.aload_n 3, 1) := by decide +kernel
theorem d_jdk_52_method_16_58 : decode jdk_52_method_16_code 58 = .ok (.areturn, 1) := by decide +kernel
theorem ef_84b (m : MethodId) (ar : Addr) : entryFrame m #[(.ref ar), (.int (0 : Int32)), (.int (4 : Int32))] 6 = mkF m 0 #[.val (.ref ar), .val (.int (0 : Int32)), .val (.int (4 : Int32)), .unset, .unset, .unset] [] := by first | (simp [entryFrame, mkF, argsToLocals, Value.category]; done) | rfl
def Q84b (Z : State) (ar : Addr) (k : ClassId) (c0 : Int32) (c1 : Int32) (c2 : Int32) (c3 : Int32) (h0 : Heap) (n0 : Nat) (vV : Option Value) (hH : Heap) (LL : List Loc) : Prop := ∃ b : Addr, ∃ kb : ClassId, vV = some (.ref b) ∧ Fr n0 LL ∧ Keep h0 hH [] ∧ h0.size ≤ b ∧ (Arv Z hH b kb .byte (4 : Int32) [(.int (nar .byte (c0.toInt8.toInt32))), (.int (nar .byte (c1.toInt8.toInt32))), (.int (nar .byte (c2.toInt8.toInt32))), (.int (nar .byte (c3.toInt8.toInt32)))] (.int (0 : Int32)))
def R84b (Z : State) (ar : Addr) (k : ClassId) (c0 : Int32) (c1 : Int32) (c2 : Int32) (c3 : Int32) (h0 : Heap) (n0 : Nat) (U : State) (oO : Outcome) (U' : State) : Prop := ∃ vV LL, oO = .returned vV ∧ Q84b Z ar k c0 c1 c2 c3 h0 n0 vV U'.heap LL ∧ FrameEnd U oO U' LL ({ frames := 1, cells := 1, slots := 4, locals := 18 } : Room).cells ({ frames := 1, cells := 1, slots := 4, locals := 18 } : Room).slots
set_option maxRecDepth 65536 in
set_option maxHeartbeats 40000000 in
theorem rm84b (l : Launch) (Z : State) (a0 : Array Value) (hw : ∀ d ∈ tables_1, d.before a0 Z = true) (hEL : EW Z a0 OwnEL) (wS : ∀ a ∈ Bundle.stringAtoms, a.before a0 Z = true) (ws : List Jvm.Cond) (ar : Addr) (k : ClassId) (c0 : Int32) (c1 : Int32) (c2 : Int32) (c3 : Int32) (h0 : Heap) (n0 : Nat) (Z0 : n0 ≤ h0.size) (hp0 : Arv Z h0 ar k .char (4 : Int32) [(.int c0), (.int c1), (.int c2), (.int c3)] (.int (0 : Int32))) (hp1 : ¬ (255 : Int32) < c0) (hp2 : ¬ (255 : Int32) < c1) (hp3 : ¬ (255 : Int32) < c2) (hp4 : ¬ (255 : Int32) < c3) :
    MetFree l (⟨"java/lang/StringUTF16", "compress", "([CII)[B"⟩ : MethodName) (head1 (Jvm.Cond.code (⟨"java/lang/StringUTF16", "compress", "([CII)[B"⟩ : MethodName) jdk_52_method_16_code 6 (some (.array .byte)) :: ws) ({ frames := 1, cells := 1, slots := 4, locals := 18 } : Room)) (fun aA U => aA = #[(.ref ar), (.int (0 : Int32)), (.int (4 : Int32))] ∧ Z.Warmed39 U.vm ∧ U.heap = h0) (fun _ _ _ _ _ => True) (fun _ U oO U' => ∃ vV LL, oO = .returned vV ∧ Q84b Z ar k c0 c1 c2 c3 h0 n0 vV U'.heap LL ∧ FrameEnd U oO U' LL ({ frames := 1, cells := 1, slots := 4, locals := 18 } : Room).cells ({ frames := 1, cells := 1, slots := 4, locals := 18 } : Room).slots) := by
  refine MetFree.of_bodySF (plainFor_of_name pn_183) hisR ?_
  intro p e s m args below meth cC s₁ Bd hml0 hP hK
  obtain ⟨rfl, hZ, hh⟩ := hP
  have hx := Bd.exec
  have hby := Bd.bytes
  have hml : cC.maxLocals = 6 := hml0
  have hown : s.vm.findClass "java/lang/StringUTF16" = some m.cls := findClass_of_methodNamed Bd.named
  have hnm := (name_of_methodNamed Bd.named Bd.method).1
  have X0 : Stand p l e ({ frames := 1, cells := 1, slots := 4, locals := 18 } : Room) s m #[(.ref ar), (.int (0 : Int32)), (.int (4 : Int32))] below meth cC s₁ [] 0 0 := Stand.of_body Bd
  have e0 : s₁.heap = h0 := by rw [← hh, Bd.state]; rfl
  have N0 := Fr.nil n0
  have Kp0 := Keep.refl h0 []
  show OwnFin p e below (R84b Z ar k c0 c1 c2 c3 h0 n0 s) (s₁.setTop (entryFrame m #[(.ref ar), (.int (0 : Int32)), (.int (4 : Int32))] 6))
  rw [ef_84b m ar]
  refine OwnFin.step (fun tT kK => XS.iloadN X0.here hx rfl (hb hby d_jdk_52_method_16_0) rfl kK) ?_
  obtain ⟨T1, h1, k1, X1, e1, E1, A1, st1⟩ := newP X0 hx hZ (hw _ (List.mem_of_getElem? (i := 19) rfl)) e0 (g := (mkF m 1 #[.val (.ref ar), .val (.int (0 : Int32)), .val (.int (4 : Int32)), .unset, .unset, .unset] [(.int (4 : Int32))])) rfl (hb hby d_jdk_52_method_16_1) rfl (by decide) (cap := 4) (by decide) (by decide) (by decide) (by decide)
  obtain ⟨b1, g1⟩ : ∃ z, z = h0.size := ⟨_, rfl⟩
  rw [← g1] at A1 st1
  refine OwnFin.step st1 ?_
  have sz_b1 : h0.size ≤ b1 := Nat.le_trans Kp0.1 (Nat.le_of_eq g1.symm)
  have Kp2 := Kp0.ext E1
  have V1 : Arv Z h1 b1 k1 .byte (4 : Int32) [(.int (0 : Int32)), (.int (0 : Int32)), (.int (0 : Int32)), (.int (0 : Int32))] (.int (0 : Int32)) := (Arv.new A1 (by decide)).pad (pad_rep [] (.int (0 : Int32)) 4)
  show OwnFin p e below _ (T1.setTop (mkF m 3 #[.val (.ref ar), .val (.int (0 : Int32)), .val (.int (4 : Int32)), .unset, .unset, .unset] [(.ref b1)]))
  refine OwnFin.step (fun tT kK => XS.astoreN X1.here hx rfl (hb hby d_jdk_52_method_16_3) rfl rfl (l' := #[.val (.ref ar), .val (.int (0 : Int32)), .val (.int (4 : Int32)), .val (.ref b1), .unset, .unset]) rfl kK) ?_
  show OwnFin p e below _ (T1.setTop (mkF m 4 #[.val (.ref ar), .val (.int (0 : Int32)), .val (.int (4 : Int32)), .val (.ref b1), .unset, .unset] []))
  refine OwnFin.step (fun tT kK => XS.aloadN X1.here hx rfl (hb hby d_jdk_52_method_16_4) rfl rfl kK) ?_
  refine OwnFin.step (fun tT kK => XS.iloadN X1.here hx rfl (hb hby d_jdk_52_method_16_5) rfl kK) ?_
  show OwnFin p e below _ (T1.setTop (mkF m 6 #[.val (.ref ar), .val (.int (0 : Int32)), .val (.int (4 : Int32)), .val (.ref b1), .unset, .unset] [(.int (0 : Int32)), (.ref ar)]))
  refine OwnFin.step (fun tT kK => XS.aloadN X1.here hx rfl (hb hby d_jdk_52_method_16_6) rfl rfl kK) ?_
  refine OwnFin.step (fun tT kK => XS.iconst X1.here hx rfl (hb hby d_jdk_52_method_16_7) kK) ?_
  show OwnFin p e below _ (T1.setTop (mkF m 8 #[.val (.ref ar), .val (.int (0 : Int32)), .val (.int (4 : Int32)), .val (.ref b1), .unset, .unset] [(.int (0 : Int32)), (.ref b1), (.int (0 : Int32)), (.ref ar)]))
  refine OwnFin.step (fun tT kK => XS.iloadN X1.here hx rfl (hb hby d_jdk_52_method_16_8) rfl kK) ?_
  have f3 : Arv Z h1 ar k .char (4 : Int32) [(.int c0), (.int c1), (.int c2), (.int c3)] (.int (0 : Int32)) := (hp0.keep Kp2 nin0)
  obtain ⟨_, _, ⟨T4, L4, k4, n4⟩, -, X4, ⟨Lc4, hQ4, l4, y4, z4⟩, st4⟩ := Jvm.LawKit.callS X1 hx (y := (⟨"java/lang/StringUTF16", "compress", "([CI[BII)I"⟩ : MethodName)) hown (mvT hZ (hw _ (List.mem_of_getElem? (i := 20) rfl))) (mvT hZ (hw _ (List.mem_of_getElem? (i := 21) rfl))) (mvT hZ (hw _ (List.mem_of_getElem? (i := 17) rfl))) (mvT hZ (hw _ (List.mem_of_getElem? (i := 22) rfl))) (by decide) (backOf (W := 0) (rm84a l Z a0 hw hEL wS [] ar b1 k k1 c0 c1 c2 c3 h1 n0 (Nat.le_trans Z0 Kp2.1) f3 V1 hp1 hp2 hp3 hp4 (Nat.le_trans Z0 sz_b1) (Nat.ne_of_lt (Nat.lt_of_lt_of_le hp0.lt sz_b1))) hZ (hw _ (List.mem_of_getElem? (i := 22) rfl)) (hw _ (List.mem_of_getElem? (i := 17) rfl)) (by decide) (by decide)) (g := (mkF m 9 #[.val (.ref ar), .val (.int (0 : Int32)), .val (.int (4 : Int32)), .val (.ref b1), .unset, .unset] [(.int (4 : Int32)), (.int (0 : Int32)), (.ref b1), (.int (0 : Int32)), (.ref ar)])) rfl (by rw [hml]; rfl) (argsL := [(.ref ar), (.int (0 : Int32)), (.ref b1), (.int (0 : Int32)), (.int (4 : Int32))]) (rest := []) (lenOf pd_216 rfl) rfl (by show 2 * 0 + _ ≤ _; exact Nat.le_of_eq rfl) (hb hby d_jdk_52_method_16_9) (fun _ _ => ⟨rfl, e1, (by decide : 1 + 0 ≤ _), (by decide : 4 + 0 ≤ _)⟩)
  dsimp only [Pt.U, Pt.locs, Pt.cells, Pt.slots] at X4 l4 y4 z4 st4 hQ4
  subst l4 y4 z4
  obtain ⟨rfl, N4q, K4, P4_0⟩ := hQ4
  have N4 := Fr.app N0 N4q
  refine OwnFin.step st4 ?_
  have Kp5 := Kp2.trans K4 (allS (P := fun x => x ∈ ([] : List Addr) ∨ h0.size ≤ x) (Or.inr sz_b1) all0)
  show OwnFin p e below _ (T4.setTop (mkF m 12 #[.val (.ref ar), .val (.int (0 : Int32)), .val (.int (4 : Int32)), .val (.ref b1), .unset, .unset] [(.int (4 : Int32))]))
  refine OwnFin.step (fun tT kK => XS.istore X4.here hx rfl (hb hby d_jdk_52_method_16_12) rfl (l' := #[.val (.ref ar), .val (.int (0 : Int32)), .val (.int (4 : Int32)), .val (.ref b1), .val (.int (4 : Int32)), .unset]) rfl kK) ?_
  show OwnFin p e below _ (T4.setTop (mkF m 14 #[.val (.ref ar), .val (.int (0 : Int32)), .val (.int (4 : Int32)), .val (.ref b1), .val (.int (4 : Int32)), .unset] []))
  refine OwnFin.step (fun tT kK => XS.iload X4.here hx rfl (hb hby d_jdk_52_method_16_14) rfl kK) ?_
  refine OwnFin.step (fun tT kK => XS.iloadN X4.here hx rfl (hb hby d_jdk_52_method_16_16) rfl kK) ?_
  show OwnFin p e below _ (T4.setTop (mkF m 17 #[.val (.ref ar), .val (.int (0 : Int32)), .val (.int (4 : Int32)), .val (.ref b1), .val (.int (4 : Int32)), .unset] [(.int (4 : Int32)), (.int (4 : Int32))]))
  refine OwnFin.step (fun tT kK => XS.icmpYes X4.here hx rfl (pc0 := 17) (pc' := 57) rfl (hb hby d_jdk_52_method_16_17) rfl (teq (rfl : (4 : Int32) = (4 : Int32))).1 (by decide) (by decide) kK) ?_
  show OwnFin p e below _ (T4.setTop (mkF m 57 #[.val (.ref ar), .val (.int (0 : Int32)), .val (.int (4 : Int32)), .val (.ref b1), .val (.int (4 : Int32)), .unset] []))
  refine OwnFin.step (fun tT kK => XS.aloadN X4.here hx rfl (hb hby d_jdk_52_method_16_57) rfl rfl kK) ?_
  obtain ⟨fs6, hr6, hrun6, hended6, hW6, hsame6⟩ := X4.leave (v := (some (.ref b1))) (fun h => by rw [Bd.returns] at h; cases h)
  refine ⟨_, _, retOut X4 hx Bd.returns rfl (Or.inr (Or.inr (Or.inr (Or.inr ⟨rfl, rfl, rfl⟩)))) (hb hby d_jdk_52_method_16_58) hr6, hrun6, hended6, _, _, rfl, ?_, ⟨_, rfl⟩, hW6, hsame6.mono (by decide) (by decide)⟩
  show Q84b Z ar k c0 c1 c2 c3 h0 n0 _ T4.heap _
  exact ⟨b1, k1, rfl, N4, Kp5, sz_b1, P4_0⟩
theorem d_jdk_52_method_15_0 : decode jdk_52_method_15_code 0 = .ok (.iload_n 1, 1) := by decide +kernel
theorem d_jdk_52_method_15_1 : decode jdk_52_method_15_code 1 = .ok (.aload_n 0, 1) := by decide +kernel
theorem d_jdk_52_method_15_2 : decode jdk_52_method_15_code 2 = .ok (.arraylength, 1) := by decide +kernel
theorem d_jdk_52_method_15_3 : decode jdk_52_method_15_code 3 = .ok (.isub, 1) := by decide +kernel
theorem d_jdk_52_method_15_4 : decode jdk_52_method_15_code 4 = .ok (.bipush 31, 2) := by decide +kernel
theorem d_jdk_52_method_15_6 : decode jdk_52_method_15_code 6 = .ok (.iushr, 1) := by decide +kernel
theorem d_jdk_52_method_15_7 : decode jdk_52_method_15_code 7 = .ok (.i2b, 1) := by decide +kernel
theorem d_jdk_52_method_15_8 : decode jdk_52_method_15_code 8 = .ok (.ireturn, 1) := by decide +kernel
theorem ef_84c (m : MethodId) (b : Addr) : entryFrame m #[(.ref b), (.int (4 : Int32))] 2 = mkF m 0 #[.val (.ref b), .val (.int (4 : Int32))] [] := by first | (simp [entryFrame, mkF, argsToLocals, Value.category]; done) | rfl
def Q84c (Z : State) (b : Addr) (kb : ClassId) (c0 : Int32) (c1 : Int32) (c2 : Int32) (c3 : Int32) (h0 : Heap) (n0 : Nat) (vV : Option Value) (hH : Heap) (LL : List Loc) : Prop := vV = some (.int (0 : Int32)) ∧ Fr n0 LL ∧ hH = h0
def R84c (Z : State) (b : Addr) (kb : ClassId) (c0 : Int32) (c1 : Int32) (c2 : Int32) (c3 : Int32) (h0 : Heap) (n0 : Nat) (U : State) (oO : Outcome) (U' : State) : Prop := ∃ vV LL, oO = .returned vV ∧ Q84c Z b kb c0 c1 c2 c3 h0 n0 vV U'.heap LL ∧ FrameEnd U oO U' LL ({ frames := 0, cells := 0, slots := 0, locals := 0 } : Room).cells ({ frames := 0, cells := 0, slots := 0, locals := 0 } : Room).slots
set_option maxRecDepth 65536 in
set_option maxHeartbeats 40000000 in
theorem rm84c (l : Launch) (Z : State) (a0 : Array Value) (hw : ∀ d ∈ tables_1, d.before a0 Z = true) (hEL : EW Z a0 OwnEL) (wS : ∀ a ∈ Bundle.stringAtoms, a.before a0 Z = true) (ws : List Jvm.Cond) (b : Addr) (kb : ClassId) (c0 : Int32) (c1 : Int32) (c2 : Int32) (c3 : Int32) (h0 : Heap) (n0 : Nat) (Z0 : n0 ≤ h0.size) (hp0 : Arv Z h0 b kb .byte (4 : Int32) [(.int (nar .byte (c0.toInt8.toInt32))), (.int (nar .byte (c1.toInt8.toInt32))), (.int (nar .byte (c2.toInt8.toInt32))), (.int (nar .byte (c3.toInt8.toInt32)))] (.int (0 : Int32))) :
    MetFree l (⟨"java/lang/StringUTF16", "coderFromArrayLen", "([BI)B"⟩ : MethodName) (head1 (Jvm.Cond.code (⟨"java/lang/StringUTF16", "coderFromArrayLen", "([BI)B"⟩ : MethodName) jdk_52_method_15_code 2 (some .byte) :: ws) ({ frames := 0, cells := 0, slots := 0, locals := 0 } : Room)) (fun aA U => aA = #[(.ref b), (.int (4 : Int32))] ∧ Z.Warmed39 U.vm ∧ U.heap = h0) (fun _ _ _ _ _ => True) (fun _ U oO U' => ∃ vV LL, oO = .returned vV ∧ Q84c Z b kb c0 c1 c2 c3 h0 n0 vV U'.heap LL ∧ FrameEnd U oO U' LL ({ frames := 0, cells := 0, slots := 0, locals := 0 } : Room).cells ({ frames := 0, cells := 0, slots := 0, locals := 0 } : Room).slots) := by
  refine MetFree.of_bodySF (plainFor_of_name pn_183) hisR ?_
  intro p e s m args below meth cC s₁ Bd hml0 hP hK
  obtain ⟨rfl, hZ, hh⟩ := hP
  have hx := Bd.exec
  have hby := Bd.bytes
  have hml : cC.maxLocals = 2 := hml0
  have hown : s.vm.findClass "java/lang/StringUTF16" = some m.cls := findClass_of_methodNamed Bd.named
  have hnm := (name_of_methodNamed Bd.named Bd.method).1
  have X0 : Stand p l e ({ frames := 0, cells := 0, slots := 0, locals := 0 } : Room) s m #[(.ref b), (.int (4 : Int32))] below meth cC s₁ [] 0 0 := Stand.of_body Bd
  have e0 : s₁.heap = h0 := by rw [← hh, Bd.state]; rfl
  have N0 := Fr.nil n0
  have Kp0 := Keep.refl h0 []
  show OwnFin p e below (R84c Z b kb c0 c1 c2 c3 h0 n0 s) (s₁.setTop (entryFrame m #[(.ref b), (.int (4 : Int32))] 2))
  rw [ef_84c m b]
  refine OwnFin.step (fun tT kK => XS.iloadN X0.here hx rfl (hb hby d_jdk_52_method_15_0) rfl kK) ?_
  refine OwnFin.step (fun tT kK => XS.aloadN X0.here hx rfl (hb hby d_jdk_52_method_15_1) rfl rfl kK) ?_
  show OwnFin p e below _ (s₁.setTop (mkF m 2 #[.val (.ref b), .val (.int (4 : Int32))] [(.ref b), (.int (4 : Int32))]))
  obtain ⟨cl1, Ar1, -, Sz1, Ng1, -, -⟩ := id hp0
  refine OwnFin.step (fun tT kK => own_len X0 hx hZ e0 Ar1 Sz1 Ng1 (g := (mkF m 2 #[.val (.ref b), .val (.int (4 : Int32))] [(.ref b), (.int (4 : Int32))])) rfl rfl (hb hby d_jdk_52_method_15_2) kK) ?_
  refine OwnFin.step (fun tT kK => XS.isub X0.here hx rfl (hb hby d_jdk_52_method_15_3) rfl kK) ?_
  show OwnFin p e below _ (s₁.setTop (mkF m 4 #[.val (.ref b), .val (.int (4 : Int32))] [(.int (0 : Int32))]))
  refine OwnFin.step (fun tT kK => XS.bipush X0.here hx rfl (hb hby d_jdk_52_method_15_4) kK) ?_
  refine OwnFin.step (fun tT kK => XS.iushr X0.here hx rfl (hb hby d_jdk_52_method_15_6) rfl kK) ?_
  show OwnFin p e below _ (s₁.setTop (mkF m 7 #[.val (.ref b), .val (.int (4 : Int32))] [(.int (0 : Int32))]))
  refine OwnFin.step (fun tT kK => XS.i2b X0.here hx rfl (hb hby d_jdk_52_method_15_7) rfl kK) ?_
  obtain ⟨fs2, hr2, hrun2, hended2, hW2, hsame2⟩ := X0.leave (v := (some (.int (0 : Int32)))) (fun h => by rw [Bd.returns] at h; cases h)
  refine ⟨_, _, retN X0 hx (t := .byte) Bd.returns (by simp) (hb hby d_jdk_52_method_15_8) hr2, hrun2, hended2, _, _, rfl, ?_, ⟨_, rfl⟩, hW2, hsame2.mono (by decide) (by decide)⟩
  show Q84c Z b kb c0 c1 c2 c3 h0 n0 _ s₁.heap _
  rw [e0]
  exact ⟨rfl, N0, rfl⟩
theorem d_jdk_42_method_149_0 : decode jdk_42_method_149_code 0 = .ok (.aload_n 0, 1) := by decide +kernel
theorem d_jdk_42_method_149_1 : decode jdk_42_method_149_code 1 = .ok (.invokespecial 1, 3) := by decide +kernel
theorem d_jdk_42_method_149_4 : decode jdk_42_method_149_code 4 = .ok (.iload_n 3, 1) := by decide +kernel
theorem d_jdk_42_method_149_5 : decode jdk_42_method_149_code 5 = .ok (.ifCond .ne 22, 3) := by decide +kernel
theorem d_jdk_42_method_149_27 : decode jdk_42_method_149_code 27 = .ok (.getstatic 38, 3) := by decide +kernel
theorem d_jdk_42_method_149_30 : decode jdk_42_method_149_code 30 = .ok (.ifCond .eq 28, 3) := by decide +kernel
theorem d_jdk_42_method_149_33 : decode jdk_42_method_149_code 33 = .ok (.aload_n 1, 1) := by decide +kernel
theorem d_jdk_42_method_149_34 : decode jdk_42_method_149_code 34 = .ok (.iload_n 2, 1) := by decide +kernel
theorem d_jdk_42_method_149_35 : decode jdk_42_method_149_code 35 = .ok (.iload_n 3, 1) := by decide +kernel
theorem d_jdk_42_method_149_36 : decode jdk_42_method_149_code 36 = .ok (.invokestatic 177, 3) := by decide +kernel
theorem pd_241 : parseMethodDescriptor "([CII)[B" = some ⟨[(.array .char), .int, .int], some (.array .byte)⟩ := by decide +kernel
theorem d_jdk_42_method_149_39 : decode jdk_42_method_149_code 39 = .ok (.astore 5, 2) := by decide +kernel
theorem d_jdk_42_method_149_41 : decode jdk_42_method_149_code 41 = .ok (.aload_n 0, 1) := by decide +kernel
theorem d_jdk_42_method_149_42 : decode jdk_42_method_149_code 42 = .ok (.aload 5, 2) := by decide +kernel
theorem d_jdk_42_method_149_44 : decode jdk_42_method_149_code 44 = .ok (.iload_n 3, 1) := by decide +kernel
theorem d_jdk_42_method_149_45 : decode jdk_42_method_149_code 45 = .ok (.invokestatic 47, 3) := by decide +kernel
theorem pd_247 : parseMethodDescriptor "([BI)B" = some ⟨[(.array .byte), .int], some .byte⟩ := by decide +kernel
theorem d_jdk_42_method_149_48 : decode jdk_42_method_149_code 48 = .ok (.putfield 15, 3) := by decide +kernel
theorem d_jdk_42_method_149_51 : decode jdk_42_method_149_code 51 = .ok (.aload_n 0, 1) := by decide +kernel
theorem d_jdk_42_method_149_52 : decode jdk_42_method_149_code 52 = .ok (.aload 5, 2) := by decide +kernel
theorem d_jdk_42_method_149_54 : decode jdk_42_method_149_code 54 = .ok (.putfield 9, 3) := by decide +kernel
theorem d_jdk_42_method_149_57 : decode jdk_42_method_149_code 57 = .ok (.return_, 1) := by decide +kernel
theorem ef_84d (m : MethodId) (a : Addr) (ar : Addr) : entryFrame m #[(.ref a), (.ref ar), (.int (0 : Int32)), (.int (4 : Int32)), .null] 6 = mkF m 0 #[.val (.ref a), .val (.ref ar), .val (.int (0 : Int32)), .val (.int (4 : Int32)), .val .null, .unset] [] := by first | (simp [entryFrame, mkF, argsToLocals, Value.category]; done) | rfl
def Q84d (Z : State) (a : Addr) (ar : Addr) (k : ClassId) (cs : Int32) (c0 : Int32) (c1 : Int32) (c2 : Int32) (c3 : Int32) (h0 : Heap) (n0 : Nat) (vV : Option Value) (hH : Heap) (LL : List Loc) : Prop := ∃ b : Addr, ∃ kb : ClassId, vV = none ∧ Fr n0 LL ∧ Keep h0 hH [a] ∧ h0.size ≤ b ∧ (Exa Z hH a "java/lang/String") ∧ (Fld Z hH a "java/lang/String" "value" "[B" (.ref b)) ∧ (Fld Z hH a "java/lang/String" "coder" "B" (.int (0 : Int32))) ∧ (Arv Z hH b kb .byte (4 : Int32) [(.int (nar .byte (c0.toInt8.toInt32))), (.int (nar .byte (c1.toInt8.toInt32))), (.int (nar .byte (c2.toInt8.toInt32))), (.int (nar .byte (c3.toInt8.toInt32)))] (.int (0 : Int32)))
def R84d (Z : State) (a : Addr) (ar : Addr) (k : ClassId) (cs : Int32) (c0 : Int32) (c1 : Int32) (c2 : Int32) (c3 : Int32) (h0 : Heap) (n0 : Nat) (U : State) (oO : Outcome) (U' : State) : Prop := ∃ vV LL, oO = .returned vV ∧ Q84d Z a ar k cs c0 c1 c2 c3 h0 n0 vV U'.heap LL ∧ FrameEnd U oO U' LL ({ frames := 2, cells := 1, slots := 4, locals := 35 } : Room).cells ({ frames := 2, cells := 1, slots := 4, locals := 35 } : Room).slots
set_option maxRecDepth 65536 in
set_option maxHeartbeats 40000000 in
theorem rm84d (l : Launch) (Z : State) (a0 : Array Value) (hw : ∀ d ∈ tables_1, d.before a0 Z = true) (hEL : EW Z a0 OwnEL) (wS : ∀ a ∈ Bundle.stringAtoms, a.before a0 Z = true) (ws : List Jvm.Cond) (a : Addr) (ar : Addr) (k : ClassId) (cs : Int32) (c0 : Int32) (c1 : Int32) (c2 : Int32) (c3 : Int32) (h0 : Heap) (n0 : Nat) (Z0 : n0 ≤ h0.size) (hp0 : Exa Z h0 a "java/lang/String") (hp1 : Fld Z h0 a "java/lang/String" "value" "[B" .null) (hp2 : Fld Z h0 a "java/lang/String" "coder" "B" (.int (0 : Int32))) (hp3 : n0 ≤ a) (hp4 : Arv Z h0 ar k .char (4 : Int32) [(.int c0), (.int c1), (.int c2), (.int c3)] (.int (0 : Int32))) (hp5 : Sta Z h0 "java/lang/String" "COMPACT_STRINGS" "Z" (.int cs)) (hp6 : ¬ cs = (0 : Int32)) (hp7 : ¬ (255 : Int32) < c0) (hp8 : ¬ (255 : Int32) < c1) (hp9 : ¬ (255 : Int32) < c2) (hp10 : ¬ (255 : Int32) < c3) :
    MetFree l (⟨"java/lang/String", "<init>", "([CIILjava/lang/Void;)V"⟩ : MethodName) (head1 (Jvm.Cond.code (⟨"java/lang/String", "<init>", "([CIILjava/lang/Void;)V"⟩ : MethodName) jdk_42_method_149_code 6 none :: ws) ({ frames := 2, cells := 1, slots := 4, locals := 35 } : Room)) (fun aA U => aA = #[(.ref a), (.ref ar), (.int (0 : Int32)), (.int (4 : Int32)), .null] ∧ Z.Warmed39 U.vm ∧ U.heap = h0) (fun _ _ _ _ _ => True) (fun _ U oO U' => ∃ vV LL, oO = .returned vV ∧ Q84d Z a ar k cs c0 c1 c2 c3 h0 n0 vV U'.heap LL ∧ FrameEnd U oO U' LL ({ frames := 2, cells := 1, slots := 4, locals := 35 } : Room).cells ({ frames := 2, cells := 1, slots := 4, locals := 35 } : Room).slots) := by
  refine MetFree.of_bodySF (plainFor_of_name pn_14) hisR ?_
  intro p e s m args below meth cC s₁ Bd hml0 hP hK
  obtain ⟨rfl, hZ, hh⟩ := hP
  have hx := Bd.exec
  have hby := Bd.bytes
  have hml : cC.maxLocals = 6 := hml0
  have hown : s.vm.findClass "java/lang/String" = some m.cls := findClass_of_methodNamed Bd.named
  have hnm := (name_of_methodNamed Bd.named Bd.method).1
  have X0 : Stand p l e ({ frames := 2, cells := 1, slots := 4, locals := 35 } : Room) s m #[(.ref a), (.ref ar), (.int (0 : Int32)), (.int (4 : Int32)), .null] below meth cC s₁ [] 0 0 := Stand.of_body Bd
  have e0 : s₁.heap = h0 := by rw [← hh, Bd.state]; rfl
  have N0 := Fr.nil n0
  have Kp0 := Keep.refl h0 []
  show OwnFin p e below (R84d Z a ar k cs c0 c1 c2 c3 h0 n0 s) (s₁.setTop (entryFrame m #[(.ref a), (.ref ar), (.int (0 : Int32)), (.int (4 : Int32)), .null] 6))
  rw [ef_84d m a ar]
  refine OwnFin.step (fun tT kK => XS.aloadN X0.here hx rfl (hb hby d_jdk_42_method_149_0) rfl rfl kK) ?_
  obtain ⟨T1, X1, e1, st1⟩ := initO X0 hx hZ hown (hw _ (List.mem_of_getElem? (i := 11) rfl)) (hw _ (List.mem_of_getElem? (i := 12) rfl)) (hw _ (List.mem_of_getElem? (i := 13) rfl)) e0 (g := (mkF m 1 #[.val (.ref a), .val (.ref ar), .val (.int (0 : Int32)), .val (.int (4 : Int32)), .val .null, .unset] [(.ref a)])) rfl (by rw [hml]; rfl) rfl (hb hby d_jdk_42_method_149_1) (by decide) (W := 0) (by show 2 * 0 + _ ≤ _; exact Nat.le_of_eq rfl) (by decide)
  refine OwnFin.step st1 ?_
  show OwnFin p e below _ (T1.setTop (mkF m 4 #[.val (.ref a), .val (.ref ar), .val (.int (0 : Int32)), .val (.int (4 : Int32)), .val .null, .unset] []))
  refine OwnFin.step (fun tT kK => XS.iloadN X1.here hx rfl (hb hby d_jdk_42_method_149_4) rfl kK) ?_
  refine OwnFin.step (fun tT kK => XS.ifYes X1.here hx rfl (pc0 := 5) (pc' := 27) rfl (hb hby d_jdk_42_method_149_5) rfl ((if0 _ _).trans (feq (by decide : ¬ ((4 : Int32) = (0 : Int32)))).2) (by decide) (by decide) kK) ?_
  show OwnFin p e below _ (T1.setTop (mkF m 27 #[.val (.ref a), .val (.ref ar), .val (.int (0 : Int32)), .val (.int (4 : Int32)), .val .null, .unset] []))
  obtain ⟨T2, X2, e2, st2⟩ := getS2 X1 hx hZ hown (host := "") (Or.inl (hw _ (List.mem_of_getElem? (i := 14) rfl))) Via.refl e1 hp5 (g := (mkF m 27 #[.val (.ref a), .val (.ref ar), .val (.int (0 : Int32)), .val (.int (4 : Int32)), .val .null, .unset] [])) rfl (hb hby d_jdk_42_method_149_27)
  refine OwnFin.step st2 ?_
  show OwnFin p e below _ (T2.setTop (mkF m 30 #[.val (.ref a), .val (.ref ar), .val (.int (0 : Int32)), .val (.int (4 : Int32)), .val .null, .unset] [(.int cs)]))
  refine OwnFin.step (fun tT kK => XS.ifNo X2.here hx rfl (hb hby d_jdk_42_method_149_30) rfl ((if0 _ _).trans (feq (hp6 : ¬ (cs = (0 : Int32)))).1) kK) ?_
  show OwnFin p e below _ (T2.setTop (mkF m 33 #[.val (.ref a), .val (.ref ar), .val (.int (0 : Int32)), .val (.int (4 : Int32)), .val .null, .unset] []))
  refine OwnFin.step (fun tT kK => XS.aloadN X2.here hx rfl (hb hby d_jdk_42_method_149_33) rfl rfl kK) ?_
  refine OwnFin.step (fun tT kK => XS.iloadN X2.here hx rfl (hb hby d_jdk_42_method_149_34) rfl kK) ?_
  show OwnFin p e below _ (T2.setTop (mkF m 35 #[.val (.ref a), .val (.ref ar), .val (.int (0 : Int32)), .val (.int (4 : Int32)), .val .null, .unset] [(.int (0 : Int32)), (.ref ar)]))
  refine OwnFin.step (fun tT kK => XS.iloadN X2.here hx rfl (hb hby d_jdk_42_method_149_35) rfl kK) ?_
  obtain ⟨_, _, ⟨T3, L3, k3, n3⟩, -, X3, ⟨Lc3, hQ3, l3, y3, z3⟩, st3⟩ := Jvm.LawKit.callS X2 hx (y := (⟨"java/lang/StringUTF16", "compress", "([CII)[B"⟩ : MethodName)) hown (mvT hZ (hw _ (List.mem_of_getElem? (i := 15) rfl))) (mvT hZ (hw _ (List.mem_of_getElem? (i := 16) rfl))) (mvT hZ (hw _ (List.mem_of_getElem? (i := 17) rfl))) (mvT hZ (hw _ (List.mem_of_getElem? (i := 18) rfl))) (by decide) (backOf (W := 0) (rm84b l Z a0 hw hEL wS [] ar k c0 c1 c2 c3 h0 n0 (Nat.le_trans Z0 Kp0.1) hp4 hp7 hp8 hp9 hp10) hZ (hw _ (List.mem_of_getElem? (i := 18) rfl)) (hw _ (List.mem_of_getElem? (i := 17) rfl)) (by decide) (by decide)) (g := (mkF m 36 #[.val (.ref a), .val (.ref ar), .val (.int (0 : Int32)), .val (.int (4 : Int32)), .val .null, .unset] [(.int (4 : Int32)), (.int (0 : Int32)), (.ref ar)])) rfl (by rw [hml]; rfl) (argsL := [(.ref ar), (.int (0 : Int32)), (.int (4 : Int32))]) (rest := []) (lenOf pd_241 rfl) rfl (by show 2 * 0 + _ ≤ _; exact Nat.le_of_eq rfl) (hb hby d_jdk_42_method_149_36) (fun _ _ => ⟨rfl, e2, (by decide : 0 + 1 ≤ _), (by decide : 0 + 4 ≤ _)⟩)
  dsimp only [Pt.U, Pt.locs, Pt.cells, Pt.slots] at X3 l3 y3 z3 st3 hQ3
  subst l3 y3 z3
  obtain ⟨b4, ⟨kb5, ⟨rfl, N3q, K3, B3_0, P3_0⟩⟩⟩ := hQ3
  have N3 := Fr.app N0 N3q
  refine OwnFin.step st3 ?_
  have E3 : Ext h0 T3.heap := ⟨K3.1, fun x c q => K3.2.1 x c q nin0⟩
  have sz_b4 : h0.size ≤ b4 := Nat.le_trans Kp0.1 B3_0
  have Kp6 := Kp0.ext E3
  show OwnFin p e below _ (T3.setTop (mkF m 39 #[.val (.ref a), .val (.ref ar), .val (.int (0 : Int32)), .val (.int (4 : Int32)), .val .null, .unset] [(.ref b4)]))
  refine OwnFin.step (fun tT kK => XS.astore X3.here hx rfl (hb hby d_jdk_42_method_149_39) rfl rfl (l' := #[.val (.ref a), .val (.ref ar), .val (.int (0 : Int32)), .val (.int (4 : Int32)), .val .null, .val (.ref b4)]) rfl kK) ?_
  show OwnFin p e below _ (T3.setTop (mkF m 41 #[.val (.ref a), .val (.ref ar), .val (.int (0 : Int32)), .val (.int (4 : Int32)), .val .null, .val (.ref b4)] []))
  refine OwnFin.step (fun tT kK => XS.aloadN X3.here hx rfl (hb hby d_jdk_42_method_149_41) rfl rfl kK) ?_
  refine OwnFin.step (fun tT kK => XS.aload X3.here hx rfl (hb hby d_jdk_42_method_149_42) rfl rfl kK) ?_
  show OwnFin p e below _ (T3.setTop (mkF m 44 #[.val (.ref a), .val (.ref ar), .val (.int (0 : Int32)), .val (.int (4 : Int32)), .val .null, .val (.ref b4)] [(.ref b4), (.ref a)]))
  refine OwnFin.step (fun tT kK => XS.iloadN X3.here hx rfl (hb hby d_jdk_42_method_149_44) rfl kK) ?_
  obtain ⟨_, _, ⟨T7, L7, k7, n7⟩, -, X7, ⟨Lc7, hQ7, l7, y7, z7⟩, st7⟩ := Jvm.LawKit.callS X3 hx (y := (⟨"java/lang/StringUTF16", "coderFromArrayLen", "([BI)B"⟩ : MethodName)) hown (mvT hZ (hw _ (List.mem_of_getElem? (i := 23) rfl))) (mvT hZ (hw _ (List.mem_of_getElem? (i := 24) rfl))) (mvT hZ (hw _ (List.mem_of_getElem? (i := 17) rfl))) (mvT hZ (hw _ (List.mem_of_getElem? (i := 25) rfl))) (by decide) (backOf (W := 1) (rm84c l Z a0 hw hEL wS [] b4 kb5 c0 c1 c2 c3 T3.heap n0 (Nat.le_trans Z0 Kp6.1) P3_0) hZ (hw _ (List.mem_of_getElem? (i := 25) rfl)) (hw _ (List.mem_of_getElem? (i := 17) rfl)) (by decide) (by decide)) (g := (mkF m 45 #[.val (.ref a), .val (.ref ar), .val (.int (0 : Int32)), .val (.int (4 : Int32)), .val .null, .val (.ref b4)] [(.int (4 : Int32)), (.ref b4), (.ref a)])) rfl (by rw [hml]; rfl) (argsL := [(.ref b4), (.int (4 : Int32))]) (rest := [(.ref a)]) (lenOf pd_247 rfl) rfl (by show 2 * 0 + _ ≤ _; exact Nat.le_of_eq rfl) (hb hby d_jdk_42_method_149_45) (fun _ _ => ⟨rfl, rfl, (by decide : 1 + 0 ≤ _), (by decide : 4 + 0 ≤ _)⟩)
  dsimp only [Pt.U, Pt.locs, Pt.cells, Pt.slots] at X7 l7 y7 z7 st7 hQ7
  subst l7 y7 z7
  obtain ⟨rfl, N7q, e7⟩ := hQ7
  have N7 := Fr.app N3 N7q
  refine OwnFin.step st7 ?_
  show OwnFin p e below _ (T7.setTop (mkF m 48 #[.val (.ref a), .val (.ref ar), .val (.int (0 : Int32)), .val (.int (4 : Int32)), .val .null, .val (.ref b4)] [(.int (0 : Int32)), (.ref a)]))
  have f8 : Exa Z T3.heap a "java/lang/String" := (hp0.keep Kp6)
  have f9 : Fld Z T3.heap a "java/lang/String" "coder" "B" (.int (0 : Int32)) := (hp2.keep Kp6 nin0)
  obtain ⟨T10, h10, X10, e10, W10, st10⟩ := putF X7 hx hZ hown (host := "") (Or.inl (hw _ (List.mem_of_getElem? (i := 26) rfl))) Via.refl e7 f9 f8 (Or.inr ⟨(hw _ (List.mem_of_getElem? (i := 27) rfl)), rfl, hnm⟩) (hw _ (List.mem_of_getElem? (i := 1) rfl)) (ty := .byte) (by decide) rfl rfl (g := (mkF m 48 #[.val (.ref a), .val (.ref ar), .val (.int (0 : Int32)), .val (.int (4 : Int32)), .val .null, .val (.ref b4)] [(.int (0 : Int32)), (.ref a)])) rfl rfl (hb hby d_jdk_42_method_149_48)
  refine OwnFin.step st10 ?_
  have N10 := Fr.snoc X10 N7 hp3
  have Fw10 : Fld Z h10 a "java/lang/String" "coder" "B" (.int (0 : Int32)) := f9.same W10
  show OwnFin p e below _ (T10.setTop (mkF m 51 #[.val (.ref a), .val (.ref ar), .val (.int (0 : Int32)), .val (.int (4 : Int32)), .val .null, .val (.ref b4)] []))
  refine OwnFin.step (fun tT kK => XS.aloadN X10.here hx rfl (hb hby d_jdk_42_method_149_51) rfl rfl kK) ?_
  refine OwnFin.step (fun tT kK => XS.aload X10.here hx rfl (hb hby d_jdk_42_method_149_52) rfl rfl kK) ?_
  show OwnFin p e below _ (T10.setTop (mkF m 54 #[.val (.ref a), .val (.ref ar), .val (.int (0 : Int32)), .val (.int (4 : Int32)), .val .null, .val (.ref b4)] [(.ref b4), (.ref a)]))
  have f12 : Exa Z h10 a "java/lang/String" := (f8.wr W10)
  have f13 : Fld Z h10 a "java/lang/String" "value" "[B" .null := ((hp1.ext E3).other W10 (Or.inr (slot_ne (Or.inr (hw _ (List.mem_of_getElem? (i := 29) rfl))) (Or.inr (hw _ (List.mem_of_getElem? (i := 27) rfl))) (by decide) (t := (.array .byte)) (t' := .byte) (by decide) (by decide))))
  obtain ⟨T14, h14, X14, e14, W14, st14⟩ := putF X10 hx hZ hown (host := "") (Or.inl (hw _ (List.mem_of_getElem? (i := 28) rfl))) Via.refl e10 f13 f12 (Or.inr ⟨(hw _ (List.mem_of_getElem? (i := 29) rfl)), rfl, hnm⟩) (hw _ (List.mem_of_getElem? (i := 1) rfl)) (ty := (.array .byte)) (by decide) rfl rfl (g := (mkF m 54 #[.val (.ref a), .val (.ref ar), .val (.int (0 : Int32)), .val (.int (4 : Int32)), .val .null, .val (.ref b4)] [(.ref b4), (.ref a)])) rfl rfl (hb hby d_jdk_42_method_149_54)
  refine OwnFin.step st14 ?_
  have N14 := Fr.snoc X14 N10 hp3
  have Fw14 : Fld Z h14 a "java/lang/String" "value" "[B" (.ref b4) := f13.same W14
  show OwnFin p e below _ (T14.setTop (mkF m 57 #[.val (.ref a), .val (.ref ar), .val (.int (0 : Int32)), .val (.int (4 : Int32)), .val .null, .val (.ref b4)] []))
  have f16 : Exa Z h14 a "java/lang/String" := (f12.wr W14)
  have f17 : Fld Z h14 a "java/lang/String" "coder" "B" (.int (0 : Int32)) := (Fw10.other W14 (Or.inr (slot_ne (Or.inr (hw _ (List.mem_of_getElem? (i := 27) rfl))) (Or.inr (hw _ (List.mem_of_getElem? (i := 29) rfl))) (by decide) (t := .byte) (t' := (.array .byte)) (by decide) (by decide))))
  have f18 : Arv Z h14 b4 kb5 .byte (4 : Int32) [(.int (nar .byte (c0.toInt8.toInt32))), (.int (nar .byte (c1.toInt8.toInt32))), (.int (nar .byte (c2.toInt8.toInt32))), (.int (nar .byte (c3.toInt8.toInt32)))] (.int (0 : Int32)) := ((P3_0.other W10 (Ne.symm (Nat.ne_of_lt (Nat.lt_of_lt_of_le hp0.lt sz_b4)))).other W14 (Ne.symm (Nat.ne_of_lt (Nat.lt_of_lt_of_le hp0.lt sz_b4))))
  obtain ⟨fs15, hr15, hrun15, hended15, hW15, hsame15⟩ := X14.leave (v := none) (fun _ => rfl)
  refine ⟨_, _, X14.returnOut hx Bd.returns (hb hby d_jdk_42_method_149_57) hr15, hrun15, hended15, _, _, rfl, ?_, ⟨_, rfl⟩, hW15, hsame15.mono (by decide) (by decide)⟩
  show Q84d Z a ar k cs c0 c1 c2 c3 h0 n0 _ T14.heap _
  rw [e14]
  exact ⟨b4, kb5, rfl, N14, ((((Keep.refl h0 [a]).ext E3).wr W10 (Or.inl (List.mem_of_getElem? (i := 0) rfl))).wr W14 (Or.inl (List.mem_of_getElem? (i := 0) rfl))), sz_b4, f16, Fw14, f17, f18⟩
theorem d_jdk_42_method_3_0 : decode jdk_42_method_3_code 0 = .ok (.aload_n 0, 1) := by decide +kernel
theorem d_jdk_42_method_3_1 : decode jdk_42_method_3_code 1 = .ok (.aload_n 1, 1) := by decide +kernel
theorem d_jdk_42_method_3_2 : decode jdk_42_method_3_code 2 = .ok (.iconst 0, 1) := by decide +kernel
theorem d_jdk_42_method_3_3 : decode jdk_42_method_3_code 3 = .ok (.aload_n 1, 1) := by decide +kernel
theorem d_jdk_42_method_3_4 : decode jdk_42_method_3_code 4 = .ok (.arraylength, 1) := by decide +kernel
theorem d_jdk_42_method_3_5 : decode jdk_42_method_3_code 5 = .ok (.aconst_null, 1) := by decide +kernel
theorem d_jdk_42_method_3_6 : decode jdk_42_method_3_code 6 = .ok (.invokespecial 27, 3) := by decide +kernel
theorem pd_260 : parseMethodDescriptor "([CIILjava/lang/Void;)V" = some ⟨[(.array .char), .int, .int, (.object "java/lang/Void")], none⟩ := by decide +kernel
theorem d_jdk_42_method_3_9 : decode jdk_42_method_3_code 9 = .ok (.return_, 1) := by decide +kernel
theorem ef_84 (m : MethodId) (a : Addr) (ar : Addr) : entryFrame m #[(.ref a), (.ref ar)] 2 = mkF m 0 #[.val (.ref a), .val (.ref ar)] [] := by first | (simp [entryFrame, mkF, argsToLocals, Value.category]; done) | rfl
def Q84 (Z : State) (a : Addr) (ar : Addr) (k : ClassId) (cs : Int32) (c0 : Int32) (c1 : Int32) (c2 : Int32) (c3 : Int32) (h0 : Heap) (n0 : Nat) (vV : Option Value) (hH : Heap) (LL : List Loc) : Prop := ∃ b : Addr, ∃ kb : ClassId, vV = none ∧ Fr n0 LL ∧ Keep h0 hH [a] ∧ h0.size ≤ b ∧ (Exa Z hH a "java/lang/String") ∧ (Fld Z hH a "java/lang/String" "value" "[B" (.ref b)) ∧ (Fld Z hH a "java/lang/String" "coder" "B" (.int (0 : Int32))) ∧ (Arv Z hH b kb .byte (4 : Int32) [(.int (nar .byte (c0.toInt8.toInt32))), (.int (nar .byte (c1.toInt8.toInt32))), (.int (nar .byte (c2.toInt8.toInt32))), (.int (nar .byte (c3.toInt8.toInt32)))] (.int (0 : Int32)))
def R84 (Z : State) (a : Addr) (ar : Addr) (k : ClassId) (cs : Int32) (c0 : Int32) (c1 : Int32) (c2 : Int32) (c3 : Int32) (h0 : Heap) (n0 : Nat) (U : State) (oO : Outcome) (U' : State) : Prop := ∃ vV LL, oO = .returned vV ∧ Q84 Z a ar k cs c0 c1 c2 c3 h0 n0 vV U'.heap LL ∧ FrameEnd U oO U' LL ({ frames := 3, cells := 1, slots := 4, locals := 52 } : Room).cells ({ frames := 3, cells := 1, slots := 4, locals := 52 } : Room).slots
set_option maxRecDepth 65536 in
set_option maxHeartbeats 40000000 in
theorem rm84 (l : Launch) (Z : State) (a0 : Array Value) (hw : ∀ d ∈ tables_1, d.before a0 Z = true) (hEL : EW Z a0 OwnEL) (wS : ∀ a ∈ Bundle.stringAtoms, a.before a0 Z = true) (ws : List Jvm.Cond) (a : Addr) (ar : Addr) (k : ClassId) (cs : Int32) (c0 : Int32) (c1 : Int32) (c2 : Int32) (c3 : Int32) (h0 : Heap) (n0 : Nat) (Z0 : n0 ≤ h0.size) (hp0 : Exa Z h0 a "java/lang/String") (hp1 : Fld Z h0 a "java/lang/String" "value" "[B" .null) (hp2 : Fld Z h0 a "java/lang/String" "coder" "B" (.int (0 : Int32))) (hp3 : n0 ≤ a) (hp4 : Arv Z h0 ar k .char (4 : Int32) [(.int c0), (.int c1), (.int c2), (.int c3)] (.int (0 : Int32))) (hp5 : Sta Z h0 "java/lang/String" "COMPACT_STRINGS" "Z" (.int cs)) (hp6 : ¬ cs = (0 : Int32)) (hp7 : ¬ (255 : Int32) < c0) (hp8 : ¬ (255 : Int32) < c1) (hp9 : ¬ (255 : Int32) < c2) (hp10 : ¬ (255 : Int32) < c3) :
    MetFree l (⟨"java/lang/String", "<init>", "([C)V"⟩ : MethodName) (head1 (Jvm.Cond.code (⟨"java/lang/String", "<init>", "([C)V"⟩ : MethodName) jdk_42_method_3_code 2 none :: ws) ({ frames := 3, cells := 1, slots := 4, locals := 52 } : Room)) (fun aA U => aA = #[(.ref a), (.ref ar)] ∧ Z.Warmed39 U.vm ∧ U.heap = h0) (fun _ _ _ _ _ => True) (fun _ U oO U' => ∃ vV LL, oO = .returned vV ∧ Q84 Z a ar k cs c0 c1 c2 c3 h0 n0 vV U'.heap LL ∧ FrameEnd U oO U' LL ({ frames := 3, cells := 1, slots := 4, locals := 52 } : Room).cells ({ frames := 3, cells := 1, slots := 4, locals := 52 } : Room).slots) := by
  refine MetFree.of_bodySF (plainFor_of_name pn_14) hisR ?_
  intro p e s m args below meth cC s₁ Bd hml0 hP hK
  obtain ⟨rfl, hZ, hh⟩ := hP
  have hx := Bd.exec
  have hby := Bd.bytes
  have hml : cC.maxLocals = 2 := hml0
  have hown : s.vm.findClass "java/lang/String" = some m.cls := findClass_of_methodNamed Bd.named
  have hnm := (name_of_methodNamed Bd.named Bd.method).1
  have X0 : Stand p l e ({ frames := 3, cells := 1, slots := 4, locals := 52 } : Room) s m #[(.ref a), (.ref ar)] below meth cC s₁ [] 0 0 := Stand.of_body Bd
  have e0 : s₁.heap = h0 := by rw [← hh, Bd.state]; rfl
  have N0 := Fr.nil n0
  have Kp0 := Keep.refl h0 []
  show OwnFin p e below (R84 Z a ar k cs c0 c1 c2 c3 h0 n0 s) (s₁.setTop (entryFrame m #[(.ref a), (.ref ar)] 2))
  rw [ef_84 m a ar]
  refine OwnFin.step (fun tT kK => XS.aloadN X0.here hx rfl (hb hby d_jdk_42_method_3_0) rfl rfl kK) ?_
  refine OwnFin.step (fun tT kK => XS.aloadN X0.here hx rfl (hb hby d_jdk_42_method_3_1) rfl rfl kK) ?_
  show OwnFin p e below _ (s₁.setTop (mkF m 2 #[.val (.ref a), .val (.ref ar)] [(.ref ar), (.ref a)]))
  refine OwnFin.step (fun tT kK => XS.iconst X0.here hx rfl (hb hby d_jdk_42_method_3_2) kK) ?_
  refine OwnFin.step (fun tT kK => XS.aloadN X0.here hx rfl (hb hby d_jdk_42_method_3_3) rfl rfl kK) ?_
  show OwnFin p e below _ (s₁.setTop (mkF m 4 #[.val (.ref a), .val (.ref ar)] [(.ref ar), (.int (0 : Int32)), (.ref ar), (.ref a)]))
  obtain ⟨cl1, Ar1, -, Sz1, Ng1, -, -⟩ := id hp4
  refine OwnFin.step (fun tT kK => own_len X0 hx hZ e0 Ar1 Sz1 Ng1 (g := (mkF m 4 #[.val (.ref a), .val (.ref ar)] [(.ref ar), (.int (0 : Int32)), (.ref ar), (.ref a)])) rfl rfl (hb hby d_jdk_42_method_3_4) kK) ?_
  refine OwnFin.step (fun tT kK => XS.aconstNull X0.here hx rfl (hb hby d_jdk_42_method_3_5) kK) ?_
  show OwnFin p e below _ (s₁.setTop (mkF m 6 #[.val (.ref a), .val (.ref ar)] [.null, (.int (4 : Int32)), (.int (0 : Int32)), (.ref ar), (.ref a)]))
  obtain ⟨_, _, ⟨T2, L2, k2, n2⟩, -, X2, ⟨Lc2, hQ2, l2, y2, z2⟩, st2⟩ := X0.specialBack hx (y := (⟨"java/lang/String", "<init>", "([CIILjava/lang/Void;)V"⟩ : MethodName)) rfl hown (mvT hZ (hw _ (List.mem_of_getElem? (i := 7) rfl))) (mvT hZ (hw _ (List.mem_of_getElem? (i := 8) rfl))) (mvT hZ (hw _ (List.mem_of_getElem? (i := 10) rfl))) (by decide) (backOf (W := 0) (rm84d l Z a0 hw hEL wS [] a ar k cs c0 c1 c2 c3 h0 n0 (Nat.le_trans Z0 Kp0.1) hp0 hp1 hp2 hp3 hp4 hp5 hp6 hp7 hp8 hp9 hp10) hZ (hw _ (List.mem_of_getElem? (i := 10) rfl)) (hw _ (List.mem_of_getElem? (i := 2) rfl)) (by decide) (by decide)) (g := (mkF m 6 #[.val (.ref a), .val (.ref ar)] [.null, (.int (4 : Int32)), (.int (0 : Int32)), (.ref ar), (.ref a)])) rfl (by rw [hml]; rfl) (Steps.refl _) (a := a) (argsL := [(.ref ar), (.int (0 : Int32)), (.int (4 : Int32)), .null]) (rest := []) (lenOf pd_260 rfl) rfl (by show 2 * 0 + _ ≤ _; exact Nat.le_of_eq rfl) (hb hby d_jdk_42_method_3_6) (fun _ _ => ⟨rfl, e0, (by decide : 0 + 1 ≤ _), (by decide : 0 + 4 ≤ _)⟩)
  dsimp only [Pt.U, Pt.locs, Pt.cells, Pt.slots] at X2 l2 y2 z2 st2 hQ2
  subst l2 y2 z2
  obtain ⟨b3, ⟨kb4, ⟨rfl, N2q, K2, B2_0, P2_0, P2_1, P2_2, P2_3⟩⟩⟩ := hQ2
  have N2 := Fr.app N0 N2q
  refine OwnFin.step (fun tT kK => st2.trans kK) ?_
  have sz_b3 : h0.size ≤ b3 := Nat.le_trans Kp0.1 B2_0
  show OwnFin p e below _ (T2.setTop (mkF m 9 #[.val (.ref a), .val (.ref ar)] []))
  obtain ⟨fs6, hr6, hrun6, hended6, hW6, hsame6⟩ := X2.leave (v := none) (fun _ => rfl)
  refine ⟨_, _, X2.returnOut hx Bd.returns (hb hby d_jdk_42_method_3_9) hr6, hrun6, hended6, _, _, rfl, ?_, ⟨_, rfl⟩, hW6, hsame6.mono (by decide) (by decide)⟩
  show Q84 Z a ar k cs c0 c1 c2 c3 h0 n0 _ T2.heap _
  exact ⟨b3, kb4, rfl, N2, ((Keep.refl h0 [a]).trans K2 (allS (P := fun x => x ∈ [a] ∨ h0.size ≤ x) (Or.inl (List.mem_of_getElem? (i := 0) rfl)) all0)), sz_b3, P2_0, P2_1, P2_2, P2_3⟩
theorem ef_82a (m : MethodId) (ar : Addr) (yb : Addr) : entryFrame m #[(.ref ar), (.int (0 : Int32)), (.ref yb), (.int (0 : Int32)), (.int (2 : Int32))] 7 = mkF m 0 #[.val (.ref ar), .val (.int (0 : Int32)), .val (.ref yb), .val (.int (0 : Int32)), .val (.int (2 : Int32)), .unset, .unset] [] := by first | (simp [entryFrame, mkF, argsToLocals, Value.category]; done) | rfl
def Q82a (Z : State) (ar : Addr) (yb : Addr) (k : ClassId) (kb : ClassId) (c0 : Int32) (c1 : Int32) (h0 : Heap) (n0 : Nat) (vV : Option Value) (hH : Heap) (LL : List Loc) : Prop := vV = some (.int (2 : Int32)) ∧ Fr n0 LL ∧ Keep h0 hH [yb] ∧ (Arv Z hH yb kb .byte (2 : Int32) [(.int (nar .byte (c0.toInt8.toInt32))), (.int (nar .byte (c1.toInt8.toInt32)))] (.int (0 : Int32)))
def R82a (Z : State) (ar : Addr) (yb : Addr) (k : ClassId) (kb : ClassId) (c0 : Int32) (c1 : Int32) (h0 : Heap) (n0 : Nat) (U : State) (oO : Outcome) (U' : State) : Prop := ∃ vV LL, oO = .returned vV ∧ Q82a Z ar yb k kb c0 c1 h0 n0 vV U'.heap LL ∧ FrameEnd U oO U' LL ({ frames := 0, cells := 0, slots := 0, locals := 0 } : Room).cells ({ frames := 0, cells := 0, slots := 0, locals := 0 } : Room).slots
set_option maxRecDepth 65536 in
set_option maxHeartbeats 40000000 in
theorem rm82a (l : Launch) (Z : State) (a0 : Array Value) (hw : ∀ d ∈ tables_1, d.before a0 Z = true) (hEL : EW Z a0 OwnEL) (wS : ∀ a ∈ Bundle.stringAtoms, a.before a0 Z = true) (ws : List Jvm.Cond) (ar : Addr) (yb : Addr) (k : ClassId) (kb : ClassId) (c0 : Int32) (c1 : Int32) (h0 : Heap) (n0 : Nat) (Z0 : n0 ≤ h0.size) (hp0 : Arv Z h0 ar k .char (2 : Int32) [(.int c0), (.int c1)] (.int (0 : Int32))) (hp1 : Arv Z h0 yb kb .byte (2 : Int32) [(.int (0 : Int32)), (.int (0 : Int32))] (.int (0 : Int32))) (hp2 : ¬ (255 : Int32) < c0) (hp3 : ¬ (255 : Int32) < c1) (hp4 : n0 ≤ yb) (hp5 : ar ≠ yb) :
    MetFree l (⟨"java/lang/StringUTF16", "compress", "([CI[BII)I"⟩ : MethodName) (head1 (Jvm.Cond.code (⟨"java/lang/StringUTF16", "compress", "([CI[BII)I"⟩ : MethodName) jdk_52_method_21_code 7 (some .int) :: ws) ({ frames := 0, cells := 0, slots := 0, locals := 0 } : Room)) (fun aA U => aA = #[(.ref ar), (.int (0 : Int32)), (.ref yb), (.int (0 : Int32)), (.int (2 : Int32))] ∧ Z.Warmed39 U.vm ∧ U.heap = h0) (fun _ _ _ _ _ => True) (fun _ U oO U' => ∃ vV LL, oO = .returned vV ∧ Q82a Z ar yb k kb c0 c1 h0 n0 vV U'.heap LL ∧ FrameEnd U oO U' LL ({ frames := 0, cells := 0, slots := 0, locals := 0 } : Room).cells ({ frames := 0, cells := 0, slots := 0, locals := 0 } : Room).slots) := by
  refine MetFree.of_bodySF (plainFor_of_name pn_183) hisR ?_
  intro p e s m args below meth cC s₁ Bd hml0 hP hK
  obtain ⟨rfl, hZ, hh⟩ := hP
  have hx := Bd.exec
  have hby := Bd.bytes
  have hml : cC.maxLocals = 7 := hml0
  have hown : s.vm.findClass "java/lang/StringUTF16" = some m.cls := findClass_of_methodNamed Bd.named
  have hnm := (name_of_methodNamed Bd.named Bd.method).1
  have X0 : Stand p l e ({ frames := 0, cells := 0, slots := 0, locals := 0 } : Room) s m #[(.ref ar), (.int (0 : Int32)), (.ref yb), (.int (0 : Int32)), (.int (2 : Int32))] below meth cC s₁ [] 0 0 := Stand.of_body Bd
  have e0 : s₁.heap = h0 := by rw [← hh, Bd.state]; rfl
  have N0 := Fr.nil n0
  have Kp0 := Keep.refl h0 []
  show OwnFin p e below (R82a Z ar yb k kb c0 c1 h0 n0 s) (s₁.setTop (entryFrame m #[(.ref ar), (.int (0 : Int32)), (.ref yb), (.int (0 : Int32)), (.int (2 : Int32))] 7))
  rw [ef_82a m ar yb]
  refine OwnFin.step (fun tT kK => XS.iconst X0.here hx rfl (hb hby d_jdk_52_method_21_0) kK) ?_
  refine OwnFin.step (fun tT kK => XS.istore X0.here hx rfl (hb hby d_jdk_52_method_21_1) rfl (l' := #[.val (.ref ar), .val (.int (0 : Int32)), .val (.ref yb), .val (.int (0 : Int32)), .val (.int (2 : Int32)), .val (.int (0 : Int32)), .unset]) rfl kK) ?_
  show OwnFin p e below _ (s₁.setTop (mkF m 3 #[.val (.ref ar), .val (.int (0 : Int32)), .val (.ref yb), .val (.int (0 : Int32)), .val (.int (2 : Int32)), .val (.int (0 : Int32)), .unset] []))
  refine OwnFin.step (fun tT kK => XS.iload X0.here hx rfl (hb hby d_jdk_52_method_21_3) rfl kK) ?_
  refine OwnFin.step (fun tT kK => XS.iload X0.here hx rfl (hb hby d_jdk_52_method_21_5) rfl kK) ?_
  show OwnFin p e below _ (s₁.setTop (mkF m 7 #[.val (.ref ar), .val (.int (0 : Int32)), .val (.ref yb), .val (.int (0 : Int32)), .val (.int (2 : Int32)), .val (.int (0 : Int32)), .unset] [(.int (2 : Int32)), (.int (0 : Int32))]))
  refine OwnFin.step (fun tT kK => XS.icmpNo X0.here hx rfl (hb hby d_jdk_52_method_21_7) rfl (tlt (by decide : (0 : Int32) < (2 : Int32))).2.1 kK) ?_
  show OwnFin p e below _ (s₁.setTop (mkF m 10 #[.val (.ref ar), .val (.int (0 : Int32)), .val (.ref yb), .val (.int (0 : Int32)), .val (.int (2 : Int32)), .val (.int (0 : Int32)), .unset] []))
  refine OwnFin.step (fun tT kK => XS.aloadN X0.here hx rfl (hb hby d_jdk_52_method_21_10) rfl rfl kK) ?_
  refine OwnFin.step (fun tT kK => XS.iloadN X0.here hx rfl (hb hby d_jdk_52_method_21_11) rfl kK) ?_
  show OwnFin p e below _ (s₁.setTop (mkF m 12 #[.val (.ref ar), .val (.int (0 : Int32)), .val (.ref yb), .val (.int (0 : Int32)), .val (.int (2 : Int32)), .val (.int (0 : Int32)), .unset] [(.int (0 : Int32)), (.ref ar)]))
  obtain ⟨cl1, Ar1, q1, Sz1, Ng1, H1, G1⟩ := id hp0
  have hin1 : ¬ ((0 : Int32) < 0 ∨ cl1.slots.size ≤ ((0 : Int32)).toNatClampNeg) := inb_of Sz1 ⟨by decide, by decide⟩
  refine OwnFin.step (fun tT kK => X0.caload hx (j := (0 : Int32)) (v := (.int c0)) (by rw [e0]; exact Ar1.1) (State.isArrayOf_alike hZ.alike Ar1.2.1) Ar1.2.2 hin1 (H1.at hin1 rfl) (g := (mkF m 12 #[.val (.ref ar), .val (.int (0 : Int32)), .val (.ref yb), .val (.int (0 : Int32)), .val (.int (2 : Int32)), .val (.int (0 : Int32)), .unset] [(.int (0 : Int32)), (.ref ar)])) rfl rfl (hb hby d_jdk_52_method_21_12) _ kK) ?_
  show OwnFin p e below _ (s₁.setTop (mkF m 13 #[.val (.ref ar), .val (.int (0 : Int32)), .val (.ref yb), .val (.int (0 : Int32)), .val (.int (2 : Int32)), .val (.int (0 : Int32)), .unset] [(.int c0)]))
  refine OwnFin.step (fun tT kK => XS.istore X0.here hx rfl (hb hby d_jdk_52_method_21_13) rfl (l' := #[.val (.ref ar), .val (.int (0 : Int32)), .val (.ref yb), .val (.int (0 : Int32)), .val (.int (2 : Int32)), .val (.int (0 : Int32)), .val (.int c0)]) rfl kK) ?_
  refine OwnFin.step (fun tT kK => XS.iload X0.here hx rfl (hb hby d_jdk_52_method_21_15) rfl kK) ?_
  show OwnFin p e below _ (s₁.setTop (mkF m 17 #[.val (.ref ar), .val (.int (0 : Int32)), .val (.ref yb), .val (.int (0 : Int32)), .val (.int (2 : Int32)), .val (.int (0 : Int32)), .val (.int c0)] [(.int c0)]))
  refine OwnFin.step (fun tT kK => XS.sipush X0.here hx rfl (hb hby d_jdk_52_method_21_17) kK) ?_
  refine OwnFin.step (fun tT kK => XS.icmpYes X0.here hx rfl (pc0 := 20) (pc' := 26) rfl (hb hby d_jdk_52_method_21_20) rfl (flt (hp2 : ¬ ((255 : Int32) < c0))).2.2.2 (by decide) (by decide) kK) ?_
  show OwnFin p e below _ (s₁.setTop (mkF m 26 #[.val (.ref ar), .val (.int (0 : Int32)), .val (.ref yb), .val (.int (0 : Int32)), .val (.int (2 : Int32)), .val (.int (0 : Int32)), .val (.int c0)] []))
  refine OwnFin.step (fun tT kK => XS.aloadN X0.here hx rfl (hb hby d_jdk_52_method_21_26) rfl rfl kK) ?_
  show OwnFin p e below _ (s₁.setTop (mkF m 27 #[.val (.ref ar), .val (.int (0 : Int32)), .val (.ref yb), .val (.int (0 : Int32)), .val (.int (2 : Int32)), .val (.int (0 : Int32)), .val (.int c0)] [(.ref yb)]))
  refine OwnFin.step (fun tT kK => XS.iloadN X0.here hx rfl (hb hby d_jdk_52_method_21_27) rfl kK) ?_
  refine OwnFin.step (fun tT kK => XS.iload X0.here hx rfl (hb hby d_jdk_52_method_21_28) rfl kK) ?_
  show OwnFin p e below _ (s₁.setTop (mkF m 30 #[.val (.ref ar), .val (.int (0 : Int32)), .val (.ref yb), .val (.int (0 : Int32)), .val (.int (2 : Int32)), .val (.int (0 : Int32)), .val (.int c0)] [(.int c0), (.int (0 : Int32)), (.ref yb)]))
  refine OwnFin.step (fun tT kK => XS.i2b X0.here hx rfl (hb hby d_jdk_52_method_21_30) rfl kK) ?_
  obtain ⟨cl2, Ar2, q2, Sz2, Ng2, H2, G2⟩ := id hp1
  have hin2 : ¬ ((0 : Int32) < 0 ∨ cl2.slots.size ≤ ((0 : Int32)).toNatClampNeg) := inb_of Sz2 ⟨by decide, by decide⟩
  obtain ⟨T3, h3, X3, e3, W3, st3⟩ := stB X0 hx hZ e0 Ar2 (j := (0 : Int32)) hin2 (g := (mkF m 31 #[.val (.ref ar), .val (.int (0 : Int32)), .val (.ref yb), .val (.int (0 : Int32)), .val (.int (2 : Int32)), .val (.int (0 : Int32)), .val (.int c0)] [(.int (c0.toInt8.toInt32)), (.int (0 : Int32)), (.ref yb)])) rfl rfl (hb hby d_jdk_52_method_21_31)
  refine OwnFin.step st3 ?_
  have N3 := Fr.snoc X3 N0 hp4
  have V3 : Arv Z h3 yb kb .byte (2 : Int32) [(.int (nar .byte (c0.toInt8.toInt32))), (.int (0 : Int32))] (.int (0 : Int32)) := Arv.set Ar2 q2 Sz2 Ng2 H2 G2 (fits_nar_byte _) W3 0 rfl (Nat.le_of_ble_eq_true rfl)
  show OwnFin p e below _ (T3.setTop (mkF m 32 #[.val (.ref ar), .val (.int (0 : Int32)), .val (.ref yb), .val (.int (0 : Int32)), .val (.int (2 : Int32)), .val (.int (0 : Int32)), .val (.int c0)] []))
  refine OwnFin.step (fun tT kK => XS.iinc X3.here hx rfl (hb hby d_jdk_52_method_21_32) rfl (l' := #[.val (.ref ar), .val (.int (1 : Int32)), .val (.ref yb), .val (.int (0 : Int32)), .val (.int (2 : Int32)), .val (.int (0 : Int32)), .val (.int c0)]) rfl kK) ?_
  show OwnFin p e below _ (T3.setTop (mkF m 35 #[.val (.ref ar), .val (.int (1 : Int32)), .val (.ref yb), .val (.int (0 : Int32)), .val (.int (2 : Int32)), .val (.int (0 : Int32)), .val (.int c0)] []))
  refine OwnFin.step (fun tT kK => XS.iinc X3.here hx rfl (hb hby d_jdk_52_method_21_35) rfl (l' := #[.val (.ref ar), .val (.int (1 : Int32)), .val (.ref yb), .val (.int (1 : Int32)), .val (.int (2 : Int32)), .val (.int (0 : Int32)), .val (.int c0)]) rfl kK) ?_
  refine OwnFin.step (fun tT kK => XS.iinc X3.here hx rfl (hb hby d_jdk_52_method_21_38) rfl (l' := #[.val (.ref ar), .val (.int (1 : Int32)), .val (.ref yb), .val (.int (1 : Int32)), .val (.int (2 : Int32)), .val (.int (1 : Int32)), .val (.int c0)]) rfl kK) ?_
  show OwnFin p e below _ (T3.setTop (mkF m 41 #[.val (.ref ar), .val (.int (1 : Int32)), .val (.ref yb), .val (.int (1 : Int32)), .val (.int (2 : Int32)), .val (.int (1 : Int32)), .val (.int c0)] []))
  refine OwnFin.step (fun tT kK => XS.goto X3.here hx rfl (pc0 := 41) (pc' := 3) rfl (hb hby d_jdk_52_method_21_41) (by decide) (by decide) kK) ?_
  show OwnFin p e below _ (T3.setTop (mkF m 3 #[.val (.ref ar), .val (.int (1 : Int32)), .val (.ref yb), .val (.int (1 : Int32)), .val (.int (2 : Int32)), .val (.int (1 : Int32)), .val (.int c0)] []))
  refine OwnFin.step (fun tT kK => XS.iload X3.here hx rfl (hb hby d_jdk_52_method_21_3) rfl kK) ?_
  refine OwnFin.step (fun tT kK => XS.iload X3.here hx rfl (hb hby d_jdk_52_method_21_5) rfl kK) ?_
  show OwnFin p e below _ (T3.setTop (mkF m 7 #[.val (.ref ar), .val (.int (1 : Int32)), .val (.ref yb), .val (.int (1 : Int32)), .val (.int (2 : Int32)), .val (.int (1 : Int32)), .val (.int c0)] [(.int (2 : Int32)), (.int (1 : Int32))]))
  refine OwnFin.step (fun tT kK => XS.icmpNo X3.here hx rfl (hb hby d_jdk_52_method_21_7) rfl (tlt (by decide : (1 : Int32) < (2 : Int32))).2.1 kK) ?_
  show OwnFin p e below _ (T3.setTop (mkF m 10 #[.val (.ref ar), .val (.int (1 : Int32)), .val (.ref yb), .val (.int (1 : Int32)), .val (.int (2 : Int32)), .val (.int (1 : Int32)), .val (.int c0)] []))
  refine OwnFin.step (fun tT kK => XS.aloadN X3.here hx rfl (hb hby d_jdk_52_method_21_10) rfl rfl kK) ?_
  refine OwnFin.step (fun tT kK => XS.iloadN X3.here hx rfl (hb hby d_jdk_52_method_21_11) rfl kK) ?_
  show OwnFin p e below _ (T3.setTop (mkF m 12 #[.val (.ref ar), .val (.int (1 : Int32)), .val (.ref yb), .val (.int (1 : Int32)), .val (.int (2 : Int32)), .val (.int (1 : Int32)), .val (.int c0)] [(.int (1 : Int32)), (.ref ar)]))
  have f5 : Arv Z h3 ar k .char (2 : Int32) [(.int c0), (.int c1)] (.int (0 : Int32)) := (hp0.other W3 hp5)
  obtain ⟨cl6, Ar6, q6, Sz6, Ng6, H6, G6⟩ := id f5
  have hin6 : ¬ ((1 : Int32) < 0 ∨ cl6.slots.size ≤ ((1 : Int32)).toNatClampNeg) := inb_of Sz6 ⟨by decide, by decide⟩
  refine OwnFin.step (fun tT kK => X3.caload hx (j := (1 : Int32)) (v := (.int c1)) (by rw [e3]; exact Ar6.1) (State.isArrayOf_alike hZ.alike Ar6.2.1) Ar6.2.2 hin6 (H6.at hin6 rfl) (g := (mkF m 12 #[.val (.ref ar), .val (.int (1 : Int32)), .val (.ref yb), .val (.int (1 : Int32)), .val (.int (2 : Int32)), .val (.int (1 : Int32)), .val (.int c0)] [(.int (1 : Int32)), (.ref ar)])) rfl rfl (hb hby d_jdk_52_method_21_12) _ kK) ?_
  show OwnFin p e below _ (T3.setTop (mkF m 13 #[.val (.ref ar), .val (.int (1 : Int32)), .val (.ref yb), .val (.int (1 : Int32)), .val (.int (2 : Int32)), .val (.int (1 : Int32)), .val (.int c0)] [(.int c1)]))
  refine OwnFin.step (fun tT kK => XS.istore X3.here hx rfl (hb hby d_jdk_52_method_21_13) rfl (l' := #[.val (.ref ar), .val (.int (1 : Int32)), .val (.ref yb), .val (.int (1 : Int32)), .val (.int (2 : Int32)), .val (.int (1 : Int32)), .val (.int c1)]) rfl kK) ?_
  refine OwnFin.step (fun tT kK => XS.iload X3.here hx rfl (hb hby d_jdk_52_method_21_15) rfl kK) ?_
  show OwnFin p e below _ (T3.setTop (mkF m 17 #[.val (.ref ar), .val (.int (1 : Int32)), .val (.ref yb), .val (.int (1 : Int32)), .val (.int (2 : Int32)), .val (.int (1 : Int32)), .val (.int c1)] [(.int c1)]))
  refine OwnFin.step (fun tT kK => XS.sipush X3.here hx rfl (hb hby d_jdk_52_method_21_17) kK) ?_
  refine OwnFin.step (fun tT kK => XS.icmpYes X3.here hx rfl (pc0 := 20) (pc' := 26) rfl (hb hby d_jdk_52_method_21_20) rfl (flt (hp3 : ¬ ((255 : Int32) < c1))).2.2.2 (by decide) (by decide) kK) ?_
  show OwnFin p e below _ (T3.setTop (mkF m 26 #[.val (.ref ar), .val (.int (1 : Int32)), .val (.ref yb), .val (.int (1 : Int32)), .val (.int (2 : Int32)), .val (.int (1 : Int32)), .val (.int c1)] []))
  refine OwnFin.step (fun tT kK => XS.aloadN X3.here hx rfl (hb hby d_jdk_52_method_21_26) rfl rfl kK) ?_
  show OwnFin p e below _ (T3.setTop (mkF m 27 #[.val (.ref ar), .val (.int (1 : Int32)), .val (.ref yb), .val (.int (1 : Int32)), .val (.int (2 : Int32)), .val (.int (1 : Int32)), .val (.int c1)] [(.ref yb)]))
  refine OwnFin.step (fun tT kK => XS.iloadN X3.here hx rfl (hb hby d_jdk_52_method_21_27) rfl kK) ?_
  refine OwnFin.step (fun tT kK => XS.iload X3.here hx rfl (hb hby d_jdk_52_method_21_28) rfl kK) ?_
  show OwnFin p e below _ (T3.setTop (mkF m 30 #[.val (.ref ar), .val (.int (1 : Int32)), .val (.ref yb), .val (.int (1 : Int32)), .val (.int (2 : Int32)), .val (.int (1 : Int32)), .val (.int c1)] [(.int c1), (.int (1 : Int32)), (.ref yb)]))
  refine OwnFin.step (fun tT kK => XS.i2b X3.here hx rfl (hb hby d_jdk_52_method_21_30) rfl kK) ?_
  obtain ⟨cl7, Ar7, q7, Sz7, Ng7, H7, G7⟩ := id V3
  have hin7 : ¬ ((1 : Int32) < 0 ∨ cl7.slots.size ≤ ((1 : Int32)).toNatClampNeg) := inb_of Sz7 ⟨by decide, by decide⟩
  obtain ⟨T8, h8, X8, e8, W8, st8⟩ := stB X3 hx hZ e3 Ar7 (j := (1 : Int32)) hin7 (g := (mkF m 31 #[.val (.ref ar), .val (.int (1 : Int32)), .val (.ref yb), .val (.int (1 : Int32)), .val (.int (2 : Int32)), .val (.int (1 : Int32)), .val (.int c1)] [(.int (c1.toInt8.toInt32)), (.int (1 : Int32)), (.ref yb)])) rfl rfl (hb hby d_jdk_52_method_21_31)
  refine OwnFin.step st8 ?_
  have N8 := Fr.snoc X8 N3 hp4
  have V8 : Arv Z h8 yb kb .byte (2 : Int32) [(.int (nar .byte (c0.toInt8.toInt32))), (.int (nar .byte (c1.toInt8.toInt32)))] (.int (0 : Int32)) := Arv.set Ar7 q7 Sz7 Ng7 H7 G7 (fits_nar_byte _) W8 1 rfl (Nat.le_of_ble_eq_true rfl)
  show OwnFin p e below _ (T8.setTop (mkF m 32 #[.val (.ref ar), .val (.int (1 : Int32)), .val (.ref yb), .val (.int (1 : Int32)), .val (.int (2 : Int32)), .val (.int (1 : Int32)), .val (.int c1)] []))
  refine OwnFin.step (fun tT kK => XS.iinc X8.here hx rfl (hb hby d_jdk_52_method_21_32) rfl (l' := #[.val (.ref ar), .val (.int (2 : Int32)), .val (.ref yb), .val (.int (1 : Int32)), .val (.int (2 : Int32)), .val (.int (1 : Int32)), .val (.int c1)]) rfl kK) ?_
  show OwnFin p e below _ (T8.setTop (mkF m 35 #[.val (.ref ar), .val (.int (2 : Int32)), .val (.ref yb), .val (.int (1 : Int32)), .val (.int (2 : Int32)), .val (.int (1 : Int32)), .val (.int c1)] []))
  refine OwnFin.step (fun tT kK => XS.iinc X8.here hx rfl (hb hby d_jdk_52_method_21_35) rfl (l' := #[.val (.ref ar), .val (.int (2 : Int32)), .val (.ref yb), .val (.int (2 : Int32)), .val (.int (2 : Int32)), .val (.int (1 : Int32)), .val (.int c1)]) rfl kK) ?_
  refine OwnFin.step (fun tT kK => XS.iinc X8.here hx rfl (hb hby d_jdk_52_method_21_38) rfl (l' := #[.val (.ref ar), .val (.int (2 : Int32)), .val (.ref yb), .val (.int (2 : Int32)), .val (.int (2 : Int32)), .val (.int (2 : Int32)), .val (.int c1)]) rfl kK) ?_
  show OwnFin p e below _ (T8.setTop (mkF m 41 #[.val (.ref ar), .val (.int (2 : Int32)), .val (.ref yb), .val (.int (2 : Int32)), .val (.int (2 : Int32)), .val (.int (2 : Int32)), .val (.int c1)] []))
  refine OwnFin.step (fun tT kK => XS.goto X8.here hx rfl (pc0 := 41) (pc' := 3) rfl (hb hby d_jdk_52_method_21_41) (by decide) (by decide) kK) ?_
  show OwnFin p e below _ (T8.setTop (mkF m 3 #[.val (.ref ar), .val (.int (2 : Int32)), .val (.ref yb), .val (.int (2 : Int32)), .val (.int (2 : Int32)), .val (.int (2 : Int32)), .val (.int c1)] []))
  refine OwnFin.step (fun tT kK => XS.iload X8.here hx rfl (hb hby d_jdk_52_method_21_3) rfl kK) ?_
  refine OwnFin.step (fun tT kK => XS.iload X8.here hx rfl (hb hby d_jdk_52_method_21_5) rfl kK) ?_
  show OwnFin p e below _ (T8.setTop (mkF m 7 #[.val (.ref ar), .val (.int (2 : Int32)), .val (.ref yb), .val (.int (2 : Int32)), .val (.int (2 : Int32)), .val (.int (2 : Int32)), .val (.int c1)] [(.int (2 : Int32)), (.int (2 : Int32))]))
  refine OwnFin.step (fun tT kK => XS.icmpYes X8.here hx rfl (pc0 := 7) (pc' := 44) rfl (hb hby d_jdk_52_method_21_7) rfl (flt (by decide : ¬ ((2 : Int32) < (2 : Int32)))).2.1 (by decide) (by decide) kK) ?_
  show OwnFin p e below _ (T8.setTop (mkF m 44 #[.val (.ref ar), .val (.int (2 : Int32)), .val (.ref yb), .val (.int (2 : Int32)), .val (.int (2 : Int32)), .val (.int (2 : Int32)), .val (.int c1)] []))
  refine OwnFin.step (fun tT kK => XS.iload X8.here hx rfl (hb hby d_jdk_52_method_21_44) rfl kK) ?_
  obtain ⟨fs9, hr9, hrun9, hended9, hW9, hsame9⟩ := X8.leave (v := (some (.int (2 : Int32)))) (fun h => by rw [Bd.returns] at h; cases h)
  refine ⟨_, _, retOut X8 hx Bd.returns rfl (Or.inl ⟨rfl, Or.inl rfl, _, rfl⟩) (hb hby d_jdk_52_method_21_46) hr9, hrun9, hended9, _, _, rfl, ?_, ⟨_, rfl⟩, hW9, hsame9.mono (by decide) (by decide)⟩
  show Q82a Z ar yb k kb c0 c1 h0 n0 _ T8.heap _
  rw [e8]
  exact ⟨rfl, N8, (((Keep.refl h0 [yb]).wr W3 (Or.inl (List.mem_of_getElem? (i := 0) rfl))).wr W8 (Or.inl (List.mem_of_getElem? (i := 0) rfl))), V8⟩
theorem ef_82b (m : MethodId) (ar : Addr) : entryFrame m #[(.ref ar), (.int (0 : Int32)), (.int (2 : Int32))] 6 = mkF m 0 #[.val (.ref ar), .val (.int (0 : Int32)), .val (.int (2 : Int32)), .unset, .unset, .unset] [] := by first | (simp [entryFrame, mkF, argsToLocals, Value.category]; done) | rfl
def Q82b (Z : State) (ar : Addr) (k : ClassId) (c0 : Int32) (c1 : Int32) (h0 : Heap) (n0 : Nat) (vV : Option Value) (hH : Heap) (LL : List Loc) : Prop := ∃ b : Addr, ∃ kb : ClassId, vV = some (.ref b) ∧ Fr n0 LL ∧ Keep h0 hH [] ∧ h0.size ≤ b ∧ (Arv Z hH b kb .byte (2 : Int32) [(.int (nar .byte (c0.toInt8.toInt32))), (.int (nar .byte (c1.toInt8.toInt32)))] (.int (0 : Int32)))
def R82b (Z : State) (ar : Addr) (k : ClassId) (c0 : Int32) (c1 : Int32) (h0 : Heap) (n0 : Nat) (U : State) (oO : Outcome) (U' : State) : Prop := ∃ vV LL, oO = .returned vV ∧ Q82b Z ar k c0 c1 h0 n0 vV U'.heap LL ∧ FrameEnd U oO U' LL ({ frames := 1, cells := 1, slots := 2, locals := 18 } : Room).cells ({ frames := 1, cells := 1, slots := 2, locals := 18 } : Room).slots
set_option maxRecDepth 65536 in
set_option maxHeartbeats 40000000 in
theorem rm82b (l : Launch) (Z : State) (a0 : Array Value) (hw : ∀ d ∈ tables_1, d.before a0 Z = true) (hEL : EW Z a0 OwnEL) (wS : ∀ a ∈ Bundle.stringAtoms, a.before a0 Z = true) (ws : List Jvm.Cond) (ar : Addr) (k : ClassId) (c0 : Int32) (c1 : Int32) (h0 : Heap) (n0 : Nat) (Z0 : n0 ≤ h0.size) (hp0 : Arv Z h0 ar k .char (2 : Int32) [(.int c0), (.int c1)] (.int (0 : Int32))) (hp1 : ¬ (255 : Int32) < c0) (hp2 : ¬ (255 : Int32) < c1) :
    MetFree l (⟨"java/lang/StringUTF16", "compress", "([CII)[B"⟩ : MethodName) (head1 (Jvm.Cond.code (⟨"java/lang/StringUTF16", "compress", "([CII)[B"⟩ : MethodName) jdk_52_method_16_code 6 (some (.array .byte)) :: ws) ({ frames := 1, cells := 1, slots := 2, locals := 18 } : Room)) (fun aA U => aA = #[(.ref ar), (.int (0 : Int32)), (.int (2 : Int32))] ∧ Z.Warmed39 U.vm ∧ U.heap = h0) (fun _ _ _ _ _ => True) (fun _ U oO U' => ∃ vV LL, oO = .returned vV ∧ Q82b Z ar k c0 c1 h0 n0 vV U'.heap LL ∧ FrameEnd U oO U' LL ({ frames := 1, cells := 1, slots := 2, locals := 18 } : Room).cells ({ frames := 1, cells := 1, slots := 2, locals := 18 } : Room).slots) := by
  refine MetFree.of_bodySF (plainFor_of_name pn_183) hisR ?_
  intro p e s m args below meth cC s₁ Bd hml0 hP hK
  obtain ⟨rfl, hZ, hh⟩ := hP
  have hx := Bd.exec
  have hby := Bd.bytes
  have hml : cC.maxLocals = 6 := hml0
  have hown : s.vm.findClass "java/lang/StringUTF16" = some m.cls := findClass_of_methodNamed Bd.named
  have hnm := (name_of_methodNamed Bd.named Bd.method).1
  have X0 : Stand p l e ({ frames := 1, cells := 1, slots := 2, locals := 18 } : Room) s m #[(.ref ar), (.int (0 : Int32)), (.int (2 : Int32))] below meth cC s₁ [] 0 0 := Stand.of_body Bd
  have e0 : s₁.heap = h0 := by rw [← hh, Bd.state]; rfl
  have N0 := Fr.nil n0
  have Kp0 := Keep.refl h0 []
  show OwnFin p e below (R82b Z ar k c0 c1 h0 n0 s) (s₁.setTop (entryFrame m #[(.ref ar), (.int (0 : Int32)), (.int (2 : Int32))] 6))
  rw [ef_82b m ar]
  refine OwnFin.step (fun tT kK => XS.iloadN X0.here hx rfl (hb hby d_jdk_52_method_16_0) rfl kK) ?_
  obtain ⟨T1, h1, k1, X1, e1, E1, A1, st1⟩ := newP X0 hx hZ (hw _ (List.mem_of_getElem? (i := 19) rfl)) e0 (g := (mkF m 1 #[.val (.ref ar), .val (.int (0 : Int32)), .val (.int (2 : Int32)), .unset, .unset, .unset] [(.int (2 : Int32))])) rfl (hb hby d_jdk_52_method_16_1) rfl (by decide) (cap := 2) (by decide) (by decide) (by decide) (by decide)
  obtain ⟨b1, g1⟩ : ∃ z, z = h0.size := ⟨_, rfl⟩
  rw [← g1] at A1 st1
  refine OwnFin.step st1 ?_
  have sz_b1 : h0.size ≤ b1 := Nat.le_trans Kp0.1 (Nat.le_of_eq g1.symm)
  have Kp2 := Kp0.ext E1
  have V1 : Arv Z h1 b1 k1 .byte (2 : Int32) [(.int (0 : Int32)), (.int (0 : Int32))] (.int (0 : Int32)) := (Arv.new A1 (by decide)).pad (pad_rep [] (.int (0 : Int32)) 2)
  show OwnFin p e below _ (T1.setTop (mkF m 3 #[.val (.ref ar), .val (.int (0 : Int32)), .val (.int (2 : Int32)), .unset, .unset, .unset] [(.ref b1)]))
  refine OwnFin.step (fun tT kK => XS.astoreN X1.here hx rfl (hb hby d_jdk_52_method_16_3) rfl rfl (l' := #[.val (.ref ar), .val (.int (0 : Int32)), .val (.int (2 : Int32)), .val (.ref b1), .unset, .unset]) rfl kK) ?_
  show OwnFin p e below _ (T1.setTop (mkF m 4 #[.val (.ref ar), .val (.int (0 : Int32)), .val (.int (2 : Int32)), .val (.ref b1), .unset, .unset] []))
  refine OwnFin.step (fun tT kK => XS.aloadN X1.here hx rfl (hb hby d_jdk_52_method_16_4) rfl rfl kK) ?_
  refine OwnFin.step (fun tT kK => XS.iloadN X1.here hx rfl (hb hby d_jdk_52_method_16_5) rfl kK) ?_
  show OwnFin p e below _ (T1.setTop (mkF m 6 #[.val (.ref ar), .val (.int (0 : Int32)), .val (.int (2 : Int32)), .val (.ref b1), .unset, .unset] [(.int (0 : Int32)), (.ref ar)]))
  refine OwnFin.step (fun tT kK => XS.aloadN X1.here hx rfl (hb hby d_jdk_52_method_16_6) rfl rfl kK) ?_
  refine OwnFin.step (fun tT kK => XS.iconst X1.here hx rfl (hb hby d_jdk_52_method_16_7) kK) ?_
  show OwnFin p e below _ (T1.setTop (mkF m 8 #[.val (.ref ar), .val (.int (0 : Int32)), .val (.int (2 : Int32)), .val (.ref b1), .unset, .unset] [(.int (0 : Int32)), (.ref b1), (.int (0 : Int32)), (.ref ar)]))
  refine OwnFin.step (fun tT kK => XS.iloadN X1.here hx rfl (hb hby d_jdk_52_method_16_8) rfl kK) ?_
  have f3 : Arv Z h1 ar k .char (2 : Int32) [(.int c0), (.int c1)] (.int (0 : Int32)) := (hp0.keep Kp2 nin0)
  obtain ⟨_, _, ⟨T4, L4, k4, n4⟩, -, X4, ⟨Lc4, hQ4, l4, y4, z4⟩, st4⟩ := Jvm.LawKit.callS X1 hx (y := (⟨"java/lang/StringUTF16", "compress", "([CI[BII)I"⟩ : MethodName)) hown (mvT hZ (hw _ (List.mem_of_getElem? (i := 20) rfl))) (mvT hZ (hw _ (List.mem_of_getElem? (i := 21) rfl))) (mvT hZ (hw _ (List.mem_of_getElem? (i := 17) rfl))) (mvT hZ (hw _ (List.mem_of_getElem? (i := 22) rfl))) (by decide) (backOf (W := 0) (rm82a l Z a0 hw hEL wS [] ar b1 k k1 c0 c1 h1 n0 (Nat.le_trans Z0 Kp2.1) f3 V1 hp1 hp2 (Nat.le_trans Z0 sz_b1) (Nat.ne_of_lt (Nat.lt_of_lt_of_le hp0.lt sz_b1))) hZ (hw _ (List.mem_of_getElem? (i := 22) rfl)) (hw _ (List.mem_of_getElem? (i := 17) rfl)) (by decide) (by decide)) (g := (mkF m 9 #[.val (.ref ar), .val (.int (0 : Int32)), .val (.int (2 : Int32)), .val (.ref b1), .unset, .unset] [(.int (2 : Int32)), (.int (0 : Int32)), (.ref b1), (.int (0 : Int32)), (.ref ar)])) rfl (by rw [hml]; rfl) (argsL := [(.ref ar), (.int (0 : Int32)), (.ref b1), (.int (0 : Int32)), (.int (2 : Int32))]) (rest := []) (lenOf pd_216 rfl) rfl (by show 2 * 0 + _ ≤ _; exact Nat.le_of_eq rfl) (hb hby d_jdk_52_method_16_9) (fun _ _ => ⟨rfl, e1, (by decide : 1 + 0 ≤ _), (by decide : 2 + 0 ≤ _)⟩)
  dsimp only [Pt.U, Pt.locs, Pt.cells, Pt.slots] at X4 l4 y4 z4 st4 hQ4
  subst l4 y4 z4
  obtain ⟨rfl, N4q, K4, P4_0⟩ := hQ4
  have N4 := Fr.app N0 N4q
  refine OwnFin.step st4 ?_
  have Kp5 := Kp2.trans K4 (allS (P := fun x => x ∈ ([] : List Addr) ∨ h0.size ≤ x) (Or.inr sz_b1) all0)
  show OwnFin p e below _ (T4.setTop (mkF m 12 #[.val (.ref ar), .val (.int (0 : Int32)), .val (.int (2 : Int32)), .val (.ref b1), .unset, .unset] [(.int (2 : Int32))]))
  refine OwnFin.step (fun tT kK => XS.istore X4.here hx rfl (hb hby d_jdk_52_method_16_12) rfl (l' := #[.val (.ref ar), .val (.int (0 : Int32)), .val (.int (2 : Int32)), .val (.ref b1), .val (.int (2 : Int32)), .unset]) rfl kK) ?_
  show OwnFin p e below _ (T4.setTop (mkF m 14 #[.val (.ref ar), .val (.int (0 : Int32)), .val (.int (2 : Int32)), .val (.ref b1), .val (.int (2 : Int32)), .unset] []))
  refine OwnFin.step (fun tT kK => XS.iload X4.here hx rfl (hb hby d_jdk_52_method_16_14) rfl kK) ?_
  refine OwnFin.step (fun tT kK => XS.iloadN X4.here hx rfl (hb hby d_jdk_52_method_16_16) rfl kK) ?_
  show OwnFin p e below _ (T4.setTop (mkF m 17 #[.val (.ref ar), .val (.int (0 : Int32)), .val (.int (2 : Int32)), .val (.ref b1), .val (.int (2 : Int32)), .unset] [(.int (2 : Int32)), (.int (2 : Int32))]))
  refine OwnFin.step (fun tT kK => XS.icmpYes X4.here hx rfl (pc0 := 17) (pc' := 57) rfl (hb hby d_jdk_52_method_16_17) rfl (teq (rfl : (2 : Int32) = (2 : Int32))).1 (by decide) (by decide) kK) ?_
  show OwnFin p e below _ (T4.setTop (mkF m 57 #[.val (.ref ar), .val (.int (0 : Int32)), .val (.int (2 : Int32)), .val (.ref b1), .val (.int (2 : Int32)), .unset] []))
  refine OwnFin.step (fun tT kK => XS.aloadN X4.here hx rfl (hb hby d_jdk_52_method_16_57) rfl rfl kK) ?_
  obtain ⟨fs6, hr6, hrun6, hended6, hW6, hsame6⟩ := X4.leave (v := (some (.ref b1))) (fun h => by rw [Bd.returns] at h; cases h)
  refine ⟨_, _, retOut X4 hx Bd.returns rfl (Or.inr (Or.inr (Or.inr (Or.inr ⟨rfl, rfl, rfl⟩)))) (hb hby d_jdk_52_method_16_58) hr6, hrun6, hended6, _, _, rfl, ?_, ⟨_, rfl⟩, hW6, hsame6.mono (by decide) (by decide)⟩
  show Q82b Z ar k c0 c1 h0 n0 _ T4.heap _
  exact ⟨b1, k1, rfl, N4, Kp5, sz_b1, P4_0⟩
theorem ef_82c (m : MethodId) (b : Addr) : entryFrame m #[(.ref b), (.int (2 : Int32))] 2 = mkF m 0 #[.val (.ref b), .val (.int (2 : Int32))] [] := by first | (simp [entryFrame, mkF, argsToLocals, Value.category]; done) | rfl
def Q82c (Z : State) (b : Addr) (kb : ClassId) (c0 : Int32) (c1 : Int32) (h0 : Heap) (n0 : Nat) (vV : Option Value) (hH : Heap) (LL : List Loc) : Prop := vV = some (.int (0 : Int32)) ∧ Fr n0 LL ∧ hH = h0
def R82c (Z : State) (b : Addr) (kb : ClassId) (c0 : Int32) (c1 : Int32) (h0 : Heap) (n0 : Nat) (U : State) (oO : Outcome) (U' : State) : Prop := ∃ vV LL, oO = .returned vV ∧ Q82c Z b kb c0 c1 h0 n0 vV U'.heap LL ∧ FrameEnd U oO U' LL ({ frames := 0, cells := 0, slots := 0, locals := 0 } : Room).cells ({ frames := 0, cells := 0, slots := 0, locals := 0 } : Room).slots
set_option maxRecDepth 65536 in
set_option maxHeartbeats 40000000 in
theorem rm82c (l : Launch) (Z : State) (a0 : Array Value) (hw : ∀ d ∈ tables_1, d.before a0 Z = true) (hEL : EW Z a0 OwnEL) (wS : ∀ a ∈ Bundle.stringAtoms, a.before a0 Z = true) (ws : List Jvm.Cond) (b : Addr) (kb : ClassId) (c0 : Int32) (c1 : Int32) (h0 : Heap) (n0 : Nat) (Z0 : n0 ≤ h0.size) (hp0 : Arv Z h0 b kb .byte (2 : Int32) [(.int (nar .byte (c0.toInt8.toInt32))), (.int (nar .byte (c1.toInt8.toInt32)))] (.int (0 : Int32))) :
    MetFree l (⟨"java/lang/StringUTF16", "coderFromArrayLen", "([BI)B"⟩ : MethodName) (head1 (Jvm.Cond.code (⟨"java/lang/StringUTF16", "coderFromArrayLen", "([BI)B"⟩ : MethodName) jdk_52_method_15_code 2 (some .byte) :: ws) ({ frames := 0, cells := 0, slots := 0, locals := 0 } : Room)) (fun aA U => aA = #[(.ref b), (.int (2 : Int32))] ∧ Z.Warmed39 U.vm ∧ U.heap = h0) (fun _ _ _ _ _ => True) (fun _ U oO U' => ∃ vV LL, oO = .returned vV ∧ Q82c Z b kb c0 c1 h0 n0 vV U'.heap LL ∧ FrameEnd U oO U' LL ({ frames := 0, cells := 0, slots := 0, locals := 0 } : Room).cells ({ frames := 0, cells := 0, slots := 0, locals := 0 } : Room).slots) := by
  refine MetFree.of_bodySF (plainFor_of_name pn_183) hisR ?_
  intro p e s m args below meth cC s₁ Bd hml0 hP hK
  obtain ⟨rfl, hZ, hh⟩ := hP
  have hx := Bd.exec
  have hby := Bd.bytes
  have hml : cC.maxLocals = 2 := hml0
  have hown : s.vm.findClass "java/lang/StringUTF16" = some m.cls := findClass_of_methodNamed Bd.named
  have hnm := (name_of_methodNamed Bd.named Bd.method).1
  have X0 : Stand p l e ({ frames := 0, cells := 0, slots := 0, locals := 0 } : Room) s m #[(.ref b), (.int (2 : Int32))] below meth cC s₁ [] 0 0 := Stand.of_body Bd
  have e0 : s₁.heap = h0 := by rw [← hh, Bd.state]; rfl
  have N0 := Fr.nil n0
  have Kp0 := Keep.refl h0 []
  show OwnFin p e below (R82c Z b kb c0 c1 h0 n0 s) (s₁.setTop (entryFrame m #[(.ref b), (.int (2 : Int32))] 2))
  rw [ef_82c m b]
  refine OwnFin.step (fun tT kK => XS.iloadN X0.here hx rfl (hb hby d_jdk_52_method_15_0) rfl kK) ?_
  refine OwnFin.step (fun tT kK => XS.aloadN X0.here hx rfl (hb hby d_jdk_52_method_15_1) rfl rfl kK) ?_
  show OwnFin p e below _ (s₁.setTop (mkF m 2 #[.val (.ref b), .val (.int (2 : Int32))] [(.ref b), (.int (2 : Int32))]))
  obtain ⟨cl1, Ar1, -, Sz1, Ng1, -, -⟩ := id hp0
  refine OwnFin.step (fun tT kK => own_len X0 hx hZ e0 Ar1 Sz1 Ng1 (g := (mkF m 2 #[.val (.ref b), .val (.int (2 : Int32))] [(.ref b), (.int (2 : Int32))])) rfl rfl (hb hby d_jdk_52_method_15_2) kK) ?_
  refine OwnFin.step (fun tT kK => XS.isub X0.here hx rfl (hb hby d_jdk_52_method_15_3) rfl kK) ?_
  show OwnFin p e below _ (s₁.setTop (mkF m 4 #[.val (.ref b), .val (.int (2 : Int32))] [(.int (0 : Int32))]))
  refine OwnFin.step (fun tT kK => XS.bipush X0.here hx rfl (hb hby d_jdk_52_method_15_4) kK) ?_
  refine OwnFin.step (fun tT kK => XS.iushr X0.here hx rfl (hb hby d_jdk_52_method_15_6) rfl kK) ?_
  show OwnFin p e below _ (s₁.setTop (mkF m 7 #[.val (.ref b), .val (.int (2 : Int32))] [(.int (0 : Int32))]))
  refine OwnFin.step (fun tT kK => XS.i2b X0.here hx rfl (hb hby d_jdk_52_method_15_7) rfl kK) ?_
  obtain ⟨fs2, hr2, hrun2, hended2, hW2, hsame2⟩ := X0.leave (v := (some (.int (0 : Int32)))) (fun h => by rw [Bd.returns] at h; cases h)
  refine ⟨_, _, retN X0 hx (t := .byte) Bd.returns (by simp) (hb hby d_jdk_52_method_15_8) hr2, hrun2, hended2, _, _, rfl, ?_, ⟨_, rfl⟩, hW2, hsame2.mono (by decide) (by decide)⟩
  show Q82c Z b kb c0 c1 h0 n0 _ s₁.heap _
  rw [e0]
  exact ⟨rfl, N0, rfl⟩
theorem ef_82d (m : MethodId) (a : Addr) (ar : Addr) : entryFrame m #[(.ref a), (.ref ar), (.int (0 : Int32)), (.int (2 : Int32)), .null] 6 = mkF m 0 #[.val (.ref a), .val (.ref ar), .val (.int (0 : Int32)), .val (.int (2 : Int32)), .val .null, .unset] [] := by first | (simp [entryFrame, mkF, argsToLocals, Value.category]; done) | rfl
def Q82d (Z : State) (a : Addr) (ar : Addr) (k : ClassId) (cs : Int32) (c0 : Int32) (c1 : Int32) (h0 : Heap) (n0 : Nat) (vV : Option Value) (hH : Heap) (LL : List Loc) : Prop := ∃ b : Addr, ∃ kb : ClassId, vV = none ∧ Fr n0 LL ∧ Keep h0 hH [a] ∧ h0.size ≤ b ∧ (Exa Z hH a "java/lang/String") ∧ (Fld Z hH a "java/lang/String" "value" "[B" (.ref b)) ∧ (Fld Z hH a "java/lang/String" "coder" "B" (.int (0 : Int32))) ∧ (Arv Z hH b kb .byte (2 : Int32) [(.int (nar .byte (c0.toInt8.toInt32))), (.int (nar .byte (c1.toInt8.toInt32)))] (.int (0 : Int32)))
def R82d (Z : State) (a : Addr) (ar : Addr) (k : ClassId) (cs : Int32) (c0 : Int32) (c1 : Int32) (h0 : Heap) (n0 : Nat) (U : State) (oO : Outcome) (U' : State) : Prop := ∃ vV LL, oO = .returned vV ∧ Q82d Z a ar k cs c0 c1 h0 n0 vV U'.heap LL ∧ FrameEnd U oO U' LL ({ frames := 2, cells := 1, slots := 2, locals := 35 } : Room).cells ({ frames := 2, cells := 1, slots := 2, locals := 35 } : Room).slots
set_option maxRecDepth 65536 in
set_option maxHeartbeats 40000000 in
theorem rm82d (l : Launch) (Z : State) (a0 : Array Value) (hw : ∀ d ∈ tables_1, d.before a0 Z = true) (hEL : EW Z a0 OwnEL) (wS : ∀ a ∈ Bundle.stringAtoms, a.before a0 Z = true) (ws : List Jvm.Cond) (a : Addr) (ar : Addr) (k : ClassId) (cs : Int32) (c0 : Int32) (c1 : Int32) (h0 : Heap) (n0 : Nat) (Z0 : n0 ≤ h0.size) (hp0 : Exa Z h0 a "java/lang/String") (hp1 : Fld Z h0 a "java/lang/String" "value" "[B" .null) (hp2 : Fld Z h0 a "java/lang/String" "coder" "B" (.int (0 : Int32))) (hp3 : n0 ≤ a) (hp4 : Arv Z h0 ar k .char (2 : Int32) [(.int c0), (.int c1)] (.int (0 : Int32))) (hp5 : Sta Z h0 "java/lang/String" "COMPACT_STRINGS" "Z" (.int cs)) (hp6 : ¬ cs = (0 : Int32)) (hp7 : ¬ (255 : Int32) < c0) (hp8 : ¬ (255 : Int32) < c1) :
    MetFree l (⟨"java/lang/String", "<init>", "([CIILjava/lang/Void;)V"⟩ : MethodName) (head1 (Jvm.Cond.code (⟨"java/lang/String", "<init>", "([CIILjava/lang/Void;)V"⟩ : MethodName) jdk_42_method_149_code 6 none :: ws) ({ frames := 2, cells := 1, slots := 2, locals := 35 } : Room)) (fun aA U => aA = #[(.ref a), (.ref ar), (.int (0 : Int32)), (.int (2 : Int32)), .null] ∧ Z.Warmed39 U.vm ∧ U.heap = h0) (fun _ _ _ _ _ => True) (fun _ U oO U' => ∃ vV LL, oO = .returned vV ∧ Q82d Z a ar k cs c0 c1 h0 n0 vV U'.heap LL ∧ FrameEnd U oO U' LL ({ frames := 2, cells := 1, slots := 2, locals := 35 } : Room).cells ({ frames := 2, cells := 1, slots := 2, locals := 35 } : Room).slots) := by
  refine MetFree.of_bodySF (plainFor_of_name pn_14) hisR ?_
  intro p e s m args below meth cC s₁ Bd hml0 hP hK
  obtain ⟨rfl, hZ, hh⟩ := hP
  have hx := Bd.exec
  have hby := Bd.bytes
  have hml : cC.maxLocals = 6 := hml0
  have hown : s.vm.findClass "java/lang/String" = some m.cls := findClass_of_methodNamed Bd.named
  have hnm := (name_of_methodNamed Bd.named Bd.method).1
  have X0 : Stand p l e ({ frames := 2, cells := 1, slots := 2, locals := 35 } : Room) s m #[(.ref a), (.ref ar), (.int (0 : Int32)), (.int (2 : Int32)), .null] below meth cC s₁ [] 0 0 := Stand.of_body Bd
  have e0 : s₁.heap = h0 := by rw [← hh, Bd.state]; rfl
  have N0 := Fr.nil n0
  have Kp0 := Keep.refl h0 []
  show OwnFin p e below (R82d Z a ar k cs c0 c1 h0 n0 s) (s₁.setTop (entryFrame m #[(.ref a), (.ref ar), (.int (0 : Int32)), (.int (2 : Int32)), .null] 6))
  rw [ef_82d m a ar]
  refine OwnFin.step (fun tT kK => XS.aloadN X0.here hx rfl (hb hby d_jdk_42_method_149_0) rfl rfl kK) ?_
  obtain ⟨T1, X1, e1, st1⟩ := initO X0 hx hZ hown (hw _ (List.mem_of_getElem? (i := 11) rfl)) (hw _ (List.mem_of_getElem? (i := 12) rfl)) (hw _ (List.mem_of_getElem? (i := 13) rfl)) e0 (g := (mkF m 1 #[.val (.ref a), .val (.ref ar), .val (.int (0 : Int32)), .val (.int (2 : Int32)), .val .null, .unset] [(.ref a)])) rfl (by rw [hml]; rfl) rfl (hb hby d_jdk_42_method_149_1) (by decide) (W := 0) (by show 2 * 0 + _ ≤ _; exact Nat.le_of_eq rfl) (by decide)
  refine OwnFin.step st1 ?_
  show OwnFin p e below _ (T1.setTop (mkF m 4 #[.val (.ref a), .val (.ref ar), .val (.int (0 : Int32)), .val (.int (2 : Int32)), .val .null, .unset] []))
  refine OwnFin.step (fun tT kK => XS.iloadN X1.here hx rfl (hb hby d_jdk_42_method_149_4) rfl kK) ?_
  refine OwnFin.step (fun tT kK => XS.ifYes X1.here hx rfl (pc0 := 5) (pc' := 27) rfl (hb hby d_jdk_42_method_149_5) rfl ((if0 _ _).trans (feq (by decide : ¬ ((2 : Int32) = (0 : Int32)))).2) (by decide) (by decide) kK) ?_
  show OwnFin p e below _ (T1.setTop (mkF m 27 #[.val (.ref a), .val (.ref ar), .val (.int (0 : Int32)), .val (.int (2 : Int32)), .val .null, .unset] []))
  obtain ⟨T2, X2, e2, st2⟩ := getS2 X1 hx hZ hown (host := "") (Or.inl (hw _ (List.mem_of_getElem? (i := 14) rfl))) Via.refl e1 hp5 (g := (mkF m 27 #[.val (.ref a), .val (.ref ar), .val (.int (0 : Int32)), .val (.int (2 : Int32)), .val .null, .unset] [])) rfl (hb hby d_jdk_42_method_149_27)
  refine OwnFin.step st2 ?_
  show OwnFin p e below _ (T2.setTop (mkF m 30 #[.val (.ref a), .val (.ref ar), .val (.int (0 : Int32)), .val (.int (2 : Int32)), .val .null, .unset] [(.int cs)]))
  refine OwnFin.step (fun tT kK => XS.ifNo X2.here hx rfl (hb hby d_jdk_42_method_149_30) rfl ((if0 _ _).trans (feq (hp6 : ¬ (cs = (0 : Int32)))).1) kK) ?_
  show OwnFin p e below _ (T2.setTop (mkF m 33 #[.val (.ref a), .val (.ref ar), .val (.int (0 : Int32)), .val (.int (2 : Int32)), .val .null, .unset] []))
  refine OwnFin.step (fun tT kK => XS.aloadN X2.here hx rfl (hb hby d_jdk_42_method_149_33) rfl rfl kK) ?_
  refine OwnFin.step (fun tT kK => XS.iloadN X2.here hx rfl (hb hby d_jdk_42_method_149_34) rfl kK) ?_
  show OwnFin p e below _ (T2.setTop (mkF m 35 #[.val (.ref a), .val (.ref ar), .val (.int (0 : Int32)), .val (.int (2 : Int32)), .val .null, .unset] [(.int (0 : Int32)), (.ref ar)]))
  refine OwnFin.step (fun tT kK => XS.iloadN X2.here hx rfl (hb hby d_jdk_42_method_149_35) rfl kK) ?_
  obtain ⟨_, _, ⟨T3, L3, k3, n3⟩, -, X3, ⟨Lc3, hQ3, l3, y3, z3⟩, st3⟩ := Jvm.LawKit.callS X2 hx (y := (⟨"java/lang/StringUTF16", "compress", "([CII)[B"⟩ : MethodName)) hown (mvT hZ (hw _ (List.mem_of_getElem? (i := 15) rfl))) (mvT hZ (hw _ (List.mem_of_getElem? (i := 16) rfl))) (mvT hZ (hw _ (List.mem_of_getElem? (i := 17) rfl))) (mvT hZ (hw _ (List.mem_of_getElem? (i := 18) rfl))) (by decide) (backOf (W := 0) (rm82b l Z a0 hw hEL wS [] ar k c0 c1 h0 n0 (Nat.le_trans Z0 Kp0.1) hp4 hp7 hp8) hZ (hw _ (List.mem_of_getElem? (i := 18) rfl)) (hw _ (List.mem_of_getElem? (i := 17) rfl)) (by decide) (by decide)) (g := (mkF m 36 #[.val (.ref a), .val (.ref ar), .val (.int (0 : Int32)), .val (.int (2 : Int32)), .val .null, .unset] [(.int (2 : Int32)), (.int (0 : Int32)), (.ref ar)])) rfl (by rw [hml]; rfl) (argsL := [(.ref ar), (.int (0 : Int32)), (.int (2 : Int32))]) (rest := []) (lenOf pd_241 rfl) rfl (by show 2 * 0 + _ ≤ _; exact Nat.le_of_eq rfl) (hb hby d_jdk_42_method_149_36) (fun _ _ => ⟨rfl, e2, (by decide : 0 + 1 ≤ _), (by decide : 0 + 2 ≤ _)⟩)
  dsimp only [Pt.U, Pt.locs, Pt.cells, Pt.slots] at X3 l3 y3 z3 st3 hQ3
  subst l3 y3 z3
  obtain ⟨b4, ⟨kb5, ⟨rfl, N3q, K3, B3_0, P3_0⟩⟩⟩ := hQ3
  have N3 := Fr.app N0 N3q
  refine OwnFin.step st3 ?_
  have E3 : Ext h0 T3.heap := ⟨K3.1, fun x c q => K3.2.1 x c q nin0⟩
  have sz_b4 : h0.size ≤ b4 := Nat.le_trans Kp0.1 B3_0
  have Kp6 := Kp0.ext E3
  show OwnFin p e below _ (T3.setTop (mkF m 39 #[.val (.ref a), .val (.ref ar), .val (.int (0 : Int32)), .val (.int (2 : Int32)), .val .null, .unset] [(.ref b4)]))
  refine OwnFin.step (fun tT kK => XS.astore X3.here hx rfl (hb hby d_jdk_42_method_149_39) rfl rfl (l' := #[.val (.ref a), .val (.ref ar), .val (.int (0 : Int32)), .val (.int (2 : Int32)), .val .null, .val (.ref b4)]) rfl kK) ?_
  show OwnFin p e below _ (T3.setTop (mkF m 41 #[.val (.ref a), .val (.ref ar), .val (.int (0 : Int32)), .val (.int (2 : Int32)), .val .null, .val (.ref b4)] []))
  refine OwnFin.step (fun tT kK => XS.aloadN X3.here hx rfl (hb hby d_jdk_42_method_149_41) rfl rfl kK) ?_
  refine OwnFin.step (fun tT kK => XS.aload X3.here hx rfl (hb hby d_jdk_42_method_149_42) rfl rfl kK) ?_
  show OwnFin p e below _ (T3.setTop (mkF m 44 #[.val (.ref a), .val (.ref ar), .val (.int (0 : Int32)), .val (.int (2 : Int32)), .val .null, .val (.ref b4)] [(.ref b4), (.ref a)]))
  refine OwnFin.step (fun tT kK => XS.iloadN X3.here hx rfl (hb hby d_jdk_42_method_149_44) rfl kK) ?_
  obtain ⟨_, _, ⟨T7, L7, k7, n7⟩, -, X7, ⟨Lc7, hQ7, l7, y7, z7⟩, st7⟩ := Jvm.LawKit.callS X3 hx (y := (⟨"java/lang/StringUTF16", "coderFromArrayLen", "([BI)B"⟩ : MethodName)) hown (mvT hZ (hw _ (List.mem_of_getElem? (i := 23) rfl))) (mvT hZ (hw _ (List.mem_of_getElem? (i := 24) rfl))) (mvT hZ (hw _ (List.mem_of_getElem? (i := 17) rfl))) (mvT hZ (hw _ (List.mem_of_getElem? (i := 25) rfl))) (by decide) (backOf (W := 1) (rm82c l Z a0 hw hEL wS [] b4 kb5 c0 c1 T3.heap n0 (Nat.le_trans Z0 Kp6.1) P3_0) hZ (hw _ (List.mem_of_getElem? (i := 25) rfl)) (hw _ (List.mem_of_getElem? (i := 17) rfl)) (by decide) (by decide)) (g := (mkF m 45 #[.val (.ref a), .val (.ref ar), .val (.int (0 : Int32)), .val (.int (2 : Int32)), .val .null, .val (.ref b4)] [(.int (2 : Int32)), (.ref b4), (.ref a)])) rfl (by rw [hml]; rfl) (argsL := [(.ref b4), (.int (2 : Int32))]) (rest := [(.ref a)]) (lenOf pd_247 rfl) rfl (by show 2 * 0 + _ ≤ _; exact Nat.le_of_eq rfl) (hb hby d_jdk_42_method_149_45) (fun _ _ => ⟨rfl, rfl, (by decide : 1 + 0 ≤ _), (by decide : 2 + 0 ≤ _)⟩)
  dsimp only [Pt.U, Pt.locs, Pt.cells, Pt.slots] at X7 l7 y7 z7 st7 hQ7
  subst l7 y7 z7
  obtain ⟨rfl, N7q, e7⟩ := hQ7
  have N7 := Fr.app N3 N7q
  refine OwnFin.step st7 ?_
  show OwnFin p e below _ (T7.setTop (mkF m 48 #[.val (.ref a), .val (.ref ar), .val (.int (0 : Int32)), .val (.int (2 : Int32)), .val .null, .val (.ref b4)] [(.int (0 : Int32)), (.ref a)]))
  have f8 : Exa Z T3.heap a "java/lang/String" := (hp0.keep Kp6)
  have f9 : Fld Z T3.heap a "java/lang/String" "coder" "B" (.int (0 : Int32)) := (hp2.keep Kp6 nin0)
  obtain ⟨T10, h10, X10, e10, W10, st10⟩ := putF X7 hx hZ hown (host := "") (Or.inl (hw _ (List.mem_of_getElem? (i := 26) rfl))) Via.refl e7 f9 f8 (Or.inr ⟨(hw _ (List.mem_of_getElem? (i := 27) rfl)), rfl, hnm⟩) (hw _ (List.mem_of_getElem? (i := 1) rfl)) (ty := .byte) (by decide) rfl rfl (g := (mkF m 48 #[.val (.ref a), .val (.ref ar), .val (.int (0 : Int32)), .val (.int (2 : Int32)), .val .null, .val (.ref b4)] [(.int (0 : Int32)), (.ref a)])) rfl rfl (hb hby d_jdk_42_method_149_48)
  refine OwnFin.step st10 ?_
  have N10 := Fr.snoc X10 N7 hp3
  have Fw10 : Fld Z h10 a "java/lang/String" "coder" "B" (.int (0 : Int32)) := f9.same W10
  show OwnFin p e below _ (T10.setTop (mkF m 51 #[.val (.ref a), .val (.ref ar), .val (.int (0 : Int32)), .val (.int (2 : Int32)), .val .null, .val (.ref b4)] []))
  refine OwnFin.step (fun tT kK => XS.aloadN X10.here hx rfl (hb hby d_jdk_42_method_149_51) rfl rfl kK) ?_
  refine OwnFin.step (fun tT kK => XS.aload X10.here hx rfl (hb hby d_jdk_42_method_149_52) rfl rfl kK) ?_
  show OwnFin p e below _ (T10.setTop (mkF m 54 #[.val (.ref a), .val (.ref ar), .val (.int (0 : Int32)), .val (.int (2 : Int32)), .val .null, .val (.ref b4)] [(.ref b4), (.ref a)]))
  have f12 : Exa Z h10 a "java/lang/String" := (f8.wr W10)
  have f13 : Fld Z h10 a "java/lang/String" "value" "[B" .null := ((hp1.ext E3).other W10 (Or.inr (slot_ne (Or.inr (hw _ (List.mem_of_getElem? (i := 29) rfl))) (Or.inr (hw _ (List.mem_of_getElem? (i := 27) rfl))) (by decide) (t := (.array .byte)) (t' := .byte) (by decide) (by decide))))
  obtain ⟨T14, h14, X14, e14, W14, st14⟩ := putF X10 hx hZ hown (host := "") (Or.inl (hw _ (List.mem_of_getElem? (i := 28) rfl))) Via.refl e10 f13 f12 (Or.inr ⟨(hw _ (List.mem_of_getElem? (i := 29) rfl)), rfl, hnm⟩) (hw _ (List.mem_of_getElem? (i := 1) rfl)) (ty := (.array .byte)) (by decide) rfl rfl (g := (mkF m 54 #[.val (.ref a), .val (.ref ar), .val (.int (0 : Int32)), .val (.int (2 : Int32)), .val .null, .val (.ref b4)] [(.ref b4), (.ref a)])) rfl rfl (hb hby d_jdk_42_method_149_54)
  refine OwnFin.step st14 ?_
  have N14 := Fr.snoc X14 N10 hp3
  have Fw14 : Fld Z h14 a "java/lang/String" "value" "[B" (.ref b4) := f13.same W14
  show OwnFin p e below _ (T14.setTop (mkF m 57 #[.val (.ref a), .val (.ref ar), .val (.int (0 : Int32)), .val (.int (2 : Int32)), .val .null, .val (.ref b4)] []))
  have f16 : Exa Z h14 a "java/lang/String" := (f12.wr W14)
  have f17 : Fld Z h14 a "java/lang/String" "coder" "B" (.int (0 : Int32)) := (Fw10.other W14 (Or.inr (slot_ne (Or.inr (hw _ (List.mem_of_getElem? (i := 27) rfl))) (Or.inr (hw _ (List.mem_of_getElem? (i := 29) rfl))) (by decide) (t := .byte) (t' := (.array .byte)) (by decide) (by decide))))
  have f18 : Arv Z h14 b4 kb5 .byte (2 : Int32) [(.int (nar .byte (c0.toInt8.toInt32))), (.int (nar .byte (c1.toInt8.toInt32)))] (.int (0 : Int32)) := ((P3_0.other W10 (Ne.symm (Nat.ne_of_lt (Nat.lt_of_lt_of_le hp0.lt sz_b4)))).other W14 (Ne.symm (Nat.ne_of_lt (Nat.lt_of_lt_of_le hp0.lt sz_b4))))
  obtain ⟨fs15, hr15, hrun15, hended15, hW15, hsame15⟩ := X14.leave (v := none) (fun _ => rfl)
  refine ⟨_, _, X14.returnOut hx Bd.returns (hb hby d_jdk_42_method_149_57) hr15, hrun15, hended15, _, _, rfl, ?_, ⟨_, rfl⟩, hW15, hsame15.mono (by decide) (by decide)⟩
  show Q82d Z a ar k cs c0 c1 h0 n0 _ T14.heap _
  rw [e14]
  exact ⟨b4, kb5, rfl, N14, ((((Keep.refl h0 [a]).ext E3).wr W10 (Or.inl (List.mem_of_getElem? (i := 0) rfl))).wr W14 (Or.inl (List.mem_of_getElem? (i := 0) rfl))), sz_b4, f16, Fw14, f17, f18⟩
theorem ef_82 (m : MethodId) (a : Addr) (ar : Addr) : entryFrame m #[(.ref a), (.ref ar)] 2 = mkF m 0 #[.val (.ref a), .val (.ref ar)] [] := by first | (simp [entryFrame, mkF, argsToLocals, Value.category]; done) | rfl
def Q82 (Z : State) (a : Addr) (ar : Addr) (k : ClassId) (cs : Int32) (c0 : Int32) (c1 : Int32) (h0 : Heap) (n0 : Nat) (vV : Option Value) (hH : Heap) (LL : List Loc) : Prop := ∃ b : Addr, ∃ kb : ClassId, vV = none ∧ Fr n0 LL ∧ Keep h0 hH [a] ∧ h0.size ≤ b ∧ (Exa Z hH a "java/lang/String") ∧ (Fld Z hH a "java/lang/String" "value" "[B" (.ref b)) ∧ (Fld Z hH a "java/lang/String" "coder" "B" (.int (0 : Int32))) ∧ (Arv Z hH b kb .byte (2 : Int32) [(.int (nar .byte (c0.toInt8.toInt32))), (.int (nar .byte (c1.toInt8.toInt32)))] (.int (0 : Int32)))
def R82 (Z : State) (a : Addr) (ar : Addr) (k : ClassId) (cs : Int32) (c0 : Int32) (c1 : Int32) (h0 : Heap) (n0 : Nat) (U : State) (oO : Outcome) (U' : State) : Prop := ∃ vV LL, oO = .returned vV ∧ Q82 Z a ar k cs c0 c1 h0 n0 vV U'.heap LL ∧ FrameEnd U oO U' LL ({ frames := 3, cells := 1, slots := 2, locals := 52 } : Room).cells ({ frames := 3, cells := 1, slots := 2, locals := 52 } : Room).slots
set_option maxRecDepth 65536 in
set_option maxHeartbeats 40000000 in
theorem rm82 (l : Launch) (Z : State) (a0 : Array Value) (hw : ∀ d ∈ tables_1, d.before a0 Z = true) (hEL : EW Z a0 OwnEL) (wS : ∀ a ∈ Bundle.stringAtoms, a.before a0 Z = true) (ws : List Jvm.Cond) (a : Addr) (ar : Addr) (k : ClassId) (cs : Int32) (c0 : Int32) (c1 : Int32) (h0 : Heap) (n0 : Nat) (Z0 : n0 ≤ h0.size) (hp0 : Exa Z h0 a "java/lang/String") (hp1 : Fld Z h0 a "java/lang/String" "value" "[B" .null) (hp2 : Fld Z h0 a "java/lang/String" "coder" "B" (.int (0 : Int32))) (hp3 : n0 ≤ a) (hp4 : Arv Z h0 ar k .char (2 : Int32) [(.int c0), (.int c1)] (.int (0 : Int32))) (hp5 : Sta Z h0 "java/lang/String" "COMPACT_STRINGS" "Z" (.int cs)) (hp6 : ¬ cs = (0 : Int32)) (hp7 : ¬ (255 : Int32) < c0) (hp8 : ¬ (255 : Int32) < c1) :
    MetFree l (⟨"java/lang/String", "<init>", "([C)V"⟩ : MethodName) (head1 (Jvm.Cond.code (⟨"java/lang/String", "<init>", "([C)V"⟩ : MethodName) jdk_42_method_3_code 2 none :: ws) ({ frames := 3, cells := 1, slots := 2, locals := 52 } : Room)) (fun aA U => aA = #[(.ref a), (.ref ar)] ∧ Z.Warmed39 U.vm ∧ U.heap = h0) (fun _ _ _ _ _ => True) (fun _ U oO U' => ∃ vV LL, oO = .returned vV ∧ Q82 Z a ar k cs c0 c1 h0 n0 vV U'.heap LL ∧ FrameEnd U oO U' LL ({ frames := 3, cells := 1, slots := 2, locals := 52 } : Room).cells ({ frames := 3, cells := 1, slots := 2, locals := 52 } : Room).slots) := by
  refine MetFree.of_bodySF (plainFor_of_name pn_14) hisR ?_
  intro p e s m args below meth cC s₁ Bd hml0 hP hK
  obtain ⟨rfl, hZ, hh⟩ := hP
  have hx := Bd.exec
  have hby := Bd.bytes
  have hml : cC.maxLocals = 2 := hml0
  have hown : s.vm.findClass "java/lang/String" = some m.cls := findClass_of_methodNamed Bd.named
  have hnm := (name_of_methodNamed Bd.named Bd.method).1
  have X0 : Stand p l e ({ frames := 3, cells := 1, slots := 2, locals := 52 } : Room) s m #[(.ref a), (.ref ar)] below meth cC s₁ [] 0 0 := Stand.of_body Bd
  have e0 : s₁.heap = h0 := by rw [← hh, Bd.state]; rfl
  have N0 := Fr.nil n0
  have Kp0 := Keep.refl h0 []
  show OwnFin p e below (R82 Z a ar k cs c0 c1 h0 n0 s) (s₁.setTop (entryFrame m #[(.ref a), (.ref ar)] 2))
  rw [ef_82 m a ar]
  refine OwnFin.step (fun tT kK => XS.aloadN X0.here hx rfl (hb hby d_jdk_42_method_3_0) rfl rfl kK) ?_
  refine OwnFin.step (fun tT kK => XS.aloadN X0.here hx rfl (hb hby d_jdk_42_method_3_1) rfl rfl kK) ?_
  show OwnFin p e below _ (s₁.setTop (mkF m 2 #[.val (.ref a), .val (.ref ar)] [(.ref ar), (.ref a)]))
  refine OwnFin.step (fun tT kK => XS.iconst X0.here hx rfl (hb hby d_jdk_42_method_3_2) kK) ?_
  refine OwnFin.step (fun tT kK => XS.aloadN X0.here hx rfl (hb hby d_jdk_42_method_3_3) rfl rfl kK) ?_
  show OwnFin p e below _ (s₁.setTop (mkF m 4 #[.val (.ref a), .val (.ref ar)] [(.ref ar), (.int (0 : Int32)), (.ref ar), (.ref a)]))
  obtain ⟨cl1, Ar1, -, Sz1, Ng1, -, -⟩ := id hp4
  refine OwnFin.step (fun tT kK => own_len X0 hx hZ e0 Ar1 Sz1 Ng1 (g := (mkF m 4 #[.val (.ref a), .val (.ref ar)] [(.ref ar), (.int (0 : Int32)), (.ref ar), (.ref a)])) rfl rfl (hb hby d_jdk_42_method_3_4) kK) ?_
  refine OwnFin.step (fun tT kK => XS.aconstNull X0.here hx rfl (hb hby d_jdk_42_method_3_5) kK) ?_
  show OwnFin p e below _ (s₁.setTop (mkF m 6 #[.val (.ref a), .val (.ref ar)] [.null, (.int (2 : Int32)), (.int (0 : Int32)), (.ref ar), (.ref a)]))
  obtain ⟨_, _, ⟨T2, L2, k2, n2⟩, -, X2, ⟨Lc2, hQ2, l2, y2, z2⟩, st2⟩ := X0.specialBack hx (y := (⟨"java/lang/String", "<init>", "([CIILjava/lang/Void;)V"⟩ : MethodName)) rfl hown (mvT hZ (hw _ (List.mem_of_getElem? (i := 7) rfl))) (mvT hZ (hw _ (List.mem_of_getElem? (i := 8) rfl))) (mvT hZ (hw _ (List.mem_of_getElem? (i := 10) rfl))) (by decide) (backOf (W := 0) (rm82d l Z a0 hw hEL wS [] a ar k cs c0 c1 h0 n0 (Nat.le_trans Z0 Kp0.1) hp0 hp1 hp2 hp3 hp4 hp5 hp6 hp7 hp8) hZ (hw _ (List.mem_of_getElem? (i := 10) rfl)) (hw _ (List.mem_of_getElem? (i := 2) rfl)) (by decide) (by decide)) (g := (mkF m 6 #[.val (.ref a), .val (.ref ar)] [.null, (.int (2 : Int32)), (.int (0 : Int32)), (.ref ar), (.ref a)])) rfl (by rw [hml]; rfl) (Steps.refl _) (a := a) (argsL := [(.ref ar), (.int (0 : Int32)), (.int (2 : Int32)), .null]) (rest := []) (lenOf pd_260 rfl) rfl (by show 2 * 0 + _ ≤ _; exact Nat.le_of_eq rfl) (hb hby d_jdk_42_method_3_6) (fun _ _ => ⟨rfl, e0, (by decide : 0 + 1 ≤ _), (by decide : 0 + 2 ≤ _)⟩)
  dsimp only [Pt.U, Pt.locs, Pt.cells, Pt.slots] at X2 l2 y2 z2 st2 hQ2
  subst l2 y2 z2
  obtain ⟨b3, ⟨kb4, ⟨rfl, N2q, K2, B2_0, P2_0, P2_1, P2_2, P2_3⟩⟩⟩ := hQ2
  have N2 := Fr.app N0 N2q
  refine OwnFin.step (fun tT kK => st2.trans kK) ?_
  have sz_b3 : h0.size ≤ b3 := Nat.le_trans Kp0.1 B2_0
  show OwnFin p e below _ (T2.setTop (mkF m 9 #[.val (.ref a), .val (.ref ar)] []))
  obtain ⟨fs6, hr6, hrun6, hended6, hW6, hsame6⟩ := X2.leave (v := none) (fun _ => rfl)
  refine ⟨_, _, X2.returnOut hx Bd.returns (hb hby d_jdk_42_method_3_9) hr6, hrun6, hended6, _, _, rfl, ?_, ⟨_, rfl⟩, hW6, hsame6.mono (by decide) (by decide)⟩
  show Q82 Z a ar k cs c0 c1 h0 n0 _ T2.heap _
  exact ⟨b3, kb4, rfl, N2, ((Keep.refl h0 [a]).trans K2 (allS (P := fun x => x ∈ [a] ∨ h0.size ≤ x) (Or.inl (List.mem_of_getElem? (i := 0) rfl)) all0)), sz_b3, P2_0, P2_1, P2_2, P2_3⟩
theorem d_jdk_43_method_3_0 : decode jdk_43_method_3_code 0 = .ok (.iload_n 0, 1) := by decide +kernel
theorem d_jdk_43_method_3_1 : decode jdk_43_method_3_code 1 = .ok (.sipush 255, 3) := by decide +kernel
theorem d_jdk_43_method_3_4 : decode jdk_43_method_3_code 4 = .ok (.if_icmp .gt 7, 3) := by decide +kernel
theorem d_jdk_43_method_3_7 : decode jdk_43_method_3_code 7 = .ok (.iconst 1, 1) := by decide +kernel
theorem d_jdk_43_method_3_8 : decode jdk_43_method_3_code 8 = .ok (.goto 4, 3) := by decide +kernel
theorem d_jdk_43_method_3_12 : decode jdk_43_method_3_code 12 = .ok (.ireturn, 1) := by decide +kernel
theorem ef_85a (m : MethodId) (c : Int32) : entryFrame m #[(.int c)] 1 = mkF m 0 #[.val (.int c)] [] := by first | (simp [entryFrame, mkF, argsToLocals, Value.category]; done) | rfl
def Q85a (Z : State) (c : Int32) (h0 : Heap) (n0 : Nat) (vV : Option Value) (hH : Heap) (LL : List Loc) : Prop := vV = some (.int (1 : Int32)) ∧ Fr n0 LL ∧ hH = h0
def R85a (Z : State) (c : Int32) (h0 : Heap) (n0 : Nat) (U : State) (oO : Outcome) (U' : State) : Prop := ∃ vV LL, oO = .returned vV ∧ Q85a Z c h0 n0 vV U'.heap LL ∧ FrameEnd U oO U' LL ({ frames := 0, cells := 0, slots := 0, locals := 0 } : Room).cells ({ frames := 0, cells := 0, slots := 0, locals := 0 } : Room).slots
set_option maxRecDepth 65536 in
set_option maxHeartbeats 40000000 in
theorem rm85a (l : Launch) (Z : State) (a0 : Array Value) (hw : ∀ d ∈ tables_1, d.before a0 Z = true) (hEL : EW Z a0 OwnEL) (wS : ∀ a ∈ Bundle.stringAtoms, a.before a0 Z = true) (ws : List Jvm.Cond) (c : Int32) (h0 : Heap) (n0 : Nat) (Z0 : n0 ≤ h0.size) (hp0 : In8 c) :
    MetFree l (⟨"java/lang/StringLatin1", "canEncode", "(C)Z"⟩ : MethodName) (head1 (Jvm.Cond.code (⟨"java/lang/StringLatin1", "canEncode", "(C)Z"⟩ : MethodName) jdk_43_method_3_code 1 (some .boolean) :: ws) ({ frames := 0, cells := 0, slots := 0, locals := 0 } : Room)) (fun aA U => aA = #[(.int c)] ∧ Z.Warmed39 U.vm ∧ U.heap = h0) (fun _ _ _ _ _ => True) (fun _ U oO U' => ∃ vV LL, oO = .returned vV ∧ Q85a Z c h0 n0 vV U'.heap LL ∧ FrameEnd U oO U' LL ({ frames := 0, cells := 0, slots := 0, locals := 0 } : Room).cells ({ frames := 0, cells := 0, slots := 0, locals := 0 } : Room).slots) := by
  refine MetFree.of_bodySF (plainFor_of_name pn_44) hisR ?_
  intro p e s m args below meth cC s₁ Bd hml0 hP hK
  obtain ⟨rfl, hZ, hh⟩ := hP
  have hx := Bd.exec
  have hby := Bd.bytes
  have hml : cC.maxLocals = 1 := hml0
  have hown : s.vm.findClass "java/lang/StringLatin1" = some m.cls := findClass_of_methodNamed Bd.named
  have hnm := (name_of_methodNamed Bd.named Bd.method).1
  have X0 : Stand p l e ({ frames := 0, cells := 0, slots := 0, locals := 0 } : Room) s m #[(.int c)] below meth cC s₁ [] 0 0 := Stand.of_body Bd
  have e0 : s₁.heap = h0 := by rw [← hh, Bd.state]; rfl
  have N0 := Fr.nil n0
  have Kp0 := Keep.refl h0 []
  show OwnFin p e below (R85a Z c h0 n0 s) (s₁.setTop (entryFrame m #[(.int c)] 1))
  rw [ef_85a m c]
  refine OwnFin.step (fun tT kK => XS.iloadN X0.here hx rfl (hb hby d_jdk_43_method_3_0) rfl kK) ?_
  refine OwnFin.step (fun tT kK => XS.sipush X0.here hx rfl (hb hby d_jdk_43_method_3_1) kK) ?_
  show OwnFin p e below _ (s₁.setTop (mkF m 4 #[.val (.int c)] [(.int (255 : Int32)), (.int c)]))
  refine OwnFin.step (fun tT kK => XS.icmpNo X0.here hx rfl (hb hby d_jdk_43_method_3_4) rfl (flt (own_lt hp0 : ¬ ((255 : Int32) < c))).2.2.1 kK) ?_
  show OwnFin p e below _ (s₁.setTop (mkF m 7 #[.val (.int c)] []))
  refine OwnFin.step (fun tT kK => XS.iconst X0.here hx rfl (hb hby d_jdk_43_method_3_7) kK) ?_
  refine OwnFin.step (fun tT kK => XS.goto X0.here hx rfl (pc0 := 8) (pc' := 12) rfl (hb hby d_jdk_43_method_3_8) (by decide) (by decide) kK) ?_
  show OwnFin p e below _ (s₁.setTop (mkF m 12 #[.val (.int c)] [(.int (1 : Int32))]))
  obtain ⟨fs1, hr1, hrun1, hended1, hW1, hsame1⟩ := X0.leave (v := (some (.int (1 : Int32)))) (fun h => by rw [Bd.returns] at h; cases h)
  refine ⟨_, _, retN X0 hx (t := .boolean) Bd.returns (by simp) (hb hby d_jdk_43_method_3_12) hr1, hrun1, hended1, _, _, rfl, ?_, ⟨_, rfl⟩, hW1, hsame1.mono (by decide) (by decide)⟩
  show Q85a Z c h0 n0 _ s₁.heap _
  rw [e0]
  exact ⟨rfl, N0, rfl⟩
theorem d_jdk_43_method_46_0 : decode jdk_43_method_46_code 0 = .ok (.iconst 1, 1) := by decide +kernel
theorem d_jdk_43_method_46_1 : decode jdk_43_method_46_code 1 = .ok (.newarray .byte, 2) := by decide +kernel
theorem d_jdk_43_method_46_3 : decode jdk_43_method_46_code 3 = .ok (.dup, 1) := by decide +kernel
theorem d_jdk_43_method_46_4 : decode jdk_43_method_46_code 4 = .ok (.iconst 0, 1) := by decide +kernel
theorem d_jdk_43_method_46_5 : decode jdk_43_method_46_code 5 = .ok (.iload_n 0, 1) := by decide +kernel
theorem d_jdk_43_method_46_6 : decode jdk_43_method_46_code 6 = .ok (.i2b, 1) := by decide +kernel
theorem d_jdk_43_method_46_7 : decode jdk_43_method_46_code 7 = .ok (.bastore, 1) := by decide +kernel
theorem d_jdk_43_method_46_8 : decode jdk_43_method_46_code 8 = .ok (.areturn, 1) := by decide +kernel
theorem ef_85b (m : MethodId) (c : Int32) : entryFrame m #[(.int c)] 1 = mkF m 0 #[.val (.int c)] [] := by first | (simp [entryFrame, mkF, argsToLocals, Value.category]; done) | rfl
def Q85b (Z : State) (c : Int32) (h0 : Heap) (n0 : Nat) (vV : Option Value) (hH : Heap) (LL : List Loc) : Prop := ∃ b : Addr, ∃ kb : ClassId, vV = some (.ref b) ∧ Fr n0 LL ∧ Keep h0 hH [] ∧ h0.size ≤ b ∧ (Arv Z hH b kb .byte (1 : Int32) [(.int (nar .byte (c.toInt8.toInt32)))] (.int (0 : Int32)))
def R85b (Z : State) (c : Int32) (h0 : Heap) (n0 : Nat) (U : State) (oO : Outcome) (U' : State) : Prop := ∃ vV LL, oO = .returned vV ∧ Q85b Z c h0 n0 vV U'.heap LL ∧ FrameEnd U oO U' LL ({ frames := 0, cells := 1, slots := 1, locals := 0 } : Room).cells ({ frames := 0, cells := 1, slots := 1, locals := 0 } : Room).slots
set_option maxRecDepth 65536 in
set_option maxHeartbeats 40000000 in
theorem rm85b (l : Launch) (Z : State) (a0 : Array Value) (hw : ∀ d ∈ tables_1, d.before a0 Z = true) (hEL : EW Z a0 OwnEL) (wS : ∀ a ∈ Bundle.stringAtoms, a.before a0 Z = true) (ws : List Jvm.Cond) (c : Int32) (h0 : Heap) (n0 : Nat) (Z0 : n0 ≤ h0.size) :
    MetFree l (⟨"java/lang/StringLatin1", "toBytes", "(C)[B"⟩ : MethodName) (head1 (Jvm.Cond.code (⟨"java/lang/StringLatin1", "toBytes", "(C)[B"⟩ : MethodName) jdk_43_method_46_code 1 (some (.array .byte)) :: ws) ({ frames := 0, cells := 1, slots := 1, locals := 0 } : Room)) (fun aA U => aA = #[(.int c)] ∧ Z.Warmed39 U.vm ∧ U.heap = h0) (fun _ _ _ _ _ => True) (fun _ U oO U' => ∃ vV LL, oO = .returned vV ∧ Q85b Z c h0 n0 vV U'.heap LL ∧ FrameEnd U oO U' LL ({ frames := 0, cells := 1, slots := 1, locals := 0 } : Room).cells ({ frames := 0, cells := 1, slots := 1, locals := 0 } : Room).slots) := by
  refine MetFree.of_bodySF (plainFor_of_name pn_44) hisR ?_
  intro p e s m args below meth cC s₁ Bd hml0 hP hK
  obtain ⟨rfl, hZ, hh⟩ := hP
  have hx := Bd.exec
  have hby := Bd.bytes
  have hml : cC.maxLocals = 1 := hml0
  have hown : s.vm.findClass "java/lang/StringLatin1" = some m.cls := findClass_of_methodNamed Bd.named
  have hnm := (name_of_methodNamed Bd.named Bd.method).1
  have X0 : Stand p l e ({ frames := 0, cells := 1, slots := 1, locals := 0 } : Room) s m #[(.int c)] below meth cC s₁ [] 0 0 := Stand.of_body Bd
  have e0 : s₁.heap = h0 := by rw [← hh, Bd.state]; rfl
  have N0 := Fr.nil n0
  have Kp0 := Keep.refl h0 []
  show OwnFin p e below (R85b Z c h0 n0 s) (s₁.setTop (entryFrame m #[(.int c)] 1))
  rw [ef_85b m c]
  refine OwnFin.step (fun tT kK => XS.iconst X0.here hx rfl (hb hby d_jdk_43_method_46_0) kK) ?_
  obtain ⟨T1, h1, k1, X1, e1, E1, A1, st1⟩ := newP X0 hx hZ (hw _ (List.mem_of_getElem? (i := 19) rfl)) e0 (g := (mkF m 1 #[.val (.int c)] [(.int (1 : Int32))])) rfl (hb hby d_jdk_43_method_46_1) rfl (by decide) (cap := 1) (by decide) (by decide) (by decide) (by decide)
  obtain ⟨b1, g1⟩ : ∃ z, z = h0.size := ⟨_, rfl⟩
  rw [← g1] at A1 st1
  refine OwnFin.step st1 ?_
  have sz_b1 : h0.size ≤ b1 := Nat.le_trans Kp0.1 (Nat.le_of_eq g1.symm)
  have Kp2 := Kp0.ext E1
  have V1 : Arv Z h1 b1 k1 .byte (1 : Int32) [(.int (0 : Int32))] (.int (0 : Int32)) := (Arv.new A1 (by decide)).pad (pad_rep [] (.int (0 : Int32)) 1)
  show OwnFin p e below _ (T1.setTop (mkF m 3 #[.val (.int c)] [(.ref b1)]))
  refine OwnFin.step (fun tT kK => XS.dup X1.here hx rfl (hb hby d_jdk_43_method_46_3) rfl rfl kK) ?_
  show OwnFin p e below _ (T1.setTop (mkF m 4 #[.val (.int c)] [(.ref b1), (.ref b1)]))
  refine OwnFin.step (fun tT kK => XS.iconst X1.here hx rfl (hb hby d_jdk_43_method_46_4) kK) ?_
  refine OwnFin.step (fun tT kK => XS.iloadN X1.here hx rfl (hb hby d_jdk_43_method_46_5) rfl kK) ?_
  show OwnFin p e below _ (T1.setTop (mkF m 6 #[.val (.int c)] [(.int c), (.int (0 : Int32)), (.ref b1), (.ref b1)]))
  refine OwnFin.step (fun tT kK => XS.i2b X1.here hx rfl (hb hby d_jdk_43_method_46_6) rfl kK) ?_
  obtain ⟨cl3, Ar3, q3, Sz3, Ng3, H3, G3⟩ := id V1
  have hin3 : ¬ ((0 : Int32) < 0 ∨ cl3.slots.size ≤ ((0 : Int32)).toNatClampNeg) := inb_of Sz3 ⟨by decide, by decide⟩
  obtain ⟨T4, h4, X4, e4, W4, st4⟩ := stB X1 hx hZ e1 Ar3 (j := (0 : Int32)) hin3 (g := (mkF m 7 #[.val (.int c)] [(.int (c.toInt8.toInt32)), (.int (0 : Int32)), (.ref b1), (.ref b1)])) rfl rfl (hb hby d_jdk_43_method_46_7)
  refine OwnFin.step st4 ?_
  have N4 := Fr.snoc X4 N0 (Nat.le_trans Z0 sz_b1)
  have Kp5 := Kp2.wr W4 (Or.inr sz_b1)
  have V4 : Arv Z h4 b1 k1 .byte (1 : Int32) [(.int (nar .byte (c.toInt8.toInt32)))] (.int (0 : Int32)) := Arv.set Ar3 q3 Sz3 Ng3 H3 G3 (fits_nar_byte _) W4 0 rfl (Nat.le_of_ble_eq_true rfl)
  show OwnFin p e below _ (T4.setTop (mkF m 8 #[.val (.int c)] [(.ref b1)]))
  obtain ⟨fs6, hr6, hrun6, hended6, hW6, hsame6⟩ := X4.leave (v := (some (.ref b1))) (fun h => by rw [Bd.returns] at h; cases h)
  refine ⟨_, _, retOut X4 hx Bd.returns rfl (Or.inr (Or.inr (Or.inr (Or.inr ⟨rfl, rfl, rfl⟩)))) (hb hby d_jdk_43_method_46_8) hr6, hrun6, hended6, _, _, rfl, ?_, ⟨_, rfl⟩, hW6, hsame6.mono (by decide) (by decide)⟩
  show Q85b Z c h0 n0 _ T4.heap _
  rw [e4]
  exact ⟨b1, k1, rfl, N4, Kp5, sz_b1, V4⟩
theorem d_jdk_42_method_151_0 : decode jdk_42_method_151_code 0 = .ok (.aload_n 0, 1) := by decide +kernel
theorem d_jdk_42_method_151_1 : decode jdk_42_method_151_code 1 = .ok (.invokespecial 1, 3) := by decide +kernel
theorem d_jdk_42_method_151_4 : decode jdk_42_method_151_code 4 = .ok (.aload_n 0, 1) := by decide +kernel
theorem d_jdk_42_method_151_5 : decode jdk_42_method_151_code 5 = .ok (.aload_n 1, 1) := by decide +kernel
theorem d_jdk_42_method_151_6 : decode jdk_42_method_151_code 6 = .ok (.putfield 9, 3) := by decide +kernel
theorem d_jdk_42_method_151_9 : decode jdk_42_method_151_code 9 = .ok (.aload_n 0, 1) := by decide +kernel
theorem d_jdk_42_method_151_10 : decode jdk_42_method_151_code 10 = .ok (.iload_n 2, 1) := by decide +kernel
theorem d_jdk_42_method_151_11 : decode jdk_42_method_151_code 11 = .ok (.putfield 15, 3) := by decide +kernel
theorem d_jdk_42_method_151_14 : decode jdk_42_method_151_code 14 = .ok (.return_, 1) := by decide +kernel
theorem ef_85c (m : MethodId) (a : Addr) (y : Addr) : entryFrame m #[(.ref a), (.ref y), (.int (0 : Int32))] 3 = mkF m 0 #[.val (.ref a), .val (.ref y), .val (.int (0 : Int32))] [] := by first | (simp [entryFrame, mkF, argsToLocals, Value.category]; done) | rfl
def Q85c (Z : State) (a : Addr) (y : Addr) (h0 : Heap) (n0 : Nat) (vV : Option Value) (hH : Heap) (LL : List Loc) : Prop := vV = none ∧ Fr n0 LL ∧ Keep h0 hH [a] ∧ (Exa Z hH a "java/lang/String") ∧ (Fld Z hH a "java/lang/String" "value" "[B" (.ref y)) ∧ (Fld Z hH a "java/lang/String" "coder" "B" (.int (0 : Int32)))
def R85c (Z : State) (a : Addr) (y : Addr) (h0 : Heap) (n0 : Nat) (U : State) (oO : Outcome) (U' : State) : Prop := ∃ vV LL, oO = .returned vV ∧ Q85c Z a y h0 n0 vV U'.heap LL ∧ FrameEnd U oO U' LL ({ frames := 1, cells := 0, slots := 0, locals := 12 } : Room).cells ({ frames := 1, cells := 0, slots := 0, locals := 12 } : Room).slots
set_option maxRecDepth 65536 in
set_option maxHeartbeats 40000000 in
theorem rm85c (l : Launch) (Z : State) (a0 : Array Value) (hw : ∀ d ∈ tables_1, d.before a0 Z = true) (hEL : EW Z a0 OwnEL) (wS : ∀ a ∈ Bundle.stringAtoms, a.before a0 Z = true) (ws : List Jvm.Cond) (a : Addr) (y : Addr) (h0 : Heap) (n0 : Nat) (Z0 : n0 ≤ h0.size) (hp0 : Exa Z h0 a "java/lang/String") (hp1 : Fld Z h0 a "java/lang/String" "value" "[B" .null) (hp2 : Fld Z h0 a "java/lang/String" "coder" "B" (.int (0 : Int32))) (hp3 : n0 ≤ a) :
    MetFree l (⟨"java/lang/String", "<init>", "([BB)V"⟩ : MethodName) (head1 (Jvm.Cond.code (⟨"java/lang/String", "<init>", "([BB)V"⟩ : MethodName) jdk_42_method_151_code 3 none :: ws) ({ frames := 1, cells := 0, slots := 0, locals := 12 } : Room)) (fun aA U => aA = #[(.ref a), (.ref y), (.int (0 : Int32))] ∧ Z.Warmed39 U.vm ∧ U.heap = h0) (fun _ _ _ _ _ => True) (fun _ U oO U' => ∃ vV LL, oO = .returned vV ∧ Q85c Z a y h0 n0 vV U'.heap LL ∧ FrameEnd U oO U' LL ({ frames := 1, cells := 0, slots := 0, locals := 12 } : Room).cells ({ frames := 1, cells := 0, slots := 0, locals := 12 } : Room).slots) := by
  refine MetFree.of_bodySF (plainFor_of_name pn_14) hisR ?_
  intro p e s m args below meth cC s₁ Bd hml0 hP hK
  obtain ⟨rfl, hZ, hh⟩ := hP
  have hx := Bd.exec
  have hby := Bd.bytes
  have hml : cC.maxLocals = 3 := hml0
  have hown : s.vm.findClass "java/lang/String" = some m.cls := findClass_of_methodNamed Bd.named
  have hnm := (name_of_methodNamed Bd.named Bd.method).1
  have X0 : Stand p l e ({ frames := 1, cells := 0, slots := 0, locals := 12 } : Room) s m #[(.ref a), (.ref y), (.int (0 : Int32))] below meth cC s₁ [] 0 0 := Stand.of_body Bd
  have e0 : s₁.heap = h0 := by rw [← hh, Bd.state]; rfl
  have N0 := Fr.nil n0
  have Kp0 := Keep.refl h0 []
  show OwnFin p e below (R85c Z a y h0 n0 s) (s₁.setTop (entryFrame m #[(.ref a), (.ref y), (.int (0 : Int32))] 3))
  rw [ef_85c m a y]
  refine OwnFin.step (fun tT kK => XS.aloadN X0.here hx rfl (hb hby d_jdk_42_method_151_0) rfl rfl kK) ?_
  obtain ⟨T1, X1, e1, st1⟩ := initO X0 hx hZ hown (hw _ (List.mem_of_getElem? (i := 11) rfl)) (hw _ (List.mem_of_getElem? (i := 12) rfl)) (hw _ (List.mem_of_getElem? (i := 13) rfl)) e0 (g := (mkF m 1 #[.val (.ref a), .val (.ref y), .val (.int (0 : Int32))] [(.ref a)])) rfl (by rw [hml]; rfl) rfl (hb hby d_jdk_42_method_151_1) (by decide) (W := 0) (by show 2 * 0 + _ ≤ _; exact Nat.le_of_eq rfl) (by decide)
  refine OwnFin.step st1 ?_
  show OwnFin p e below _ (T1.setTop (mkF m 4 #[.val (.ref a), .val (.ref y), .val (.int (0 : Int32))] []))
  refine OwnFin.step (fun tT kK => XS.aloadN X1.here hx rfl (hb hby d_jdk_42_method_151_4) rfl rfl kK) ?_
  refine OwnFin.step (fun tT kK => XS.aloadN X1.here hx rfl (hb hby d_jdk_42_method_151_5) rfl rfl kK) ?_
  show OwnFin p e below _ (T1.setTop (mkF m 6 #[.val (.ref a), .val (.ref y), .val (.int (0 : Int32))] [(.ref y), (.ref a)]))
  obtain ⟨T2, h2, X2, e2, W2, st2⟩ := putF X1 hx hZ hown (host := "") (Or.inl (hw _ (List.mem_of_getElem? (i := 28) rfl))) Via.refl e1 hp1 hp0 (Or.inr ⟨(hw _ (List.mem_of_getElem? (i := 29) rfl)), rfl, hnm⟩) (hw _ (List.mem_of_getElem? (i := 1) rfl)) (ty := (.array .byte)) (by decide) rfl rfl (g := (mkF m 6 #[.val (.ref a), .val (.ref y), .val (.int (0 : Int32))] [(.ref y), (.ref a)])) rfl rfl (hb hby d_jdk_42_method_151_6)
  refine OwnFin.step st2 ?_
  have N2 := Fr.snoc X2 N0 hp3
  have Fw2 : Fld Z h2 a "java/lang/String" "value" "[B" (.ref y) := hp1.same W2
  show OwnFin p e below _ (T2.setTop (mkF m 9 #[.val (.ref a), .val (.ref y), .val (.int (0 : Int32))] []))
  refine OwnFin.step (fun tT kK => XS.aloadN X2.here hx rfl (hb hby d_jdk_42_method_151_9) rfl rfl kK) ?_
  show OwnFin p e below _ (T2.setTop (mkF m 10 #[.val (.ref a), .val (.ref y), .val (.int (0 : Int32))] [(.ref a)]))
  refine OwnFin.step (fun tT kK => XS.iloadN X2.here hx rfl (hb hby d_jdk_42_method_151_10) rfl kK) ?_
  have f4 : Exa Z h2 a "java/lang/String" := (hp0.wr W2)
  have f5 : Fld Z h2 a "java/lang/String" "coder" "B" (.int (0 : Int32)) := (hp2.other W2 (Or.inr (slot_ne (Or.inr (hw _ (List.mem_of_getElem? (i := 27) rfl))) (Or.inr (hw _ (List.mem_of_getElem? (i := 29) rfl))) (by decide) (t := .byte) (t' := (.array .byte)) (by decide) (by decide))))
  obtain ⟨T6, h6, X6, e6, W6, st6⟩ := putF X2 hx hZ hown (host := "") (Or.inl (hw _ (List.mem_of_getElem? (i := 26) rfl))) Via.refl e2 f5 f4 (Or.inr ⟨(hw _ (List.mem_of_getElem? (i := 27) rfl)), rfl, hnm⟩) (hw _ (List.mem_of_getElem? (i := 1) rfl)) (ty := .byte) (by decide) rfl rfl (g := (mkF m 11 #[.val (.ref a), .val (.ref y), .val (.int (0 : Int32))] [(.int (0 : Int32)), (.ref a)])) rfl rfl (hb hby d_jdk_42_method_151_11)
  refine OwnFin.step st6 ?_
  have N6 := Fr.snoc X6 N2 hp3
  have Fw6 : Fld Z h6 a "java/lang/String" "coder" "B" (.int (0 : Int32)) := f5.same W6
  show OwnFin p e below _ (T6.setTop (mkF m 14 #[.val (.ref a), .val (.ref y), .val (.int (0 : Int32))] []))
  have f8 : Exa Z h6 a "java/lang/String" := (f4.wr W6)
  have f9 : Fld Z h6 a "java/lang/String" "value" "[B" (.ref y) := (Fw2.other W6 (Or.inr (slot_ne (Or.inr (hw _ (List.mem_of_getElem? (i := 29) rfl))) (Or.inr (hw _ (List.mem_of_getElem? (i := 27) rfl))) (by decide) (t := (.array .byte)) (t' := .byte) (by decide) (by decide))))
  obtain ⟨fs7, hr7, hrun7, hended7, hW7, hsame7⟩ := X6.leave (v := none) (fun _ => rfl)
  refine ⟨_, _, X6.returnOut hx Bd.returns (hb hby d_jdk_42_method_151_14) hr7, hrun7, hended7, _, _, rfl, ?_, ⟨_, rfl⟩, hW7, hsame7.mono (by decide) (by decide)⟩
  show Q85c Z a y h0 n0 _ T6.heap _
  rw [e6]
  exact ⟨rfl, N6, (((Keep.refl h0 [a]).wr W2 (Or.inl (List.mem_of_getElem? (i := 0) rfl))).wr W6 (Or.inl (List.mem_of_getElem? (i := 0) rfl))), f8, f9, Fw6⟩
theorem d_jdk_42_method_139_0 : decode jdk_42_method_139_code 0 = .ok (.getstatic 38, 3) := by decide +kernel
theorem d_jdk_42_method_139_3 : decode jdk_42_method_139_code 3 = .ok (.ifCond .eq 23, 3) := by decide +kernel
theorem d_jdk_42_method_139_6 : decode jdk_42_method_139_code 6 = .ok (.iload_n 0, 1) := by decide +kernel
theorem d_jdk_42_method_139_7 : decode jdk_42_method_139_code 7 = .ok (.invokestatic 1015, 3) := by decide +kernel
theorem pd_289 : parseMethodDescriptor "(C)Z" = some ⟨[.char], some .boolean⟩ := by decide +kernel
theorem d_jdk_42_method_139_10 : decode jdk_42_method_139_code 10 = .ok (.ifCond .eq 16, 3) := by decide +kernel
theorem d_jdk_42_method_139_13 : decode jdk_42_method_139_code 13 = .ok (.new 10, 3) := by decide +kernel
theorem d_jdk_42_method_139_16 : decode jdk_42_method_139_code 16 = .ok (.dup, 1) := by decide +kernel
theorem d_jdk_42_method_139_17 : decode jdk_42_method_139_code 17 = .ok (.iload_n 0, 1) := by decide +kernel
theorem d_jdk_42_method_139_18 : decode jdk_42_method_139_code 18 = .ok (.invokestatic 1018, 3) := by decide +kernel
theorem pd_295 : parseMethodDescriptor "(C)[B" = some ⟨[.char], some (.array .byte)⟩ := by decide +kernel
theorem d_jdk_42_method_139_21 : decode jdk_42_method_139_code 21 = .ok (.iconst 0, 1) := by decide +kernel
theorem d_jdk_42_method_139_22 : decode jdk_42_method_139_code 22 = .ok (.invokespecial 209, 3) := by decide +kernel
theorem pd_298 : parseMethodDescriptor "([BB)V" = some ⟨[(.array .byte), .byte], none⟩ := by decide +kernel
theorem d_jdk_42_method_139_25 : decode jdk_42_method_139_code 25 = .ok (.areturn, 1) := by decide +kernel
theorem ef_85 (m : MethodId) (c : Int32) : entryFrame m #[(.int c)] 1 = mkF m 0 #[.val (.int c)] [] := by first | (simp [entryFrame, mkF, argsToLocals, Value.category]; done) | rfl
def Q85 (Z : State) (c : Int32) (cs : Int32) (h0 : Heap) (n0 : Nat) (vV : Option Value) (hH : Heap) (LL : List Loc) : Prop := ∃ b : Addr, ∃ d : Addr, ∃ kd : ClassId, vV = some (.ref b) ∧ Fr n0 LL ∧ Keep h0 hH [] ∧ h0.size ≤ b ∧ (Exa Z hH b "java/lang/String") ∧ (Fld Z hH b "java/lang/String" "value" "[B" (.ref d)) ∧ (Fld Z hH b "java/lang/String" "coder" "B" (.int (0 : Int32))) ∧ (Arv Z hH d kd .byte (1 : Int32) [(.int (nar .byte (c.toInt8.toInt32)))] (.int (0 : Int32)))
def R85 (Z : State) (c : Int32) (cs : Int32) (h0 : Heap) (n0 : Nat) (U : State) (oO : Outcome) (U' : State) : Prop := ∃ vV LL, oO = .returned vV ∧ Q85 Z c cs h0 n0 vV U'.heap LL ∧ FrameEnd U oO U' LL ({ frames := 2, cells := 2, slots := 5, locals := 27 } : Room).cells ({ frames := 2, cells := 2, slots := 5, locals := 27 } : Room).slots
set_option maxRecDepth 65536 in
set_option maxHeartbeats 40000000 in
theorem rm85 (l : Launch) (Z : State) (a0 : Array Value) (hw : ∀ d ∈ tables_1, d.before a0 Z = true) (hEL : EW Z a0 OwnEL) (wS : ∀ a ∈ Bundle.stringAtoms, a.before a0 Z = true) (ws : List Jvm.Cond) (c : Int32) (cs : Int32) (h0 : Heap) (n0 : Nat) (Z0 : n0 ≤ h0.size) (hp0 : Sta Z h0 "java/lang/String" "COMPACT_STRINGS" "Z" (.int cs)) (hp1 : ¬ cs = (0 : Int32)) (hp2 : In8 c) :
    MetFree l (⟨"java/lang/String", "valueOf", "(C)Ljava/lang/String;"⟩ : MethodName) (head1 (Jvm.Cond.code (⟨"java/lang/String", "valueOf", "(C)Ljava/lang/String;"⟩ : MethodName) jdk_42_method_139_code 1 (some (.object "java/lang/String")) :: ws) ({ frames := 2, cells := 2, slots := 5, locals := 27 } : Room)) (fun aA U => aA = #[(.int c)] ∧ Z.Warmed39 U.vm ∧ U.heap = h0) (fun _ _ _ _ _ => True) (fun _ U oO U' => ∃ vV LL, oO = .returned vV ∧ Q85 Z c cs h0 n0 vV U'.heap LL ∧ FrameEnd U oO U' LL ({ frames := 2, cells := 2, slots := 5, locals := 27 } : Room).cells ({ frames := 2, cells := 2, slots := 5, locals := 27 } : Room).slots) := by
  refine MetFree.of_bodySF (plainFor_of_name pn_14) hisR ?_
  intro p e s m args below meth cC s₁ Bd hml0 hP hK
  obtain ⟨rfl, hZ, hh⟩ := hP
  have hx := Bd.exec
  have hby := Bd.bytes
  have hml : cC.maxLocals = 1 := hml0
  have hown : s.vm.findClass "java/lang/String" = some m.cls := findClass_of_methodNamed Bd.named
  have hnm := (name_of_methodNamed Bd.named Bd.method).1
  have X0 : Stand p l e ({ frames := 2, cells := 2, slots := 5, locals := 27 } : Room) s m #[(.int c)] below meth cC s₁ [] 0 0 := Stand.of_body Bd
  have e0 : s₁.heap = h0 := by rw [← hh, Bd.state]; rfl
  have N0 := Fr.nil n0
  have Kp0 := Keep.refl h0 []
  show OwnFin p e below (R85 Z c cs h0 n0 s) (s₁.setTop (entryFrame m #[(.int c)] 1))
  rw [ef_85 m c]
  obtain ⟨T1, X1, e1, st1⟩ := getS2 X0 hx hZ hown (host := "") (Or.inl (hw _ (List.mem_of_getElem? (i := 14) rfl))) Via.refl e0 hp0 (g := (mkF m 0 #[.val (.int c)] [])) rfl (hb hby d_jdk_42_method_139_0)
  refine OwnFin.step st1 ?_
  show OwnFin p e below _ (T1.setTop (mkF m 3 #[.val (.int c)] [(.int cs)]))
  refine OwnFin.step (fun tT kK => XS.ifNo X1.here hx rfl (hb hby d_jdk_42_method_139_3) rfl ((if0 _ _).trans (feq (hp1 : ¬ (cs = (0 : Int32)))).1) kK) ?_
  show OwnFin p e below _ (T1.setTop (mkF m 6 #[.val (.int c)] []))
  refine OwnFin.step (fun tT kK => XS.iloadN X1.here hx rfl (hb hby d_jdk_42_method_139_6) rfl kK) ?_
  show OwnFin p e below _ (T1.setTop (mkF m 7 #[.val (.int c)] [(.int c)]))
  obtain ⟨_, _, ⟨T2, L2, k2, n2⟩, -, X2, ⟨Lc2, hQ2, l2, y2, z2⟩, st2⟩ := Jvm.LawKit.callS X1 hx (y := (⟨"java/lang/StringLatin1", "canEncode", "(C)Z"⟩ : MethodName)) hown (mvT hZ (hw _ (List.mem_of_getElem? (i := 102) rfl))) (mvT hZ (hw _ (List.mem_of_getElem? (i := 103) rfl))) (mvT hZ (hw _ (List.mem_of_getElem? (i := 61) rfl))) (mvT hZ (hw _ (List.mem_of_getElem? (i := 104) rfl))) (by decide) (backOf (W := 0) (rm85a l Z a0 hw hEL wS [] c h0 n0 (Nat.le_trans Z0 Kp0.1) hp2) hZ (hw _ (List.mem_of_getElem? (i := 104) rfl)) (hw _ (List.mem_of_getElem? (i := 61) rfl)) (by decide) (by decide)) (g := (mkF m 7 #[.val (.int c)] [(.int c)])) rfl (by rw [hml]; rfl) (argsL := [(.int c)]) (rest := []) (lenOf pd_289 rfl) rfl (by show 2 * 0 + _ ≤ _; exact Nat.le_of_eq rfl) (hb hby d_jdk_42_method_139_7) (fun _ _ => ⟨rfl, e1, (by decide : 0 + 0 ≤ _), (by decide : 0 + 0 ≤ _)⟩)
  dsimp only [Pt.U, Pt.locs, Pt.cells, Pt.slots] at X2 l2 y2 z2 st2 hQ2
  subst l2 y2 z2
  obtain ⟨rfl, N2q, e2⟩ := hQ2
  have N2 := Fr.app N0 N2q
  refine OwnFin.step st2 ?_
  show OwnFin p e below _ (T2.setTop (mkF m 10 #[.val (.int c)] [(.int (1 : Int32))]))
  refine OwnFin.step (fun tT kK => XS.ifNo X2.here hx rfl (hb hby d_jdk_42_method_139_10) rfl ((if0 _ _).trans (feq (by decide : ¬ ((1 : Int32) = (0 : Int32)))).1) kK) ?_
  show OwnFin p e below _ (T2.setTop (mkF m 13 #[.val (.int c)] []))
  obtain ⟨T3, h3, X3, e3, E3, A3, D3, -, st3⟩ := newO X2 hx hZ hown (hw _ (List.mem_of_getElem? (i := 105) rfl)) (hw _ (List.mem_of_getElem? (i := 1) rfl)) (hw _ (List.mem_of_getElem? (i := 2) rfl)) e2 (g := (mkF m 13 #[.val (.int c)] [])) rfl (hb hby d_jdk_42_method_139_13) (by decide) (by decide)
  obtain ⟨b3, g3⟩ : ∃ z, z = h0.size := ⟨_, rfl⟩
  rw [← g3] at A3 D3 st3
  refine OwnFin.step st3 ?_
  have sz_b3 : h0.size ≤ b3 := Nat.le_trans Kp0.1 (Nat.le_of_eq g3.symm)
  have Kp4 := Kp0.ext E3
  have Fz5 : Fld Z h3 b3 "java/lang/String" "coder" "B" (.int (0 : Int32)) := D3 (Or.inr (hw _ (List.mem_of_getElem? (i := 27) rfl))) (ty := .byte) (by decide)
  have Fz6 : Fld Z h3 b3 "java/lang/String" "value" "[B" .null := D3 (Or.inr (hw _ (List.mem_of_getElem? (i := 29) rfl))) (ty := (.array .byte)) (by decide)
  show OwnFin p e below _ (T3.setTop (mkF m 16 #[.val (.int c)] [(.ref b3)]))
  refine OwnFin.step (fun tT kK => XS.dup X3.here hx rfl (hb hby d_jdk_42_method_139_16) rfl rfl kK) ?_
  show OwnFin p e below _ (T3.setTop (mkF m 17 #[.val (.int c)] [(.ref b3), (.ref b3)]))
  refine OwnFin.step (fun tT kK => XS.iloadN X3.here hx rfl (hb hby d_jdk_42_method_139_17) rfl kK) ?_
  obtain ⟨_, _, ⟨T7, L7, k7, n7⟩, -, X7, ⟨Lc7, hQ7, l7, y7, z7⟩, st7⟩ := Jvm.LawKit.callS X3 hx (y := (⟨"java/lang/StringLatin1", "toBytes", "(C)[B"⟩ : MethodName)) hown (mvT hZ (hw _ (List.mem_of_getElem? (i := 106) rfl))) (mvT hZ (hw _ (List.mem_of_getElem? (i := 107) rfl))) (mvT hZ (hw _ (List.mem_of_getElem? (i := 61) rfl))) (mvT hZ (hw _ (List.mem_of_getElem? (i := 108) rfl))) (by decide) (backOf (W := 2) (rm85b l Z a0 hw hEL wS [] c h3 n0 (Nat.le_trans Z0 Kp4.1) ) hZ (hw _ (List.mem_of_getElem? (i := 108) rfl)) (hw _ (List.mem_of_getElem? (i := 61) rfl)) (by decide) (by decide)) (g := (mkF m 18 #[.val (.int c)] [(.int c), (.ref b3), (.ref b3)])) rfl (by rw [hml]; rfl) (argsL := [(.int c)]) (rest := [(.ref b3), (.ref b3)]) (lenOf pd_295 rfl) rfl (by show 2 * 0 + _ ≤ _; exact Nat.le_of_eq rfl) (hb hby d_jdk_42_method_139_18) (fun _ _ => ⟨rfl, e3, (by decide : 1 + 1 ≤ _), (by decide : 4 + 1 ≤ _)⟩)
  dsimp only [Pt.U, Pt.locs, Pt.cells, Pt.slots] at X7 l7 y7 z7 st7 hQ7
  subst l7 y7 z7
  obtain ⟨b8, ⟨kb9, ⟨rfl, N7q, K7, B7_0, P7_0⟩⟩⟩ := hQ7
  have N7 := Fr.app N2 N7q
  refine OwnFin.step st7 ?_
  have E7 : Ext h3 T7.heap := ⟨K7.1, fun x c q => K7.2.1 x c q nin0⟩
  have sz_b8 : h0.size ≤ b8 := Nat.le_trans Kp4.1 B7_0
  have Kp10 := Kp4.ext E7
  show OwnFin p e below _ (T7.setTop (mkF m 21 #[.val (.int c)] [(.ref b8), (.ref b3), (.ref b3)]))
  refine OwnFin.step (fun tT kK => XS.iconst X7.here hx rfl (hb hby d_jdk_42_method_139_21) kK) ?_
  show OwnFin p e below _ (T7.setTop (mkF m 22 #[.val (.int c)] [(.int (0 : Int32)), (.ref b8), (.ref b3), (.ref b3)]))
  have f11 : Exa Z T7.heap b3 "java/lang/String" := (A3.ext E7)
  have f12 : Fld Z T7.heap b3 "java/lang/String" "value" "[B" .null := (Fz6.ext E7)
  have f13 : Fld Z T7.heap b3 "java/lang/String" "coder" "B" (.int (0 : Int32)) := (Fz5.ext E7)
  obtain ⟨_, _, ⟨T14, L14, k14, n14⟩, -, X14, ⟨Lc14, hQ14, l14, y14, z14⟩, st14⟩ := X7.specialBack hx (y := (⟨"java/lang/String", "<init>", "([BB)V"⟩ : MethodName)) rfl hown (mvT hZ (hw _ (List.mem_of_getElem? (i := 109) rfl))) (mvT hZ (hw _ (List.mem_of_getElem? (i := 110) rfl))) (mvT hZ (hw _ (List.mem_of_getElem? (i := 111) rfl))) (by decide) (backOf (W := 1) (rm85c l Z a0 hw hEL wS [] b3 b8 T7.heap n0 (Nat.le_trans Z0 Kp10.1) f11 f12 f13 (Nat.le_trans Z0 sz_b3)) hZ (hw _ (List.mem_of_getElem? (i := 111) rfl)) (hw _ (List.mem_of_getElem? (i := 2) rfl)) (by decide) (by decide)) (g := (mkF m 22 #[.val (.int c)] [(.int (0 : Int32)), (.ref b8), (.ref b3), (.ref b3)])) rfl (by rw [hml]; rfl) (Steps.refl _) (a := b3) (argsL := [(.ref b8), (.int (0 : Int32))]) (rest := [(.ref b3)]) (lenOf pd_298 rfl) rfl (by show 2 * 0 + _ ≤ _; exact Nat.le_of_eq rfl) (hb hby d_jdk_42_method_139_22) (fun _ _ => ⟨rfl, rfl, (by decide : 2 + 0 ≤ _), (by decide : 5 + 0 ≤ _)⟩)
  dsimp only [Pt.U, Pt.locs, Pt.cells, Pt.slots] at X14 l14 y14 z14 st14 hQ14
  subst l14 y14 z14
  obtain ⟨rfl, N14q, K14, P14_0, P14_1, P14_2⟩ := hQ14
  have N14 := Fr.app N7 N14q
  refine OwnFin.step (fun tT kK => st14.trans kK) ?_
  have Kp15 := Kp10.trans K14 (allS (P := fun x => x ∈ ([] : List Addr) ∨ h0.size ≤ x) (Or.inr sz_b3) all0)
  show OwnFin p e below _ (T14.setTop (mkF m 25 #[.val (.int c)] [(.ref b3)]))
  have f17 : Arv Z T14.heap b8 kb9 .byte (1 : Int32) [(.int (nar .byte (c.toInt8.toInt32)))] (.int (0 : Int32)) := (P7_0.keep K14 (ninS (Ne.symm (Nat.ne_of_lt (Nat.lt_of_lt_of_le (Nat.lt_of_lt_of_le A3.lt (Nat.le_refl _)) B7_0))) nin0))
  obtain ⟨fs16, hr16, hrun16, hended16, hW16, hsame16⟩ := X14.leave (v := (some (.ref b3))) (fun h => by rw [Bd.returns] at h; cases h)
  refine ⟨_, _, retOut X14 hx Bd.returns rfl (Or.inr (Or.inr (Or.inr (Or.inr ⟨rfl, rfl, rfl⟩)))) (hb hby d_jdk_42_method_139_25) hr16, hrun16, hended16, _, _, rfl, ?_, ⟨_, rfl⟩, hW16, hsame16.mono (by decide) (by decide)⟩
  show Q85 Z c cs h0 n0 _ T14.heap _
  exact ⟨b3, b8, kb9, rfl, N14, Kp15, sz_b3, P14_0, P14_1, P14_2, f17⟩
theorem own_k3 (x : Int32) : 0 ≤ ((x &&& (3 : Int32)) % (3 : Int32)).toInt ∧ ((x &&& (3 : Int32)) % (3 : Int32)).toInt < 3 := by
  have h := c_and x (3 : Int32) (by decide)
  have h2 := (c_irem (x &&& (3 : Int32)) (3 : Int32) 3 rfl).1 h.1
  rw [h2]
  omega
theorem pd_300 : parseMethodDescriptor "([C)V" = some ⟨[(.array .char)], none⟩ := by decide +kernel
theorem pd_301 : parseMethodDescriptor "(Ljava/lang/String;IILjava/lang/String;)I" = some ⟨[(.object "java/lang/String"), .int, .int, (.object "java/lang/String")], some .int⟩ := by decide +kernel
theorem pd_302 : parseMethodDescriptor "(CICC)Z" = some ⟨[.char, .int, .char, .char], some .boolean⟩ := by decide +kernel
theorem pd_303 : parseMethodDescriptor "(C)Ljava/lang/String;" = some ⟨[.char], some (.object "java/lang/String")⟩ := by decide +kernel
theorem ef_0 (m : MethodId) (te : Int32) (ma : Int32) (s_ : Int32) (e_ : Int32) : entryFrame m #[(.int te), (.int ma), (.int s_), (.int e_)] maxLocals = mkF m 0 #[.val (.int te), .val (.int ma), .val (.int s_), .val (.int e_), .unset, .unset, .unset, .unset, .unset, .unset, .unset, .unset, .unset, .unset, .unset, .unset, .unset, .unset] [] := by first | (simp [entryFrame, mkF, argsToLocals, Value.category, maxLocals]; done) | rfl
def Q0 (Z : State) (te : Int32) (ma : Int32) (s_ : Int32) (e_ : Int32) (cs : Int32) (fm : Value) (h0 : Heap) (n0 : Nat) (vV : Option Value) (hH : Heap) (LL : List Loc) : Prop := vV = some (.int (1 : Int32)) ∧ Fr n0 LL ∧ Keep h0 hH []
def R0 (Z : State) (te : Int32) (ma : Int32) (s_ : Int32) (e_ : Int32) (cs : Int32) (fm : Value) (h0 : Heap) (n0 : Nat) (U : State) (oO : Outcome) (U' : State) : Prop := ∃ vV LL, oO = .returned vV ∧ Q0 Z te ma s_ e_ cs fm h0 n0 vV U'.heap LL ∧ CHr Z OwnEL U.vm U.heap U'.vm U'.heap ∧ ReturnedEndW U oO U' LL room_1.cells room_1.slots
set_option maxRecDepth 65536 in
set_option maxHeartbeats 40000000 in
theorem rm0 (l : Launch) (Z : State) (a0 : Array Value) (hw : ∀ d ∈ tables_1, d.before a0 Z = true) (hEL : EW Z a0 OwnEL) (wS : ∀ a ∈ Bundle.stringAtoms, a.before a0 Z = true) (ws : List Jvm.Cond) (te : Int32) (ma : Int32) (s_ : Int32) (e_ : Int32) (cs : Int32) (fm : Value) (h0 : Heap) (n0 : Nat) (Z0 : n0 ≤ h0.size) (hp0 : Sta Z h0 "java/lang/String" "COMPACT_STRINGS" "Z" (.int cs)) (hp1 : ¬ cs = (0 : Int32)) (hp2 : Sta Z h0 "jdk/internal/util/Preconditions" "SIOOBE_FORMATTER" "Ljava/util/function/BiFunction;" fm) (hp3 : fm.isRef = true) :
    MetFree l x (head1 (Jvm.Cond.code x code maxLocals ret :: ws) room_1) (fun aA U => aA = #[(.int te), (.int ma), (.int s_), (.int e_)] ∧ Z.Warmed39 U.vm ∧ U.heap = h0 ∧ CHv Z OwnEL U.vm h0) (fun _ _ _ _ _ => True) (fun _ U oO U' => ∃ vV LL, oO = .returned vV ∧ Q0 Z te ma s_ e_ cs fm h0 n0 vV U'.heap LL ∧ CHr Z OwnEL U.vm U.heap U'.vm U'.heap ∧ ReturnedEndW U oO U' LL room_1.cells room_1.slots) := by
  refine MetFree.of_bodySF (plainFor_of_name pn_166) hisR ?_
  intro p e s m args below meth cC s₁ Bd hml0 hP hK
  obtain ⟨rfl, hZ, hh, hCH⟩ := hP
  have hx := Bd.exec
  have hby := Bd.bytes
  have hml : cC.maxLocals = 18 := hml0
  have hown : s.vm.findClass "com/example/covenantry/covenantry/text/PhrasesAfterLastMarkPinLaw" = some m.cls := findClass_of_methodNamed Bd.named
  have hnm := (name_of_methodNamed Bd.named Bd.method).1
  have X0 : Stand p l e room_1 (s.setVm s.vm) m #[(.int te), (.int ma), (.int s_), (.int e_)] below meth cC s₁ [] 0 0 := Stand.of_body Bd
  have e0 : s₁.heap = h0 := by rw [← hh, Bd.state]; rfl
  have N0 := Fr.nil n0
  have Kp0 := Keep.refl h0 []
  have C0 : CHr Z OwnEL s.vm h0 s.vm h0 := CHr.refl hCH
  have hS0 : s.Since s.vm h0.size := (State.WarmedH.refl s).since _
  have hk0 : h0.size ≤ h0.size := Nat.le_refl _
  show OwnFin p e below (R0 Z te ma s_ e_ cs fm h0 n0 s) (s₁.setTop (entryFrame m #[(.int te), (.int ma), (.int s_), (.int e_)] maxLocals))
  rw [ef_0 m te ma s_ e_]
  refine OwnFin.step (fun tT kK => XS.iloadN X0.here hx rfl (hb hby at_0) rfl kK) ?_
  refine OwnFin.step (fun tT kK => XS.sipush X0.here hx rfl (hb hby at_1) kK) ?_
  show OwnFin p e below _ (s₁.setTop (mkF m 4 #[.val (.int te), .val (.int ma), .val (.int s_), .val (.int e_), .unset, .unset, .unset, .unset, .unset, .unset, .unset, .unset, .unset, .unset, .unset, .unset, .unset, .unset] [(.int (255 : Int32)), (.int te)]))
  refine OwnFin.step (fun tT kK => XS.iand X0.here hx rfl (hb hby at_4) rfl kK) ?_
  refine OwnFin.step (fun tT kK => XS.i2c X0.here hx rfl (hb hby at_5) rfl kK) ?_
  show OwnFin p e below _ (s₁.setTop (mkF m 6 #[.val (.int te), .val (.int ma), .val (.int s_), .val (.int e_), .unset, .unset, .unset, .unset, .unset, .unset, .unset, .unset, .unset, .unset, .unset, .unset, .unset, .unset] [(.int ((te &&& (255 : Int32)).toUInt32.toUInt16.toUInt32.toInt32))]))
  refine OwnFin.step (fun tT kK => XS.istore X0.here hx rfl (hb hby at_6) rfl (l' := #[.val (.int te), .val (.int ma), .val (.int s_), .val (.int e_), .val (.int ((te &&& (255 : Int32)).toUInt32.toUInt16.toUInt32.toInt32)), .unset, .unset, .unset, .unset, .unset, .unset, .unset, .unset, .unset, .unset, .unset, .unset, .unset]) rfl kK) ?_
  refine OwnFin.step (fun tT kK => XS.iloadN X0.here hx rfl (hb hby at_8) rfl kK) ?_
  show OwnFin p e below _ (s₁.setTop (mkF m 9 #[.val (.int te), .val (.int ma), .val (.int s_), .val (.int e_), .val (.int ((te &&& (255 : Int32)).toUInt32.toUInt16.toUInt32.toInt32)), .unset, .unset, .unset, .unset, .unset, .unset, .unset, .unset, .unset, .unset, .unset, .unset, .unset] [(.int te)]))
  refine OwnFin.step (fun tT kK => XS.bipush X0.here hx rfl (hb hby at_9) kK) ?_
  refine OwnFin.step (fun tT kK => XS.iushr X0.here hx rfl (hb hby at_11) rfl kK) ?_
  show OwnFin p e below _ (s₁.setTop (mkF m 12 #[.val (.int te), .val (.int ma), .val (.int s_), .val (.int e_), .val (.int ((te &&& (255 : Int32)).toUInt32.toUInt16.toUInt32.toInt32)), .unset, .unset, .unset, .unset, .unset, .unset, .unset, .unset, .unset, .unset, .unset, .unset, .unset] [(.int ((te.toUInt32 >>> ((8 : Int32) &&& 31).toUInt32).toInt32))]))
  refine OwnFin.step (fun tT kK => XS.sipush X0.here hx rfl (hb hby at_12) kK) ?_
  refine OwnFin.step (fun tT kK => XS.iand X0.here hx rfl (hb hby at_15) rfl kK) ?_
  show OwnFin p e below _ (s₁.setTop (mkF m 16 #[.val (.int te), .val (.int ma), .val (.int s_), .val (.int e_), .val (.int ((te &&& (255 : Int32)).toUInt32.toUInt16.toUInt32.toInt32)), .unset, .unset, .unset, .unset, .unset, .unset, .unset, .unset, .unset, .unset, .unset, .unset, .unset] [(.int (((te.toUInt32 >>> ((8 : Int32) &&& 31).toUInt32).toInt32) &&& (255 : Int32)))]))
  refine OwnFin.step (fun tT kK => XS.i2c X0.here hx rfl (hb hby at_16) rfl kK) ?_
  refine OwnFin.step (fun tT kK => XS.istore X0.here hx rfl (hb hby at_17) rfl (l' := #[.val (.int te), .val (.int ma), .val (.int s_), .val (.int e_), .val (.int ((te &&& (255 : Int32)).toUInt32.toUInt16.toUInt32.toInt32)), .val (.int ((((te.toUInt32 >>> ((8 : Int32) &&& 31).toUInt32).toInt32) &&& (255 : Int32)).toUInt32.toUInt16.toUInt32.toInt32)), .unset, .unset, .unset, .unset, .unset, .unset, .unset, .unset, .unset, .unset, .unset, .unset]) rfl kK) ?_
  show OwnFin p e below _ (s₁.setTop (mkF m 19 #[.val (.int te), .val (.int ma), .val (.int s_), .val (.int e_), .val (.int ((te &&& (255 : Int32)).toUInt32.toUInt16.toUInt32.toInt32)), .val (.int ((((te.toUInt32 >>> ((8 : Int32) &&& 31).toUInt32).toInt32) &&& (255 : Int32)).toUInt32.toUInt16.toUInt32.toInt32)), .unset, .unset, .unset, .unset, .unset, .unset, .unset, .unset, .unset, .unset, .unset, .unset] []))
  refine OwnFin.step (fun tT kK => XS.iloadN X0.here hx rfl (hb hby at_19) rfl kK) ?_
  refine OwnFin.step (fun tT kK => XS.bipush X0.here hx rfl (hb hby at_20) kK) ?_
  show OwnFin p e below _ (s₁.setTop (mkF m 22 #[.val (.int te), .val (.int ma), .val (.int s_), .val (.int e_), .val (.int ((te &&& (255 : Int32)).toUInt32.toUInt16.toUInt32.toInt32)), .val (.int ((((te.toUInt32 >>> ((8 : Int32) &&& 31).toUInt32).toInt32) &&& (255 : Int32)).toUInt32.toUInt16.toUInt32.toInt32)), .unset, .unset, .unset, .unset, .unset, .unset, .unset, .unset, .unset, .unset, .unset, .unset] [(.int (16 : Int32)), (.int te)]))
  refine OwnFin.step (fun tT kK => XS.iushr X0.here hx rfl (hb hby at_22) rfl kK) ?_
  refine OwnFin.step (fun tT kK => XS.sipush X0.here hx rfl (hb hby at_23) kK) ?_
  show OwnFin p e below _ (s₁.setTop (mkF m 26 #[.val (.int te), .val (.int ma), .val (.int s_), .val (.int e_), .val (.int ((te &&& (255 : Int32)).toUInt32.toUInt16.toUInt32.toInt32)), .val (.int ((((te.toUInt32 >>> ((8 : Int32) &&& 31).toUInt32).toInt32) &&& (255 : Int32)).toUInt32.toUInt16.toUInt32.toInt32)), .unset, .unset, .unset, .unset, .unset, .unset, .unset, .unset, .unset, .unset, .unset, .unset] [(.int (255 : Int32)), (.int ((te.toUInt32 >>> ((16 : Int32) &&& 31).toUInt32).toInt32))]))
  refine OwnFin.step (fun tT kK => XS.iand X0.here hx rfl (hb hby at_26) rfl kK) ?_
  refine OwnFin.step (fun tT kK => XS.i2c X0.here hx rfl (hb hby at_27) rfl kK) ?_
  show OwnFin p e below _ (s₁.setTop (mkF m 28 #[.val (.int te), .val (.int ma), .val (.int s_), .val (.int e_), .val (.int ((te &&& (255 : Int32)).toUInt32.toUInt16.toUInt32.toInt32)), .val (.int ((((te.toUInt32 >>> ((8 : Int32) &&& 31).toUInt32).toInt32) &&& (255 : Int32)).toUInt32.toUInt16.toUInt32.toInt32)), .unset, .unset, .unset, .unset, .unset, .unset, .unset, .unset, .unset, .unset, .unset, .unset] [(.int ((((te.toUInt32 >>> ((16 : Int32) &&& 31).toUInt32).toInt32) &&& (255 : Int32)).toUInt32.toUInt16.toUInt32.toInt32))]))
  refine OwnFin.step (fun tT kK => XS.istore X0.here hx rfl (hb hby at_28) rfl (l' := #[.val (.int te), .val (.int ma), .val (.int s_), .val (.int e_), .val (.int ((te &&& (255 : Int32)).toUInt32.toUInt16.toUInt32.toInt32)), .val (.int ((((te.toUInt32 >>> ((8 : Int32) &&& 31).toUInt32).toInt32) &&& (255 : Int32)).toUInt32.toUInt16.toUInt32.toInt32)), .val (.int ((((te.toUInt32 >>> ((16 : Int32) &&& 31).toUInt32).toInt32) &&& (255 : Int32)).toUInt32.toUInt16.toUInt32.toInt32)), .unset, .unset, .unset, .unset, .unset, .unset, .unset, .unset, .unset, .unset, .unset]) rfl kK) ?_
  refine OwnFin.step (fun tT kK => XS.iloadN X0.here hx rfl (hb hby at_30) rfl kK) ?_
  show OwnFin p e below _ (s₁.setTop (mkF m 31 #[.val (.int te), .val (.int ma), .val (.int s_), .val (.int e_), .val (.int ((te &&& (255 : Int32)).toUInt32.toUInt16.toUInt32.toInt32)), .val (.int ((((te.toUInt32 >>> ((8 : Int32) &&& 31).toUInt32).toInt32) &&& (255 : Int32)).toUInt32.toUInt16.toUInt32.toInt32)), .val (.int ((((te.toUInt32 >>> ((16 : Int32) &&& 31).toUInt32).toInt32) &&& (255 : Int32)).toUInt32.toUInt16.toUInt32.toInt32)), .unset, .unset, .unset, .unset, .unset, .unset, .unset, .unset, .unset, .unset, .unset] [(.int te)]))
  refine OwnFin.step (fun tT kK => XS.bipush X0.here hx rfl (hb hby at_31) kK) ?_
  refine OwnFin.step (fun tT kK => XS.iushr X0.here hx rfl (hb hby at_33) rfl kK) ?_
  show OwnFin p e below _ (s₁.setTop (mkF m 34 #[.val (.int te), .val (.int ma), .val (.int s_), .val (.int e_), .val (.int ((te &&& (255 : Int32)).toUInt32.toUInt16.toUInt32.toInt32)), .val (.int ((((te.toUInt32 >>> ((8 : Int32) &&& 31).toUInt32).toInt32) &&& (255 : Int32)).toUInt32.toUInt16.toUInt32.toInt32)), .val (.int ((((te.toUInt32 >>> ((16 : Int32) &&& 31).toUInt32).toInt32) &&& (255 : Int32)).toUInt32.toUInt16.toUInt32.toInt32)), .unset, .unset, .unset, .unset, .unset, .unset, .unset, .unset, .unset, .unset, .unset] [(.int ((te.toUInt32 >>> ((24 : Int32) &&& 31).toUInt32).toInt32))]))
  refine OwnFin.step (fun tT kK => XS.sipush X0.here hx rfl (hb hby at_34) kK) ?_
  refine OwnFin.step (fun tT kK => XS.iand X0.here hx rfl (hb hby at_37) rfl kK) ?_
  show OwnFin p e below _ (s₁.setTop (mkF m 38 #[.val (.int te), .val (.int ma), .val (.int s_), .val (.int e_), .val (.int ((te &&& (255 : Int32)).toUInt32.toUInt16.toUInt32.toInt32)), .val (.int ((((te.toUInt32 >>> ((8 : Int32) &&& 31).toUInt32).toInt32) &&& (255 : Int32)).toUInt32.toUInt16.toUInt32.toInt32)), .val (.int ((((te.toUInt32 >>> ((16 : Int32) &&& 31).toUInt32).toInt32) &&& (255 : Int32)).toUInt32.toUInt16.toUInt32.toInt32)), .unset, .unset, .unset, .unset, .unset, .unset, .unset, .unset, .unset, .unset, .unset] [(.int (((te.toUInt32 >>> ((24 : Int32) &&& 31).toUInt32).toInt32) &&& (255 : Int32)))]))
  refine OwnFin.step (fun tT kK => XS.i2c X0.here hx rfl (hb hby at_38) rfl kK) ?_
  refine OwnFin.step (fun tT kK => XS.istore X0.here hx rfl (hb hby at_39) rfl (l' := #[.val (.int te), .val (.int ma), .val (.int s_), .val (.int e_), .val (.int ((te &&& (255 : Int32)).toUInt32.toUInt16.toUInt32.toInt32)), .val (.int ((((te.toUInt32 >>> ((8 : Int32) &&& 31).toUInt32).toInt32) &&& (255 : Int32)).toUInt32.toUInt16.toUInt32.toInt32)), .val (.int ((((te.toUInt32 >>> ((16 : Int32) &&& 31).toUInt32).toInt32) &&& (255 : Int32)).toUInt32.toUInt16.toUInt32.toInt32)), .val (.int ((((te.toUInt32 >>> ((24 : Int32) &&& 31).toUInt32).toInt32) &&& (255 : Int32)).toUInt32.toUInt16.toUInt32.toInt32)), .unset, .unset, .unset, .unset, .unset, .unset, .unset, .unset, .unset, .unset]) rfl kK) ?_
  show OwnFin p e below _ (s₁.setTop (mkF m 41 #[.val (.int te), .val (.int ma), .val (.int s_), .val (.int e_), .val (.int ((te &&& (255 : Int32)).toUInt32.toUInt16.toUInt32.toInt32)), .val (.int ((((te.toUInt32 >>> ((8 : Int32) &&& 31).toUInt32).toInt32) &&& (255 : Int32)).toUInt32.toUInt16.toUInt32.toInt32)), .val (.int ((((te.toUInt32 >>> ((16 : Int32) &&& 31).toUInt32).toInt32) &&& (255 : Int32)).toUInt32.toUInt16.toUInt32.toInt32)), .val (.int ((((te.toUInt32 >>> ((24 : Int32) &&& 31).toUInt32).toInt32) &&& (255 : Int32)).toUInt32.toUInt16.toUInt32.toInt32)), .unset, .unset, .unset, .unset, .unset, .unset, .unset, .unset, .unset, .unset] []))
  obtain ⟨c0, hc0⟩ : ∃ z : Int32, z = ((te &&& (255 : Int32)).toUInt32.toUInt16.toUInt32.toInt32) := ⟨_, rfl⟩
  rw [← hc0]
  show OwnFin p e below _ (s₁.setTop (mkF m 41 #[.val (.int te), .val (.int ma), .val (.int s_), .val (.int e_), .val (.int c0), .val (.int ((((te.toUInt32 >>> ((8 : Int32) &&& 31).toUInt32).toInt32) &&& (255 : Int32)).toUInt32.toUInt16.toUInt32.toInt32)), .val (.int ((((te.toUInt32 >>> ((16 : Int32) &&& 31).toUInt32).toInt32) &&& (255 : Int32)).toUInt32.toUInt16.toUInt32.toInt32)), .val (.int ((((te.toUInt32 >>> ((24 : Int32) &&& 31).toUInt32).toInt32) &&& (255 : Int32)).toUInt32.toUInt16.toUInt32.toInt32)), .unset, .unset, .unset, .unset, .unset, .unset, .unset, .unset, .unset, .unset] []))
  have i8c0 : In8 c0 := hc0 ▸ own_in8 _
  obtain ⟨c1, hc1⟩ : ∃ z : Int32, z = ((((te.toUInt32 >>> ((8 : Int32) &&& 31).toUInt32).toInt32) &&& (255 : Int32)).toUInt32.toUInt16.toUInt32.toInt32) := ⟨_, rfl⟩
  rw [← hc1]
  show OwnFin p e below _ (s₁.setTop (mkF m 41 #[.val (.int te), .val (.int ma), .val (.int s_), .val (.int e_), .val (.int c0), .val (.int c1), .val (.int ((((te.toUInt32 >>> ((16 : Int32) &&& 31).toUInt32).toInt32) &&& (255 : Int32)).toUInt32.toUInt16.toUInt32.toInt32)), .val (.int ((((te.toUInt32 >>> ((24 : Int32) &&& 31).toUInt32).toInt32) &&& (255 : Int32)).toUInt32.toUInt16.toUInt32.toInt32)), .unset, .unset, .unset, .unset, .unset, .unset, .unset, .unset, .unset, .unset] []))
  have i8c1 : In8 c1 := hc1 ▸ own_in8 _
  obtain ⟨c2, hc2⟩ : ∃ z : Int32, z = ((((te.toUInt32 >>> ((16 : Int32) &&& 31).toUInt32).toInt32) &&& (255 : Int32)).toUInt32.toUInt16.toUInt32.toInt32) := ⟨_, rfl⟩
  rw [← hc2]
  show OwnFin p e below _ (s₁.setTop (mkF m 41 #[.val (.int te), .val (.int ma), .val (.int s_), .val (.int e_), .val (.int c0), .val (.int c1), .val (.int c2), .val (.int ((((te.toUInt32 >>> ((24 : Int32) &&& 31).toUInt32).toInt32) &&& (255 : Int32)).toUInt32.toUInt16.toUInt32.toInt32)), .unset, .unset, .unset, .unset, .unset, .unset, .unset, .unset, .unset, .unset] []))
  have i8c2 : In8 c2 := hc2 ▸ own_in8 _
  obtain ⟨c3, hc3⟩ : ∃ z : Int32, z = ((((te.toUInt32 >>> ((24 : Int32) &&& 31).toUInt32).toInt32) &&& (255 : Int32)).toUInt32.toUInt16.toUInt32.toInt32) := ⟨_, rfl⟩
  rw [← hc3]
  show OwnFin p e below _ (s₁.setTop (mkF m 41 #[.val (.int te), .val (.int ma), .val (.int s_), .val (.int e_), .val (.int c0), .val (.int c1), .val (.int c2), .val (.int c3), .unset, .unset, .unset, .unset, .unset, .unset, .unset, .unset, .unset, .unset] []))
  have i8c3 : In8 c3 := hc3 ▸ own_in8 _
  obtain ⟨T1, h1, X1, e1, E1, A1, D1, -, st1⟩ := newO X0 hx hZ hown (hw _ (List.mem_of_getElem? (i := 0) rfl)) (hw _ (List.mem_of_getElem? (i := 1) rfl)) (hw _ (List.mem_of_getElem? (i := 2) rfl)) e0 (g := (mkF m 41 #[.val (.int te), .val (.int ma), .val (.int s_), .val (.int e_), .val (.int c0), .val (.int c1), .val (.int c2), .val (.int c3), .unset, .unset, .unset, .unset, .unset, .unset, .unset, .unset, .unset, .unset] [])) rfl (hb hby at_41) (by decide) (by decide)
  obtain ⟨b1, g1⟩ : ∃ z, z = h0.size := ⟨_, rfl⟩
  rw [← g1] at A1 D1 st1
  refine OwnFin.step st1 ?_
  have sz_b1 : h0.size ≤ b1 := Nat.le_trans Kp0.1 (Nat.le_of_eq g1.symm)
  have Kp2 := Kp0.ext E1
  have cp3 := (CHr.ext E1 C0.1)
  have C3 := C0.trans cp3
  have sf_b1 := (Safe.new (Nat.le_of_eq g1.symm)).ext E1 C0.1
  have Fz4 : Fld Z h1 b1 "java/lang/String" "coder" "B" (.int (0 : Int32)) := D1 (Or.inr (hw _ (List.mem_of_getElem? (i := 27) rfl))) (ty := .byte) (by decide)
  have Fz5 : Fld Z h1 b1 "java/lang/String" "value" "[B" .null := D1 (Or.inr (hw _ (List.mem_of_getElem? (i := 29) rfl))) (ty := (.array .byte)) (by decide)
  show OwnFin p e below _ (T1.setTop (mkF m 44 #[.val (.int te), .val (.int ma), .val (.int s_), .val (.int e_), .val (.int c0), .val (.int c1), .val (.int c2), .val (.int c3), .unset, .unset, .unset, .unset, .unset, .unset, .unset, .unset, .unset, .unset] [(.ref b1)]))
  refine OwnFin.step (fun tT kK => XS.dup X1.here hx rfl (hb hby at_44) rfl rfl kK) ?_
  show OwnFin p e below _ (T1.setTop (mkF m 45 #[.val (.int te), .val (.int ma), .val (.int s_), .val (.int e_), .val (.int c0), .val (.int c1), .val (.int c2), .val (.int c3), .unset, .unset, .unset, .unset, .unset, .unset, .unset, .unset, .unset, .unset] [(.ref b1), (.ref b1)]))
  refine OwnFin.step (fun tT kK => XS.iconst X1.here hx rfl (hb hby at_45) kK) ?_
  obtain ⟨T6, h6, k6, X6, e6, E6, A6, st6⟩ := newP X1 hx hZ (hw _ (List.mem_of_getElem? (i := 3) rfl)) e1 (g := (mkF m 46 #[.val (.int te), .val (.int ma), .val (.int s_), .val (.int e_), .val (.int c0), .val (.int c1), .val (.int c2), .val (.int c3), .unset, .unset, .unset, .unset, .unset, .unset, .unset, .unset, .unset, .unset] [(.int (4 : Int32)), (.ref b1), (.ref b1)])) rfl (hb hby at_46) rfl (by decide) (cap := 4) (by decide) (by decide) (by decide) (by decide)
  obtain ⟨b6, g6⟩ : ∃ z, z = h1.size := ⟨_, rfl⟩
  rw [← g6] at A6 st6
  refine OwnFin.step st6 ?_
  have sz_b6 : h0.size ≤ b6 := Nat.le_trans Kp2.1 (Nat.le_of_eq g6.symm)
  have Kp7 := Kp2.ext E6
  have cp8 := (CHr.ext E6 C3.1)
  have C8 := C3.trans cp8
  have sf_b6 := (Safe.new (Nat.le_of_eq g6.symm)).ext E6 C3.1
  have V6 : Arv Z h6 b6 k6 .char (4 : Int32) [(.int (0 : Int32)), (.int (0 : Int32)), (.int (0 : Int32)), (.int (0 : Int32))] (.int (0 : Int32)) := (Arv.new A6 (by decide)).pad (pad_rep [] (.int (0 : Int32)) 4)
  show OwnFin p e below _ (T6.setTop (mkF m 48 #[.val (.int te), .val (.int ma), .val (.int s_), .val (.int e_), .val (.int c0), .val (.int c1), .val (.int c2), .val (.int c3), .unset, .unset, .unset, .unset, .unset, .unset, .unset, .unset, .unset, .unset] [(.ref b6), (.ref b1), (.ref b1)]))
  refine OwnFin.step (fun tT kK => XS.dup X6.here hx rfl (hb hby at_48) rfl rfl kK) ?_
  show OwnFin p e below _ (T6.setTop (mkF m 49 #[.val (.int te), .val (.int ma), .val (.int s_), .val (.int e_), .val (.int c0), .val (.int c1), .val (.int c2), .val (.int c3), .unset, .unset, .unset, .unset, .unset, .unset, .unset, .unset, .unset, .unset] [(.ref b6), (.ref b6), (.ref b1), (.ref b1)]))
  refine OwnFin.step (fun tT kK => XS.iconst X6.here hx rfl (hb hby at_49) kK) ?_
  refine OwnFin.step (fun tT kK => XS.iload X6.here hx rfl (hb hby at_50) rfl kK) ?_
  show OwnFin p e below _ (T6.setTop (mkF m 52 #[.val (.int te), .val (.int ma), .val (.int s_), .val (.int e_), .val (.int c0), .val (.int c1), .val (.int c2), .val (.int c3), .unset, .unset, .unset, .unset, .unset, .unset, .unset, .unset, .unset, .unset] [(.int c0), (.int (0 : Int32)), (.ref b6), (.ref b6), (.ref b1), (.ref b1)]))
  obtain ⟨cl9, Ar9, q9, Sz9, Ng9, H9, G9⟩ := id V6
  have hin9 : ¬ ((0 : Int32) < 0 ∨ cl9.slots.size ≤ ((0 : Int32)).toNatClampNeg) := inb_of Sz9 ⟨by decide, by decide⟩
  obtain ⟨T10, h10, X10, e10, W10, st10⟩ := stC X6 hx hZ e6 Ar9 (j := (0 : Int32)) hin9 (g := (mkF m 52 #[.val (.int te), .val (.int ma), .val (.int s_), .val (.int e_), .val (.int c0), .val (.int c1), .val (.int c2), .val (.int c3), .unset, .unset, .unset, .unset, .unset, .unset, .unset, .unset, .unset, .unset] [(.int c0), (.int (0 : Int32)), (.ref b6), (.ref b6), (.ref b1), (.ref b1)])) rfl rfl (hb hby at_52)
  refine OwnFin.step st10 ?_
  have N10 := Fr.snoc X10 N0 (Nat.le_trans Z0 sz_b6)
  have Kp11 := Kp7.wr W10 (Or.inr sz_b6)
  have cp12 := (CHr.wr W10 (Safe.arv hZ.alike V6 (by decide)) C8.1)
  have C12 := C8.trans cp12
  have V10 : Arv Z h10 b6 k6 .char (4 : Int32) [(.int (nar .char c0)), (.int (0 : Int32)), (.int (0 : Int32)), (.int (0 : Int32))] (.int (0 : Int32)) := Arv.set Ar9 q9 Sz9 Ng9 H9 G9 (fits_nar_char _) W10 0 rfl (Nat.le_of_ble_eq_true rfl)
  show OwnFin p e below _ (T10.setTop (mkF m 53 #[.val (.int te), .val (.int ma), .val (.int s_), .val (.int e_), .val (.int c0), .val (.int c1), .val (.int c2), .val (.int c3), .unset, .unset, .unset, .unset, .unset, .unset, .unset, .unset, .unset, .unset] [(.ref b6), (.ref b1), (.ref b1)]))
  refine OwnFin.step (fun tT kK => XS.dup X10.here hx rfl (hb hby at_53) rfl rfl kK) ?_
  refine OwnFin.step (fun tT kK => XS.iconst X10.here hx rfl (hb hby at_54) kK) ?_
  show OwnFin p e below _ (T10.setTop (mkF m 55 #[.val (.int te), .val (.int ma), .val (.int s_), .val (.int e_), .val (.int c0), .val (.int c1), .val (.int c2), .val (.int c3), .unset, .unset, .unset, .unset, .unset, .unset, .unset, .unset, .unset, .unset] [(.int (1 : Int32)), (.ref b6), (.ref b6), (.ref b1), (.ref b1)]))
  refine OwnFin.step (fun tT kK => XS.iload X10.here hx rfl (hb hby at_55) rfl kK) ?_
  obtain ⟨cl13, Ar13, q13, Sz13, Ng13, H13, G13⟩ := id V10
  have hin13 : ¬ ((1 : Int32) < 0 ∨ cl13.slots.size ≤ ((1 : Int32)).toNatClampNeg) := inb_of Sz13 ⟨by decide, by decide⟩
  obtain ⟨T14, h14, X14, e14, W14, st14⟩ := stC X10 hx hZ e10 Ar13 (j := (1 : Int32)) hin13 (g := (mkF m 57 #[.val (.int te), .val (.int ma), .val (.int s_), .val (.int e_), .val (.int c0), .val (.int c1), .val (.int c2), .val (.int c3), .unset, .unset, .unset, .unset, .unset, .unset, .unset, .unset, .unset, .unset] [(.int c1), (.int (1 : Int32)), (.ref b6), (.ref b6), (.ref b1), (.ref b1)])) rfl rfl (hb hby at_57)
  refine OwnFin.step st14 ?_
  have N14 := Fr.snoc X14 N10 (Nat.le_trans Z0 sz_b6)
  have Kp15 := Kp11.wr W14 (Or.inr sz_b6)
  have cp16 := (CHr.wr W14 (Safe.arv hZ.alike V10 (by decide)) C12.1)
  have C16 := C12.trans cp16
  have V14 : Arv Z h14 b6 k6 .char (4 : Int32) [(.int (nar .char c0)), (.int (nar .char c1)), (.int (0 : Int32)), (.int (0 : Int32))] (.int (0 : Int32)) := Arv.set Ar13 q13 Sz13 Ng13 H13 G13 (fits_nar_char _) W14 1 rfl (Nat.le_of_ble_eq_true rfl)
  show OwnFin p e below _ (T14.setTop (mkF m 58 #[.val (.int te), .val (.int ma), .val (.int s_), .val (.int e_), .val (.int c0), .val (.int c1), .val (.int c2), .val (.int c3), .unset, .unset, .unset, .unset, .unset, .unset, .unset, .unset, .unset, .unset] [(.ref b6), (.ref b1), (.ref b1)]))
  refine OwnFin.step (fun tT kK => XS.dup X14.here hx rfl (hb hby at_58) rfl rfl kK) ?_
  show OwnFin p e below _ (T14.setTop (mkF m 59 #[.val (.int te), .val (.int ma), .val (.int s_), .val (.int e_), .val (.int c0), .val (.int c1), .val (.int c2), .val (.int c3), .unset, .unset, .unset, .unset, .unset, .unset, .unset, .unset, .unset, .unset] [(.ref b6), (.ref b6), (.ref b1), (.ref b1)]))
  refine OwnFin.step (fun tT kK => XS.iconst X14.here hx rfl (hb hby at_59) kK) ?_
  refine OwnFin.step (fun tT kK => XS.iload X14.here hx rfl (hb hby at_60) rfl kK) ?_
  show OwnFin p e below _ (T14.setTop (mkF m 62 #[.val (.int te), .val (.int ma), .val (.int s_), .val (.int e_), .val (.int c0), .val (.int c1), .val (.int c2), .val (.int c3), .unset, .unset, .unset, .unset, .unset, .unset, .unset, .unset, .unset, .unset] [(.int c2), (.int (2 : Int32)), (.ref b6), (.ref b6), (.ref b1), (.ref b1)]))
  obtain ⟨cl17, Ar17, q17, Sz17, Ng17, H17, G17⟩ := id V14
  have hin17 : ¬ ((2 : Int32) < 0 ∨ cl17.slots.size ≤ ((2 : Int32)).toNatClampNeg) := inb_of Sz17 ⟨by decide, by decide⟩
  obtain ⟨T18, h18, X18, e18, W18, st18⟩ := stC X14 hx hZ e14 Ar17 (j := (2 : Int32)) hin17 (g := (mkF m 62 #[.val (.int te), .val (.int ma), .val (.int s_), .val (.int e_), .val (.int c0), .val (.int c1), .val (.int c2), .val (.int c3), .unset, .unset, .unset, .unset, .unset, .unset, .unset, .unset, .unset, .unset] [(.int c2), (.int (2 : Int32)), (.ref b6), (.ref b6), (.ref b1), (.ref b1)])) rfl rfl (hb hby at_62)
  refine OwnFin.step st18 ?_
  have N18 := Fr.snoc X18 N14 (Nat.le_trans Z0 sz_b6)
  have Kp19 := Kp15.wr W18 (Or.inr sz_b6)
  have cp20 := (CHr.wr W18 (Safe.arv hZ.alike V14 (by decide)) C16.1)
  have C20 := C16.trans cp20
  have V18 : Arv Z h18 b6 k6 .char (4 : Int32) [(.int (nar .char c0)), (.int (nar .char c1)), (.int (nar .char c2)), (.int (0 : Int32))] (.int (0 : Int32)) := Arv.set Ar17 q17 Sz17 Ng17 H17 G17 (fits_nar_char _) W18 2 rfl (Nat.le_of_ble_eq_true rfl)
  show OwnFin p e below _ (T18.setTop (mkF m 63 #[.val (.int te), .val (.int ma), .val (.int s_), .val (.int e_), .val (.int c0), .val (.int c1), .val (.int c2), .val (.int c3), .unset, .unset, .unset, .unset, .unset, .unset, .unset, .unset, .unset, .unset] [(.ref b6), (.ref b1), (.ref b1)]))
  refine OwnFin.step (fun tT kK => XS.dup X18.here hx rfl (hb hby at_63) rfl rfl kK) ?_
  refine OwnFin.step (fun tT kK => XS.iconst X18.here hx rfl (hb hby at_64) kK) ?_
  show OwnFin p e below _ (T18.setTop (mkF m 65 #[.val (.int te), .val (.int ma), .val (.int s_), .val (.int e_), .val (.int c0), .val (.int c1), .val (.int c2), .val (.int c3), .unset, .unset, .unset, .unset, .unset, .unset, .unset, .unset, .unset, .unset] [(.int (3 : Int32)), (.ref b6), (.ref b6), (.ref b1), (.ref b1)]))
  refine OwnFin.step (fun tT kK => XS.iload X18.here hx rfl (hb hby at_65) rfl kK) ?_
  obtain ⟨cl21, Ar21, q21, Sz21, Ng21, H21, G21⟩ := id V18
  have hin21 : ¬ ((3 : Int32) < 0 ∨ cl21.slots.size ≤ ((3 : Int32)).toNatClampNeg) := inb_of Sz21 ⟨by decide, by decide⟩
  obtain ⟨T22, h22, X22, e22, W22, st22⟩ := stC X18 hx hZ e18 Ar21 (j := (3 : Int32)) hin21 (g := (mkF m 67 #[.val (.int te), .val (.int ma), .val (.int s_), .val (.int e_), .val (.int c0), .val (.int c1), .val (.int c2), .val (.int c3), .unset, .unset, .unset, .unset, .unset, .unset, .unset, .unset, .unset, .unset] [(.int c3), (.int (3 : Int32)), (.ref b6), (.ref b6), (.ref b1), (.ref b1)])) rfl rfl (hb hby at_67)
  refine OwnFin.step st22 ?_
  have N22 := Fr.snoc X22 N18 (Nat.le_trans Z0 sz_b6)
  have Kp23 := Kp19.wr W22 (Or.inr sz_b6)
  have cp24 := (CHr.wr W22 (Safe.arv hZ.alike V18 (by decide)) C20.1)
  have C24 := C20.trans cp24
  have V22 : Arv Z h22 b6 k6 .char (4 : Int32) [(.int (nar .char c0)), (.int (nar .char c1)), (.int (nar .char c2)), (.int (nar .char c3))] (.int (0 : Int32)) := Arv.set Ar21 q21 Sz21 Ng21 H21 G21 (fits_nar_char _) W22 3 rfl (Nat.le_of_ble_eq_true rfl)
  show OwnFin p e below _ (T22.setTop (mkF m 68 #[.val (.int te), .val (.int ma), .val (.int s_), .val (.int e_), .val (.int c0), .val (.int c1), .val (.int c2), .val (.int c3), .unset, .unset, .unset, .unset, .unset, .unset, .unset, .unset, .unset, .unset] [(.ref b6), (.ref b1), (.ref b1)]))
  have f25 : Exa Z h22 b1 "java/lang/String" := (((((A1.ext E6).wr W10).wr W14).wr W18).wr W22)
  have f26 : Fld Z h22 b1 "java/lang/String" "value" "[B" .null := (((((Fz5.ext E6).other W10 (Or.inl (Nat.ne_of_lt (Nat.lt_of_lt_of_le (Nat.lt_of_lt_of_le A1.lt (Nat.le_refl _)) (Nat.le_of_eq g6.symm))))).other W14 (Or.inl (Nat.ne_of_lt (Nat.lt_of_lt_of_le (Nat.lt_of_lt_of_le A1.lt (Nat.le_refl _)) (Nat.le_of_eq g6.symm))))).other W18 (Or.inl (Nat.ne_of_lt (Nat.lt_of_lt_of_le (Nat.lt_of_lt_of_le A1.lt (Nat.le_refl _)) (Nat.le_of_eq g6.symm))))).other W22 (Or.inl (Nat.ne_of_lt (Nat.lt_of_lt_of_le (Nat.lt_of_lt_of_le A1.lt (Nat.le_refl _)) (Nat.le_of_eq g6.symm)))))
  have f27 : Fld Z h22 b1 "java/lang/String" "coder" "B" (.int (0 : Int32)) := (((((Fz4.ext E6).other W10 (Or.inl (Nat.ne_of_lt (Nat.lt_of_lt_of_le (Nat.lt_of_lt_of_le A1.lt (Nat.le_refl _)) (Nat.le_of_eq g6.symm))))).other W14 (Or.inl (Nat.ne_of_lt (Nat.lt_of_lt_of_le (Nat.lt_of_lt_of_le A1.lt (Nat.le_refl _)) (Nat.le_of_eq g6.symm))))).other W18 (Or.inl (Nat.ne_of_lt (Nat.lt_of_lt_of_le (Nat.lt_of_lt_of_le A1.lt (Nat.le_refl _)) (Nat.le_of_eq g6.symm))))).other W22 (Or.inl (Nat.ne_of_lt (Nat.lt_of_lt_of_le (Nat.lt_of_lt_of_le A1.lt (Nat.le_refl _)) (Nat.le_of_eq g6.symm)))))
  have f28 : Sta Z h22 "java/lang/String" "COMPACT_STRINGS" "Z" (.int cs) := (own_sta_keep hp0 Kp23 all0)
  obtain ⟨_, _, ⟨T29, L29, k29, n29⟩, -, X29, ⟨Lc29, hQ29, l29, y29, z29⟩, st29⟩ := X22.specialBack hx (y := (⟨"java/lang/String", "<init>", "([C)V"⟩ : MethodName)) rfl hown (mvT hZ (hw _ (List.mem_of_getElem? (i := 4) rfl))) (mvT hZ (hw _ (List.mem_of_getElem? (i := 5) rfl))) (mvT hZ (hw _ (List.mem_of_getElem? (i := 6) rfl))) (by decide) (backOf (W := 1) (rm84 l Z a0 hw hEL wS [] b1 b6 k6 cs (nar .char c0) (nar .char c1) (nar .char c2) (nar .char c3) h22 n0 (Nat.le_trans Z0 Kp23.1) f25 f26 f27 (Nat.le_trans Z0 sz_b1) V22 f28 hp1 ((own_narc i8c0).symm ▸ own_lt i8c0) ((own_narc i8c1).symm ▸ own_lt i8c1) ((own_narc i8c2).symm ▸ own_lt i8c2) ((own_narc i8c3).symm ▸ own_lt i8c3)) hZ (hw _ (List.mem_of_getElem? (i := 6) rfl)) (hw _ (List.mem_of_getElem? (i := 2) rfl)) (by decide) (by decide)) (g := (mkF m 68 #[.val (.int te), .val (.int ma), .val (.int s_), .val (.int e_), .val (.int c0), .val (.int c1), .val (.int c2), .val (.int c3), .unset, .unset, .unset, .unset, .unset, .unset, .unset, .unset, .unset, .unset] [(.ref b6), (.ref b1), (.ref b1)])) rfl (by rw [hml]; rfl) (Steps.refl _) (a := b1) (argsL := [(.ref b6)]) (rest := [(.ref b1)]) (lenOf pd_300 rfl) rfl (by show 2 * 0 + _ ≤ _; exact Nat.le_of_eq rfl) (hb hby at_68) (fun _ _ => ⟨rfl, e22, (by decide : 2 + 1 ≤ _), (by decide : 8 + 4 ≤ _)⟩)
  dsimp only [Pt.U, Pt.locs, Pt.cells, Pt.slots] at X29 l29 y29 z29 st29 hQ29
  subst l29 y29 z29
  obtain ⟨b30, ⟨kb31, ⟨rfl, N29q, K29, B29_0, P29_0, P29_1, P29_2, P29_3⟩⟩⟩ := hQ29
  have N29 := Fr.app N22 N29q
  refine OwnFin.step (fun tT kK => st29.trans kK) ?_
  have sz_b30 : h0.size ≤ b30 := Nat.le_trans Kp23.1 B29_0
  have sf32 : Safe Z OwnEL s.vm h22 b1 := ((((cp8.trans cp12).trans cp16).trans cp20).trans cp24).safe (Nat.lt_of_lt_of_le A1.lt (Nat.le_refl _)) sf_b1
  have Kp33 := Kp23.trans K29 (allS (P := fun x => x ∈ ([] : List Addr) ∨ h0.size ≤ x) (Or.inr sz_b1) all0)
  have cp34 := (CHr.keep K29 (sfS sf32 sf0) C24.1)
  have C34 := C24.trans cp34
  show OwnFin p e below _ (T29.setTop (mkF m 71 #[.val (.int te), .val (.int ma), .val (.int s_), .val (.int e_), .val (.int c0), .val (.int c1), .val (.int c2), .val (.int c3), .unset, .unset, .unset, .unset, .unset, .unset, .unset, .unset, .unset, .unset] [(.ref b1)]))
  have Vc35 : Arv Z T29.heap b30 kb31 .byte (4 : Int32) [(.int (nar .byte (c0.toInt8.toInt32))), (.int (nar .byte (c1.toInt8.toInt32))), (.int (nar .byte (c2.toInt8.toInt32))), (.int (nar .byte (c3.toInt8.toInt32)))] (.int (0 : Int32)) := by
    have hq := P29_3
    rw [own_narc i8c0, own_narc i8c1, own_narc i8c2, own_narc i8c3] at hq
    exact hq
  refine OwnFin.step (fun tT kK => XS.astore X29.here hx rfl (hb hby at_71) rfl rfl (l' := #[.val (.int te), .val (.int ma), .val (.int s_), .val (.int e_), .val (.int c0), .val (.int c1), .val (.int c2), .val (.int c3), .val (.ref b1), .unset, .unset, .unset, .unset, .unset, .unset, .unset, .unset, .unset]) rfl kK) ?_
  show OwnFin p e below _ (T29.setTop (mkF m 73 #[.val (.int te), .val (.int ma), .val (.int s_), .val (.int e_), .val (.int c0), .val (.int c1), .val (.int c2), .val (.int c3), .val (.ref b1), .unset, .unset, .unset, .unset, .unset, .unset, .unset, .unset, .unset] []))
  refine OwnFin.step (fun tT kK => XS.iloadN X29.here hx rfl (hb hby at_73) rfl kK) ?_
  refine OwnFin.step (fun tT kK => XS.sipush X29.here hx rfl (hb hby at_74) kK) ?_
  show OwnFin p e below _ (T29.setTop (mkF m 77 #[.val (.int te), .val (.int ma), .val (.int s_), .val (.int e_), .val (.int c0), .val (.int c1), .val (.int c2), .val (.int c3), .val (.ref b1), .unset, .unset, .unset, .unset, .unset, .unset, .unset, .unset, .unset] [(.int (255 : Int32)), (.int ma)]))
  refine OwnFin.step (fun tT kK => XS.iand X29.here hx rfl (hb hby at_77) rfl kK) ?_
  refine OwnFin.step (fun tT kK => XS.i2c X29.here hx rfl (hb hby at_78) rfl kK) ?_
  show OwnFin p e below _ (T29.setTop (mkF m 79 #[.val (.int te), .val (.int ma), .val (.int s_), .val (.int e_), .val (.int c0), .val (.int c1), .val (.int c2), .val (.int c3), .val (.ref b1), .unset, .unset, .unset, .unset, .unset, .unset, .unset, .unset, .unset] [(.int ((ma &&& (255 : Int32)).toUInt32.toUInt16.toUInt32.toInt32))]))
  refine OwnFin.step (fun tT kK => XS.istore X29.here hx rfl (hb hby at_79) rfl (l' := #[.val (.int te), .val (.int ma), .val (.int s_), .val (.int e_), .val (.int c0), .val (.int c1), .val (.int c2), .val (.int c3), .val (.ref b1), .val (.int ((ma &&& (255 : Int32)).toUInt32.toUInt16.toUInt32.toInt32)), .unset, .unset, .unset, .unset, .unset, .unset, .unset, .unset]) rfl kK) ?_
  refine OwnFin.step (fun tT kK => XS.iloadN X29.here hx rfl (hb hby at_81) rfl kK) ?_
  show OwnFin p e below _ (T29.setTop (mkF m 82 #[.val (.int te), .val (.int ma), .val (.int s_), .val (.int e_), .val (.int c0), .val (.int c1), .val (.int c2), .val (.int c3), .val (.ref b1), .val (.int ((ma &&& (255 : Int32)).toUInt32.toUInt16.toUInt32.toInt32)), .unset, .unset, .unset, .unset, .unset, .unset, .unset, .unset] [(.int ma)]))
  refine OwnFin.step (fun tT kK => XS.bipush X29.here hx rfl (hb hby at_82) kK) ?_
  refine OwnFin.step (fun tT kK => XS.iushr X29.here hx rfl (hb hby at_84) rfl kK) ?_
  show OwnFin p e below _ (T29.setTop (mkF m 85 #[.val (.int te), .val (.int ma), .val (.int s_), .val (.int e_), .val (.int c0), .val (.int c1), .val (.int c2), .val (.int c3), .val (.ref b1), .val (.int ((ma &&& (255 : Int32)).toUInt32.toUInt16.toUInt32.toInt32)), .unset, .unset, .unset, .unset, .unset, .unset, .unset, .unset] [(.int ((ma.toUInt32 >>> ((8 : Int32) &&& 31).toUInt32).toInt32))]))
  refine OwnFin.step (fun tT kK => XS.sipush X29.here hx rfl (hb hby at_85) kK) ?_
  refine OwnFin.step (fun tT kK => XS.iand X29.here hx rfl (hb hby at_88) rfl kK) ?_
  show OwnFin p e below _ (T29.setTop (mkF m 89 #[.val (.int te), .val (.int ma), .val (.int s_), .val (.int e_), .val (.int c0), .val (.int c1), .val (.int c2), .val (.int c3), .val (.ref b1), .val (.int ((ma &&& (255 : Int32)).toUInt32.toUInt16.toUInt32.toInt32)), .unset, .unset, .unset, .unset, .unset, .unset, .unset, .unset] [(.int (((ma.toUInt32 >>> ((8 : Int32) &&& 31).toUInt32).toInt32) &&& (255 : Int32)))]))
  refine OwnFin.step (fun tT kK => XS.i2c X29.here hx rfl (hb hby at_89) rfl kK) ?_
  refine OwnFin.step (fun tT kK => XS.istore X29.here hx rfl (hb hby at_90) rfl (l' := #[.val (.int te), .val (.int ma), .val (.int s_), .val (.int e_), .val (.int c0), .val (.int c1), .val (.int c2), .val (.int c3), .val (.ref b1), .val (.int ((ma &&& (255 : Int32)).toUInt32.toUInt16.toUInt32.toInt32)), .val (.int ((((ma.toUInt32 >>> ((8 : Int32) &&& 31).toUInt32).toInt32) &&& (255 : Int32)).toUInt32.toUInt16.toUInt32.toInt32)), .unset, .unset, .unset, .unset, .unset, .unset, .unset]) rfl kK) ?_
  show OwnFin p e below _ (T29.setTop (mkF m 92 #[.val (.int te), .val (.int ma), .val (.int s_), .val (.int e_), .val (.int c0), .val (.int c1), .val (.int c2), .val (.int c3), .val (.ref b1), .val (.int ((ma &&& (255 : Int32)).toUInt32.toUInt16.toUInt32.toInt32)), .val (.int ((((ma.toUInt32 >>> ((8 : Int32) &&& 31).toUInt32).toInt32) &&& (255 : Int32)).toUInt32.toUInt16.toUInt32.toInt32)), .unset, .unset, .unset, .unset, .unset, .unset, .unset] []))
  refine OwnFin.step (fun tT kK => XS.iloadN X29.here hx rfl (hb hby at_92) rfl kK) ?_
  refine OwnFin.step (fun tT kK => XS.bipush X29.here hx rfl (hb hby at_93) kK) ?_
  show OwnFin p e below _ (T29.setTop (mkF m 95 #[.val (.int te), .val (.int ma), .val (.int s_), .val (.int e_), .val (.int c0), .val (.int c1), .val (.int c2), .val (.int c3), .val (.ref b1), .val (.int ((ma &&& (255 : Int32)).toUInt32.toUInt16.toUInt32.toInt32)), .val (.int ((((ma.toUInt32 >>> ((8 : Int32) &&& 31).toUInt32).toInt32) &&& (255 : Int32)).toUInt32.toUInt16.toUInt32.toInt32)), .unset, .unset, .unset, .unset, .unset, .unset, .unset] [(.int (16 : Int32)), (.int ma)]))
  refine OwnFin.step (fun tT kK => XS.iushr X29.here hx rfl (hb hby at_95) rfl kK) ?_
  refine OwnFin.step (fun tT kK => XS.iconst X29.here hx rfl (hb hby at_96) kK) ?_
  show OwnFin p e below _ (T29.setTop (mkF m 97 #[.val (.int te), .val (.int ma), .val (.int s_), .val (.int e_), .val (.int c0), .val (.int c1), .val (.int c2), .val (.int c3), .val (.ref b1), .val (.int ((ma &&& (255 : Int32)).toUInt32.toUInt16.toUInt32.toInt32)), .val (.int ((((ma.toUInt32 >>> ((8 : Int32) &&& 31).toUInt32).toInt32) &&& (255 : Int32)).toUInt32.toUInt16.toUInt32.toInt32)), .unset, .unset, .unset, .unset, .unset, .unset, .unset] [(.int (3 : Int32)), (.int ((ma.toUInt32 >>> ((16 : Int32) &&& 31).toUInt32).toInt32))]))
  refine OwnFin.step (fun tT kK => XS.iand X29.here hx rfl (hb hby at_97) rfl kK) ?_
  refine OwnFin.step (fun tT kK => XS.iconst X29.here hx rfl (hb hby at_98) kK) ?_
  show OwnFin p e below _ (T29.setTop (mkF m 99 #[.val (.int te), .val (.int ma), .val (.int s_), .val (.int e_), .val (.int c0), .val (.int c1), .val (.int c2), .val (.int c3), .val (.ref b1), .val (.int ((ma &&& (255 : Int32)).toUInt32.toUInt16.toUInt32.toInt32)), .val (.int ((((ma.toUInt32 >>> ((8 : Int32) &&& 31).toUInt32).toInt32) &&& (255 : Int32)).toUInt32.toUInt16.toUInt32.toInt32)), .unset, .unset, .unset, .unset, .unset, .unset, .unset] [(.int (3 : Int32)), (.int (((ma.toUInt32 >>> ((16 : Int32) &&& 31).toUInt32).toInt32) &&& (3 : Int32)))]))
  refine OwnFin.step (fun tT kK => iremM (g := (mkF m 99 #[.val (.int te), .val (.int ma), .val (.int s_), .val (.int e_), .val (.int c0), .val (.int c1), .val (.int c2), .val (.int c3), .val (.ref b1), .val (.int ((ma &&& (255 : Int32)).toUInt32.toUInt16.toUInt32.toInt32)), .val (.int ((((ma.toUInt32 >>> ((8 : Int32) &&& 31).toUInt32).toInt32) &&& (255 : Int32)).toUInt32.toUInt16.toUInt32.toInt32)), .unset, .unset, .unset, .unset, .unset, .unset, .unset] [(.int (3 : Int32)), (.int (((ma.toUInt32 >>> ((16 : Int32) &&& 31).toUInt32).toInt32) &&& (3 : Int32)))])) X29 hx rfl (hb hby at_99) rfl (by decide) kK) ?_
  refine OwnFin.step (fun tT kK => XS.istore X29.here hx rfl (hb hby at_100) rfl (l' := #[.val (.int te), .val (.int ma), .val (.int s_), .val (.int e_), .val (.int c0), .val (.int c1), .val (.int c2), .val (.int c3), .val (.ref b1), .val (.int ((ma &&& (255 : Int32)).toUInt32.toUInt16.toUInt32.toInt32)), .val (.int ((((ma.toUInt32 >>> ((8 : Int32) &&& 31).toUInt32).toInt32) &&& (255 : Int32)).toUInt32.toUInt16.toUInt32.toInt32)), .val (.int ((((ma.toUInt32 >>> ((16 : Int32) &&& 31).toUInt32).toInt32) &&& (3 : Int32)) % (3 : Int32))), .unset, .unset, .unset, .unset, .unset, .unset]) rfl kK) ?_
  show OwnFin p e below _ (T29.setTop (mkF m 102 #[.val (.int te), .val (.int ma), .val (.int s_), .val (.int e_), .val (.int c0), .val (.int c1), .val (.int c2), .val (.int c3), .val (.ref b1), .val (.int ((ma &&& (255 : Int32)).toUInt32.toUInt16.toUInt32.toInt32)), .val (.int ((((ma.toUInt32 >>> ((8 : Int32) &&& 31).toUInt32).toInt32) &&& (255 : Int32)).toUInt32.toUInt16.toUInt32.toInt32)), .val (.int ((((ma.toUInt32 >>> ((16 : Int32) &&& 31).toUInt32).toInt32) &&& (3 : Int32)) % (3 : Int32))), .unset, .unset, .unset, .unset, .unset, .unset] []))
  obtain ⟨m0, hm0⟩ : ∃ z : Int32, z = ((ma &&& (255 : Int32)).toUInt32.toUInt16.toUInt32.toInt32) := ⟨_, rfl⟩
  rw [← hm0]
  show OwnFin p e below _ (T29.setTop (mkF m 102 #[.val (.int te), .val (.int ma), .val (.int s_), .val (.int e_), .val (.int c0), .val (.int c1), .val (.int c2), .val (.int c3), .val (.ref b1), .val (.int m0), .val (.int ((((ma.toUInt32 >>> ((8 : Int32) &&& 31).toUInt32).toInt32) &&& (255 : Int32)).toUInt32.toUInt16.toUInt32.toInt32)), .val (.int ((((ma.toUInt32 >>> ((16 : Int32) &&& 31).toUInt32).toInt32) &&& (3 : Int32)) % (3 : Int32))), .unset, .unset, .unset, .unset, .unset, .unset] []))
  have i8m0 : In8 m0 := hm0 ▸ own_in8 _
  obtain ⟨m1, hm1⟩ : ∃ z : Int32, z = ((((ma.toUInt32 >>> ((8 : Int32) &&& 31).toUInt32).toInt32) &&& (255 : Int32)).toUInt32.toUInt16.toUInt32.toInt32) := ⟨_, rfl⟩
  rw [← hm1]
  show OwnFin p e below _ (T29.setTop (mkF m 102 #[.val (.int te), .val (.int ma), .val (.int s_), .val (.int e_), .val (.int c0), .val (.int c1), .val (.int c2), .val (.int c3), .val (.ref b1), .val (.int m0), .val (.int m1), .val (.int ((((ma.toUInt32 >>> ((16 : Int32) &&& 31).toUInt32).toInt32) &&& (3 : Int32)) % (3 : Int32))), .unset, .unset, .unset, .unset, .unset, .unset] []))
  have i8m1 : In8 m1 := hm1 ▸ own_in8 _
  obtain ⟨k_, hk_⟩ : ∃ z : Int32, z = ((((ma.toUInt32 >>> ((16 : Int32) &&& 31).toUInt32).toInt32) &&& (3 : Int32)) % (3 : Int32)) := ⟨_, rfl⟩
  rw [← hk_]
  show OwnFin p e below _ (T29.setTop (mkF m 102 #[.val (.int te), .val (.int ma), .val (.int s_), .val (.int e_), .val (.int c0), .val (.int c1), .val (.int c2), .val (.int c3), .val (.ref b1), .val (.int m0), .val (.int m1), .val (.int k_), .unset, .unset, .unset, .unset, .unset, .unset] []))
  rcases own_cases3 (hk_ ▸ own_k3 _).1 (hk_ ▸ own_k3 _).2 with rfl | rfl | rfl
  · skip
    show OwnFin p e below _ (T29.setTop (mkF m 102 #[.val (.int te), .val (.int ma), .val (.int s_), .val (.int e_), .val (.int c0), .val (.int c1), .val (.int c2), .val (.int c3), .val (.ref b1), .val (.int m0), .val (.int m1), .val (.int (0 : Int32)), .unset, .unset, .unset, .unset, .unset, .unset] []))
    refine OwnFin.step (fun tT kK => XS.iload X29.here hx rfl (hb hby at_102) rfl kK) ?_
    refine OwnFin.step (fun tT kK => XS.ifNo X29.here hx rfl (hb hby at_104) rfl ((if0 _ _).trans (teq (rfl : (0 : Int32) = (0 : Int32))).2) kK) ?_
    show OwnFin p e below _ (T29.setTop (mkF m 107 #[.val (.int te), .val (.int ma), .val (.int s_), .val (.int e_), .val (.int c0), .val (.int c1), .val (.int c2), .val (.int c3), .val (.ref b1), .val (.int m0), .val (.int m1), .val (.int (0 : Int32)), .unset, .unset, .unset, .unset, .unset, .unset] []))
    obtain ⟨a36, T36, h36, k36, d36, kd36, X36, e36, E36, hS36, hk36, hZ, hown, Es36, Fc36, Fv36, Va36, -, -, cq36, Li36, sn36, st36⟩ := ldcCH X29 hx hZ hown (hw _ (List.mem_of_getElem? (i := 30) rfl)) wS rfl hS0 (Nat.le_trans hk0 (Nat.le_trans (Nat.le_trans (Nat.le_trans (Nat.le_trans (Nat.le_trans (Nat.le_trans (Nat.le_trans (Nat.le_refl _) E1.1) E6.1) (Keep.of_wr W10).1) (Keep.of_wr W14).1) (Keep.of_wr W18).1) (Keep.of_wr W22).1) K29.1)) hEL (List.mem_of_getElem? (i := 0) rfl) C34.1 (vs := []) (z := (0 : Int32)) ⟨by decide, by decide⟩ (by decide) rfl (g := (mkF m 107 #[.val (.int te), .val (.int ma), .val (.int s_), .val (.int e_), .val (.int c0), .val (.int c1), .val (.int c2), .val (.int c3), .val (.ref b1), .val (.int m0), .val (.int m1), .val (.int (0 : Int32)), .unset, .unset, .unset, .unset, .unset, .unset] [])) rfl (hb hby at_107) (n := 0) (by decide) (by decide) (by decide) (by decide)
    refine OwnFin.step st36 ?_
    have Kp37 := Kp33.ext E36
    have cp38 := cq36
    have C38 := C34.trans cp38
    show OwnFin p e below _ (T36.setTop (mkF m 109 #[.val (.int te), .val (.int ma), .val (.int s_), .val (.int e_), .val (.int c0), .val (.int c1), .val (.int c2), .val (.int c3), .val (.ref b1), .val (.int m0), .val (.int m1), .val (.int (0 : Int32)), .unset, .unset, .unset, .unset, .unset, .unset] [(.ref a36)]))
    refine OwnFin.step (fun tT kK => XS.astore X36.here hx rfl (hb hby at_109) rfl rfl (l' := #[.val (.int te), .val (.int ma), .val (.int s_), .val (.int e_), .val (.int c0), .val (.int c1), .val (.int c2), .val (.int c3), .val (.ref b1), .val (.int m0), .val (.int m1), .val (.int (0 : Int32)), .val (.ref a36), .unset, .unset, .unset, .unset, .unset]) rfl kK) ?_
    show OwnFin p e below _ (T36.setTop (mkF m 111 #[.val (.int te), .val (.int ma), .val (.int s_), .val (.int e_), .val (.int c0), .val (.int c1), .val (.int c2), .val (.int c3), .val (.ref b1), .val (.int m0), .val (.int m1), .val (.int (0 : Int32)), .val (.ref a36), .unset, .unset, .unset, .unset, .unset] []))
    refine OwnFin.step (fun tT kK => XS.goto X36.here hx rfl (pc0 := 111) (pc' := 152) rfl (hb hby at_111) (by decide) (by decide) kK) ?_
    show OwnFin p e below _ (T36.setTop (mkF m 152 #[.val (.int te), .val (.int ma), .val (.int s_), .val (.int e_), .val (.int c0), .val (.int c1), .val (.int c2), .val (.int c3), .val (.ref b1), .val (.int m0), .val (.int m1), .val (.int (0 : Int32)), .val (.ref a36), .unset, .unset, .unset, .unset, .unset] []))
    refine OwnFin.step (fun tT kK => XS.iloadN X36.here hx rfl (hb hby at_152) rfl kK) ?_
    refine OwnFin.step (fun tT kK => X36.ldcI hx hown (mvT hZ (hw _ (List.mem_of_getElem? (i := 33) rfl))) (g := (mkF m 153 #[.val (.int te), .val (.int ma), .val (.int s_), .val (.int e_), .val (.int c0), .val (.int c1), .val (.int c2), .val (.int c3), .val (.ref b1), .val (.int m0), .val (.int m1), .val (.int (0 : Int32)), .val (.ref a36), .unset, .unset, .unset, .unset, .unset] [(.int s_)])) rfl (hb hby at_153) kK) ?_
    show OwnFin p e below _ (T36.setTop (mkF m 155 #[.val (.int te), .val (.int ma), .val (.int s_), .val (.int e_), .val (.int c0), .val (.int c1), .val (.int c2), .val (.int c3), .val (.ref b1), .val (.int m0), .val (.int m1), .val (.int (0 : Int32)), .val (.ref a36), .unset, .unset, .unset, .unset, .unset] [(.int (2147483647 : Int32)), (.int s_)]))
    refine OwnFin.step (fun tT kK => XS.iand X36.here hx rfl (hb hby at_155) rfl kK) ?_
    refine OwnFin.step (fun tT kK => XS.iconst X36.here hx rfl (hb hby at_156) kK) ?_
    show OwnFin p e below _ (T36.setTop (mkF m 157 #[.val (.int te), .val (.int ma), .val (.int s_), .val (.int e_), .val (.int c0), .val (.int c1), .val (.int c2), .val (.int c3), .val (.ref b1), .val (.int m0), .val (.int m1), .val (.int (0 : Int32)), .val (.ref a36), .unset, .unset, .unset, .unset, .unset] [(.int (5 : Int32)), (.int (s_ &&& (2147483647 : Int32)))]))
    refine OwnFin.step (fun tT kK => iremM (g := (mkF m 157 #[.val (.int te), .val (.int ma), .val (.int s_), .val (.int e_), .val (.int c0), .val (.int c1), .val (.int c2), .val (.int c3), .val (.ref b1), .val (.int m0), .val (.int m1), .val (.int (0 : Int32)), .val (.ref a36), .unset, .unset, .unset, .unset, .unset] [(.int (5 : Int32)), (.int (s_ &&& (2147483647 : Int32)))])) X36 hx rfl (hb hby at_157) rfl (by decide) kK) ?_
    refine OwnFin.step (fun tT kK => XS.istore X36.here hx rfl (hb hby at_158) rfl (l' := #[.val (.int te), .val (.int ma), .val (.int s_), .val (.int e_), .val (.int c0), .val (.int c1), .val (.int c2), .val (.int c3), .val (.ref b1), .val (.int m0), .val (.int m1), .val (.int (0 : Int32)), .val (.ref a36), .val (.int ((s_ &&& (2147483647 : Int32)) % (5 : Int32))), .unset, .unset, .unset, .unset]) rfl kK) ?_
    show OwnFin p e below _ (T36.setTop (mkF m 160 #[.val (.int te), .val (.int ma), .val (.int s_), .val (.int e_), .val (.int c0), .val (.int c1), .val (.int c2), .val (.int c3), .val (.ref b1), .val (.int m0), .val (.int m1), .val (.int (0 : Int32)), .val (.ref a36), .val (.int ((s_ &&& (2147483647 : Int32)) % (5 : Int32))), .unset, .unset, .unset, .unset] []))
    refine OwnFin.step (fun tT kK => XS.iloadN X36.here hx rfl (hb hby at_160) rfl kK) ?_
    refine OwnFin.step (fun tT kK => X36.ldcI hx hown (mvT hZ (hw _ (List.mem_of_getElem? (i := 33) rfl))) (g := (mkF m 161 #[.val (.int te), .val (.int ma), .val (.int s_), .val (.int e_), .val (.int c0), .val (.int c1), .val (.int c2), .val (.int c3), .val (.ref b1), .val (.int m0), .val (.int m1), .val (.int (0 : Int32)), .val (.ref a36), .val (.int ((s_ &&& (2147483647 : Int32)) % (5 : Int32))), .unset, .unset, .unset, .unset] [(.int e_)])) rfl (hb hby at_161) kK) ?_
    show OwnFin p e below _ (T36.setTop (mkF m 163 #[.val (.int te), .val (.int ma), .val (.int s_), .val (.int e_), .val (.int c0), .val (.int c1), .val (.int c2), .val (.int c3), .val (.ref b1), .val (.int m0), .val (.int m1), .val (.int (0 : Int32)), .val (.ref a36), .val (.int ((s_ &&& (2147483647 : Int32)) % (5 : Int32))), .unset, .unset, .unset, .unset] [(.int (2147483647 : Int32)), (.int e_)]))
    refine OwnFin.step (fun tT kK => XS.iand X36.here hx rfl (hb hby at_163) rfl kK) ?_
    refine OwnFin.step (fun tT kK => XS.iconst X36.here hx rfl (hb hby at_164) kK) ?_
    show OwnFin p e below _ (T36.setTop (mkF m 165 #[.val (.int te), .val (.int ma), .val (.int s_), .val (.int e_), .val (.int c0), .val (.int c1), .val (.int c2), .val (.int c3), .val (.ref b1), .val (.int m0), .val (.int m1), .val (.int (0 : Int32)), .val (.ref a36), .val (.int ((s_ &&& (2147483647 : Int32)) % (5 : Int32))), .unset, .unset, .unset, .unset] [(.int (5 : Int32)), (.int (e_ &&& (2147483647 : Int32)))]))
    refine OwnFin.step (fun tT kK => iremM (g := (mkF m 165 #[.val (.int te), .val (.int ma), .val (.int s_), .val (.int e_), .val (.int c0), .val (.int c1), .val (.int c2), .val (.int c3), .val (.ref b1), .val (.int m0), .val (.int m1), .val (.int (0 : Int32)), .val (.ref a36), .val (.int ((s_ &&& (2147483647 : Int32)) % (5 : Int32))), .unset, .unset, .unset, .unset] [(.int (5 : Int32)), (.int (e_ &&& (2147483647 : Int32)))])) X36 hx rfl (hb hby at_165) rfl (by decide) kK) ?_
    refine OwnFin.step (fun tT kK => XS.istore X36.here hx rfl (hb hby at_166) rfl (l' := #[.val (.int te), .val (.int ma), .val (.int s_), .val (.int e_), .val (.int c0), .val (.int c1), .val (.int c2), .val (.int c3), .val (.ref b1), .val (.int m0), .val (.int m1), .val (.int (0 : Int32)), .val (.ref a36), .val (.int ((s_ &&& (2147483647 : Int32)) % (5 : Int32))), .val (.int ((e_ &&& (2147483647 : Int32)) % (5 : Int32))), .unset, .unset, .unset]) rfl kK) ?_
    show OwnFin p e below _ (T36.setTop (mkF m 168 #[.val (.int te), .val (.int ma), .val (.int s_), .val (.int e_), .val (.int c0), .val (.int c1), .val (.int c2), .val (.int c3), .val (.ref b1), .val (.int m0), .val (.int m1), .val (.int (0 : Int32)), .val (.ref a36), .val (.int ((s_ &&& (2147483647 : Int32)) % (5 : Int32))), .val (.int ((e_ &&& (2147483647 : Int32)) % (5 : Int32))), .unset, .unset, .unset] []))
    refine OwnFin.step (fun tT kK => XS.iload X36.here hx rfl (hb hby at_168) rfl kK) ?_
    refine OwnFin.step (fun tT kK => XS.iload X36.here hx rfl (hb hby at_170) rfl kK) ?_
    show OwnFin p e below _ (T36.setTop (mkF m 172 #[.val (.int te), .val (.int ma), .val (.int s_), .val (.int e_), .val (.int c0), .val (.int c1), .val (.int c2), .val (.int c3), .val (.ref b1), .val (.int m0), .val (.int m1), .val (.int (0 : Int32)), .val (.ref a36), .val (.int ((s_ &&& (2147483647 : Int32)) % (5 : Int32))), .val (.int ((e_ &&& (2147483647 : Int32)) % (5 : Int32))), .unset, .unset, .unset] [(.int ((e_ &&& (2147483647 : Int32)) % (5 : Int32))), (.int ((s_ &&& (2147483647 : Int32)) % (5 : Int32)))]))
    obtain ⟨x_, hx_⟩ : ∃ z : Int32, z = ((s_ &&& (2147483647 : Int32)) % (5 : Int32)) := ⟨_, rfl⟩
    rw [← hx_]
    show OwnFin p e below _ (T36.setTop (mkF m 172 #[.val (.int te), .val (.int ma), .val (.int s_), .val (.int e_), .val (.int c0), .val (.int c1), .val (.int c2), .val (.int c3), .val (.ref b1), .val (.int m0), .val (.int m1), .val (.int (0 : Int32)), .val (.ref a36), .val (.int x_), .val (.int ((e_ &&& (2147483647 : Int32)) % (5 : Int32))), .unset, .unset, .unset] [(.int ((e_ &&& (2147483647 : Int32)) % (5 : Int32))), (.int x_)]))
    obtain ⟨y_, hy_⟩ : ∃ z : Int32, z = ((e_ &&& (2147483647 : Int32)) % (5 : Int32)) := ⟨_, rfl⟩
    rw [← hy_]
    show OwnFin p e below _ (T36.setTop (mkF m 172 #[.val (.int te), .val (.int ma), .val (.int s_), .val (.int e_), .val (.int c0), .val (.int c1), .val (.int c2), .val (.int c3), .val (.ref b1), .val (.int m0), .val (.int m1), .val (.int (0 : Int32)), .val (.ref a36), .val (.int x_), .val (.int y_), .unset, .unset, .unset] [(.int y_), (.int x_)]))
    obtain ⟨_, _, ⟨T39, L39, k39, n39⟩, -, X39, ⟨Lc39, hQ39, l39, y39, z39⟩, st39⟩ := Jvm.LawKit.callS X36 hx (y := (⟨"java/lang/Math", "min", "(II)I"⟩ : MethodName)) hown (mvT hZ (hw _ (List.mem_of_getElem? (i := 34) rfl))) (mvT hZ (hw _ (List.mem_of_getElem? (i := 35) rfl))) (mvT hZ (hw _ (List.mem_of_getElem? (i := 36) rfl))) (mvT hZ (hw _ (List.mem_of_getElem? (i := 37) rfl))) (by decide) (backOf (W := 0) (rm1b l Z a0 hw hEL wS [] x_ y_ h36 n0 (Nat.le_trans Z0 Kp37.1) ) hZ (hw _ (List.mem_of_getElem? (i := 37) rfl)) (hw _ (List.mem_of_getElem? (i := 36) rfl)) (by decide) (by decide)) (g := (mkF m 172 #[.val (.int te), .val (.int ma), .val (.int s_), .val (.int e_), .val (.int c0), .val (.int c1), .val (.int c2), .val (.int c3), .val (.ref b1), .val (.int m0), .val (.int m1), .val (.int (0 : Int32)), .val (.ref a36), .val (.int x_), .val (.int y_), .unset, .unset, .unset] [(.int y_), (.int x_)])) rfl (by rw [hml]; rfl) (argsL := [(.int x_), (.int y_)]) (rest := []) (lenOf pd_82 rfl) rfl (by show 2 * 0 + _ ≤ _; exact Nat.le_of_eq rfl) (hb hby at_172) (fun _ _ => ⟨rfl, e36, (by decide : 5 + 0 ≤ _), (by decide : 16 + 0 ≤ _)⟩)
    dsimp only [Pt.U, Pt.locs, Pt.cells, Pt.slots] at X39 l39 y39 z39 st39 hQ39
    subst l39 y39 z39
    obtain ⟨rfl, N39q, e39⟩ := hQ39
    have N39 := Fr.app N29 N39q
    refine OwnFin.step st39 ?_
    show OwnFin p e below _ (T39.setTop (mkF m 175 #[.val (.int te), .val (.int ma), .val (.int s_), .val (.int e_), .val (.int c0), .val (.int c1), .val (.int c2), .val (.int c3), .val (.ref b1), .val (.int m0), .val (.int m1), .val (.int (0 : Int32)), .val (.ref a36), .val (.int x_), .val (.int y_), .unset, .unset, .unset] [(.int (if y_ < x_ then y_ else x_))]))
    refine OwnFin.step (fun tT kK => XS.istore X39.here hx rfl (hb hby at_175) rfl (l' := #[.val (.int te), .val (.int ma), .val (.int s_), .val (.int e_), .val (.int c0), .val (.int c1), .val (.int c2), .val (.int c3), .val (.ref b1), .val (.int m0), .val (.int m1), .val (.int (0 : Int32)), .val (.ref a36), .val (.int x_), .val (.int y_), .val (.int (if y_ < x_ then y_ else x_)), .unset, .unset]) rfl kK) ?_
    refine OwnFin.step (fun tT kK => XS.iload X39.here hx rfl (hb hby at_177) rfl kK) ?_
    show OwnFin p e below _ (T39.setTop (mkF m 179 #[.val (.int te), .val (.int ma), .val (.int s_), .val (.int e_), .val (.int c0), .val (.int c1), .val (.int c2), .val (.int c3), .val (.ref b1), .val (.int m0), .val (.int m1), .val (.int (0 : Int32)), .val (.ref a36), .val (.int x_), .val (.int y_), .val (.int (if y_ < x_ then y_ else x_)), .unset, .unset] [(.int x_)]))
    refine OwnFin.step (fun tT kK => XS.iload X39.here hx rfl (hb hby at_179) rfl kK) ?_
    obtain ⟨_, _, ⟨T40, L40, k40, n40⟩, -, X40, ⟨Lc40, hQ40, l40, y40, z40⟩, st40⟩ := Jvm.LawKit.callS X39 hx (y := (⟨"java/lang/Math", "max", "(II)I"⟩ : MethodName)) hown (mvT hZ (hw _ (List.mem_of_getElem? (i := 38) rfl))) (mvT hZ (hw _ (List.mem_of_getElem? (i := 39) rfl))) (mvT hZ (hw _ (List.mem_of_getElem? (i := 36) rfl))) (mvT hZ (hw _ (List.mem_of_getElem? (i := 40) rfl))) (by decide) (backOf (W := 0) (rm1a l Z a0 hw hEL wS [] x_ y_ h36 n0 (Nat.le_trans Z0 Kp37.1) ) hZ (hw _ (List.mem_of_getElem? (i := 40) rfl)) (hw _ (List.mem_of_getElem? (i := 36) rfl)) (by decide) (by decide)) (g := (mkF m 181 #[.val (.int te), .val (.int ma), .val (.int s_), .val (.int e_), .val (.int c0), .val (.int c1), .val (.int c2), .val (.int c3), .val (.ref b1), .val (.int m0), .val (.int m1), .val (.int (0 : Int32)), .val (.ref a36), .val (.int x_), .val (.int y_), .val (.int (if y_ < x_ then y_ else x_)), .unset, .unset] [(.int y_), (.int x_)])) rfl (by rw [hml]; rfl) (argsL := [(.int x_), (.int y_)]) (rest := []) (lenOf pd_82 rfl) rfl (by show 2 * 0 + _ ≤ _; exact Nat.le_of_eq rfl) (hb hby at_181) (fun _ _ => ⟨rfl, e39, (by decide : 5 + 0 ≤ _), (by decide : 16 + 0 ≤ _)⟩)
    dsimp only [Pt.U, Pt.locs, Pt.cells, Pt.slots] at X40 l40 y40 z40 st40 hQ40
    subst l40 y40 z40
    obtain ⟨rfl, N40q, e40⟩ := hQ40
    have N40 := Fr.app N39 N40q
    refine OwnFin.step st40 ?_
    show OwnFin p e below _ (T40.setTop (mkF m 184 #[.val (.int te), .val (.int ma), .val (.int s_), .val (.int e_), .val (.int c0), .val (.int c1), .val (.int c2), .val (.int c3), .val (.ref b1), .val (.int m0), .val (.int m1), .val (.int (0 : Int32)), .val (.ref a36), .val (.int x_), .val (.int y_), .val (.int (if y_ < x_ then y_ else x_)), .unset, .unset] [(.int (if x_ < y_ then y_ else x_))]))
    refine OwnFin.step (fun tT kK => XS.istore X40.here hx rfl (hb hby at_184) rfl (l' := #[.val (.int te), .val (.int ma), .val (.int s_), .val (.int e_), .val (.int c0), .val (.int c1), .val (.int c2), .val (.int c3), .val (.ref b1), .val (.int m0), .val (.int m1), .val (.int (0 : Int32)), .val (.ref a36), .val (.int x_), .val (.int y_), .val (.int (if y_ < x_ then y_ else x_)), .val (.int (if x_ < y_ then y_ else x_)), .unset]) rfl kK) ?_
    show OwnFin p e below _ (T40.setTop (mkF m 186 #[.val (.int te), .val (.int ma), .val (.int s_), .val (.int e_), .val (.int c0), .val (.int c1), .val (.int c2), .val (.int c3), .val (.ref b1), .val (.int m0), .val (.int m1), .val (.int (0 : Int32)), .val (.ref a36), .val (.int x_), .val (.int y_), .val (.int (if y_ < x_ then y_ else x_)), .val (.int (if x_ < y_ then y_ else x_)), .unset] []))
    obtain ⟨lo, hlo⟩ : ∃ z : Int32, z = (if y_ < x_ then y_ else x_) := ⟨_, rfl⟩
    rw [← hlo]
    show OwnFin p e below _ (T40.setTop (mkF m 186 #[.val (.int te), .val (.int ma), .val (.int s_), .val (.int e_), .val (.int c0), .val (.int c1), .val (.int c2), .val (.int c3), .val (.ref b1), .val (.int m0), .val (.int m1), .val (.int (0 : Int32)), .val (.ref a36), .val (.int x_), .val (.int y_), .val (.int lo), .val (.int (if x_ < y_ then y_ else x_)), .unset] []))
    obtain ⟨hi, hhi⟩ : ∃ z : Int32, z = (if x_ < y_ then y_ else x_) := ⟨_, rfl⟩
    rw [← hhi]
    show OwnFin p e below _ (T40.setTop (mkF m 186 #[.val (.int te), .val (.int ma), .val (.int s_), .val (.int e_), .val (.int c0), .val (.int c1), .val (.int c2), .val (.int c3), .val (.ref b1), .val (.int m0), .val (.int m1), .val (.int (0 : Int32)), .val (.ref a36), .val (.int x_), .val (.int y_), .val (.int lo), .val (.int hi), .unset] []))
    have hP : OwnP lo hi := by rw [hlo, hhi, hx_, hy_]; exact own_p (own_mod _ _ 5 rfl (by decide)).1 (own_mod _ _ 5 rfl (by decide)).2 (own_mod _ _ 5 rfl (by decide)).1 (own_mod _ _ 5 rfl (by decide)).2
    refine OwnFin.step (fun tT kK => XS.iload X40.here hx rfl (hb hby at_186) rfl kK) ?_
    refine OwnFin.step (fun tT kK => XS.istore X40.here hx rfl (hb hby at_188) rfl (l' := #[.val (.int te), .val (.int ma), .val (.int s_), .val (.int e_), .val (.int c0), .val (.int c1), .val (.int c2), .val (.int c3), .val (.ref b1), .val (.int m0), .val (.int m1), .val (.int (0 : Int32)), .val (.ref a36), .val (.int x_), .val (.int y_), .val (.int lo), .val (.int hi), .val (.int lo)]) rfl kK) ?_
    show OwnFin p e below _ (T40.setTop (mkF m 190 #[.val (.int te), .val (.int ma), .val (.int s_), .val (.int e_), .val (.int c0), .val (.int c1), .val (.int c2), .val (.int c3), .val (.ref b1), .val (.int m0), .val (.int m1), .val (.int (0 : Int32)), .val (.ref a36), .val (.int x_), .val (.int y_), .val (.int lo), .val (.int hi), .val (.int lo)] []))
    have key41 : ∀ (T42 : State) (L42 : List Loc), Stand p l e room_1 (s.setVm T36.vm) m #[(.int te), (.int ma), (.int s_), (.int e_)] below meth cC T42 L42 5 16 → T42.heap = h36 → Fr n0 L42 → ∀ (r1 : Int32), (r1 = OwnS lo hi (0 : Int32) (1 : Int32) (decide False) lo) → OwnFin p e below (R0 Z te ma s_ e_ cs fm h0 n0 s) (T42.setTop (mkF m 218 #[.val (.int te), .val (.int ma), .val (.int s_), .val (.int e_), .val (.int c0), .val (.int c1), .val (.int c2), .val (.int c3), .val (.ref b1), .val (.int m0), .val (.int m1), .val (.int (0 : Int32)), .val (.ref a36), .val (.int x_), .val (.int y_), .val (.int lo), .val (.int hi), .val (.int r1)] [])) := by
      intro T42 L42 X42 e42 N42 r1 hj43
      have key44 : ∀ (T45 : State) (L45 : List Loc), Stand p l e room_1 (s.setVm T36.vm) m #[(.int te), (.int ma), (.int s_), (.int e_)] below meth cC T45 L45 5 16 → T45.heap = h36 → Fr n0 L45 → ∀ (r2 : Int32), (r2 = OwnS lo hi (1 : Int32) (2 : Int32) (decide False) r1) → OwnFin p e below (R0 Z te ma s_ e_ cs fm h0 n0 s) (T45.setTop (mkF m 247 #[.val (.int te), .val (.int ma), .val (.int s_), .val (.int e_), .val (.int c0), .val (.int c1), .val (.int c2), .val (.int c3), .val (.ref b1), .val (.int m0), .val (.int m1), .val (.int (0 : Int32)), .val (.ref a36), .val (.int x_), .val (.int y_), .val (.int lo), .val (.int hi), .val (.int r2)] [])) := by
        intro T45 L45 X45 e45 N45 r2 hj46
        have key47 : ∀ (T48 : State) (L48 : List Loc), Stand p l e room_1 (s.setVm T36.vm) m #[(.int te), (.int ma), (.int s_), (.int e_)] below meth cC T48 L48 5 16 → T48.heap = h36 → Fr n0 L48 → ∀ (r3 : Int32), (r3 = OwnS lo hi (2 : Int32) (3 : Int32) (decide False) r2) → OwnFin p e below (R0 Z te ma s_ e_ cs fm h0 n0 s) (T48.setTop (mkF m 276 #[.val (.int te), .val (.int ma), .val (.int s_), .val (.int e_), .val (.int c0), .val (.int c1), .val (.int c2), .val (.int c3), .val (.ref b1), .val (.int m0), .val (.int m1), .val (.int (0 : Int32)), .val (.ref a36), .val (.int x_), .val (.int y_), .val (.int lo), .val (.int hi), .val (.int r3)] [])) := by
          intro T48 L48 X48 e48 N48 r3 hj49
          have key50 : ∀ (T51 : State) (L51 : List Loc), Stand p l e room_1 (s.setVm T36.vm) m #[(.int te), (.int ma), (.int s_), (.int e_)] below meth cC T51 L51 5 16 → T51.heap = h36 → Fr n0 L51 → ∀ (r4 : Int32), (r4 = OwnS lo hi (3 : Int32) (4 : Int32) (decide False) r3) → OwnFin p e below (R0 Z te ma s_ e_ cs fm h0 n0 s) (T51.setTop (mkF m 305 #[.val (.int te), .val (.int ma), .val (.int s_), .val (.int e_), .val (.int c0), .val (.int c1), .val (.int c2), .val (.int c3), .val (.ref b1), .val (.int m0), .val (.int m1), .val (.int (0 : Int32)), .val (.ref a36), .val (.int x_), .val (.int y_), .val (.int lo), .val (.int hi), .val (.int r4)] [])) := by
            intro T51 L51 X51 e51 N51 r4 hj52
            refine OwnFin.step (fun tT kK => XS.aload X51.here hx rfl (hb hby at_305) rfl rfl kK) ?_
            refine OwnFin.step (fun tT kK => XS.iload X51.here hx rfl (hb hby at_307) rfl kK) ?_
            show OwnFin p e below _ (T51.setTop (mkF m 309 #[.val (.int te), .val (.int ma), .val (.int s_), .val (.int e_), .val (.int c0), .val (.int c1), .val (.int c2), .val (.int c3), .val (.ref b1), .val (.int m0), .val (.int m1), .val (.int (0 : Int32)), .val (.ref a36), .val (.int x_), .val (.int y_), .val (.int lo), .val (.int hi), .val (.int r4)] [(.int lo), (.ref b1)]))
            refine OwnFin.step (fun tT kK => XS.iload X51.here hx rfl (hb hby at_309) rfl kK) ?_
            refine OwnFin.step (fun tT kK => XS.aload X51.here hx rfl (hb hby at_311) rfl rfl kK) ?_
            show OwnFin p e below _ (T51.setTop (mkF m 313 #[.val (.int te), .val (.int ma), .val (.int s_), .val (.int e_), .val (.int c0), .val (.int c1), .val (.int c2), .val (.int c3), .val (.ref b1), .val (.int m0), .val (.int m1), .val (.int (0 : Int32)), .val (.ref a36), .val (.int x_), .val (.int y_), .val (.int lo), .val (.int hi), .val (.int r4)] [(.ref a36), (.int hi), (.int lo), (.ref b1)]))
            have f53 : Sta Z h36 "jdk/internal/util/Preconditions" "SIOOBE_FORMATTER" "Ljava/util/function/BiFunction;" fm := (own_sta_keep hp2 Kp37 all0)
            have f54 : Exa Z h36 b1 "java/lang/String" := (P29_0.ext E36)
            have f55 : Fld Z h36 b1 "java/lang/String" "value" "[B" (.ref b30) := (P29_1.ext E36)
            have f56 : Fld Z h36 b1 "java/lang/String" "coder" "B" (.int (0 : Int32)) := (P29_2.ext E36)
            have f57 : Arv Z h36 b30 kb31 .byte (4 : Int32) [(.int (nar .byte (c0.toInt8.toInt32))), (.int (nar .byte (c1.toInt8.toInt32))), (.int (nar .byte (c2.toInt8.toInt32))), (.int (nar .byte (c3.toInt8.toInt32)))] (.int (0 : Int32)) := (Vc35.ext E36)
            have f58 : Sta Z h36 "java/lang/String" "COMPACT_STRINGS" "Z" (.int cs) := ((own_sta_keep f28 K29 (allS (own_nonsta f25) all0)).ext E36)
            obtain ⟨_, _, ⟨T59, L59, k59, n59⟩, -, X59, ⟨Lc59, hQ59, l59, y59, z59⟩, st59⟩ := Jvm.LawKit.callS X51 hx (y := (⟨"com/example/covenantry/covenantry/text/Phrases", "afterLastMark", "(Ljava/lang/String;IILjava/lang/String;)I"⟩ : MethodName)) hown (mvT hZ (hw _ (List.mem_of_getElem? (i := 45) rfl))) (mvT hZ (hw _ (List.mem_of_getElem? (i := 46) rfl))) (mvT hZ (hw _ (List.mem_of_getElem? (i := 47) rfl))) (mvT hZ (hw _ (List.mem_of_getElem? (i := 48) rfl))) (by decide) (backOf (W := 0) (rm60 l Z a0 hw hEL wS [] b1 lo hi a36 b30 kb31 fm cs c0 c1 c2 c3 d36 kd36 h36 n0 (Nat.le_trans Z0 Kp37.1) f53 hp3 f54 f55 f56 f57 i8c0 i8c1 i8c2 i8c3 f58 hp1 Es36 Fv36 Fc36 Va36 hP) hZ (hw _ (List.mem_of_getElem? (i := 48) rfl)) (hw _ (List.mem_of_getElem? (i := 47) rfl)) (by decide) (by decide)) (g := (mkF m 313 #[.val (.int te), .val (.int ma), .val (.int s_), .val (.int e_), .val (.int c0), .val (.int c1), .val (.int c2), .val (.int c3), .val (.ref b1), .val (.int m0), .val (.int m1), .val (.int (0 : Int32)), .val (.ref a36), .val (.int x_), .val (.int y_), .val (.int lo), .val (.int hi), .val (.int r4)] [(.ref a36), (.int hi), (.int lo), (.ref b1)])) rfl (by rw [hml]; rfl) (argsL := [(.ref b1), (.int lo), (.int hi), (.ref a36)]) (rest := []) (lenOf pd_301 rfl) rfl (by show 2 * 0 + _ ≤ _; exact Nat.le_of_eq rfl) (hb hby at_313) (fun _ _ => ⟨rfl, e51, (by decide : 5 + 0 ≤ _), (by decide : 16 + 0 ≤ _)⟩)
            dsimp only [Pt.U, Pt.locs, Pt.cells, Pt.slots] at X59 l59 y59 z59 st59 hQ59
            subst l59 y59 z59
            obtain ⟨rfl, N59q, e59⟩ := hQ59
            have N59 := Fr.app N51 N59q
            refine OwnFin.step st59 ?_
            show OwnFin p e below _ (T59.setTop (mkF m 316 #[.val (.int te), .val (.int ma), .val (.int s_), .val (.int e_), .val (.int c0), .val (.int c1), .val (.int c2), .val (.int c3), .val (.ref b1), .val (.int m0), .val (.int m1), .val (.int (0 : Int32)), .val (.ref a36), .val (.int x_), .val (.int y_), .val (.int lo), .val (.int hi), .val (.int r4)] [(.int (OwnT lo hi (decide False) (decide False) (decide False) (decide False)))]))
            have hr : (OwnT lo hi (decide False) (decide False) (decide False) (decide False)) = r4 := by rw [own_tr hP, hj52, hj49, hj46, hj43]; rfl
            rw [hr]
            show OwnFin p e below _ (T59.setTop (mkF m 316 #[.val (.int te), .val (.int ma), .val (.int s_), .val (.int e_), .val (.int c0), .val (.int c1), .val (.int c2), .val (.int c3), .val (.ref b1), .val (.int m0), .val (.int m1), .val (.int (0 : Int32)), .val (.ref a36), .val (.int x_), .val (.int y_), .val (.int lo), .val (.int hi), .val (.int r4)] [(.int r4)]))
            refine OwnFin.step (fun tT kK => XS.iload X59.here hx rfl (hb hby at_316) rfl kK) ?_
            refine OwnFin.step (fun tT kK => XS.icmpNo X59.here hx rfl (hb hby at_318) rfl (teq (rfl : r4 = r4)).2 kK) ?_
            show OwnFin p e below _ (T59.setTop (mkF m 321 #[.val (.int te), .val (.int ma), .val (.int s_), .val (.int e_), .val (.int c0), .val (.int c1), .val (.int c2), .val (.int c3), .val (.ref b1), .val (.int m0), .val (.int m1), .val (.int (0 : Int32)), .val (.ref a36), .val (.int x_), .val (.int y_), .val (.int lo), .val (.int hi), .val (.int r4)] []))
            refine OwnFin.step (fun tT kK => XS.iconst X59.here hx rfl (hb hby at_321) kK) ?_
            show OwnFin p e below _ (T59.setTop (mkF m 322 #[.val (.int te), .val (.int ma), .val (.int s_), .val (.int e_), .val (.int c0), .val (.int c1), .val (.int c2), .val (.int c3), .val (.ref b1), .val (.int m0), .val (.int m1), .val (.int (0 : Int32)), .val (.ref a36), .val (.int x_), .val (.int y_), .val (.int lo), .val (.int hi), .val (.int r4)] [(.int (1 : Int32))]))
            refine OwnFin.step (fun tT kK => XS.goto X59.here hx rfl (pc0 := 322) (pc' := 326) rfl (hb hby at_322) (by decide) (by decide) kK) ?_
            show OwnFin p e below _ (T59.setTop (mkF m 326 #[.val (.int te), .val (.int ma), .val (.int s_), .val (.int e_), .val (.int c0), .val (.int c1), .val (.int c2), .val (.int c3), .val (.ref b1), .val (.int m0), .val (.int m1), .val (.int (0 : Int32)), .val (.ref a36), .val (.int x_), .val (.int y_), .val (.int lo), .val (.int hi), .val (.int r4)] [(.int (1 : Int32))]))
            obtain ⟨fs60, hr60, hrun60, hended60, hW60⟩ := X59.leaveW (s := s) hS36 (by rw [e59]; exact (Nat.le_trans hk36 (Nat.le_refl _))) (v := (some (.int (1 : Int32)))) (fun h => by rw [Bd.returns] at h; cases h)
            refine ⟨_, _, retN X59 hx (t := .boolean) Bd.returns (by simp) (hb hby at_326) hr60, hrun60, hended60, _, _, rfl, ?_, (by show CHr Z OwnEL s.vm s.heap T59.vm T59.heap; rw [hh, e59]; exact C38.trans (CHv.at X59 hZ hEL C38.1)), hW60.1, hW60.2.1, hW60.2.2.1, hW60.2.2.2.mono (by decide) (by decide)⟩
            show Q0 Z te ma s_ e_ cs fm h0 n0 _ T59.heap _
            rw [e59]
            exact ⟨rfl, N59, Kp37⟩
          refine OwnFin.step (fun tT kK => XS.iload X48.here hx rfl (hb hby at_276) rfl kK) ?_
          refine OwnFin.step (fun tT kK => XS.iconst X48.here hx rfl (hb hby at_278) kK) ?_
          show OwnFin p e below _ (T48.setTop (mkF m 279 #[.val (.int te), .val (.int ma), .val (.int s_), .val (.int e_), .val (.int c0), .val (.int c1), .val (.int c2), .val (.int c3), .val (.ref b1), .val (.int m0), .val (.int m1), .val (.int (0 : Int32)), .val (.ref a36), .val (.int x_), .val (.int y_), .val (.int lo), .val (.int hi), .val (.int r3)] [(.int (3 : Int32)), (.int lo)]))
          by_cases hc61 : (3 : Int32) < lo
          · skip
            refine OwnFin.step (fun tT kK => XS.icmpYes X48.here hx rfl (pc0 := 279) (pc' := 305) rfl (hb hby at_279) rfl (tlt (hc61 : (3 : Int32) < lo)).2.2.1 (by decide) (by decide) kK) ?_
            show OwnFin p e below _ (T48.setTop (mkF m 305 #[.val (.int te), .val (.int ma), .val (.int s_), .val (.int e_), .val (.int c0), .val (.int c1), .val (.int c2), .val (.int c3), .val (.ref b1), .val (.int m0), .val (.int m1), .val (.int (0 : Int32)), .val (.ref a36), .val (.int x_), .val (.int y_), .val (.int lo), .val (.int hi), .val (.int r3)] []))
            exact key50 _ _ X48 e48 N48 r3 (by simp [OwnS, hc61])
          · skip
            refine OwnFin.step (fun tT kK => XS.icmpNo X48.here hx rfl (hb hby at_279) rfl (flt (hc61 : ¬ ((3 : Int32) < lo))).2.2.1 kK) ?_
            show OwnFin p e below _ (T48.setTop (mkF m 282 #[.val (.int te), .val (.int ma), .val (.int s_), .val (.int e_), .val (.int c0), .val (.int c1), .val (.int c2), .val (.int c3), .val (.ref b1), .val (.int m0), .val (.int m1), .val (.int (0 : Int32)), .val (.ref a36), .val (.int x_), .val (.int y_), .val (.int lo), .val (.int hi), .val (.int r3)] []))
            refine OwnFin.step (fun tT kK => XS.iconst X48.here hx rfl (hb hby at_282) kK) ?_
            refine OwnFin.step (fun tT kK => XS.iload X48.here hx rfl (hb hby at_283) rfl kK) ?_
            show OwnFin p e below _ (T48.setTop (mkF m 285 #[.val (.int te), .val (.int ma), .val (.int s_), .val (.int e_), .val (.int c0), .val (.int c1), .val (.int c2), .val (.int c3), .val (.ref b1), .val (.int m0), .val (.int m1), .val (.int (0 : Int32)), .val (.ref a36), .val (.int x_), .val (.int y_), .val (.int lo), .val (.int hi), .val (.int r3)] [(.int hi), (.int (3 : Int32))]))
            by_cases hc62 : (3 : Int32) < hi
            · skip
              refine OwnFin.step (fun tT kK => XS.icmpNo X48.here hx rfl (hb hby at_285) rfl (tlt (hc62 : (3 : Int32) < hi)).2.1 kK) ?_
              show OwnFin p e below _ (T48.setTop (mkF m 288 #[.val (.int te), .val (.int ma), .val (.int s_), .val (.int e_), .val (.int c0), .val (.int c1), .val (.int c2), .val (.int c3), .val (.ref b1), .val (.int m0), .val (.int m1), .val (.int (0 : Int32)), .val (.ref a36), .val (.int x_), .val (.int y_), .val (.int lo), .val (.int hi), .val (.int r3)] []))
              refine OwnFin.step (fun tT kK => XS.iload X48.here hx rfl (hb hby at_288) rfl kK) ?_
              refine OwnFin.step (fun tT kK => XS.iload X48.here hx rfl (hb hby at_290) rfl kK) ?_
              show OwnFin p e below _ (T48.setTop (mkF m 292 #[.val (.int te), .val (.int ma), .val (.int s_), .val (.int e_), .val (.int c0), .val (.int c1), .val (.int c2), .val (.int c3), .val (.ref b1), .val (.int m0), .val (.int m1), .val (.int (0 : Int32)), .val (.ref a36), .val (.int x_), .val (.int y_), .val (.int lo), .val (.int hi), .val (.int r3)] [(.int (0 : Int32)), (.int c3)]))
              refine OwnFin.step (fun tT kK => XS.iload X48.here hx rfl (hb hby at_292) rfl kK) ?_
              refine OwnFin.step (fun tT kK => XS.iload X48.here hx rfl (hb hby at_294) rfl kK) ?_
              show OwnFin p e below _ (T48.setTop (mkF m 296 #[.val (.int te), .val (.int ma), .val (.int s_), .val (.int e_), .val (.int c0), .val (.int c1), .val (.int c2), .val (.int c3), .val (.ref b1), .val (.int m0), .val (.int m1), .val (.int (0 : Int32)), .val (.ref a36), .val (.int x_), .val (.int y_), .val (.int lo), .val (.int hi), .val (.int r3)] [(.int m1), (.int m0), (.int (0 : Int32)), (.int c3)]))
              obtain ⟨_, _, ⟨T63, L63, k63, n63⟩, -, X63, ⟨Lc63, hQ63, l63, y63, z63⟩, st63⟩ := Jvm.LawKit.callS X48 hx (y := (⟨"com/example/covenantry/covenantry/text/PhrasesAfterLastMarkPinLaw", "isMark", "(CICC)Z"⟩ : MethodName)) hown (mvT hZ (hw _ (List.mem_of_getElem? (i := 41) rfl))) (mvT hZ (hw _ (List.mem_of_getElem? (i := 42) rfl))) (mvT hZ (hw _ (List.mem_of_getElem? (i := 43) rfl))) (mvT hZ (hw _ (List.mem_of_getElem? (i := 44) rfl))) (by decide) (backOf (W := 0) (rm70 l Z a0 hw hEL wS [] c3 m0 m1 h36 n0 (Nat.le_trans Z0 Kp37.1) ) hZ (hw _ (List.mem_of_getElem? (i := 44) rfl)) (hw _ (List.mem_of_getElem? (i := 43) rfl)) (by decide) (by decide)) (g := (mkF m 296 #[.val (.int te), .val (.int ma), .val (.int s_), .val (.int e_), .val (.int c0), .val (.int c1), .val (.int c2), .val (.int c3), .val (.ref b1), .val (.int m0), .val (.int m1), .val (.int (0 : Int32)), .val (.ref a36), .val (.int x_), .val (.int y_), .val (.int lo), .val (.int hi), .val (.int r3)] [(.int m1), (.int m0), (.int (0 : Int32)), (.int c3)])) rfl (by rw [hml]; rfl) (argsL := [(.int c3), (.int (0 : Int32)), (.int m0), (.int m1)]) (rest := []) (lenOf pd_302 rfl) rfl (by show 2 * 0 + _ ≤ _; exact Nat.le_of_eq rfl) (hb hby at_296) (fun _ _ => ⟨rfl, e48, (by decide : 5 + 0 ≤ _), (by decide : 16 + 0 ≤ _)⟩)
              dsimp only [Pt.U, Pt.locs, Pt.cells, Pt.slots] at X63 l63 y63 z63 st63 hQ63
              subst l63 y63 z63
              obtain ⟨rfl, N63q, e63⟩ := hQ63
              have N63 := Fr.app N48 N63q
              refine OwnFin.step st63 ?_
              show OwnFin p e below _ (T63.setTop (mkF m 299 #[.val (.int te), .val (.int ma), .val (.int s_), .val (.int e_), .val (.int c0), .val (.int c1), .val (.int c2), .val (.int c3), .val (.ref b1), .val (.int m0), .val (.int m1), .val (.int (0 : Int32)), .val (.ref a36), .val (.int x_), .val (.int y_), .val (.int lo), .val (.int hi), .val (.int r3)] [(.int (0 : Int32))]))
              refine OwnFin.step (fun tT kK => XS.ifYes X63.here hx rfl (pc0 := 299) (pc' := 305) rfl (hb hby at_299) rfl ((if0 _ _).trans (teq (rfl : (0 : Int32) = (0 : Int32))).1) (by decide) (by decide) kK) ?_
              show OwnFin p e below _ (T63.setTop (mkF m 305 #[.val (.int te), .val (.int ma), .val (.int s_), .val (.int e_), .val (.int c0), .val (.int c1), .val (.int c2), .val (.int c3), .val (.ref b1), .val (.int m0), .val (.int m1), .val (.int (0 : Int32)), .val (.ref a36), .val (.int x_), .val (.int y_), .val (.int lo), .val (.int hi), .val (.int r3)] []))
              exact key50 _ _ X63 e63 N63 r3 (by simp [OwnS])
            · skip
              refine OwnFin.step (fun tT kK => XS.icmpYes X48.here hx rfl (pc0 := 285) (pc' := 305) rfl (hb hby at_285) rfl (flt (hc62 : ¬ ((3 : Int32) < hi))).2.1 (by decide) (by decide) kK) ?_
              show OwnFin p e below _ (T48.setTop (mkF m 305 #[.val (.int te), .val (.int ma), .val (.int s_), .val (.int e_), .val (.int c0), .val (.int c1), .val (.int c2), .val (.int c3), .val (.ref b1), .val (.int m0), .val (.int m1), .val (.int (0 : Int32)), .val (.ref a36), .val (.int x_), .val (.int y_), .val (.int lo), .val (.int hi), .val (.int r3)] []))
              exact key50 _ _ X48 e48 N48 r3 (by simp [OwnS, hc62])
        refine OwnFin.step (fun tT kK => XS.iload X45.here hx rfl (hb hby at_247) rfl kK) ?_
        refine OwnFin.step (fun tT kK => XS.iconst X45.here hx rfl (hb hby at_249) kK) ?_
        show OwnFin p e below _ (T45.setTop (mkF m 250 #[.val (.int te), .val (.int ma), .val (.int s_), .val (.int e_), .val (.int c0), .val (.int c1), .val (.int c2), .val (.int c3), .val (.ref b1), .val (.int m0), .val (.int m1), .val (.int (0 : Int32)), .val (.ref a36), .val (.int x_), .val (.int y_), .val (.int lo), .val (.int hi), .val (.int r2)] [(.int (2 : Int32)), (.int lo)]))
        by_cases hc64 : (2 : Int32) < lo
        · skip
          refine OwnFin.step (fun tT kK => XS.icmpYes X45.here hx rfl (pc0 := 250) (pc' := 276) rfl (hb hby at_250) rfl (tlt (hc64 : (2 : Int32) < lo)).2.2.1 (by decide) (by decide) kK) ?_
          show OwnFin p e below _ (T45.setTop (mkF m 276 #[.val (.int te), .val (.int ma), .val (.int s_), .val (.int e_), .val (.int c0), .val (.int c1), .val (.int c2), .val (.int c3), .val (.ref b1), .val (.int m0), .val (.int m1), .val (.int (0 : Int32)), .val (.ref a36), .val (.int x_), .val (.int y_), .val (.int lo), .val (.int hi), .val (.int r2)] []))
          exact key47 _ _ X45 e45 N45 r2 (by simp [OwnS, hc64])
        · skip
          refine OwnFin.step (fun tT kK => XS.icmpNo X45.here hx rfl (hb hby at_250) rfl (flt (hc64 : ¬ ((2 : Int32) < lo))).2.2.1 kK) ?_
          show OwnFin p e below _ (T45.setTop (mkF m 253 #[.val (.int te), .val (.int ma), .val (.int s_), .val (.int e_), .val (.int c0), .val (.int c1), .val (.int c2), .val (.int c3), .val (.ref b1), .val (.int m0), .val (.int m1), .val (.int (0 : Int32)), .val (.ref a36), .val (.int x_), .val (.int y_), .val (.int lo), .val (.int hi), .val (.int r2)] []))
          refine OwnFin.step (fun tT kK => XS.iconst X45.here hx rfl (hb hby at_253) kK) ?_
          refine OwnFin.step (fun tT kK => XS.iload X45.here hx rfl (hb hby at_254) rfl kK) ?_
          show OwnFin p e below _ (T45.setTop (mkF m 256 #[.val (.int te), .val (.int ma), .val (.int s_), .val (.int e_), .val (.int c0), .val (.int c1), .val (.int c2), .val (.int c3), .val (.ref b1), .val (.int m0), .val (.int m1), .val (.int (0 : Int32)), .val (.ref a36), .val (.int x_), .val (.int y_), .val (.int lo), .val (.int hi), .val (.int r2)] [(.int hi), (.int (2 : Int32))]))
          by_cases hc65 : (2 : Int32) < hi
          · skip
            refine OwnFin.step (fun tT kK => XS.icmpNo X45.here hx rfl (hb hby at_256) rfl (tlt (hc65 : (2 : Int32) < hi)).2.1 kK) ?_
            show OwnFin p e below _ (T45.setTop (mkF m 259 #[.val (.int te), .val (.int ma), .val (.int s_), .val (.int e_), .val (.int c0), .val (.int c1), .val (.int c2), .val (.int c3), .val (.ref b1), .val (.int m0), .val (.int m1), .val (.int (0 : Int32)), .val (.ref a36), .val (.int x_), .val (.int y_), .val (.int lo), .val (.int hi), .val (.int r2)] []))
            refine OwnFin.step (fun tT kK => XS.iload X45.here hx rfl (hb hby at_259) rfl kK) ?_
            refine OwnFin.step (fun tT kK => XS.iload X45.here hx rfl (hb hby at_261) rfl kK) ?_
            show OwnFin p e below _ (T45.setTop (mkF m 263 #[.val (.int te), .val (.int ma), .val (.int s_), .val (.int e_), .val (.int c0), .val (.int c1), .val (.int c2), .val (.int c3), .val (.ref b1), .val (.int m0), .val (.int m1), .val (.int (0 : Int32)), .val (.ref a36), .val (.int x_), .val (.int y_), .val (.int lo), .val (.int hi), .val (.int r2)] [(.int (0 : Int32)), (.int c2)]))
            refine OwnFin.step (fun tT kK => XS.iload X45.here hx rfl (hb hby at_263) rfl kK) ?_
            refine OwnFin.step (fun tT kK => XS.iload X45.here hx rfl (hb hby at_265) rfl kK) ?_
            show OwnFin p e below _ (T45.setTop (mkF m 267 #[.val (.int te), .val (.int ma), .val (.int s_), .val (.int e_), .val (.int c0), .val (.int c1), .val (.int c2), .val (.int c3), .val (.ref b1), .val (.int m0), .val (.int m1), .val (.int (0 : Int32)), .val (.ref a36), .val (.int x_), .val (.int y_), .val (.int lo), .val (.int hi), .val (.int r2)] [(.int m1), (.int m0), (.int (0 : Int32)), (.int c2)]))
            obtain ⟨_, _, ⟨T66, L66, k66, n66⟩, -, X66, ⟨Lc66, hQ66, l66, y66, z66⟩, st66⟩ := Jvm.LawKit.callS X45 hx (y := (⟨"com/example/covenantry/covenantry/text/PhrasesAfterLastMarkPinLaw", "isMark", "(CICC)Z"⟩ : MethodName)) hown (mvT hZ (hw _ (List.mem_of_getElem? (i := 41) rfl))) (mvT hZ (hw _ (List.mem_of_getElem? (i := 42) rfl))) (mvT hZ (hw _ (List.mem_of_getElem? (i := 43) rfl))) (mvT hZ (hw _ (List.mem_of_getElem? (i := 44) rfl))) (by decide) (backOf (W := 0) (rm70 l Z a0 hw hEL wS [] c2 m0 m1 h36 n0 (Nat.le_trans Z0 Kp37.1) ) hZ (hw _ (List.mem_of_getElem? (i := 44) rfl)) (hw _ (List.mem_of_getElem? (i := 43) rfl)) (by decide) (by decide)) (g := (mkF m 267 #[.val (.int te), .val (.int ma), .val (.int s_), .val (.int e_), .val (.int c0), .val (.int c1), .val (.int c2), .val (.int c3), .val (.ref b1), .val (.int m0), .val (.int m1), .val (.int (0 : Int32)), .val (.ref a36), .val (.int x_), .val (.int y_), .val (.int lo), .val (.int hi), .val (.int r2)] [(.int m1), (.int m0), (.int (0 : Int32)), (.int c2)])) rfl (by rw [hml]; rfl) (argsL := [(.int c2), (.int (0 : Int32)), (.int m0), (.int m1)]) (rest := []) (lenOf pd_302 rfl) rfl (by show 2 * 0 + _ ≤ _; exact Nat.le_of_eq rfl) (hb hby at_267) (fun _ _ => ⟨rfl, e45, (by decide : 5 + 0 ≤ _), (by decide : 16 + 0 ≤ _)⟩)
            dsimp only [Pt.U, Pt.locs, Pt.cells, Pt.slots] at X66 l66 y66 z66 st66 hQ66
            subst l66 y66 z66
            obtain ⟨rfl, N66q, e66⟩ := hQ66
            have N66 := Fr.app N45 N66q
            refine OwnFin.step st66 ?_
            show OwnFin p e below _ (T66.setTop (mkF m 270 #[.val (.int te), .val (.int ma), .val (.int s_), .val (.int e_), .val (.int c0), .val (.int c1), .val (.int c2), .val (.int c3), .val (.ref b1), .val (.int m0), .val (.int m1), .val (.int (0 : Int32)), .val (.ref a36), .val (.int x_), .val (.int y_), .val (.int lo), .val (.int hi), .val (.int r2)] [(.int (0 : Int32))]))
            refine OwnFin.step (fun tT kK => XS.ifYes X66.here hx rfl (pc0 := 270) (pc' := 276) rfl (hb hby at_270) rfl ((if0 _ _).trans (teq (rfl : (0 : Int32) = (0 : Int32))).1) (by decide) (by decide) kK) ?_
            show OwnFin p e below _ (T66.setTop (mkF m 276 #[.val (.int te), .val (.int ma), .val (.int s_), .val (.int e_), .val (.int c0), .val (.int c1), .val (.int c2), .val (.int c3), .val (.ref b1), .val (.int m0), .val (.int m1), .val (.int (0 : Int32)), .val (.ref a36), .val (.int x_), .val (.int y_), .val (.int lo), .val (.int hi), .val (.int r2)] []))
            exact key47 _ _ X66 e66 N66 r2 (by simp [OwnS])
          · skip
            refine OwnFin.step (fun tT kK => XS.icmpYes X45.here hx rfl (pc0 := 256) (pc' := 276) rfl (hb hby at_256) rfl (flt (hc65 : ¬ ((2 : Int32) < hi))).2.1 (by decide) (by decide) kK) ?_
            show OwnFin p e below _ (T45.setTop (mkF m 276 #[.val (.int te), .val (.int ma), .val (.int s_), .val (.int e_), .val (.int c0), .val (.int c1), .val (.int c2), .val (.int c3), .val (.ref b1), .val (.int m0), .val (.int m1), .val (.int (0 : Int32)), .val (.ref a36), .val (.int x_), .val (.int y_), .val (.int lo), .val (.int hi), .val (.int r2)] []))
            exact key47 _ _ X45 e45 N45 r2 (by simp [OwnS, hc65])
      refine OwnFin.step (fun tT kK => XS.iload X42.here hx rfl (hb hby at_218) rfl kK) ?_
      refine OwnFin.step (fun tT kK => XS.iconst X42.here hx rfl (hb hby at_220) kK) ?_
      show OwnFin p e below _ (T42.setTop (mkF m 221 #[.val (.int te), .val (.int ma), .val (.int s_), .val (.int e_), .val (.int c0), .val (.int c1), .val (.int c2), .val (.int c3), .val (.ref b1), .val (.int m0), .val (.int m1), .val (.int (0 : Int32)), .val (.ref a36), .val (.int x_), .val (.int y_), .val (.int lo), .val (.int hi), .val (.int r1)] [(.int (1 : Int32)), (.int lo)]))
      by_cases hc67 : (1 : Int32) < lo
      · skip
        refine OwnFin.step (fun tT kK => XS.icmpYes X42.here hx rfl (pc0 := 221) (pc' := 247) rfl (hb hby at_221) rfl (tlt (hc67 : (1 : Int32) < lo)).2.2.1 (by decide) (by decide) kK) ?_
        show OwnFin p e below _ (T42.setTop (mkF m 247 #[.val (.int te), .val (.int ma), .val (.int s_), .val (.int e_), .val (.int c0), .val (.int c1), .val (.int c2), .val (.int c3), .val (.ref b1), .val (.int m0), .val (.int m1), .val (.int (0 : Int32)), .val (.ref a36), .val (.int x_), .val (.int y_), .val (.int lo), .val (.int hi), .val (.int r1)] []))
        exact key44 _ _ X42 e42 N42 r1 (by simp [OwnS, hc67])
      · skip
        refine OwnFin.step (fun tT kK => XS.icmpNo X42.here hx rfl (hb hby at_221) rfl (flt (hc67 : ¬ ((1 : Int32) < lo))).2.2.1 kK) ?_
        show OwnFin p e below _ (T42.setTop (mkF m 224 #[.val (.int te), .val (.int ma), .val (.int s_), .val (.int e_), .val (.int c0), .val (.int c1), .val (.int c2), .val (.int c3), .val (.ref b1), .val (.int m0), .val (.int m1), .val (.int (0 : Int32)), .val (.ref a36), .val (.int x_), .val (.int y_), .val (.int lo), .val (.int hi), .val (.int r1)] []))
        refine OwnFin.step (fun tT kK => XS.iconst X42.here hx rfl (hb hby at_224) kK) ?_
        refine OwnFin.step (fun tT kK => XS.iload X42.here hx rfl (hb hby at_225) rfl kK) ?_
        show OwnFin p e below _ (T42.setTop (mkF m 227 #[.val (.int te), .val (.int ma), .val (.int s_), .val (.int e_), .val (.int c0), .val (.int c1), .val (.int c2), .val (.int c3), .val (.ref b1), .val (.int m0), .val (.int m1), .val (.int (0 : Int32)), .val (.ref a36), .val (.int x_), .val (.int y_), .val (.int lo), .val (.int hi), .val (.int r1)] [(.int hi), (.int (1 : Int32))]))
        by_cases hc68 : (1 : Int32) < hi
        · skip
          refine OwnFin.step (fun tT kK => XS.icmpNo X42.here hx rfl (hb hby at_227) rfl (tlt (hc68 : (1 : Int32) < hi)).2.1 kK) ?_
          show OwnFin p e below _ (T42.setTop (mkF m 230 #[.val (.int te), .val (.int ma), .val (.int s_), .val (.int e_), .val (.int c0), .val (.int c1), .val (.int c2), .val (.int c3), .val (.ref b1), .val (.int m0), .val (.int m1), .val (.int (0 : Int32)), .val (.ref a36), .val (.int x_), .val (.int y_), .val (.int lo), .val (.int hi), .val (.int r1)] []))
          refine OwnFin.step (fun tT kK => XS.iload X42.here hx rfl (hb hby at_230) rfl kK) ?_
          refine OwnFin.step (fun tT kK => XS.iload X42.here hx rfl (hb hby at_232) rfl kK) ?_
          show OwnFin p e below _ (T42.setTop (mkF m 234 #[.val (.int te), .val (.int ma), .val (.int s_), .val (.int e_), .val (.int c0), .val (.int c1), .val (.int c2), .val (.int c3), .val (.ref b1), .val (.int m0), .val (.int m1), .val (.int (0 : Int32)), .val (.ref a36), .val (.int x_), .val (.int y_), .val (.int lo), .val (.int hi), .val (.int r1)] [(.int (0 : Int32)), (.int c1)]))
          refine OwnFin.step (fun tT kK => XS.iload X42.here hx rfl (hb hby at_234) rfl kK) ?_
          refine OwnFin.step (fun tT kK => XS.iload X42.here hx rfl (hb hby at_236) rfl kK) ?_
          show OwnFin p e below _ (T42.setTop (mkF m 238 #[.val (.int te), .val (.int ma), .val (.int s_), .val (.int e_), .val (.int c0), .val (.int c1), .val (.int c2), .val (.int c3), .val (.ref b1), .val (.int m0), .val (.int m1), .val (.int (0 : Int32)), .val (.ref a36), .val (.int x_), .val (.int y_), .val (.int lo), .val (.int hi), .val (.int r1)] [(.int m1), (.int m0), (.int (0 : Int32)), (.int c1)]))
          obtain ⟨_, _, ⟨T69, L69, k69, n69⟩, -, X69, ⟨Lc69, hQ69, l69, y69, z69⟩, st69⟩ := Jvm.LawKit.callS X42 hx (y := (⟨"com/example/covenantry/covenantry/text/PhrasesAfterLastMarkPinLaw", "isMark", "(CICC)Z"⟩ : MethodName)) hown (mvT hZ (hw _ (List.mem_of_getElem? (i := 41) rfl))) (mvT hZ (hw _ (List.mem_of_getElem? (i := 42) rfl))) (mvT hZ (hw _ (List.mem_of_getElem? (i := 43) rfl))) (mvT hZ (hw _ (List.mem_of_getElem? (i := 44) rfl))) (by decide) (backOf (W := 0) (rm70 l Z a0 hw hEL wS [] c1 m0 m1 h36 n0 (Nat.le_trans Z0 Kp37.1) ) hZ (hw _ (List.mem_of_getElem? (i := 44) rfl)) (hw _ (List.mem_of_getElem? (i := 43) rfl)) (by decide) (by decide)) (g := (mkF m 238 #[.val (.int te), .val (.int ma), .val (.int s_), .val (.int e_), .val (.int c0), .val (.int c1), .val (.int c2), .val (.int c3), .val (.ref b1), .val (.int m0), .val (.int m1), .val (.int (0 : Int32)), .val (.ref a36), .val (.int x_), .val (.int y_), .val (.int lo), .val (.int hi), .val (.int r1)] [(.int m1), (.int m0), (.int (0 : Int32)), (.int c1)])) rfl (by rw [hml]; rfl) (argsL := [(.int c1), (.int (0 : Int32)), (.int m0), (.int m1)]) (rest := []) (lenOf pd_302 rfl) rfl (by show 2 * 0 + _ ≤ _; exact Nat.le_of_eq rfl) (hb hby at_238) (fun _ _ => ⟨rfl, e42, (by decide : 5 + 0 ≤ _), (by decide : 16 + 0 ≤ _)⟩)
          dsimp only [Pt.U, Pt.locs, Pt.cells, Pt.slots] at X69 l69 y69 z69 st69 hQ69
          subst l69 y69 z69
          obtain ⟨rfl, N69q, e69⟩ := hQ69
          have N69 := Fr.app N42 N69q
          refine OwnFin.step st69 ?_
          show OwnFin p e below _ (T69.setTop (mkF m 241 #[.val (.int te), .val (.int ma), .val (.int s_), .val (.int e_), .val (.int c0), .val (.int c1), .val (.int c2), .val (.int c3), .val (.ref b1), .val (.int m0), .val (.int m1), .val (.int (0 : Int32)), .val (.ref a36), .val (.int x_), .val (.int y_), .val (.int lo), .val (.int hi), .val (.int r1)] [(.int (0 : Int32))]))
          refine OwnFin.step (fun tT kK => XS.ifYes X69.here hx rfl (pc0 := 241) (pc' := 247) rfl (hb hby at_241) rfl ((if0 _ _).trans (teq (rfl : (0 : Int32) = (0 : Int32))).1) (by decide) (by decide) kK) ?_
          show OwnFin p e below _ (T69.setTop (mkF m 247 #[.val (.int te), .val (.int ma), .val (.int s_), .val (.int e_), .val (.int c0), .val (.int c1), .val (.int c2), .val (.int c3), .val (.ref b1), .val (.int m0), .val (.int m1), .val (.int (0 : Int32)), .val (.ref a36), .val (.int x_), .val (.int y_), .val (.int lo), .val (.int hi), .val (.int r1)] []))
          exact key44 _ _ X69 e69 N69 r1 (by simp [OwnS])
        · skip
          refine OwnFin.step (fun tT kK => XS.icmpYes X42.here hx rfl (pc0 := 227) (pc' := 247) rfl (hb hby at_227) rfl (flt (hc68 : ¬ ((1 : Int32) < hi))).2.1 (by decide) (by decide) kK) ?_
          show OwnFin p e below _ (T42.setTop (mkF m 247 #[.val (.int te), .val (.int ma), .val (.int s_), .val (.int e_), .val (.int c0), .val (.int c1), .val (.int c2), .val (.int c3), .val (.ref b1), .val (.int m0), .val (.int m1), .val (.int (0 : Int32)), .val (.ref a36), .val (.int x_), .val (.int y_), .val (.int lo), .val (.int hi), .val (.int r1)] []))
          exact key44 _ _ X42 e42 N42 r1 (by simp [OwnS, hc68])
    refine OwnFin.step (fun tT kK => XS.iload X40.here hx rfl (hb hby at_190) rfl kK) ?_
    by_cases hc70 : (0 : Int32) < lo
    · skip
      refine OwnFin.step (fun tT kK => XS.ifYes X40.here hx rfl (pc0 := 192) (pc' := 218) rfl (hb hby at_192) rfl ((if0 _ _).trans (tlt (hc70 : (0 : Int32) < lo)).2.2.1) (by decide) (by decide) kK) ?_
      show OwnFin p e below _ (T40.setTop (mkF m 218 #[.val (.int te), .val (.int ma), .val (.int s_), .val (.int e_), .val (.int c0), .val (.int c1), .val (.int c2), .val (.int c3), .val (.ref b1), .val (.int m0), .val (.int m1), .val (.int (0 : Int32)), .val (.ref a36), .val (.int x_), .val (.int y_), .val (.int lo), .val (.int hi), .val (.int lo)] []))
      exact key41 _ _ X40 e40 N40 lo (by simp [OwnS, hc70])
    · skip
      refine OwnFin.step (fun tT kK => XS.ifNo X40.here hx rfl (hb hby at_192) rfl ((if0 _ _).trans (flt (hc70 : ¬ ((0 : Int32) < lo))).2.2.1) kK) ?_
      show OwnFin p e below _ (T40.setTop (mkF m 195 #[.val (.int te), .val (.int ma), .val (.int s_), .val (.int e_), .val (.int c0), .val (.int c1), .val (.int c2), .val (.int c3), .val (.ref b1), .val (.int m0), .val (.int m1), .val (.int (0 : Int32)), .val (.ref a36), .val (.int x_), .val (.int y_), .val (.int lo), .val (.int hi), .val (.int lo)] []))
      refine OwnFin.step (fun tT kK => XS.iconst X40.here hx rfl (hb hby at_195) kK) ?_
      show OwnFin p e below _ (T40.setTop (mkF m 196 #[.val (.int te), .val (.int ma), .val (.int s_), .val (.int e_), .val (.int c0), .val (.int c1), .val (.int c2), .val (.int c3), .val (.ref b1), .val (.int m0), .val (.int m1), .val (.int (0 : Int32)), .val (.ref a36), .val (.int x_), .val (.int y_), .val (.int lo), .val (.int hi), .val (.int lo)] [(.int (0 : Int32))]))
      refine OwnFin.step (fun tT kK => XS.iload X40.here hx rfl (hb hby at_196) rfl kK) ?_
      by_cases hc71 : (0 : Int32) < hi
      · skip
        refine OwnFin.step (fun tT kK => XS.icmpNo X40.here hx rfl (hb hby at_198) rfl (tlt (hc71 : (0 : Int32) < hi)).2.1 kK) ?_
        show OwnFin p e below _ (T40.setTop (mkF m 201 #[.val (.int te), .val (.int ma), .val (.int s_), .val (.int e_), .val (.int c0), .val (.int c1), .val (.int c2), .val (.int c3), .val (.ref b1), .val (.int m0), .val (.int m1), .val (.int (0 : Int32)), .val (.ref a36), .val (.int x_), .val (.int y_), .val (.int lo), .val (.int hi), .val (.int lo)] []))
        refine OwnFin.step (fun tT kK => XS.iload X40.here hx rfl (hb hby at_201) rfl kK) ?_
        show OwnFin p e below _ (T40.setTop (mkF m 203 #[.val (.int te), .val (.int ma), .val (.int s_), .val (.int e_), .val (.int c0), .val (.int c1), .val (.int c2), .val (.int c3), .val (.ref b1), .val (.int m0), .val (.int m1), .val (.int (0 : Int32)), .val (.ref a36), .val (.int x_), .val (.int y_), .val (.int lo), .val (.int hi), .val (.int lo)] [(.int c0)]))
        refine OwnFin.step (fun tT kK => XS.iload X40.here hx rfl (hb hby at_203) rfl kK) ?_
        refine OwnFin.step (fun tT kK => XS.iload X40.here hx rfl (hb hby at_205) rfl kK) ?_
        show OwnFin p e below _ (T40.setTop (mkF m 207 #[.val (.int te), .val (.int ma), .val (.int s_), .val (.int e_), .val (.int c0), .val (.int c1), .val (.int c2), .val (.int c3), .val (.ref b1), .val (.int m0), .val (.int m1), .val (.int (0 : Int32)), .val (.ref a36), .val (.int x_), .val (.int y_), .val (.int lo), .val (.int hi), .val (.int lo)] [(.int m0), (.int (0 : Int32)), (.int c0)]))
        refine OwnFin.step (fun tT kK => XS.iload X40.here hx rfl (hb hby at_207) rfl kK) ?_
        obtain ⟨_, _, ⟨T72, L72, k72, n72⟩, -, X72, ⟨Lc72, hQ72, l72, y72, z72⟩, st72⟩ := Jvm.LawKit.callS X40 hx (y := (⟨"com/example/covenantry/covenantry/text/PhrasesAfterLastMarkPinLaw", "isMark", "(CICC)Z"⟩ : MethodName)) hown (mvT hZ (hw _ (List.mem_of_getElem? (i := 41) rfl))) (mvT hZ (hw _ (List.mem_of_getElem? (i := 42) rfl))) (mvT hZ (hw _ (List.mem_of_getElem? (i := 43) rfl))) (mvT hZ (hw _ (List.mem_of_getElem? (i := 44) rfl))) (by decide) (backOf (W := 0) (rm70 l Z a0 hw hEL wS [] c0 m0 m1 h36 n0 (Nat.le_trans Z0 Kp37.1) ) hZ (hw _ (List.mem_of_getElem? (i := 44) rfl)) (hw _ (List.mem_of_getElem? (i := 43) rfl)) (by decide) (by decide)) (g := (mkF m 209 #[.val (.int te), .val (.int ma), .val (.int s_), .val (.int e_), .val (.int c0), .val (.int c1), .val (.int c2), .val (.int c3), .val (.ref b1), .val (.int m0), .val (.int m1), .val (.int (0 : Int32)), .val (.ref a36), .val (.int x_), .val (.int y_), .val (.int lo), .val (.int hi), .val (.int lo)] [(.int m1), (.int m0), (.int (0 : Int32)), (.int c0)])) rfl (by rw [hml]; rfl) (argsL := [(.int c0), (.int (0 : Int32)), (.int m0), (.int m1)]) (rest := []) (lenOf pd_302 rfl) rfl (by show 2 * 0 + _ ≤ _; exact Nat.le_of_eq rfl) (hb hby at_209) (fun _ _ => ⟨rfl, e40, (by decide : 5 + 0 ≤ _), (by decide : 16 + 0 ≤ _)⟩)
        dsimp only [Pt.U, Pt.locs, Pt.cells, Pt.slots] at X72 l72 y72 z72 st72 hQ72
        subst l72 y72 z72
        obtain ⟨rfl, N72q, e72⟩ := hQ72
        have N72 := Fr.app N40 N72q
        refine OwnFin.step st72 ?_
        show OwnFin p e below _ (T72.setTop (mkF m 212 #[.val (.int te), .val (.int ma), .val (.int s_), .val (.int e_), .val (.int c0), .val (.int c1), .val (.int c2), .val (.int c3), .val (.ref b1), .val (.int m0), .val (.int m1), .val (.int (0 : Int32)), .val (.ref a36), .val (.int x_), .val (.int y_), .val (.int lo), .val (.int hi), .val (.int lo)] [(.int (0 : Int32))]))
        refine OwnFin.step (fun tT kK => XS.ifYes X72.here hx rfl (pc0 := 212) (pc' := 218) rfl (hb hby at_212) rfl ((if0 _ _).trans (teq (rfl : (0 : Int32) = (0 : Int32))).1) (by decide) (by decide) kK) ?_
        show OwnFin p e below _ (T72.setTop (mkF m 218 #[.val (.int te), .val (.int ma), .val (.int s_), .val (.int e_), .val (.int c0), .val (.int c1), .val (.int c2), .val (.int c3), .val (.ref b1), .val (.int m0), .val (.int m1), .val (.int (0 : Int32)), .val (.ref a36), .val (.int x_), .val (.int y_), .val (.int lo), .val (.int hi), .val (.int lo)] []))
        exact key41 _ _ X72 e72 N72 lo (by simp [OwnS])
      · skip
        refine OwnFin.step (fun tT kK => XS.icmpYes X40.here hx rfl (pc0 := 198) (pc' := 218) rfl (hb hby at_198) rfl (flt (hc71 : ¬ ((0 : Int32) < hi))).2.1 (by decide) (by decide) kK) ?_
        show OwnFin p e below _ (T40.setTop (mkF m 218 #[.val (.int te), .val (.int ma), .val (.int s_), .val (.int e_), .val (.int c0), .val (.int c1), .val (.int c2), .val (.int c3), .val (.ref b1), .val (.int m0), .val (.int m1), .val (.int (0 : Int32)), .val (.ref a36), .val (.int x_), .val (.int y_), .val (.int lo), .val (.int hi), .val (.int lo)] []))
        exact key41 _ _ X40 e40 N40 lo (by simp [OwnS, hc71])
  · skip
    show OwnFin p e below _ (T29.setTop (mkF m 102 #[.val (.int te), .val (.int ma), .val (.int s_), .val (.int e_), .val (.int c0), .val (.int c1), .val (.int c2), .val (.int c3), .val (.ref b1), .val (.int m0), .val (.int m1), .val (.int (1 : Int32)), .unset, .unset, .unset, .unset, .unset, .unset] []))
    refine OwnFin.step (fun tT kK => XS.iload X29.here hx rfl (hb hby at_102) rfl kK) ?_
    refine OwnFin.step (fun tT kK => XS.ifYes X29.here hx rfl (pc0 := 104) (pc' := 114) rfl (hb hby at_104) rfl ((if0 _ _).trans (feq (by decide : ¬ ((1 : Int32) = (0 : Int32)))).2) (by decide) (by decide) kK) ?_
    show OwnFin p e below _ (T29.setTop (mkF m 114 #[.val (.int te), .val (.int ma), .val (.int s_), .val (.int e_), .val (.int c0), .val (.int c1), .val (.int c2), .val (.int c3), .val (.ref b1), .val (.int m0), .val (.int m1), .val (.int (1 : Int32)), .unset, .unset, .unset, .unset, .unset, .unset] []))
    refine OwnFin.step (fun tT kK => XS.iload X29.here hx rfl (hb hby at_114) rfl kK) ?_
    show OwnFin p e below _ (T29.setTop (mkF m 116 #[.val (.int te), .val (.int ma), .val (.int s_), .val (.int e_), .val (.int c0), .val (.int c1), .val (.int c2), .val (.int c3), .val (.ref b1), .val (.int m0), .val (.int m1), .val (.int (1 : Int32)), .unset, .unset, .unset, .unset, .unset, .unset] [(.int (1 : Int32))]))
    refine OwnFin.step (fun tT kK => XS.iconst X29.here hx rfl (hb hby at_116) kK) ?_
    refine OwnFin.step (fun tT kK => XS.icmpNo X29.here hx rfl (hb hby at_117) rfl (teq (rfl : (1 : Int32) = (1 : Int32))).2 kK) ?_
    show OwnFin p e below _ (T29.setTop (mkF m 120 #[.val (.int te), .val (.int ma), .val (.int s_), .val (.int e_), .val (.int c0), .val (.int c1), .val (.int c2), .val (.int c3), .val (.ref b1), .val (.int m0), .val (.int m1), .val (.int (1 : Int32)), .unset, .unset, .unset, .unset, .unset, .unset] []))
    refine OwnFin.step (fun tT kK => XS.iload X29.here hx rfl (hb hby at_120) rfl kK) ?_
    show OwnFin p e below _ (T29.setTop (mkF m 122 #[.val (.int te), .val (.int ma), .val (.int s_), .val (.int e_), .val (.int c0), .val (.int c1), .val (.int c2), .val (.int c3), .val (.ref b1), .val (.int m0), .val (.int m1), .val (.int (1 : Int32)), .unset, .unset, .unset, .unset, .unset, .unset] [(.int m0)]))
    have f73 : Sta Z T29.heap "java/lang/String" "COMPACT_STRINGS" "Z" (.int cs) := (own_sta_keep f28 K29 (allS (own_nonsta f25) all0))
    obtain ⟨_, _, ⟨T74, L74, k74, n74⟩, -, X74, ⟨Lc74, hQ74, l74, y74, z74⟩, st74⟩ := Jvm.LawKit.callS X29 hx (y := (⟨"java/lang/String", "valueOf", "(C)Ljava/lang/String;"⟩ : MethodName)) hown (mvT hZ (hw _ (List.mem_of_getElem? (i := 99) rfl))) (mvT hZ (hw _ (List.mem_of_getElem? (i := 100) rfl))) (mvT hZ (hw _ (List.mem_of_getElem? (i := 2) rfl))) (mvT hZ (hw _ (List.mem_of_getElem? (i := 101) rfl))) (by decide) (backOf (W := 0) (rm85 l Z a0 hw hEL wS [] m0 cs T29.heap n0 (Nat.le_trans Z0 Kp33.1) f73 hp1 i8m0) hZ (hw _ (List.mem_of_getElem? (i := 101) rfl)) (hw _ (List.mem_of_getElem? (i := 2) rfl)) (by decide) (by decide)) (g := (mkF m 122 #[.val (.int te), .val (.int ma), .val (.int s_), .val (.int e_), .val (.int c0), .val (.int c1), .val (.int c2), .val (.int c3), .val (.ref b1), .val (.int m0), .val (.int m1), .val (.int (1 : Int32)), .unset, .unset, .unset, .unset, .unset, .unset] [(.int m0)])) rfl (by rw [hml]; rfl) (argsL := [(.int m0)]) (rest := []) (lenOf pd_303 rfl) rfl (by show 2 * 0 + _ ≤ _; exact Nat.le_of_eq rfl) (hb hby at_122) (fun _ _ => ⟨rfl, rfl, (by decide : 3 + 2 ≤ _), (by decide : 12 + 5 ≤ _)⟩)
    dsimp only [Pt.U, Pt.locs, Pt.cells, Pt.slots] at X74 l74 y74 z74 st74 hQ74
    subst l74 y74 z74
    obtain ⟨b75, ⟨d76, ⟨kd77, ⟨rfl, N74q, K74, B74_0, P74_0, P74_1, P74_2, P74_3⟩⟩⟩⟩ := hQ74
    have N74 := Fr.app N29 N74q
    refine OwnFin.step st74 ?_
    have E74 : Ext T29.heap T74.heap := ⟨K74.1, fun x c q => K74.2.1 x c q nin0⟩
    have sz_b75 : h0.size ≤ b75 := Nat.le_trans Kp33.1 B74_0
    have Kp78 := Kp33.ext E74
    have cp79 := (CHr.ext E74 C34.1)
    have C79 := C34.trans cp79
    show OwnFin p e below _ (T74.setTop (mkF m 125 #[.val (.int te), .val (.int ma), .val (.int s_), .val (.int e_), .val (.int c0), .val (.int c1), .val (.int c2), .val (.int c3), .val (.ref b1), .val (.int m0), .val (.int m1), .val (.int (1 : Int32)), .unset, .unset, .unset, .unset, .unset, .unset] [(.ref b75)]))
    refine OwnFin.step (fun tT kK => XS.astore X74.here hx rfl (hb hby at_125) rfl rfl (l' := #[.val (.int te), .val (.int ma), .val (.int s_), .val (.int e_), .val (.int c0), .val (.int c1), .val (.int c2), .val (.int c3), .val (.ref b1), .val (.int m0), .val (.int m1), .val (.int (1 : Int32)), .val (.ref b75), .unset, .unset, .unset, .unset, .unset]) rfl kK) ?_
    refine OwnFin.step (fun tT kK => XS.goto X74.here hx rfl (pc0 := 127) (pc' := 152) rfl (hb hby at_127) (by decide) (by decide) kK) ?_
    show OwnFin p e below _ (T74.setTop (mkF m 152 #[.val (.int te), .val (.int ma), .val (.int s_), .val (.int e_), .val (.int c0), .val (.int c1), .val (.int c2), .val (.int c3), .val (.ref b1), .val (.int m0), .val (.int m1), .val (.int (1 : Int32)), .val (.ref b75), .unset, .unset, .unset, .unset, .unset] []))
    refine OwnFin.step (fun tT kK => XS.iloadN X74.here hx rfl (hb hby at_152) rfl kK) ?_
    show OwnFin p e below _ (T74.setTop (mkF m 153 #[.val (.int te), .val (.int ma), .val (.int s_), .val (.int e_), .val (.int c0), .val (.int c1), .val (.int c2), .val (.int c3), .val (.ref b1), .val (.int m0), .val (.int m1), .val (.int (1 : Int32)), .val (.ref b75), .unset, .unset, .unset, .unset, .unset] [(.int s_)]))
    refine OwnFin.step (fun tT kK => X74.ldcI hx hown (mvT hZ (hw _ (List.mem_of_getElem? (i := 33) rfl))) (g := (mkF m 153 #[.val (.int te), .val (.int ma), .val (.int s_), .val (.int e_), .val (.int c0), .val (.int c1), .val (.int c2), .val (.int c3), .val (.ref b1), .val (.int m0), .val (.int m1), .val (.int (1 : Int32)), .val (.ref b75), .unset, .unset, .unset, .unset, .unset] [(.int s_)])) rfl (hb hby at_153) kK) ?_
    refine OwnFin.step (fun tT kK => XS.iand X74.here hx rfl (hb hby at_155) rfl kK) ?_
    show OwnFin p e below _ (T74.setTop (mkF m 156 #[.val (.int te), .val (.int ma), .val (.int s_), .val (.int e_), .val (.int c0), .val (.int c1), .val (.int c2), .val (.int c3), .val (.ref b1), .val (.int m0), .val (.int m1), .val (.int (1 : Int32)), .val (.ref b75), .unset, .unset, .unset, .unset, .unset] [(.int (s_ &&& (2147483647 : Int32)))]))
    refine OwnFin.step (fun tT kK => XS.iconst X74.here hx rfl (hb hby at_156) kK) ?_
    refine OwnFin.step (fun tT kK => iremM (g := (mkF m 157 #[.val (.int te), .val (.int ma), .val (.int s_), .val (.int e_), .val (.int c0), .val (.int c1), .val (.int c2), .val (.int c3), .val (.ref b1), .val (.int m0), .val (.int m1), .val (.int (1 : Int32)), .val (.ref b75), .unset, .unset, .unset, .unset, .unset] [(.int (5 : Int32)), (.int (s_ &&& (2147483647 : Int32)))])) X74 hx rfl (hb hby at_157) rfl (by decide) kK) ?_
    show OwnFin p e below _ (T74.setTop (mkF m 158 #[.val (.int te), .val (.int ma), .val (.int s_), .val (.int e_), .val (.int c0), .val (.int c1), .val (.int c2), .val (.int c3), .val (.ref b1), .val (.int m0), .val (.int m1), .val (.int (1 : Int32)), .val (.ref b75), .unset, .unset, .unset, .unset, .unset] [(.int ((s_ &&& (2147483647 : Int32)) % (5 : Int32)))]))
    refine OwnFin.step (fun tT kK => XS.istore X74.here hx rfl (hb hby at_158) rfl (l' := #[.val (.int te), .val (.int ma), .val (.int s_), .val (.int e_), .val (.int c0), .val (.int c1), .val (.int c2), .val (.int c3), .val (.ref b1), .val (.int m0), .val (.int m1), .val (.int (1 : Int32)), .val (.ref b75), .val (.int ((s_ &&& (2147483647 : Int32)) % (5 : Int32))), .unset, .unset, .unset, .unset]) rfl kK) ?_
    refine OwnFin.step (fun tT kK => XS.iloadN X74.here hx rfl (hb hby at_160) rfl kK) ?_
    show OwnFin p e below _ (T74.setTop (mkF m 161 #[.val (.int te), .val (.int ma), .val (.int s_), .val (.int e_), .val (.int c0), .val (.int c1), .val (.int c2), .val (.int c3), .val (.ref b1), .val (.int m0), .val (.int m1), .val (.int (1 : Int32)), .val (.ref b75), .val (.int ((s_ &&& (2147483647 : Int32)) % (5 : Int32))), .unset, .unset, .unset, .unset] [(.int e_)]))
    refine OwnFin.step (fun tT kK => X74.ldcI hx hown (mvT hZ (hw _ (List.mem_of_getElem? (i := 33) rfl))) (g := (mkF m 161 #[.val (.int te), .val (.int ma), .val (.int s_), .val (.int e_), .val (.int c0), .val (.int c1), .val (.int c2), .val (.int c3), .val (.ref b1), .val (.int m0), .val (.int m1), .val (.int (1 : Int32)), .val (.ref b75), .val (.int ((s_ &&& (2147483647 : Int32)) % (5 : Int32))), .unset, .unset, .unset, .unset] [(.int e_)])) rfl (hb hby at_161) kK) ?_
    refine OwnFin.step (fun tT kK => XS.iand X74.here hx rfl (hb hby at_163) rfl kK) ?_
    show OwnFin p e below _ (T74.setTop (mkF m 164 #[.val (.int te), .val (.int ma), .val (.int s_), .val (.int e_), .val (.int c0), .val (.int c1), .val (.int c2), .val (.int c3), .val (.ref b1), .val (.int m0), .val (.int m1), .val (.int (1 : Int32)), .val (.ref b75), .val (.int ((s_ &&& (2147483647 : Int32)) % (5 : Int32))), .unset, .unset, .unset, .unset] [(.int (e_ &&& (2147483647 : Int32)))]))
    refine OwnFin.step (fun tT kK => XS.iconst X74.here hx rfl (hb hby at_164) kK) ?_
    refine OwnFin.step (fun tT kK => iremM (g := (mkF m 165 #[.val (.int te), .val (.int ma), .val (.int s_), .val (.int e_), .val (.int c0), .val (.int c1), .val (.int c2), .val (.int c3), .val (.ref b1), .val (.int m0), .val (.int m1), .val (.int (1 : Int32)), .val (.ref b75), .val (.int ((s_ &&& (2147483647 : Int32)) % (5 : Int32))), .unset, .unset, .unset, .unset] [(.int (5 : Int32)), (.int (e_ &&& (2147483647 : Int32)))])) X74 hx rfl (hb hby at_165) rfl (by decide) kK) ?_
    show OwnFin p e below _ (T74.setTop (mkF m 166 #[.val (.int te), .val (.int ma), .val (.int s_), .val (.int e_), .val (.int c0), .val (.int c1), .val (.int c2), .val (.int c3), .val (.ref b1), .val (.int m0), .val (.int m1), .val (.int (1 : Int32)), .val (.ref b75), .val (.int ((s_ &&& (2147483647 : Int32)) % (5 : Int32))), .unset, .unset, .unset, .unset] [(.int ((e_ &&& (2147483647 : Int32)) % (5 : Int32)))]))
    refine OwnFin.step (fun tT kK => XS.istore X74.here hx rfl (hb hby at_166) rfl (l' := #[.val (.int te), .val (.int ma), .val (.int s_), .val (.int e_), .val (.int c0), .val (.int c1), .val (.int c2), .val (.int c3), .val (.ref b1), .val (.int m0), .val (.int m1), .val (.int (1 : Int32)), .val (.ref b75), .val (.int ((s_ &&& (2147483647 : Int32)) % (5 : Int32))), .val (.int ((e_ &&& (2147483647 : Int32)) % (5 : Int32))), .unset, .unset, .unset]) rfl kK) ?_
    obtain ⟨x_, hx_⟩ : ∃ z : Int32, z = ((s_ &&& (2147483647 : Int32)) % (5 : Int32)) := ⟨_, rfl⟩
    rw [← hx_]
    show OwnFin p e below _ (T74.setTop (mkF m 168 #[.val (.int te), .val (.int ma), .val (.int s_), .val (.int e_), .val (.int c0), .val (.int c1), .val (.int c2), .val (.int c3), .val (.ref b1), .val (.int m0), .val (.int m1), .val (.int (1 : Int32)), .val (.ref b75), .val (.int x_), .val (.int ((e_ &&& (2147483647 : Int32)) % (5 : Int32))), .unset, .unset, .unset] []))
    obtain ⟨y_, hy_⟩ : ∃ z : Int32, z = ((e_ &&& (2147483647 : Int32)) % (5 : Int32)) := ⟨_, rfl⟩
    rw [← hy_]
    show OwnFin p e below _ (T74.setTop (mkF m 168 #[.val (.int te), .val (.int ma), .val (.int s_), .val (.int e_), .val (.int c0), .val (.int c1), .val (.int c2), .val (.int c3), .val (.ref b1), .val (.int m0), .val (.int m1), .val (.int (1 : Int32)), .val (.ref b75), .val (.int x_), .val (.int y_), .unset, .unset, .unset] []))
    refine OwnFin.step (fun tT kK => XS.iload X74.here hx rfl (hb hby at_168) rfl kK) ?_
    show OwnFin p e below _ (T74.setTop (mkF m 170 #[.val (.int te), .val (.int ma), .val (.int s_), .val (.int e_), .val (.int c0), .val (.int c1), .val (.int c2), .val (.int c3), .val (.ref b1), .val (.int m0), .val (.int m1), .val (.int (1 : Int32)), .val (.ref b75), .val (.int x_), .val (.int y_), .unset, .unset, .unset] [(.int x_)]))
    refine OwnFin.step (fun tT kK => XS.iload X74.here hx rfl (hb hby at_170) rfl kK) ?_
    obtain ⟨_, _, ⟨T80, L80, k80, n80⟩, -, X80, ⟨Lc80, hQ80, l80, y80, z80⟩, st80⟩ := Jvm.LawKit.callS X74 hx (y := (⟨"java/lang/Math", "min", "(II)I"⟩ : MethodName)) hown (mvT hZ (hw _ (List.mem_of_getElem? (i := 34) rfl))) (mvT hZ (hw _ (List.mem_of_getElem? (i := 35) rfl))) (mvT hZ (hw _ (List.mem_of_getElem? (i := 36) rfl))) (mvT hZ (hw _ (List.mem_of_getElem? (i := 37) rfl))) (by decide) (backOf (W := 0) (rm1b l Z a0 hw hEL wS [] x_ y_ T74.heap n0 (Nat.le_trans Z0 Kp78.1) ) hZ (hw _ (List.mem_of_getElem? (i := 37) rfl)) (hw _ (List.mem_of_getElem? (i := 36) rfl)) (by decide) (by decide)) (g := (mkF m 172 #[.val (.int te), .val (.int ma), .val (.int s_), .val (.int e_), .val (.int c0), .val (.int c1), .val (.int c2), .val (.int c3), .val (.ref b1), .val (.int m0), .val (.int m1), .val (.int (1 : Int32)), .val (.ref b75), .val (.int x_), .val (.int y_), .unset, .unset, .unset] [(.int y_), (.int x_)])) rfl (by rw [hml]; rfl) (argsL := [(.int x_), (.int y_)]) (rest := []) (lenOf pd_82 rfl) rfl (by show 2 * 0 + _ ≤ _; exact Nat.le_of_eq rfl) (hb hby at_172) (fun _ _ => ⟨rfl, rfl, (by decide : 5 + 0 ≤ _), (by decide : 17 + 0 ≤ _)⟩)
    dsimp only [Pt.U, Pt.locs, Pt.cells, Pt.slots] at X80 l80 y80 z80 st80 hQ80
    subst l80 y80 z80
    obtain ⟨rfl, N80q, e80⟩ := hQ80
    have N80 := Fr.app N74 N80q
    refine OwnFin.step st80 ?_
    show OwnFin p e below _ (T80.setTop (mkF m 175 #[.val (.int te), .val (.int ma), .val (.int s_), .val (.int e_), .val (.int c0), .val (.int c1), .val (.int c2), .val (.int c3), .val (.ref b1), .val (.int m0), .val (.int m1), .val (.int (1 : Int32)), .val (.ref b75), .val (.int x_), .val (.int y_), .unset, .unset, .unset] [(.int (if y_ < x_ then y_ else x_))]))
    refine OwnFin.step (fun tT kK => XS.istore X80.here hx rfl (hb hby at_175) rfl (l' := #[.val (.int te), .val (.int ma), .val (.int s_), .val (.int e_), .val (.int c0), .val (.int c1), .val (.int c2), .val (.int c3), .val (.ref b1), .val (.int m0), .val (.int m1), .val (.int (1 : Int32)), .val (.ref b75), .val (.int x_), .val (.int y_), .val (.int (if y_ < x_ then y_ else x_)), .unset, .unset]) rfl kK) ?_
    show OwnFin p e below _ (T80.setTop (mkF m 177 #[.val (.int te), .val (.int ma), .val (.int s_), .val (.int e_), .val (.int c0), .val (.int c1), .val (.int c2), .val (.int c3), .val (.ref b1), .val (.int m0), .val (.int m1), .val (.int (1 : Int32)), .val (.ref b75), .val (.int x_), .val (.int y_), .val (.int (if y_ < x_ then y_ else x_)), .unset, .unset] []))
    refine OwnFin.step (fun tT kK => XS.iload X80.here hx rfl (hb hby at_177) rfl kK) ?_
    refine OwnFin.step (fun tT kK => XS.iload X80.here hx rfl (hb hby at_179) rfl kK) ?_
    show OwnFin p e below _ (T80.setTop (mkF m 181 #[.val (.int te), .val (.int ma), .val (.int s_), .val (.int e_), .val (.int c0), .val (.int c1), .val (.int c2), .val (.int c3), .val (.ref b1), .val (.int m0), .val (.int m1), .val (.int (1 : Int32)), .val (.ref b75), .val (.int x_), .val (.int y_), .val (.int (if y_ < x_ then y_ else x_)), .unset, .unset] [(.int y_), (.int x_)]))
    obtain ⟨_, _, ⟨T81, L81, k81, n81⟩, -, X81, ⟨Lc81, hQ81, l81, y81, z81⟩, st81⟩ := Jvm.LawKit.callS X80 hx (y := (⟨"java/lang/Math", "max", "(II)I"⟩ : MethodName)) hown (mvT hZ (hw _ (List.mem_of_getElem? (i := 38) rfl))) (mvT hZ (hw _ (List.mem_of_getElem? (i := 39) rfl))) (mvT hZ (hw _ (List.mem_of_getElem? (i := 36) rfl))) (mvT hZ (hw _ (List.mem_of_getElem? (i := 40) rfl))) (by decide) (backOf (W := 0) (rm1a l Z a0 hw hEL wS [] x_ y_ T74.heap n0 (Nat.le_trans Z0 Kp78.1) ) hZ (hw _ (List.mem_of_getElem? (i := 40) rfl)) (hw _ (List.mem_of_getElem? (i := 36) rfl)) (by decide) (by decide)) (g := (mkF m 181 #[.val (.int te), .val (.int ma), .val (.int s_), .val (.int e_), .val (.int c0), .val (.int c1), .val (.int c2), .val (.int c3), .val (.ref b1), .val (.int m0), .val (.int m1), .val (.int (1 : Int32)), .val (.ref b75), .val (.int x_), .val (.int y_), .val (.int (if y_ < x_ then y_ else x_)), .unset, .unset] [(.int y_), (.int x_)])) rfl (by rw [hml]; rfl) (argsL := [(.int x_), (.int y_)]) (rest := []) (lenOf pd_82 rfl) rfl (by show 2 * 0 + _ ≤ _; exact Nat.le_of_eq rfl) (hb hby at_181) (fun _ _ => ⟨rfl, e80, (by decide : 5 + 0 ≤ _), (by decide : 17 + 0 ≤ _)⟩)
    dsimp only [Pt.U, Pt.locs, Pt.cells, Pt.slots] at X81 l81 y81 z81 st81 hQ81
    subst l81 y81 z81
    obtain ⟨rfl, N81q, e81⟩ := hQ81
    have N81 := Fr.app N80 N81q
    refine OwnFin.step st81 ?_
    show OwnFin p e below _ (T81.setTop (mkF m 184 #[.val (.int te), .val (.int ma), .val (.int s_), .val (.int e_), .val (.int c0), .val (.int c1), .val (.int c2), .val (.int c3), .val (.ref b1), .val (.int m0), .val (.int m1), .val (.int (1 : Int32)), .val (.ref b75), .val (.int x_), .val (.int y_), .val (.int (if y_ < x_ then y_ else x_)), .unset, .unset] [(.int (if x_ < y_ then y_ else x_))]))
    refine OwnFin.step (fun tT kK => XS.istore X81.here hx rfl (hb hby at_184) rfl (l' := #[.val (.int te), .val (.int ma), .val (.int s_), .val (.int e_), .val (.int c0), .val (.int c1), .val (.int c2), .val (.int c3), .val (.ref b1), .val (.int m0), .val (.int m1), .val (.int (1 : Int32)), .val (.ref b75), .val (.int x_), .val (.int y_), .val (.int (if y_ < x_ then y_ else x_)), .val (.int (if x_ < y_ then y_ else x_)), .unset]) rfl kK) ?_
    obtain ⟨lo, hlo⟩ : ∃ z : Int32, z = (if y_ < x_ then y_ else x_) := ⟨_, rfl⟩
    rw [← hlo]
    show OwnFin p e below _ (T81.setTop (mkF m 186 #[.val (.int te), .val (.int ma), .val (.int s_), .val (.int e_), .val (.int c0), .val (.int c1), .val (.int c2), .val (.int c3), .val (.ref b1), .val (.int m0), .val (.int m1), .val (.int (1 : Int32)), .val (.ref b75), .val (.int x_), .val (.int y_), .val (.int lo), .val (.int (if x_ < y_ then y_ else x_)), .unset] []))
    obtain ⟨hi, hhi⟩ : ∃ z : Int32, z = (if x_ < y_ then y_ else x_) := ⟨_, rfl⟩
    rw [← hhi]
    show OwnFin p e below _ (T81.setTop (mkF m 186 #[.val (.int te), .val (.int ma), .val (.int s_), .val (.int e_), .val (.int c0), .val (.int c1), .val (.int c2), .val (.int c3), .val (.ref b1), .val (.int m0), .val (.int m1), .val (.int (1 : Int32)), .val (.ref b75), .val (.int x_), .val (.int y_), .val (.int lo), .val (.int hi), .unset] []))
    have hP : OwnP lo hi := by rw [hlo, hhi, hx_, hy_]; exact own_p (own_mod _ _ 5 rfl (by decide)).1 (own_mod _ _ 5 rfl (by decide)).2 (own_mod _ _ 5 rfl (by decide)).1 (own_mod _ _ 5 rfl (by decide)).2
    refine OwnFin.step (fun tT kK => XS.iload X81.here hx rfl (hb hby at_186) rfl kK) ?_
    show OwnFin p e below _ (T81.setTop (mkF m 188 #[.val (.int te), .val (.int ma), .val (.int s_), .val (.int e_), .val (.int c0), .val (.int c1), .val (.int c2), .val (.int c3), .val (.ref b1), .val (.int m0), .val (.int m1), .val (.int (1 : Int32)), .val (.ref b75), .val (.int x_), .val (.int y_), .val (.int lo), .val (.int hi), .unset] [(.int lo)]))
    refine OwnFin.step (fun tT kK => XS.istore X81.here hx rfl (hb hby at_188) rfl (l' := #[.val (.int te), .val (.int ma), .val (.int s_), .val (.int e_), .val (.int c0), .val (.int c1), .val (.int c2), .val (.int c3), .val (.ref b1), .val (.int m0), .val (.int m1), .val (.int (1 : Int32)), .val (.ref b75), .val (.int x_), .val (.int y_), .val (.int lo), .val (.int hi), .val (.int lo)]) rfl kK) ?_
    have key82 : ∀ (T83 : State) (L83 : List Loc), Stand p l e room_1 (s.setVm s.vm) m #[(.int te), (.int ma), (.int s_), (.int e_)] below meth cC T83 L83 5 17 → T83.heap = T74.heap → Fr n0 L83 → ∀ (r1 : Int32), (r1 = OwnS lo hi (0 : Int32) (1 : Int32) (decide (c0 = m0)) lo) → OwnFin p e below (R0 Z te ma s_ e_ cs fm h0 n0 s) (T83.setTop (mkF m 218 #[.val (.int te), .val (.int ma), .val (.int s_), .val (.int e_), .val (.int c0), .val (.int c1), .val (.int c2), .val (.int c3), .val (.ref b1), .val (.int m0), .val (.int m1), .val (.int (1 : Int32)), .val (.ref b75), .val (.int x_), .val (.int y_), .val (.int lo), .val (.int hi), .val (.int r1)] [])) := by
      intro T83 L83 X83 e83 N83 r1 hj84
      have key85 : ∀ (T86 : State) (L86 : List Loc), Stand p l e room_1 (s.setVm s.vm) m #[(.int te), (.int ma), (.int s_), (.int e_)] below meth cC T86 L86 5 17 → T86.heap = T74.heap → Fr n0 L86 → ∀ (r2 : Int32), (r2 = OwnS lo hi (1 : Int32) (2 : Int32) (decide (c1 = m0)) r1) → OwnFin p e below (R0 Z te ma s_ e_ cs fm h0 n0 s) (T86.setTop (mkF m 247 #[.val (.int te), .val (.int ma), .val (.int s_), .val (.int e_), .val (.int c0), .val (.int c1), .val (.int c2), .val (.int c3), .val (.ref b1), .val (.int m0), .val (.int m1), .val (.int (1 : Int32)), .val (.ref b75), .val (.int x_), .val (.int y_), .val (.int lo), .val (.int hi), .val (.int r2)] [])) := by
        intro T86 L86 X86 e86 N86 r2 hj87
        have key88 : ∀ (T89 : State) (L89 : List Loc), Stand p l e room_1 (s.setVm s.vm) m #[(.int te), (.int ma), (.int s_), (.int e_)] below meth cC T89 L89 5 17 → T89.heap = T74.heap → Fr n0 L89 → ∀ (r3 : Int32), (r3 = OwnS lo hi (2 : Int32) (3 : Int32) (decide (c2 = m0)) r2) → OwnFin p e below (R0 Z te ma s_ e_ cs fm h0 n0 s) (T89.setTop (mkF m 276 #[.val (.int te), .val (.int ma), .val (.int s_), .val (.int e_), .val (.int c0), .val (.int c1), .val (.int c2), .val (.int c3), .val (.ref b1), .val (.int m0), .val (.int m1), .val (.int (1 : Int32)), .val (.ref b75), .val (.int x_), .val (.int y_), .val (.int lo), .val (.int hi), .val (.int r3)] [])) := by
          intro T89 L89 X89 e89 N89 r3 hj90
          have key91 : ∀ (T92 : State) (L92 : List Loc), Stand p l e room_1 (s.setVm s.vm) m #[(.int te), (.int ma), (.int s_), (.int e_)] below meth cC T92 L92 5 17 → T92.heap = T74.heap → Fr n0 L92 → ∀ (r4 : Int32), (r4 = OwnS lo hi (3 : Int32) (4 : Int32) (decide (c3 = m0)) r3) → OwnFin p e below (R0 Z te ma s_ e_ cs fm h0 n0 s) (T92.setTop (mkF m 305 #[.val (.int te), .val (.int ma), .val (.int s_), .val (.int e_), .val (.int c0), .val (.int c1), .val (.int c2), .val (.int c3), .val (.ref b1), .val (.int m0), .val (.int m1), .val (.int (1 : Int32)), .val (.ref b75), .val (.int x_), .val (.int y_), .val (.int lo), .val (.int hi), .val (.int r4)] [])) := by
            intro T92 L92 X92 e92 N92 r4 hj93
            refine OwnFin.step (fun tT kK => XS.aload X92.here hx rfl (hb hby at_305) rfl rfl kK) ?_
            show OwnFin p e below _ (T92.setTop (mkF m 307 #[.val (.int te), .val (.int ma), .val (.int s_), .val (.int e_), .val (.int c0), .val (.int c1), .val (.int c2), .val (.int c3), .val (.ref b1), .val (.int m0), .val (.int m1), .val (.int (1 : Int32)), .val (.ref b75), .val (.int x_), .val (.int y_), .val (.int lo), .val (.int hi), .val (.int r4)] [(.ref b1)]))
            refine OwnFin.step (fun tT kK => XS.iload X92.here hx rfl (hb hby at_307) rfl kK) ?_
            refine OwnFin.step (fun tT kK => XS.iload X92.here hx rfl (hb hby at_309) rfl kK) ?_
            show OwnFin p e below _ (T92.setTop (mkF m 311 #[.val (.int te), .val (.int ma), .val (.int s_), .val (.int e_), .val (.int c0), .val (.int c1), .val (.int c2), .val (.int c3), .val (.ref b1), .val (.int m0), .val (.int m1), .val (.int (1 : Int32)), .val (.ref b75), .val (.int x_), .val (.int y_), .val (.int lo), .val (.int hi), .val (.int r4)] [(.int hi), (.int lo), (.ref b1)]))
            refine OwnFin.step (fun tT kK => XS.aload X92.here hx rfl (hb hby at_311) rfl rfl kK) ?_
            have f94 : Sta Z T74.heap "jdk/internal/util/Preconditions" "SIOOBE_FORMATTER" "Ljava/util/function/BiFunction;" fm := (own_sta_keep hp2 Kp78 all0)
            have f95 : Exa Z T74.heap b1 "java/lang/String" := (P29_0.ext E74)
            have f96 : Fld Z T74.heap b1 "java/lang/String" "value" "[B" (.ref b30) := (P29_1.ext E74)
            have f97 : Fld Z T74.heap b1 "java/lang/String" "coder" "B" (.int (0 : Int32)) := (P29_2.ext E74)
            have f98 : Arv Z T74.heap b30 kb31 .byte (4 : Int32) [(.int (nar .byte (c0.toInt8.toInt32))), (.int (nar .byte (c1.toInt8.toInt32))), (.int (nar .byte (c2.toInt8.toInt32))), (.int (nar .byte (c3.toInt8.toInt32)))] (.int (0 : Int32)) := (Vc35.ext E74)
            have f99 : Sta Z T74.heap "java/lang/String" "COMPACT_STRINGS" "Z" (.int cs) := (f73.ext E74)
            obtain ⟨_, _, ⟨T100, L100, k100, n100⟩, -, X100, ⟨Lc100, hQ100, l100, y100, z100⟩, st100⟩ := Jvm.LawKit.callS X92 hx (y := (⟨"com/example/covenantry/covenantry/text/Phrases", "afterLastMark", "(Ljava/lang/String;IILjava/lang/String;)I"⟩ : MethodName)) hown (mvT hZ (hw _ (List.mem_of_getElem? (i := 45) rfl))) (mvT hZ (hw _ (List.mem_of_getElem? (i := 46) rfl))) (mvT hZ (hw _ (List.mem_of_getElem? (i := 47) rfl))) (mvT hZ (hw _ (List.mem_of_getElem? (i := 48) rfl))) (by decide) (backOf (W := 0) (rm61 l Z a0 hw hEL wS [] b1 lo hi b75 b30 kb31 fm cs c0 c1 c2 c3 d76 kd77 m0 T74.heap n0 (Nat.le_trans Z0 Kp78.1) f94 hp3 f95 f96 f97 f98 i8c0 i8c1 i8c2 i8c3 f99 hp1 P74_0 P74_1 P74_2 P74_3 i8m0 hP) hZ (hw _ (List.mem_of_getElem? (i := 48) rfl)) (hw _ (List.mem_of_getElem? (i := 47) rfl)) (by decide) (by decide)) (g := (mkF m 313 #[.val (.int te), .val (.int ma), .val (.int s_), .val (.int e_), .val (.int c0), .val (.int c1), .val (.int c2), .val (.int c3), .val (.ref b1), .val (.int m0), .val (.int m1), .val (.int (1 : Int32)), .val (.ref b75), .val (.int x_), .val (.int y_), .val (.int lo), .val (.int hi), .val (.int r4)] [(.ref b75), (.int hi), (.int lo), (.ref b1)])) rfl (by rw [hml]; rfl) (argsL := [(.ref b1), (.int lo), (.int hi), (.ref b75)]) (rest := []) (lenOf pd_301 rfl) rfl (by show 2 * 0 + _ ≤ _; exact Nat.le_of_eq rfl) (hb hby at_313) (fun _ _ => ⟨rfl, e92, (by decide : 5 + 0 ≤ _), (by decide : 17 + 0 ≤ _)⟩)
            dsimp only [Pt.U, Pt.locs, Pt.cells, Pt.slots] at X100 l100 y100 z100 st100 hQ100
            subst l100 y100 z100
            obtain ⟨rfl, N100q, e100⟩ := hQ100
            have N100 := Fr.app N92 N100q
            refine OwnFin.step st100 ?_
            show OwnFin p e below _ (T100.setTop (mkF m 316 #[.val (.int te), .val (.int ma), .val (.int s_), .val (.int e_), .val (.int c0), .val (.int c1), .val (.int c2), .val (.int c3), .val (.ref b1), .val (.int m0), .val (.int m1), .val (.int (1 : Int32)), .val (.ref b75), .val (.int x_), .val (.int y_), .val (.int lo), .val (.int hi), .val (.int r4)] [(.int (OwnT lo hi (decide (c0 = m0)) (decide (c1 = m0)) (decide (c2 = m0)) (decide (c3 = m0))))]))
            have hr : (OwnT lo hi (decide (c0 = m0)) (decide (c1 = m0)) (decide (c2 = m0)) (decide (c3 = m0))) = r4 := by rw [own_tr hP, hj93, hj90, hj87, hj84]; rfl
            rw [hr]
            show OwnFin p e below _ (T100.setTop (mkF m 316 #[.val (.int te), .val (.int ma), .val (.int s_), .val (.int e_), .val (.int c0), .val (.int c1), .val (.int c2), .val (.int c3), .val (.ref b1), .val (.int m0), .val (.int m1), .val (.int (1 : Int32)), .val (.ref b75), .val (.int x_), .val (.int y_), .val (.int lo), .val (.int hi), .val (.int r4)] [(.int r4)]))
            refine OwnFin.step (fun tT kK => XS.iload X100.here hx rfl (hb hby at_316) rfl kK) ?_
            show OwnFin p e below _ (T100.setTop (mkF m 318 #[.val (.int te), .val (.int ma), .val (.int s_), .val (.int e_), .val (.int c0), .val (.int c1), .val (.int c2), .val (.int c3), .val (.ref b1), .val (.int m0), .val (.int m1), .val (.int (1 : Int32)), .val (.ref b75), .val (.int x_), .val (.int y_), .val (.int lo), .val (.int hi), .val (.int r4)] [(.int r4), (.int r4)]))
            refine OwnFin.step (fun tT kK => XS.icmpNo X100.here hx rfl (hb hby at_318) rfl (teq (rfl : r4 = r4)).2 kK) ?_
            show OwnFin p e below _ (T100.setTop (mkF m 321 #[.val (.int te), .val (.int ma), .val (.int s_), .val (.int e_), .val (.int c0), .val (.int c1), .val (.int c2), .val (.int c3), .val (.ref b1), .val (.int m0), .val (.int m1), .val (.int (1 : Int32)), .val (.ref b75), .val (.int x_), .val (.int y_), .val (.int lo), .val (.int hi), .val (.int r4)] []))
            refine OwnFin.step (fun tT kK => XS.iconst X100.here hx rfl (hb hby at_321) kK) ?_
            refine OwnFin.step (fun tT kK => XS.goto X100.here hx rfl (pc0 := 322) (pc' := 326) rfl (hb hby at_322) (by decide) (by decide) kK) ?_
            show OwnFin p e below _ (T100.setTop (mkF m 326 #[.val (.int te), .val (.int ma), .val (.int s_), .val (.int e_), .val (.int c0), .val (.int c1), .val (.int c2), .val (.int c3), .val (.ref b1), .val (.int m0), .val (.int m1), .val (.int (1 : Int32)), .val (.ref b75), .val (.int x_), .val (.int y_), .val (.int lo), .val (.int hi), .val (.int r4)] [(.int (1 : Int32))]))
            obtain ⟨fs101, hr101, hrun101, hended101, hW101⟩ := X100.leaveW (s := s) hS0 (by rw [e100]; exact (Nat.le_trans hk0 (Nat.le_trans (Nat.le_trans (Nat.le_trans (Nat.le_trans (Nat.le_trans (Nat.le_trans (Nat.le_trans (Nat.le_trans (Nat.le_refl _) E1.1) E6.1) (Keep.of_wr W10).1) (Keep.of_wr W14).1) (Keep.of_wr W18).1) (Keep.of_wr W22).1) K29.1) E74.1))) (v := (some (.int (1 : Int32)))) (fun h => by rw [Bd.returns] at h; cases h)
            refine ⟨_, _, retN X100 hx (t := .boolean) Bd.returns (by simp) (hb hby at_326) hr101, hrun101, hended101, _, _, rfl, ?_, (by show CHr Z OwnEL s.vm s.heap T100.vm T100.heap; rw [hh, e100]; exact C79.trans (CHv.at X100 hZ hEL C79.1)), hW101.1, hW101.2.1, hW101.2.2.1, hW101.2.2.2.mono (by decide) (by decide)⟩
            show Q0 Z te ma s_ e_ cs fm h0 n0 _ T100.heap _
            rw [e100]
            exact ⟨rfl, N100, Kp78⟩
          refine OwnFin.step (fun tT kK => XS.iload X89.here hx rfl (hb hby at_276) rfl kK) ?_
          show OwnFin p e below _ (T89.setTop (mkF m 278 #[.val (.int te), .val (.int ma), .val (.int s_), .val (.int e_), .val (.int c0), .val (.int c1), .val (.int c2), .val (.int c3), .val (.ref b1), .val (.int m0), .val (.int m1), .val (.int (1 : Int32)), .val (.ref b75), .val (.int x_), .val (.int y_), .val (.int lo), .val (.int hi), .val (.int r3)] [(.int lo)]))
          refine OwnFin.step (fun tT kK => XS.iconst X89.here hx rfl (hb hby at_278) kK) ?_
          by_cases hc102 : (3 : Int32) < lo
          · skip
            refine OwnFin.step (fun tT kK => XS.icmpYes X89.here hx rfl (pc0 := 279) (pc' := 305) rfl (hb hby at_279) rfl (tlt (hc102 : (3 : Int32) < lo)).2.2.1 (by decide) (by decide) kK) ?_
            show OwnFin p e below _ (T89.setTop (mkF m 305 #[.val (.int te), .val (.int ma), .val (.int s_), .val (.int e_), .val (.int c0), .val (.int c1), .val (.int c2), .val (.int c3), .val (.ref b1), .val (.int m0), .val (.int m1), .val (.int (1 : Int32)), .val (.ref b75), .val (.int x_), .val (.int y_), .val (.int lo), .val (.int hi), .val (.int r3)] []))
            exact key91 _ _ X89 e89 N89 r3 (by simp [OwnS, hc102])
          · skip
            refine OwnFin.step (fun tT kK => XS.icmpNo X89.here hx rfl (hb hby at_279) rfl (flt (hc102 : ¬ ((3 : Int32) < lo))).2.2.1 kK) ?_
            show OwnFin p e below _ (T89.setTop (mkF m 282 #[.val (.int te), .val (.int ma), .val (.int s_), .val (.int e_), .val (.int c0), .val (.int c1), .val (.int c2), .val (.int c3), .val (.ref b1), .val (.int m0), .val (.int m1), .val (.int (1 : Int32)), .val (.ref b75), .val (.int x_), .val (.int y_), .val (.int lo), .val (.int hi), .val (.int r3)] []))
            refine OwnFin.step (fun tT kK => XS.iconst X89.here hx rfl (hb hby at_282) kK) ?_
            show OwnFin p e below _ (T89.setTop (mkF m 283 #[.val (.int te), .val (.int ma), .val (.int s_), .val (.int e_), .val (.int c0), .val (.int c1), .val (.int c2), .val (.int c3), .val (.ref b1), .val (.int m0), .val (.int m1), .val (.int (1 : Int32)), .val (.ref b75), .val (.int x_), .val (.int y_), .val (.int lo), .val (.int hi), .val (.int r3)] [(.int (3 : Int32))]))
            refine OwnFin.step (fun tT kK => XS.iload X89.here hx rfl (hb hby at_283) rfl kK) ?_
            by_cases hc103 : (3 : Int32) < hi
            · skip
              refine OwnFin.step (fun tT kK => XS.icmpNo X89.here hx rfl (hb hby at_285) rfl (tlt (hc103 : (3 : Int32) < hi)).2.1 kK) ?_
              show OwnFin p e below _ (T89.setTop (mkF m 288 #[.val (.int te), .val (.int ma), .val (.int s_), .val (.int e_), .val (.int c0), .val (.int c1), .val (.int c2), .val (.int c3), .val (.ref b1), .val (.int m0), .val (.int m1), .val (.int (1 : Int32)), .val (.ref b75), .val (.int x_), .val (.int y_), .val (.int lo), .val (.int hi), .val (.int r3)] []))
              refine OwnFin.step (fun tT kK => XS.iload X89.here hx rfl (hb hby at_288) rfl kK) ?_
              show OwnFin p e below _ (T89.setTop (mkF m 290 #[.val (.int te), .val (.int ma), .val (.int s_), .val (.int e_), .val (.int c0), .val (.int c1), .val (.int c2), .val (.int c3), .val (.ref b1), .val (.int m0), .val (.int m1), .val (.int (1 : Int32)), .val (.ref b75), .val (.int x_), .val (.int y_), .val (.int lo), .val (.int hi), .val (.int r3)] [(.int c3)]))
              refine OwnFin.step (fun tT kK => XS.iload X89.here hx rfl (hb hby at_290) rfl kK) ?_
              refine OwnFin.step (fun tT kK => XS.iload X89.here hx rfl (hb hby at_292) rfl kK) ?_
              show OwnFin p e below _ (T89.setTop (mkF m 294 #[.val (.int te), .val (.int ma), .val (.int s_), .val (.int e_), .val (.int c0), .val (.int c1), .val (.int c2), .val (.int c3), .val (.ref b1), .val (.int m0), .val (.int m1), .val (.int (1 : Int32)), .val (.ref b75), .val (.int x_), .val (.int y_), .val (.int lo), .val (.int hi), .val (.int r3)] [(.int m0), (.int (1 : Int32)), (.int c3)]))
              refine OwnFin.step (fun tT kK => XS.iload X89.here hx rfl (hb hby at_294) rfl kK) ?_
              obtain ⟨_, _, ⟨T104, L104, k104, n104⟩, -, X104, ⟨Lc104, hQ104, l104, y104, z104⟩, st104⟩ := Jvm.LawKit.callS X89 hx (y := (⟨"com/example/covenantry/covenantry/text/PhrasesAfterLastMarkPinLaw", "isMark", "(CICC)Z"⟩ : MethodName)) hown (mvT hZ (hw _ (List.mem_of_getElem? (i := 41) rfl))) (mvT hZ (hw _ (List.mem_of_getElem? (i := 42) rfl))) (mvT hZ (hw _ (List.mem_of_getElem? (i := 43) rfl))) (mvT hZ (hw _ (List.mem_of_getElem? (i := 44) rfl))) (by decide) (backOf (W := 0) (rm71 l Z a0 hw hEL wS [] c3 m0 m1 T74.heap n0 (Nat.le_trans Z0 Kp78.1) ) hZ (hw _ (List.mem_of_getElem? (i := 44) rfl)) (hw _ (List.mem_of_getElem? (i := 43) rfl)) (by decide) (by decide)) (g := (mkF m 296 #[.val (.int te), .val (.int ma), .val (.int s_), .val (.int e_), .val (.int c0), .val (.int c1), .val (.int c2), .val (.int c3), .val (.ref b1), .val (.int m0), .val (.int m1), .val (.int (1 : Int32)), .val (.ref b75), .val (.int x_), .val (.int y_), .val (.int lo), .val (.int hi), .val (.int r3)] [(.int m1), (.int m0), (.int (1 : Int32)), (.int c3)])) rfl (by rw [hml]; rfl) (argsL := [(.int c3), (.int (1 : Int32)), (.int m0), (.int m1)]) (rest := []) (lenOf pd_302 rfl) rfl (by show 2 * 0 + _ ≤ _; exact Nat.le_of_eq rfl) (hb hby at_296) (fun _ _ => ⟨rfl, e89, (by decide : 5 + 0 ≤ _), (by decide : 17 + 0 ≤ _)⟩)
              dsimp only [Pt.U, Pt.locs, Pt.cells, Pt.slots] at X104 l104 y104 z104 st104 hQ104
              subst l104 y104 z104
              obtain ⟨rfl, N104q, e104⟩ := hQ104
              have N104 := Fr.app N89 N104q
              refine OwnFin.step st104 ?_
              show OwnFin p e below _ (T104.setTop (mkF m 299 #[.val (.int te), .val (.int ma), .val (.int s_), .val (.int e_), .val (.int c0), .val (.int c1), .val (.int c2), .val (.int c3), .val (.ref b1), .val (.int m0), .val (.int m1), .val (.int (1 : Int32)), .val (.ref b75), .val (.int x_), .val (.int y_), .val (.int lo), .val (.int hi), .val (.int r3)] [(.int (if c3 = m0 then 1 else 0))]))
              by_cases hc105 : (c3 = m0)
              · skip
                rw [if_pos hc105]
                show OwnFin p e below _ (T104.setTop (mkF m 299 #[.val (.int te), .val (.int ma), .val (.int s_), .val (.int e_), .val (.int c0), .val (.int c1), .val (.int c2), .val (.int c3), .val (.ref b1), .val (.int m0), .val (.int m1), .val (.int (1 : Int32)), .val (.ref b75), .val (.int x_), .val (.int y_), .val (.int lo), .val (.int hi), .val (.int r3)] [(.int (1 : Int32))]))
                refine OwnFin.step (fun tT kK => XS.ifNo X104.here hx rfl (hb hby at_299) rfl ((if0 _ _).trans (feq (by decide : ¬ ((1 : Int32) = (0 : Int32)))).1) kK) ?_
                show OwnFin p e below _ (T104.setTop (mkF m 302 #[.val (.int te), .val (.int ma), .val (.int s_), .val (.int e_), .val (.int c0), .val (.int c1), .val (.int c2), .val (.int c3), .val (.ref b1), .val (.int m0), .val (.int m1), .val (.int (1 : Int32)), .val (.ref b75), .val (.int x_), .val (.int y_), .val (.int lo), .val (.int hi), .val (.int r3)] []))
                refine OwnFin.step (fun tT kK => XS.iconst X104.here hx rfl (hb hby at_302) kK) ?_
                show OwnFin p e below _ (T104.setTop (mkF m 303 #[.val (.int te), .val (.int ma), .val (.int s_), .val (.int e_), .val (.int c0), .val (.int c1), .val (.int c2), .val (.int c3), .val (.ref b1), .val (.int m0), .val (.int m1), .val (.int (1 : Int32)), .val (.ref b75), .val (.int x_), .val (.int y_), .val (.int lo), .val (.int hi), .val (.int r3)] [(.int (4 : Int32))]))
                refine OwnFin.step (fun tT kK => XS.istore X104.here hx rfl (hb hby at_303) rfl (l' := #[.val (.int te), .val (.int ma), .val (.int s_), .val (.int e_), .val (.int c0), .val (.int c1), .val (.int c2), .val (.int c3), .val (.ref b1), .val (.int m0), .val (.int m1), .val (.int (1 : Int32)), .val (.ref b75), .val (.int x_), .val (.int y_), .val (.int lo), .val (.int hi), .val (.int (4 : Int32))]) rfl kK) ?_
                exact key91 _ _ X104 e104 N104 (4 : Int32) (by simp [OwnS, hc102, hc103, hc105])
              · skip
                rw [if_neg hc105]
                show OwnFin p e below _ (T104.setTop (mkF m 299 #[.val (.int te), .val (.int ma), .val (.int s_), .val (.int e_), .val (.int c0), .val (.int c1), .val (.int c2), .val (.int c3), .val (.ref b1), .val (.int m0), .val (.int m1), .val (.int (1 : Int32)), .val (.ref b75), .val (.int x_), .val (.int y_), .val (.int lo), .val (.int hi), .val (.int r3)] [(.int (0 : Int32))]))
                refine OwnFin.step (fun tT kK => XS.ifYes X104.here hx rfl (pc0 := 299) (pc' := 305) rfl (hb hby at_299) rfl ((if0 _ _).trans (teq (rfl : (0 : Int32) = (0 : Int32))).1) (by decide) (by decide) kK) ?_
                show OwnFin p e below _ (T104.setTop (mkF m 305 #[.val (.int te), .val (.int ma), .val (.int s_), .val (.int e_), .val (.int c0), .val (.int c1), .val (.int c2), .val (.int c3), .val (.ref b1), .val (.int m0), .val (.int m1), .val (.int (1 : Int32)), .val (.ref b75), .val (.int x_), .val (.int y_), .val (.int lo), .val (.int hi), .val (.int r3)] []))
                exact key91 _ _ X104 e104 N104 r3 (by simp [OwnS, hc105])
            · skip
              refine OwnFin.step (fun tT kK => XS.icmpYes X89.here hx rfl (pc0 := 285) (pc' := 305) rfl (hb hby at_285) rfl (flt (hc103 : ¬ ((3 : Int32) < hi))).2.1 (by decide) (by decide) kK) ?_
              show OwnFin p e below _ (T89.setTop (mkF m 305 #[.val (.int te), .val (.int ma), .val (.int s_), .val (.int e_), .val (.int c0), .val (.int c1), .val (.int c2), .val (.int c3), .val (.ref b1), .val (.int m0), .val (.int m1), .val (.int (1 : Int32)), .val (.ref b75), .val (.int x_), .val (.int y_), .val (.int lo), .val (.int hi), .val (.int r3)] []))
              exact key91 _ _ X89 e89 N89 r3 (by simp [OwnS, hc103])
        refine OwnFin.step (fun tT kK => XS.iload X86.here hx rfl (hb hby at_247) rfl kK) ?_
        show OwnFin p e below _ (T86.setTop (mkF m 249 #[.val (.int te), .val (.int ma), .val (.int s_), .val (.int e_), .val (.int c0), .val (.int c1), .val (.int c2), .val (.int c3), .val (.ref b1), .val (.int m0), .val (.int m1), .val (.int (1 : Int32)), .val (.ref b75), .val (.int x_), .val (.int y_), .val (.int lo), .val (.int hi), .val (.int r2)] [(.int lo)]))
        refine OwnFin.step (fun tT kK => XS.iconst X86.here hx rfl (hb hby at_249) kK) ?_
        by_cases hc106 : (2 : Int32) < lo
        · skip
          refine OwnFin.step (fun tT kK => XS.icmpYes X86.here hx rfl (pc0 := 250) (pc' := 276) rfl (hb hby at_250) rfl (tlt (hc106 : (2 : Int32) < lo)).2.2.1 (by decide) (by decide) kK) ?_
          show OwnFin p e below _ (T86.setTop (mkF m 276 #[.val (.int te), .val (.int ma), .val (.int s_), .val (.int e_), .val (.int c0), .val (.int c1), .val (.int c2), .val (.int c3), .val (.ref b1), .val (.int m0), .val (.int m1), .val (.int (1 : Int32)), .val (.ref b75), .val (.int x_), .val (.int y_), .val (.int lo), .val (.int hi), .val (.int r2)] []))
          exact key88 _ _ X86 e86 N86 r2 (by simp [OwnS, hc106])
        · skip
          refine OwnFin.step (fun tT kK => XS.icmpNo X86.here hx rfl (hb hby at_250) rfl (flt (hc106 : ¬ ((2 : Int32) < lo))).2.2.1 kK) ?_
          show OwnFin p e below _ (T86.setTop (mkF m 253 #[.val (.int te), .val (.int ma), .val (.int s_), .val (.int e_), .val (.int c0), .val (.int c1), .val (.int c2), .val (.int c3), .val (.ref b1), .val (.int m0), .val (.int m1), .val (.int (1 : Int32)), .val (.ref b75), .val (.int x_), .val (.int y_), .val (.int lo), .val (.int hi), .val (.int r2)] []))
          refine OwnFin.step (fun tT kK => XS.iconst X86.here hx rfl (hb hby at_253) kK) ?_
          show OwnFin p e below _ (T86.setTop (mkF m 254 #[.val (.int te), .val (.int ma), .val (.int s_), .val (.int e_), .val (.int c0), .val (.int c1), .val (.int c2), .val (.int c3), .val (.ref b1), .val (.int m0), .val (.int m1), .val (.int (1 : Int32)), .val (.ref b75), .val (.int x_), .val (.int y_), .val (.int lo), .val (.int hi), .val (.int r2)] [(.int (2 : Int32))]))
          refine OwnFin.step (fun tT kK => XS.iload X86.here hx rfl (hb hby at_254) rfl kK) ?_
          by_cases hc107 : (2 : Int32) < hi
          · skip
            refine OwnFin.step (fun tT kK => XS.icmpNo X86.here hx rfl (hb hby at_256) rfl (tlt (hc107 : (2 : Int32) < hi)).2.1 kK) ?_
            show OwnFin p e below _ (T86.setTop (mkF m 259 #[.val (.int te), .val (.int ma), .val (.int s_), .val (.int e_), .val (.int c0), .val (.int c1), .val (.int c2), .val (.int c3), .val (.ref b1), .val (.int m0), .val (.int m1), .val (.int (1 : Int32)), .val (.ref b75), .val (.int x_), .val (.int y_), .val (.int lo), .val (.int hi), .val (.int r2)] []))
            refine OwnFin.step (fun tT kK => XS.iload X86.here hx rfl (hb hby at_259) rfl kK) ?_
            show OwnFin p e below _ (T86.setTop (mkF m 261 #[.val (.int te), .val (.int ma), .val (.int s_), .val (.int e_), .val (.int c0), .val (.int c1), .val (.int c2), .val (.int c3), .val (.ref b1), .val (.int m0), .val (.int m1), .val (.int (1 : Int32)), .val (.ref b75), .val (.int x_), .val (.int y_), .val (.int lo), .val (.int hi), .val (.int r2)] [(.int c2)]))
            refine OwnFin.step (fun tT kK => XS.iload X86.here hx rfl (hb hby at_261) rfl kK) ?_
            refine OwnFin.step (fun tT kK => XS.iload X86.here hx rfl (hb hby at_263) rfl kK) ?_
            show OwnFin p e below _ (T86.setTop (mkF m 265 #[.val (.int te), .val (.int ma), .val (.int s_), .val (.int e_), .val (.int c0), .val (.int c1), .val (.int c2), .val (.int c3), .val (.ref b1), .val (.int m0), .val (.int m1), .val (.int (1 : Int32)), .val (.ref b75), .val (.int x_), .val (.int y_), .val (.int lo), .val (.int hi), .val (.int r2)] [(.int m0), (.int (1 : Int32)), (.int c2)]))
            refine OwnFin.step (fun tT kK => XS.iload X86.here hx rfl (hb hby at_265) rfl kK) ?_
            obtain ⟨_, _, ⟨T108, L108, k108, n108⟩, -, X108, ⟨Lc108, hQ108, l108, y108, z108⟩, st108⟩ := Jvm.LawKit.callS X86 hx (y := (⟨"com/example/covenantry/covenantry/text/PhrasesAfterLastMarkPinLaw", "isMark", "(CICC)Z"⟩ : MethodName)) hown (mvT hZ (hw _ (List.mem_of_getElem? (i := 41) rfl))) (mvT hZ (hw _ (List.mem_of_getElem? (i := 42) rfl))) (mvT hZ (hw _ (List.mem_of_getElem? (i := 43) rfl))) (mvT hZ (hw _ (List.mem_of_getElem? (i := 44) rfl))) (by decide) (backOf (W := 0) (rm71 l Z a0 hw hEL wS [] c2 m0 m1 T74.heap n0 (Nat.le_trans Z0 Kp78.1) ) hZ (hw _ (List.mem_of_getElem? (i := 44) rfl)) (hw _ (List.mem_of_getElem? (i := 43) rfl)) (by decide) (by decide)) (g := (mkF m 267 #[.val (.int te), .val (.int ma), .val (.int s_), .val (.int e_), .val (.int c0), .val (.int c1), .val (.int c2), .val (.int c3), .val (.ref b1), .val (.int m0), .val (.int m1), .val (.int (1 : Int32)), .val (.ref b75), .val (.int x_), .val (.int y_), .val (.int lo), .val (.int hi), .val (.int r2)] [(.int m1), (.int m0), (.int (1 : Int32)), (.int c2)])) rfl (by rw [hml]; rfl) (argsL := [(.int c2), (.int (1 : Int32)), (.int m0), (.int m1)]) (rest := []) (lenOf pd_302 rfl) rfl (by show 2 * 0 + _ ≤ _; exact Nat.le_of_eq rfl) (hb hby at_267) (fun _ _ => ⟨rfl, e86, (by decide : 5 + 0 ≤ _), (by decide : 17 + 0 ≤ _)⟩)
            dsimp only [Pt.U, Pt.locs, Pt.cells, Pt.slots] at X108 l108 y108 z108 st108 hQ108
            subst l108 y108 z108
            obtain ⟨rfl, N108q, e108⟩ := hQ108
            have N108 := Fr.app N86 N108q
            refine OwnFin.step st108 ?_
            show OwnFin p e below _ (T108.setTop (mkF m 270 #[.val (.int te), .val (.int ma), .val (.int s_), .val (.int e_), .val (.int c0), .val (.int c1), .val (.int c2), .val (.int c3), .val (.ref b1), .val (.int m0), .val (.int m1), .val (.int (1 : Int32)), .val (.ref b75), .val (.int x_), .val (.int y_), .val (.int lo), .val (.int hi), .val (.int r2)] [(.int (if c2 = m0 then 1 else 0))]))
            by_cases hc109 : (c2 = m0)
            · skip
              rw [if_pos hc109]
              show OwnFin p e below _ (T108.setTop (mkF m 270 #[.val (.int te), .val (.int ma), .val (.int s_), .val (.int e_), .val (.int c0), .val (.int c1), .val (.int c2), .val (.int c3), .val (.ref b1), .val (.int m0), .val (.int m1), .val (.int (1 : Int32)), .val (.ref b75), .val (.int x_), .val (.int y_), .val (.int lo), .val (.int hi), .val (.int r2)] [(.int (1 : Int32))]))
              refine OwnFin.step (fun tT kK => XS.ifNo X108.here hx rfl (hb hby at_270) rfl ((if0 _ _).trans (feq (by decide : ¬ ((1 : Int32) = (0 : Int32)))).1) kK) ?_
              show OwnFin p e below _ (T108.setTop (mkF m 273 #[.val (.int te), .val (.int ma), .val (.int s_), .val (.int e_), .val (.int c0), .val (.int c1), .val (.int c2), .val (.int c3), .val (.ref b1), .val (.int m0), .val (.int m1), .val (.int (1 : Int32)), .val (.ref b75), .val (.int x_), .val (.int y_), .val (.int lo), .val (.int hi), .val (.int r2)] []))
              refine OwnFin.step (fun tT kK => XS.iconst X108.here hx rfl (hb hby at_273) kK) ?_
              show OwnFin p e below _ (T108.setTop (mkF m 274 #[.val (.int te), .val (.int ma), .val (.int s_), .val (.int e_), .val (.int c0), .val (.int c1), .val (.int c2), .val (.int c3), .val (.ref b1), .val (.int m0), .val (.int m1), .val (.int (1 : Int32)), .val (.ref b75), .val (.int x_), .val (.int y_), .val (.int lo), .val (.int hi), .val (.int r2)] [(.int (3 : Int32))]))
              refine OwnFin.step (fun tT kK => XS.istore X108.here hx rfl (hb hby at_274) rfl (l' := #[.val (.int te), .val (.int ma), .val (.int s_), .val (.int e_), .val (.int c0), .val (.int c1), .val (.int c2), .val (.int c3), .val (.ref b1), .val (.int m0), .val (.int m1), .val (.int (1 : Int32)), .val (.ref b75), .val (.int x_), .val (.int y_), .val (.int lo), .val (.int hi), .val (.int (3 : Int32))]) rfl kK) ?_
              exact key88 _ _ X108 e108 N108 (3 : Int32) (by simp [OwnS, hc106, hc107, hc109])
            · skip
              rw [if_neg hc109]
              show OwnFin p e below _ (T108.setTop (mkF m 270 #[.val (.int te), .val (.int ma), .val (.int s_), .val (.int e_), .val (.int c0), .val (.int c1), .val (.int c2), .val (.int c3), .val (.ref b1), .val (.int m0), .val (.int m1), .val (.int (1 : Int32)), .val (.ref b75), .val (.int x_), .val (.int y_), .val (.int lo), .val (.int hi), .val (.int r2)] [(.int (0 : Int32))]))
              refine OwnFin.step (fun tT kK => XS.ifYes X108.here hx rfl (pc0 := 270) (pc' := 276) rfl (hb hby at_270) rfl ((if0 _ _).trans (teq (rfl : (0 : Int32) = (0 : Int32))).1) (by decide) (by decide) kK) ?_
              show OwnFin p e below _ (T108.setTop (mkF m 276 #[.val (.int te), .val (.int ma), .val (.int s_), .val (.int e_), .val (.int c0), .val (.int c1), .val (.int c2), .val (.int c3), .val (.ref b1), .val (.int m0), .val (.int m1), .val (.int (1 : Int32)), .val (.ref b75), .val (.int x_), .val (.int y_), .val (.int lo), .val (.int hi), .val (.int r2)] []))
              exact key88 _ _ X108 e108 N108 r2 (by simp [OwnS, hc109])
          · skip
            refine OwnFin.step (fun tT kK => XS.icmpYes X86.here hx rfl (pc0 := 256) (pc' := 276) rfl (hb hby at_256) rfl (flt (hc107 : ¬ ((2 : Int32) < hi))).2.1 (by decide) (by decide) kK) ?_
            show OwnFin p e below _ (T86.setTop (mkF m 276 #[.val (.int te), .val (.int ma), .val (.int s_), .val (.int e_), .val (.int c0), .val (.int c1), .val (.int c2), .val (.int c3), .val (.ref b1), .val (.int m0), .val (.int m1), .val (.int (1 : Int32)), .val (.ref b75), .val (.int x_), .val (.int y_), .val (.int lo), .val (.int hi), .val (.int r2)] []))
            exact key88 _ _ X86 e86 N86 r2 (by simp [OwnS, hc107])
      refine OwnFin.step (fun tT kK => XS.iload X83.here hx rfl (hb hby at_218) rfl kK) ?_
      show OwnFin p e below _ (T83.setTop (mkF m 220 #[.val (.int te), .val (.int ma), .val (.int s_), .val (.int e_), .val (.int c0), .val (.int c1), .val (.int c2), .val (.int c3), .val (.ref b1), .val (.int m0), .val (.int m1), .val (.int (1 : Int32)), .val (.ref b75), .val (.int x_), .val (.int y_), .val (.int lo), .val (.int hi), .val (.int r1)] [(.int lo)]))
      refine OwnFin.step (fun tT kK => XS.iconst X83.here hx rfl (hb hby at_220) kK) ?_
      by_cases hc110 : (1 : Int32) < lo
      · skip
        refine OwnFin.step (fun tT kK => XS.icmpYes X83.here hx rfl (pc0 := 221) (pc' := 247) rfl (hb hby at_221) rfl (tlt (hc110 : (1 : Int32) < lo)).2.2.1 (by decide) (by decide) kK) ?_
        show OwnFin p e below _ (T83.setTop (mkF m 247 #[.val (.int te), .val (.int ma), .val (.int s_), .val (.int e_), .val (.int c0), .val (.int c1), .val (.int c2), .val (.int c3), .val (.ref b1), .val (.int m0), .val (.int m1), .val (.int (1 : Int32)), .val (.ref b75), .val (.int x_), .val (.int y_), .val (.int lo), .val (.int hi), .val (.int r1)] []))
        exact key85 _ _ X83 e83 N83 r1 (by simp [OwnS, hc110])
      · skip
        refine OwnFin.step (fun tT kK => XS.icmpNo X83.here hx rfl (hb hby at_221) rfl (flt (hc110 : ¬ ((1 : Int32) < lo))).2.2.1 kK) ?_
        show OwnFin p e below _ (T83.setTop (mkF m 224 #[.val (.int te), .val (.int ma), .val (.int s_), .val (.int e_), .val (.int c0), .val (.int c1), .val (.int c2), .val (.int c3), .val (.ref b1), .val (.int m0), .val (.int m1), .val (.int (1 : Int32)), .val (.ref b75), .val (.int x_), .val (.int y_), .val (.int lo), .val (.int hi), .val (.int r1)] []))
        refine OwnFin.step (fun tT kK => XS.iconst X83.here hx rfl (hb hby at_224) kK) ?_
        show OwnFin p e below _ (T83.setTop (mkF m 225 #[.val (.int te), .val (.int ma), .val (.int s_), .val (.int e_), .val (.int c0), .val (.int c1), .val (.int c2), .val (.int c3), .val (.ref b1), .val (.int m0), .val (.int m1), .val (.int (1 : Int32)), .val (.ref b75), .val (.int x_), .val (.int y_), .val (.int lo), .val (.int hi), .val (.int r1)] [(.int (1 : Int32))]))
        refine OwnFin.step (fun tT kK => XS.iload X83.here hx rfl (hb hby at_225) rfl kK) ?_
        by_cases hc111 : (1 : Int32) < hi
        · skip
          refine OwnFin.step (fun tT kK => XS.icmpNo X83.here hx rfl (hb hby at_227) rfl (tlt (hc111 : (1 : Int32) < hi)).2.1 kK) ?_
          show OwnFin p e below _ (T83.setTop (mkF m 230 #[.val (.int te), .val (.int ma), .val (.int s_), .val (.int e_), .val (.int c0), .val (.int c1), .val (.int c2), .val (.int c3), .val (.ref b1), .val (.int m0), .val (.int m1), .val (.int (1 : Int32)), .val (.ref b75), .val (.int x_), .val (.int y_), .val (.int lo), .val (.int hi), .val (.int r1)] []))
          refine OwnFin.step (fun tT kK => XS.iload X83.here hx rfl (hb hby at_230) rfl kK) ?_
          show OwnFin p e below _ (T83.setTop (mkF m 232 #[.val (.int te), .val (.int ma), .val (.int s_), .val (.int e_), .val (.int c0), .val (.int c1), .val (.int c2), .val (.int c3), .val (.ref b1), .val (.int m0), .val (.int m1), .val (.int (1 : Int32)), .val (.ref b75), .val (.int x_), .val (.int y_), .val (.int lo), .val (.int hi), .val (.int r1)] [(.int c1)]))
          refine OwnFin.step (fun tT kK => XS.iload X83.here hx rfl (hb hby at_232) rfl kK) ?_
          refine OwnFin.step (fun tT kK => XS.iload X83.here hx rfl (hb hby at_234) rfl kK) ?_
          show OwnFin p e below _ (T83.setTop (mkF m 236 #[.val (.int te), .val (.int ma), .val (.int s_), .val (.int e_), .val (.int c0), .val (.int c1), .val (.int c2), .val (.int c3), .val (.ref b1), .val (.int m0), .val (.int m1), .val (.int (1 : Int32)), .val (.ref b75), .val (.int x_), .val (.int y_), .val (.int lo), .val (.int hi), .val (.int r1)] [(.int m0), (.int (1 : Int32)), (.int c1)]))
          refine OwnFin.step (fun tT kK => XS.iload X83.here hx rfl (hb hby at_236) rfl kK) ?_
          obtain ⟨_, _, ⟨T112, L112, k112, n112⟩, -, X112, ⟨Lc112, hQ112, l112, y112, z112⟩, st112⟩ := Jvm.LawKit.callS X83 hx (y := (⟨"com/example/covenantry/covenantry/text/PhrasesAfterLastMarkPinLaw", "isMark", "(CICC)Z"⟩ : MethodName)) hown (mvT hZ (hw _ (List.mem_of_getElem? (i := 41) rfl))) (mvT hZ (hw _ (List.mem_of_getElem? (i := 42) rfl))) (mvT hZ (hw _ (List.mem_of_getElem? (i := 43) rfl))) (mvT hZ (hw _ (List.mem_of_getElem? (i := 44) rfl))) (by decide) (backOf (W := 0) (rm71 l Z a0 hw hEL wS [] c1 m0 m1 T74.heap n0 (Nat.le_trans Z0 Kp78.1) ) hZ (hw _ (List.mem_of_getElem? (i := 44) rfl)) (hw _ (List.mem_of_getElem? (i := 43) rfl)) (by decide) (by decide)) (g := (mkF m 238 #[.val (.int te), .val (.int ma), .val (.int s_), .val (.int e_), .val (.int c0), .val (.int c1), .val (.int c2), .val (.int c3), .val (.ref b1), .val (.int m0), .val (.int m1), .val (.int (1 : Int32)), .val (.ref b75), .val (.int x_), .val (.int y_), .val (.int lo), .val (.int hi), .val (.int r1)] [(.int m1), (.int m0), (.int (1 : Int32)), (.int c1)])) rfl (by rw [hml]; rfl) (argsL := [(.int c1), (.int (1 : Int32)), (.int m0), (.int m1)]) (rest := []) (lenOf pd_302 rfl) rfl (by show 2 * 0 + _ ≤ _; exact Nat.le_of_eq rfl) (hb hby at_238) (fun _ _ => ⟨rfl, e83, (by decide : 5 + 0 ≤ _), (by decide : 17 + 0 ≤ _)⟩)
          dsimp only [Pt.U, Pt.locs, Pt.cells, Pt.slots] at X112 l112 y112 z112 st112 hQ112
          subst l112 y112 z112
          obtain ⟨rfl, N112q, e112⟩ := hQ112
          have N112 := Fr.app N83 N112q
          refine OwnFin.step st112 ?_
          show OwnFin p e below _ (T112.setTop (mkF m 241 #[.val (.int te), .val (.int ma), .val (.int s_), .val (.int e_), .val (.int c0), .val (.int c1), .val (.int c2), .val (.int c3), .val (.ref b1), .val (.int m0), .val (.int m1), .val (.int (1 : Int32)), .val (.ref b75), .val (.int x_), .val (.int y_), .val (.int lo), .val (.int hi), .val (.int r1)] [(.int (if c1 = m0 then 1 else 0))]))
          by_cases hc113 : (c1 = m0)
          · skip
            rw [if_pos hc113]
            show OwnFin p e below _ (T112.setTop (mkF m 241 #[.val (.int te), .val (.int ma), .val (.int s_), .val (.int e_), .val (.int c0), .val (.int c1), .val (.int c2), .val (.int c3), .val (.ref b1), .val (.int m0), .val (.int m1), .val (.int (1 : Int32)), .val (.ref b75), .val (.int x_), .val (.int y_), .val (.int lo), .val (.int hi), .val (.int r1)] [(.int (1 : Int32))]))
            refine OwnFin.step (fun tT kK => XS.ifNo X112.here hx rfl (hb hby at_241) rfl ((if0 _ _).trans (feq (by decide : ¬ ((1 : Int32) = (0 : Int32)))).1) kK) ?_
            show OwnFin p e below _ (T112.setTop (mkF m 244 #[.val (.int te), .val (.int ma), .val (.int s_), .val (.int e_), .val (.int c0), .val (.int c1), .val (.int c2), .val (.int c3), .val (.ref b1), .val (.int m0), .val (.int m1), .val (.int (1 : Int32)), .val (.ref b75), .val (.int x_), .val (.int y_), .val (.int lo), .val (.int hi), .val (.int r1)] []))
            refine OwnFin.step (fun tT kK => XS.iconst X112.here hx rfl (hb hby at_244) kK) ?_
            show OwnFin p e below _ (T112.setTop (mkF m 245 #[.val (.int te), .val (.int ma), .val (.int s_), .val (.int e_), .val (.int c0), .val (.int c1), .val (.int c2), .val (.int c3), .val (.ref b1), .val (.int m0), .val (.int m1), .val (.int (1 : Int32)), .val (.ref b75), .val (.int x_), .val (.int y_), .val (.int lo), .val (.int hi), .val (.int r1)] [(.int (2 : Int32))]))
            refine OwnFin.step (fun tT kK => XS.istore X112.here hx rfl (hb hby at_245) rfl (l' := #[.val (.int te), .val (.int ma), .val (.int s_), .val (.int e_), .val (.int c0), .val (.int c1), .val (.int c2), .val (.int c3), .val (.ref b1), .val (.int m0), .val (.int m1), .val (.int (1 : Int32)), .val (.ref b75), .val (.int x_), .val (.int y_), .val (.int lo), .val (.int hi), .val (.int (2 : Int32))]) rfl kK) ?_
            exact key85 _ _ X112 e112 N112 (2 : Int32) (by simp [OwnS, hc110, hc111, hc113])
          · skip
            rw [if_neg hc113]
            show OwnFin p e below _ (T112.setTop (mkF m 241 #[.val (.int te), .val (.int ma), .val (.int s_), .val (.int e_), .val (.int c0), .val (.int c1), .val (.int c2), .val (.int c3), .val (.ref b1), .val (.int m0), .val (.int m1), .val (.int (1 : Int32)), .val (.ref b75), .val (.int x_), .val (.int y_), .val (.int lo), .val (.int hi), .val (.int r1)] [(.int (0 : Int32))]))
            refine OwnFin.step (fun tT kK => XS.ifYes X112.here hx rfl (pc0 := 241) (pc' := 247) rfl (hb hby at_241) rfl ((if0 _ _).trans (teq (rfl : (0 : Int32) = (0 : Int32))).1) (by decide) (by decide) kK) ?_
            show OwnFin p e below _ (T112.setTop (mkF m 247 #[.val (.int te), .val (.int ma), .val (.int s_), .val (.int e_), .val (.int c0), .val (.int c1), .val (.int c2), .val (.int c3), .val (.ref b1), .val (.int m0), .val (.int m1), .val (.int (1 : Int32)), .val (.ref b75), .val (.int x_), .val (.int y_), .val (.int lo), .val (.int hi), .val (.int r1)] []))
            exact key85 _ _ X112 e112 N112 r1 (by simp [OwnS, hc113])
        · skip
          refine OwnFin.step (fun tT kK => XS.icmpYes X83.here hx rfl (pc0 := 227) (pc' := 247) rfl (hb hby at_227) rfl (flt (hc111 : ¬ ((1 : Int32) < hi))).2.1 (by decide) (by decide) kK) ?_
          show OwnFin p e below _ (T83.setTop (mkF m 247 #[.val (.int te), .val (.int ma), .val (.int s_), .val (.int e_), .val (.int c0), .val (.int c1), .val (.int c2), .val (.int c3), .val (.ref b1), .val (.int m0), .val (.int m1), .val (.int (1 : Int32)), .val (.ref b75), .val (.int x_), .val (.int y_), .val (.int lo), .val (.int hi), .val (.int r1)] []))
          exact key85 _ _ X83 e83 N83 r1 (by simp [OwnS, hc111])
    refine OwnFin.step (fun tT kK => XS.iload X81.here hx rfl (hb hby at_190) rfl kK) ?_
    show OwnFin p e below _ (T81.setTop (mkF m 192 #[.val (.int te), .val (.int ma), .val (.int s_), .val (.int e_), .val (.int c0), .val (.int c1), .val (.int c2), .val (.int c3), .val (.ref b1), .val (.int m0), .val (.int m1), .val (.int (1 : Int32)), .val (.ref b75), .val (.int x_), .val (.int y_), .val (.int lo), .val (.int hi), .val (.int lo)] [(.int lo)]))
    by_cases hc114 : (0 : Int32) < lo
    · skip
      refine OwnFin.step (fun tT kK => XS.ifYes X81.here hx rfl (pc0 := 192) (pc' := 218) rfl (hb hby at_192) rfl ((if0 _ _).trans (tlt (hc114 : (0 : Int32) < lo)).2.2.1) (by decide) (by decide) kK) ?_
      show OwnFin p e below _ (T81.setTop (mkF m 218 #[.val (.int te), .val (.int ma), .val (.int s_), .val (.int e_), .val (.int c0), .val (.int c1), .val (.int c2), .val (.int c3), .val (.ref b1), .val (.int m0), .val (.int m1), .val (.int (1 : Int32)), .val (.ref b75), .val (.int x_), .val (.int y_), .val (.int lo), .val (.int hi), .val (.int lo)] []))
      exact key82 _ _ X81 e81 N81 lo (by simp [OwnS, hc114])
    · skip
      refine OwnFin.step (fun tT kK => XS.ifNo X81.here hx rfl (hb hby at_192) rfl ((if0 _ _).trans (flt (hc114 : ¬ ((0 : Int32) < lo))).2.2.1) kK) ?_
      show OwnFin p e below _ (T81.setTop (mkF m 195 #[.val (.int te), .val (.int ma), .val (.int s_), .val (.int e_), .val (.int c0), .val (.int c1), .val (.int c2), .val (.int c3), .val (.ref b1), .val (.int m0), .val (.int m1), .val (.int (1 : Int32)), .val (.ref b75), .val (.int x_), .val (.int y_), .val (.int lo), .val (.int hi), .val (.int lo)] []))
      refine OwnFin.step (fun tT kK => XS.iconst X81.here hx rfl (hb hby at_195) kK) ?_
      refine OwnFin.step (fun tT kK => XS.iload X81.here hx rfl (hb hby at_196) rfl kK) ?_
      show OwnFin p e below _ (T81.setTop (mkF m 198 #[.val (.int te), .val (.int ma), .val (.int s_), .val (.int e_), .val (.int c0), .val (.int c1), .val (.int c2), .val (.int c3), .val (.ref b1), .val (.int m0), .val (.int m1), .val (.int (1 : Int32)), .val (.ref b75), .val (.int x_), .val (.int y_), .val (.int lo), .val (.int hi), .val (.int lo)] [(.int hi), (.int (0 : Int32))]))
      by_cases hc115 : (0 : Int32) < hi
      · skip
        refine OwnFin.step (fun tT kK => XS.icmpNo X81.here hx rfl (hb hby at_198) rfl (tlt (hc115 : (0 : Int32) < hi)).2.1 kK) ?_
        show OwnFin p e below _ (T81.setTop (mkF m 201 #[.val (.int te), .val (.int ma), .val (.int s_), .val (.int e_), .val (.int c0), .val (.int c1), .val (.int c2), .val (.int c3), .val (.ref b1), .val (.int m0), .val (.int m1), .val (.int (1 : Int32)), .val (.ref b75), .val (.int x_), .val (.int y_), .val (.int lo), .val (.int hi), .val (.int lo)] []))
        refine OwnFin.step (fun tT kK => XS.iload X81.here hx rfl (hb hby at_201) rfl kK) ?_
        refine OwnFin.step (fun tT kK => XS.iload X81.here hx rfl (hb hby at_203) rfl kK) ?_
        show OwnFin p e below _ (T81.setTop (mkF m 205 #[.val (.int te), .val (.int ma), .val (.int s_), .val (.int e_), .val (.int c0), .val (.int c1), .val (.int c2), .val (.int c3), .val (.ref b1), .val (.int m0), .val (.int m1), .val (.int (1 : Int32)), .val (.ref b75), .val (.int x_), .val (.int y_), .val (.int lo), .val (.int hi), .val (.int lo)] [(.int (1 : Int32)), (.int c0)]))
        refine OwnFin.step (fun tT kK => XS.iload X81.here hx rfl (hb hby at_205) rfl kK) ?_
        refine OwnFin.step (fun tT kK => XS.iload X81.here hx rfl (hb hby at_207) rfl kK) ?_
        show OwnFin p e below _ (T81.setTop (mkF m 209 #[.val (.int te), .val (.int ma), .val (.int s_), .val (.int e_), .val (.int c0), .val (.int c1), .val (.int c2), .val (.int c3), .val (.ref b1), .val (.int m0), .val (.int m1), .val (.int (1 : Int32)), .val (.ref b75), .val (.int x_), .val (.int y_), .val (.int lo), .val (.int hi), .val (.int lo)] [(.int m1), (.int m0), (.int (1 : Int32)), (.int c0)]))
        obtain ⟨_, _, ⟨T116, L116, k116, n116⟩, -, X116, ⟨Lc116, hQ116, l116, y116, z116⟩, st116⟩ := Jvm.LawKit.callS X81 hx (y := (⟨"com/example/covenantry/covenantry/text/PhrasesAfterLastMarkPinLaw", "isMark", "(CICC)Z"⟩ : MethodName)) hown (mvT hZ (hw _ (List.mem_of_getElem? (i := 41) rfl))) (mvT hZ (hw _ (List.mem_of_getElem? (i := 42) rfl))) (mvT hZ (hw _ (List.mem_of_getElem? (i := 43) rfl))) (mvT hZ (hw _ (List.mem_of_getElem? (i := 44) rfl))) (by decide) (backOf (W := 0) (rm71 l Z a0 hw hEL wS [] c0 m0 m1 T74.heap n0 (Nat.le_trans Z0 Kp78.1) ) hZ (hw _ (List.mem_of_getElem? (i := 44) rfl)) (hw _ (List.mem_of_getElem? (i := 43) rfl)) (by decide) (by decide)) (g := (mkF m 209 #[.val (.int te), .val (.int ma), .val (.int s_), .val (.int e_), .val (.int c0), .val (.int c1), .val (.int c2), .val (.int c3), .val (.ref b1), .val (.int m0), .val (.int m1), .val (.int (1 : Int32)), .val (.ref b75), .val (.int x_), .val (.int y_), .val (.int lo), .val (.int hi), .val (.int lo)] [(.int m1), (.int m0), (.int (1 : Int32)), (.int c0)])) rfl (by rw [hml]; rfl) (argsL := [(.int c0), (.int (1 : Int32)), (.int m0), (.int m1)]) (rest := []) (lenOf pd_302 rfl) rfl (by show 2 * 0 + _ ≤ _; exact Nat.le_of_eq rfl) (hb hby at_209) (fun _ _ => ⟨rfl, e81, (by decide : 5 + 0 ≤ _), (by decide : 17 + 0 ≤ _)⟩)
        dsimp only [Pt.U, Pt.locs, Pt.cells, Pt.slots] at X116 l116 y116 z116 st116 hQ116
        subst l116 y116 z116
        obtain ⟨rfl, N116q, e116⟩ := hQ116
        have N116 := Fr.app N81 N116q
        refine OwnFin.step st116 ?_
        show OwnFin p e below _ (T116.setTop (mkF m 212 #[.val (.int te), .val (.int ma), .val (.int s_), .val (.int e_), .val (.int c0), .val (.int c1), .val (.int c2), .val (.int c3), .val (.ref b1), .val (.int m0), .val (.int m1), .val (.int (1 : Int32)), .val (.ref b75), .val (.int x_), .val (.int y_), .val (.int lo), .val (.int hi), .val (.int lo)] [(.int (if c0 = m0 then 1 else 0))]))
        by_cases hc117 : (c0 = m0)
        · skip
          rw [if_pos hc117]
          show OwnFin p e below _ (T116.setTop (mkF m 212 #[.val (.int te), .val (.int ma), .val (.int s_), .val (.int e_), .val (.int c0), .val (.int c1), .val (.int c2), .val (.int c3), .val (.ref b1), .val (.int m0), .val (.int m1), .val (.int (1 : Int32)), .val (.ref b75), .val (.int x_), .val (.int y_), .val (.int lo), .val (.int hi), .val (.int lo)] [(.int (1 : Int32))]))
          refine OwnFin.step (fun tT kK => XS.ifNo X116.here hx rfl (hb hby at_212) rfl ((if0 _ _).trans (feq (by decide : ¬ ((1 : Int32) = (0 : Int32)))).1) kK) ?_
          show OwnFin p e below _ (T116.setTop (mkF m 215 #[.val (.int te), .val (.int ma), .val (.int s_), .val (.int e_), .val (.int c0), .val (.int c1), .val (.int c2), .val (.int c3), .val (.ref b1), .val (.int m0), .val (.int m1), .val (.int (1 : Int32)), .val (.ref b75), .val (.int x_), .val (.int y_), .val (.int lo), .val (.int hi), .val (.int lo)] []))
          refine OwnFin.step (fun tT kK => XS.iconst X116.here hx rfl (hb hby at_215) kK) ?_
          refine OwnFin.step (fun tT kK => XS.istore X116.here hx rfl (hb hby at_216) rfl (l' := #[.val (.int te), .val (.int ma), .val (.int s_), .val (.int e_), .val (.int c0), .val (.int c1), .val (.int c2), .val (.int c3), .val (.ref b1), .val (.int m0), .val (.int m1), .val (.int (1 : Int32)), .val (.ref b75), .val (.int x_), .val (.int y_), .val (.int lo), .val (.int hi), .val (.int (1 : Int32))]) rfl kK) ?_
          show OwnFin p e below _ (T116.setTop (mkF m 218 #[.val (.int te), .val (.int ma), .val (.int s_), .val (.int e_), .val (.int c0), .val (.int c1), .val (.int c2), .val (.int c3), .val (.ref b1), .val (.int m0), .val (.int m1), .val (.int (1 : Int32)), .val (.ref b75), .val (.int x_), .val (.int y_), .val (.int lo), .val (.int hi), .val (.int (1 : Int32))] []))
          exact key82 _ _ X116 e116 N116 (1 : Int32) (by simp [OwnS, hc114, hc115, hc117])
        · skip
          rw [if_neg hc117]
          show OwnFin p e below _ (T116.setTop (mkF m 212 #[.val (.int te), .val (.int ma), .val (.int s_), .val (.int e_), .val (.int c0), .val (.int c1), .val (.int c2), .val (.int c3), .val (.ref b1), .val (.int m0), .val (.int m1), .val (.int (1 : Int32)), .val (.ref b75), .val (.int x_), .val (.int y_), .val (.int lo), .val (.int hi), .val (.int lo)] [(.int (0 : Int32))]))
          refine OwnFin.step (fun tT kK => XS.ifYes X116.here hx rfl (pc0 := 212) (pc' := 218) rfl (hb hby at_212) rfl ((if0 _ _).trans (teq (rfl : (0 : Int32) = (0 : Int32))).1) (by decide) (by decide) kK) ?_
          show OwnFin p e below _ (T116.setTop (mkF m 218 #[.val (.int te), .val (.int ma), .val (.int s_), .val (.int e_), .val (.int c0), .val (.int c1), .val (.int c2), .val (.int c3), .val (.ref b1), .val (.int m0), .val (.int m1), .val (.int (1 : Int32)), .val (.ref b75), .val (.int x_), .val (.int y_), .val (.int lo), .val (.int hi), .val (.int lo)] []))
          exact key82 _ _ X116 e116 N116 lo (by simp [OwnS, hc117])
      · skip
        refine OwnFin.step (fun tT kK => XS.icmpYes X81.here hx rfl (pc0 := 198) (pc' := 218) rfl (hb hby at_198) rfl (flt (hc115 : ¬ ((0 : Int32) < hi))).2.1 (by decide) (by decide) kK) ?_
        show OwnFin p e below _ (T81.setTop (mkF m 218 #[.val (.int te), .val (.int ma), .val (.int s_), .val (.int e_), .val (.int c0), .val (.int c1), .val (.int c2), .val (.int c3), .val (.ref b1), .val (.int m0), .val (.int m1), .val (.int (1 : Int32)), .val (.ref b75), .val (.int x_), .val (.int y_), .val (.int lo), .val (.int hi), .val (.int lo)] []))
        exact key82 _ _ X81 e81 N81 lo (by simp [OwnS, hc115])
  · skip
    show OwnFin p e below _ (T29.setTop (mkF m 102 #[.val (.int te), .val (.int ma), .val (.int s_), .val (.int e_), .val (.int c0), .val (.int c1), .val (.int c2), .val (.int c3), .val (.ref b1), .val (.int m0), .val (.int m1), .val (.int (2 : Int32)), .unset, .unset, .unset, .unset, .unset, .unset] []))
    refine OwnFin.step (fun tT kK => XS.iload X29.here hx rfl (hb hby at_102) rfl kK) ?_
    refine OwnFin.step (fun tT kK => XS.ifYes X29.here hx rfl (pc0 := 104) (pc' := 114) rfl (hb hby at_104) rfl ((if0 _ _).trans (feq (by decide : ¬ ((2 : Int32) = (0 : Int32)))).2) (by decide) (by decide) kK) ?_
    show OwnFin p e below _ (T29.setTop (mkF m 114 #[.val (.int te), .val (.int ma), .val (.int s_), .val (.int e_), .val (.int c0), .val (.int c1), .val (.int c2), .val (.int c3), .val (.ref b1), .val (.int m0), .val (.int m1), .val (.int (2 : Int32)), .unset, .unset, .unset, .unset, .unset, .unset] []))
    refine OwnFin.step (fun tT kK => XS.iload X29.here hx rfl (hb hby at_114) rfl kK) ?_
    show OwnFin p e below _ (T29.setTop (mkF m 116 #[.val (.int te), .val (.int ma), .val (.int s_), .val (.int e_), .val (.int c0), .val (.int c1), .val (.int c2), .val (.int c3), .val (.ref b1), .val (.int m0), .val (.int m1), .val (.int (2 : Int32)), .unset, .unset, .unset, .unset, .unset, .unset] [(.int (2 : Int32))]))
    refine OwnFin.step (fun tT kK => XS.iconst X29.here hx rfl (hb hby at_116) kK) ?_
    refine OwnFin.step (fun tT kK => XS.icmpYes X29.here hx rfl (pc0 := 117) (pc' := 130) rfl (hb hby at_117) rfl (feq (by decide : ¬ ((2 : Int32) = (1 : Int32)))).2 (by decide) (by decide) kK) ?_
    show OwnFin p e below _ (T29.setTop (mkF m 130 #[.val (.int te), .val (.int ma), .val (.int s_), .val (.int e_), .val (.int c0), .val (.int c1), .val (.int c2), .val (.int c3), .val (.ref b1), .val (.int m0), .val (.int m1), .val (.int (2 : Int32)), .unset, .unset, .unset, .unset, .unset, .unset] []))
    obtain ⟨T118, h118, X118, e118, E118, A118, D118, -, st118⟩ := newO X29 hx hZ hown (hw _ (List.mem_of_getElem? (i := 0) rfl)) (hw _ (List.mem_of_getElem? (i := 1) rfl)) (hw _ (List.mem_of_getElem? (i := 2) rfl)) rfl (g := (mkF m 130 #[.val (.int te), .val (.int ma), .val (.int s_), .val (.int e_), .val (.int c0), .val (.int c1), .val (.int c2), .val (.int c3), .val (.ref b1), .val (.int m0), .val (.int m1), .val (.int (2 : Int32)), .unset, .unset, .unset, .unset, .unset, .unset] [])) rfl (hb hby at_130) (by decide) (by decide)
    obtain ⟨b118, g118⟩ : ∃ z, z = T29.heap.size := ⟨_, rfl⟩
    rw [← g118] at A118 D118 st118
    refine OwnFin.step st118 ?_
    have sz_b118 : h0.size ≤ b118 := Nat.le_trans Kp33.1 (Nat.le_of_eq g118.symm)
    have Kp119 := Kp33.ext E118
    have cp120 := (CHr.ext E118 C34.1)
    have C120 := C34.trans cp120
    have sf_b118 := (Safe.new (Nat.le_of_eq g118.symm)).ext E118 C34.1
    have Fz121 : Fld Z h118 b118 "java/lang/String" "coder" "B" (.int (0 : Int32)) := D118 (Or.inr (hw _ (List.mem_of_getElem? (i := 27) rfl))) (ty := .byte) (by decide)
    have Fz122 : Fld Z h118 b118 "java/lang/String" "value" "[B" .null := D118 (Or.inr (hw _ (List.mem_of_getElem? (i := 29) rfl))) (ty := (.array .byte)) (by decide)
    show OwnFin p e below _ (T118.setTop (mkF m 133 #[.val (.int te), .val (.int ma), .val (.int s_), .val (.int e_), .val (.int c0), .val (.int c1), .val (.int c2), .val (.int c3), .val (.ref b1), .val (.int m0), .val (.int m1), .val (.int (2 : Int32)), .unset, .unset, .unset, .unset, .unset, .unset] [(.ref b118)]))
    refine OwnFin.step (fun tT kK => XS.dup X118.here hx rfl (hb hby at_133) rfl rfl kK) ?_
    refine OwnFin.step (fun tT kK => XS.iconst X118.here hx rfl (hb hby at_134) kK) ?_
    show OwnFin p e below _ (T118.setTop (mkF m 135 #[.val (.int te), .val (.int ma), .val (.int s_), .val (.int e_), .val (.int c0), .val (.int c1), .val (.int c2), .val (.int c3), .val (.ref b1), .val (.int m0), .val (.int m1), .val (.int (2 : Int32)), .unset, .unset, .unset, .unset, .unset, .unset] [(.int (2 : Int32)), (.ref b118), (.ref b118)]))
    obtain ⟨T123, h123, k123, X123, e123, E123, A123, st123⟩ := newP X118 hx hZ (hw _ (List.mem_of_getElem? (i := 3) rfl)) e118 (g := (mkF m 135 #[.val (.int te), .val (.int ma), .val (.int s_), .val (.int e_), .val (.int c0), .val (.int c1), .val (.int c2), .val (.int c3), .val (.ref b1), .val (.int m0), .val (.int m1), .val (.int (2 : Int32)), .unset, .unset, .unset, .unset, .unset, .unset] [(.int (2 : Int32)), (.ref b118), (.ref b118)])) rfl (hb hby at_135) rfl (by decide) (cap := 2) (by decide) (by decide) (by decide) (by decide)
    obtain ⟨b123, g123⟩ : ∃ z, z = h118.size := ⟨_, rfl⟩
    rw [← g123] at A123 st123
    refine OwnFin.step st123 ?_
    have sz_b123 : h0.size ≤ b123 := Nat.le_trans Kp119.1 (Nat.le_of_eq g123.symm)
    have Kp124 := Kp119.ext E123
    have cp125 := (CHr.ext E123 C120.1)
    have C125 := C120.trans cp125
    have sf_b123 := (Safe.new (Nat.le_of_eq g123.symm)).ext E123 C120.1
    have V123 : Arv Z h123 b123 k123 .char (2 : Int32) [(.int (0 : Int32)), (.int (0 : Int32))] (.int (0 : Int32)) := (Arv.new A123 (by decide)).pad (pad_rep [] (.int (0 : Int32)) 2)
    show OwnFin p e below _ (T123.setTop (mkF m 137 #[.val (.int te), .val (.int ma), .val (.int s_), .val (.int e_), .val (.int c0), .val (.int c1), .val (.int c2), .val (.int c3), .val (.ref b1), .val (.int m0), .val (.int m1), .val (.int (2 : Int32)), .unset, .unset, .unset, .unset, .unset, .unset] [(.ref b123), (.ref b118), (.ref b118)]))
    refine OwnFin.step (fun tT kK => XS.dup X123.here hx rfl (hb hby at_137) rfl rfl kK) ?_
    refine OwnFin.step (fun tT kK => XS.iconst X123.here hx rfl (hb hby at_138) kK) ?_
    show OwnFin p e below _ (T123.setTop (mkF m 139 #[.val (.int te), .val (.int ma), .val (.int s_), .val (.int e_), .val (.int c0), .val (.int c1), .val (.int c2), .val (.int c3), .val (.ref b1), .val (.int m0), .val (.int m1), .val (.int (2 : Int32)), .unset, .unset, .unset, .unset, .unset, .unset] [(.int (0 : Int32)), (.ref b123), (.ref b123), (.ref b118), (.ref b118)]))
    refine OwnFin.step (fun tT kK => XS.iload X123.here hx rfl (hb hby at_139) rfl kK) ?_
    obtain ⟨cl126, Ar126, q126, Sz126, Ng126, H126, G126⟩ := id V123
    have hin126 : ¬ ((0 : Int32) < 0 ∨ cl126.slots.size ≤ ((0 : Int32)).toNatClampNeg) := inb_of Sz126 ⟨by decide, by decide⟩
    obtain ⟨T127, h127, X127, e127, W127, st127⟩ := stC X123 hx hZ e123 Ar126 (j := (0 : Int32)) hin126 (g := (mkF m 141 #[.val (.int te), .val (.int ma), .val (.int s_), .val (.int e_), .val (.int c0), .val (.int c1), .val (.int c2), .val (.int c3), .val (.ref b1), .val (.int m0), .val (.int m1), .val (.int (2 : Int32)), .unset, .unset, .unset, .unset, .unset, .unset] [(.int m0), (.int (0 : Int32)), (.ref b123), (.ref b123), (.ref b118), (.ref b118)])) rfl rfl (hb hby at_141)
    refine OwnFin.step st127 ?_
    have N127 := Fr.snoc X127 N29 (Nat.le_trans Z0 sz_b123)
    have Kp128 := Kp124.wr W127 (Or.inr sz_b123)
    have cp129 := (CHr.wr W127 (Safe.arv hZ.alike V123 (by decide)) C125.1)
    have C129 := C125.trans cp129
    have V127 : Arv Z h127 b123 k123 .char (2 : Int32) [(.int (nar .char m0)), (.int (0 : Int32))] (.int (0 : Int32)) := Arv.set Ar126 q126 Sz126 Ng126 H126 G126 (fits_nar_char _) W127 0 rfl (Nat.le_of_ble_eq_true rfl)
    show OwnFin p e below _ (T127.setTop (mkF m 142 #[.val (.int te), .val (.int ma), .val (.int s_), .val (.int e_), .val (.int c0), .val (.int c1), .val (.int c2), .val (.int c3), .val (.ref b1), .val (.int m0), .val (.int m1), .val (.int (2 : Int32)), .unset, .unset, .unset, .unset, .unset, .unset] [(.ref b123), (.ref b118), (.ref b118)]))
    refine OwnFin.step (fun tT kK => XS.dup X127.here hx rfl (hb hby at_142) rfl rfl kK) ?_
    show OwnFin p e below _ (T127.setTop (mkF m 143 #[.val (.int te), .val (.int ma), .val (.int s_), .val (.int e_), .val (.int c0), .val (.int c1), .val (.int c2), .val (.int c3), .val (.ref b1), .val (.int m0), .val (.int m1), .val (.int (2 : Int32)), .unset, .unset, .unset, .unset, .unset, .unset] [(.ref b123), (.ref b123), (.ref b118), (.ref b118)]))
    refine OwnFin.step (fun tT kK => XS.iconst X127.here hx rfl (hb hby at_143) kK) ?_
    refine OwnFin.step (fun tT kK => XS.iload X127.here hx rfl (hb hby at_144) rfl kK) ?_
    show OwnFin p e below _ (T127.setTop (mkF m 146 #[.val (.int te), .val (.int ma), .val (.int s_), .val (.int e_), .val (.int c0), .val (.int c1), .val (.int c2), .val (.int c3), .val (.ref b1), .val (.int m0), .val (.int m1), .val (.int (2 : Int32)), .unset, .unset, .unset, .unset, .unset, .unset] [(.int m1), (.int (1 : Int32)), (.ref b123), (.ref b123), (.ref b118), (.ref b118)]))
    obtain ⟨cl130, Ar130, q130, Sz130, Ng130, H130, G130⟩ := id V127
    have hin130 : ¬ ((1 : Int32) < 0 ∨ cl130.slots.size ≤ ((1 : Int32)).toNatClampNeg) := inb_of Sz130 ⟨by decide, by decide⟩
    obtain ⟨T131, h131, X131, e131, W131, st131⟩ := stC X127 hx hZ e127 Ar130 (j := (1 : Int32)) hin130 (g := (mkF m 146 #[.val (.int te), .val (.int ma), .val (.int s_), .val (.int e_), .val (.int c0), .val (.int c1), .val (.int c2), .val (.int c3), .val (.ref b1), .val (.int m0), .val (.int m1), .val (.int (2 : Int32)), .unset, .unset, .unset, .unset, .unset, .unset] [(.int m1), (.int (1 : Int32)), (.ref b123), (.ref b123), (.ref b118), (.ref b118)])) rfl rfl (hb hby at_146)
    refine OwnFin.step st131 ?_
    have N131 := Fr.snoc X131 N127 (Nat.le_trans Z0 sz_b123)
    have Kp132 := Kp128.wr W131 (Or.inr sz_b123)
    have cp133 := (CHr.wr W131 (Safe.arv hZ.alike V127 (by decide)) C129.1)
    have C133 := C129.trans cp133
    have V131 : Arv Z h131 b123 k123 .char (2 : Int32) [(.int (nar .char m0)), (.int (nar .char m1))] (.int (0 : Int32)) := Arv.set Ar130 q130 Sz130 Ng130 H130 G130 (fits_nar_char _) W131 1 rfl (Nat.le_of_ble_eq_true rfl)
    show OwnFin p e below _ (T131.setTop (mkF m 147 #[.val (.int te), .val (.int ma), .val (.int s_), .val (.int e_), .val (.int c0), .val (.int c1), .val (.int c2), .val (.int c3), .val (.ref b1), .val (.int m0), .val (.int m1), .val (.int (2 : Int32)), .unset, .unset, .unset, .unset, .unset, .unset] [(.ref b123), (.ref b118), (.ref b118)]))
    have f134 : Exa Z h131 b118 "java/lang/String" := (((A118.ext E123).wr W127).wr W131)
    have f135 : Fld Z h131 b118 "java/lang/String" "value" "[B" .null := (((Fz122.ext E123).other W127 (Or.inl (Nat.ne_of_lt (Nat.lt_of_lt_of_le (Nat.lt_of_lt_of_le A118.lt (Nat.le_refl _)) (Nat.le_of_eq g123.symm))))).other W131 (Or.inl (Nat.ne_of_lt (Nat.lt_of_lt_of_le (Nat.lt_of_lt_of_le A118.lt (Nat.le_refl _)) (Nat.le_of_eq g123.symm)))))
    have f136 : Fld Z h131 b118 "java/lang/String" "coder" "B" (.int (0 : Int32)) := (((Fz121.ext E123).other W127 (Or.inl (Nat.ne_of_lt (Nat.lt_of_lt_of_le (Nat.lt_of_lt_of_le A118.lt (Nat.le_refl _)) (Nat.le_of_eq g123.symm))))).other W131 (Or.inl (Nat.ne_of_lt (Nat.lt_of_lt_of_le (Nat.lt_of_lt_of_le A118.lt (Nat.le_refl _)) (Nat.le_of_eq g123.symm)))))
    have f137 : Sta Z h131 "java/lang/String" "COMPACT_STRINGS" "Z" (.int cs) := (((((own_sta_keep f28 K29 (allS (own_nonsta f25) all0)).ext E118).ext E123).wr W127).wr W131)
    obtain ⟨_, _, ⟨T138, L138, k138, n138⟩, -, X138, ⟨Lc138, hQ138, l138, y138, z138⟩, st138⟩ := X131.specialBack hx (y := (⟨"java/lang/String", "<init>", "([C)V"⟩ : MethodName)) rfl hown (mvT hZ (hw _ (List.mem_of_getElem? (i := 4) rfl))) (mvT hZ (hw _ (List.mem_of_getElem? (i := 5) rfl))) (mvT hZ (hw _ (List.mem_of_getElem? (i := 6) rfl))) (by decide) (backOf (W := 1) (rm82 l Z a0 hw hEL wS [] b118 b123 k123 cs (nar .char m0) (nar .char m1) h131 n0 (Nat.le_trans Z0 Kp132.1) f134 f135 f136 (Nat.le_trans Z0 sz_b118) V131 f137 hp1 ((own_narc i8m0).symm ▸ own_lt i8m0) ((own_narc i8m1).symm ▸ own_lt i8m1)) hZ (hw _ (List.mem_of_getElem? (i := 6) rfl)) (hw _ (List.mem_of_getElem? (i := 2) rfl)) (by decide) (by decide)) (g := (mkF m 147 #[.val (.int te), .val (.int ma), .val (.int s_), .val (.int e_), .val (.int c0), .val (.int c1), .val (.int c2), .val (.int c3), .val (.ref b1), .val (.int m0), .val (.int m1), .val (.int (2 : Int32)), .unset, .unset, .unset, .unset, .unset, .unset] [(.ref b123), (.ref b118), (.ref b118)])) rfl (by rw [hml]; rfl) (Steps.refl _) (a := b118) (argsL := [(.ref b123)]) (rest := [(.ref b118)]) (lenOf pd_300 rfl) rfl (by show 2 * 0 + _ ≤ _; exact Nat.le_of_eq rfl) (hb hby at_147) (fun _ _ => ⟨rfl, e131, (by decide : 5 + 1 ≤ _), (by decide : 18 + 2 ≤ _)⟩)
    dsimp only [Pt.U, Pt.locs, Pt.cells, Pt.slots] at X138 l138 y138 z138 st138 hQ138
    subst l138 y138 z138
    obtain ⟨b139, ⟨kb140, ⟨rfl, N138q, K138, B138_0, P138_0, P138_1, P138_2, P138_3⟩⟩⟩ := hQ138
    have N138 := Fr.app N131 N138q
    refine OwnFin.step (fun tT kK => st138.trans kK) ?_
    have sz_b139 : h0.size ≤ b139 := Nat.le_trans Kp132.1 B138_0
    have sf141 : Safe Z OwnEL s.vm h131 b118 := ((cp125.trans cp129).trans cp133).safe (Nat.lt_of_lt_of_le A118.lt (Nat.le_refl _)) sf_b118
    have Kp142 := Kp132.trans K138 (allS (P := fun x => x ∈ ([] : List Addr) ∨ h0.size ≤ x) (Or.inr sz_b118) all0)
    have cp143 := (CHr.keep K138 (sfS sf141 sf0) C133.1)
    have C143 := C133.trans cp143
    show OwnFin p e below _ (T138.setTop (mkF m 150 #[.val (.int te), .val (.int ma), .val (.int s_), .val (.int e_), .val (.int c0), .val (.int c1), .val (.int c2), .val (.int c3), .val (.ref b1), .val (.int m0), .val (.int m1), .val (.int (2 : Int32)), .unset, .unset, .unset, .unset, .unset, .unset] [(.ref b118)]))
    have Vc144 : Arv Z T138.heap b139 kb140 .byte (2 : Int32) [(.int (nar .byte (m0.toInt8.toInt32))), (.int (nar .byte (m1.toInt8.toInt32)))] (.int (0 : Int32)) := by
      have hq := P138_3
      rw [own_narc i8m0, own_narc i8m1] at hq
      exact hq
    refine OwnFin.step (fun tT kK => XS.astore X138.here hx rfl (hb hby at_150) rfl rfl (l' := #[.val (.int te), .val (.int ma), .val (.int s_), .val (.int e_), .val (.int c0), .val (.int c1), .val (.int c2), .val (.int c3), .val (.ref b1), .val (.int m0), .val (.int m1), .val (.int (2 : Int32)), .val (.ref b118), .unset, .unset, .unset, .unset, .unset]) rfl kK) ?_
    refine OwnFin.step (fun tT kK => XS.iloadN X138.here hx rfl (hb hby at_152) rfl kK) ?_
    show OwnFin p e below _ (T138.setTop (mkF m 153 #[.val (.int te), .val (.int ma), .val (.int s_), .val (.int e_), .val (.int c0), .val (.int c1), .val (.int c2), .val (.int c3), .val (.ref b1), .val (.int m0), .val (.int m1), .val (.int (2 : Int32)), .val (.ref b118), .unset, .unset, .unset, .unset, .unset] [(.int s_)]))
    refine OwnFin.step (fun tT kK => X138.ldcI hx hown (mvT hZ (hw _ (List.mem_of_getElem? (i := 33) rfl))) (g := (mkF m 153 #[.val (.int te), .val (.int ma), .val (.int s_), .val (.int e_), .val (.int c0), .val (.int c1), .val (.int c2), .val (.int c3), .val (.ref b1), .val (.int m0), .val (.int m1), .val (.int (2 : Int32)), .val (.ref b118), .unset, .unset, .unset, .unset, .unset] [(.int s_)])) rfl (hb hby at_153) kK) ?_
    refine OwnFin.step (fun tT kK => XS.iand X138.here hx rfl (hb hby at_155) rfl kK) ?_
    show OwnFin p e below _ (T138.setTop (mkF m 156 #[.val (.int te), .val (.int ma), .val (.int s_), .val (.int e_), .val (.int c0), .val (.int c1), .val (.int c2), .val (.int c3), .val (.ref b1), .val (.int m0), .val (.int m1), .val (.int (2 : Int32)), .val (.ref b118), .unset, .unset, .unset, .unset, .unset] [(.int (s_ &&& (2147483647 : Int32)))]))
    refine OwnFin.step (fun tT kK => XS.iconst X138.here hx rfl (hb hby at_156) kK) ?_
    refine OwnFin.step (fun tT kK => iremM (g := (mkF m 157 #[.val (.int te), .val (.int ma), .val (.int s_), .val (.int e_), .val (.int c0), .val (.int c1), .val (.int c2), .val (.int c3), .val (.ref b1), .val (.int m0), .val (.int m1), .val (.int (2 : Int32)), .val (.ref b118), .unset, .unset, .unset, .unset, .unset] [(.int (5 : Int32)), (.int (s_ &&& (2147483647 : Int32)))])) X138 hx rfl (hb hby at_157) rfl (by decide) kK) ?_
    show OwnFin p e below _ (T138.setTop (mkF m 158 #[.val (.int te), .val (.int ma), .val (.int s_), .val (.int e_), .val (.int c0), .val (.int c1), .val (.int c2), .val (.int c3), .val (.ref b1), .val (.int m0), .val (.int m1), .val (.int (2 : Int32)), .val (.ref b118), .unset, .unset, .unset, .unset, .unset] [(.int ((s_ &&& (2147483647 : Int32)) % (5 : Int32)))]))
    refine OwnFin.step (fun tT kK => XS.istore X138.here hx rfl (hb hby at_158) rfl (l' := #[.val (.int te), .val (.int ma), .val (.int s_), .val (.int e_), .val (.int c0), .val (.int c1), .val (.int c2), .val (.int c3), .val (.ref b1), .val (.int m0), .val (.int m1), .val (.int (2 : Int32)), .val (.ref b118), .val (.int ((s_ &&& (2147483647 : Int32)) % (5 : Int32))), .unset, .unset, .unset, .unset]) rfl kK) ?_
    refine OwnFin.step (fun tT kK => XS.iloadN X138.here hx rfl (hb hby at_160) rfl kK) ?_
    show OwnFin p e below _ (T138.setTop (mkF m 161 #[.val (.int te), .val (.int ma), .val (.int s_), .val (.int e_), .val (.int c0), .val (.int c1), .val (.int c2), .val (.int c3), .val (.ref b1), .val (.int m0), .val (.int m1), .val (.int (2 : Int32)), .val (.ref b118), .val (.int ((s_ &&& (2147483647 : Int32)) % (5 : Int32))), .unset, .unset, .unset, .unset] [(.int e_)]))
    refine OwnFin.step (fun tT kK => X138.ldcI hx hown (mvT hZ (hw _ (List.mem_of_getElem? (i := 33) rfl))) (g := (mkF m 161 #[.val (.int te), .val (.int ma), .val (.int s_), .val (.int e_), .val (.int c0), .val (.int c1), .val (.int c2), .val (.int c3), .val (.ref b1), .val (.int m0), .val (.int m1), .val (.int (2 : Int32)), .val (.ref b118), .val (.int ((s_ &&& (2147483647 : Int32)) % (5 : Int32))), .unset, .unset, .unset, .unset] [(.int e_)])) rfl (hb hby at_161) kK) ?_
    refine OwnFin.step (fun tT kK => XS.iand X138.here hx rfl (hb hby at_163) rfl kK) ?_
    show OwnFin p e below _ (T138.setTop (mkF m 164 #[.val (.int te), .val (.int ma), .val (.int s_), .val (.int e_), .val (.int c0), .val (.int c1), .val (.int c2), .val (.int c3), .val (.ref b1), .val (.int m0), .val (.int m1), .val (.int (2 : Int32)), .val (.ref b118), .val (.int ((s_ &&& (2147483647 : Int32)) % (5 : Int32))), .unset, .unset, .unset, .unset] [(.int (e_ &&& (2147483647 : Int32)))]))
    refine OwnFin.step (fun tT kK => XS.iconst X138.here hx rfl (hb hby at_164) kK) ?_
    refine OwnFin.step (fun tT kK => iremM (g := (mkF m 165 #[.val (.int te), .val (.int ma), .val (.int s_), .val (.int e_), .val (.int c0), .val (.int c1), .val (.int c2), .val (.int c3), .val (.ref b1), .val (.int m0), .val (.int m1), .val (.int (2 : Int32)), .val (.ref b118), .val (.int ((s_ &&& (2147483647 : Int32)) % (5 : Int32))), .unset, .unset, .unset, .unset] [(.int (5 : Int32)), (.int (e_ &&& (2147483647 : Int32)))])) X138 hx rfl (hb hby at_165) rfl (by decide) kK) ?_
    show OwnFin p e below _ (T138.setTop (mkF m 166 #[.val (.int te), .val (.int ma), .val (.int s_), .val (.int e_), .val (.int c0), .val (.int c1), .val (.int c2), .val (.int c3), .val (.ref b1), .val (.int m0), .val (.int m1), .val (.int (2 : Int32)), .val (.ref b118), .val (.int ((s_ &&& (2147483647 : Int32)) % (5 : Int32))), .unset, .unset, .unset, .unset] [(.int ((e_ &&& (2147483647 : Int32)) % (5 : Int32)))]))
    refine OwnFin.step (fun tT kK => XS.istore X138.here hx rfl (hb hby at_166) rfl (l' := #[.val (.int te), .val (.int ma), .val (.int s_), .val (.int e_), .val (.int c0), .val (.int c1), .val (.int c2), .val (.int c3), .val (.ref b1), .val (.int m0), .val (.int m1), .val (.int (2 : Int32)), .val (.ref b118), .val (.int ((s_ &&& (2147483647 : Int32)) % (5 : Int32))), .val (.int ((e_ &&& (2147483647 : Int32)) % (5 : Int32))), .unset, .unset, .unset]) rfl kK) ?_
    obtain ⟨x_, hx_⟩ : ∃ z : Int32, z = ((s_ &&& (2147483647 : Int32)) % (5 : Int32)) := ⟨_, rfl⟩
    rw [← hx_]
    show OwnFin p e below _ (T138.setTop (mkF m 168 #[.val (.int te), .val (.int ma), .val (.int s_), .val (.int e_), .val (.int c0), .val (.int c1), .val (.int c2), .val (.int c3), .val (.ref b1), .val (.int m0), .val (.int m1), .val (.int (2 : Int32)), .val (.ref b118), .val (.int x_), .val (.int ((e_ &&& (2147483647 : Int32)) % (5 : Int32))), .unset, .unset, .unset] []))
    obtain ⟨y_, hy_⟩ : ∃ z : Int32, z = ((e_ &&& (2147483647 : Int32)) % (5 : Int32)) := ⟨_, rfl⟩
    rw [← hy_]
    show OwnFin p e below _ (T138.setTop (mkF m 168 #[.val (.int te), .val (.int ma), .val (.int s_), .val (.int e_), .val (.int c0), .val (.int c1), .val (.int c2), .val (.int c3), .val (.ref b1), .val (.int m0), .val (.int m1), .val (.int (2 : Int32)), .val (.ref b118), .val (.int x_), .val (.int y_), .unset, .unset, .unset] []))
    refine OwnFin.step (fun tT kK => XS.iload X138.here hx rfl (hb hby at_168) rfl kK) ?_
    show OwnFin p e below _ (T138.setTop (mkF m 170 #[.val (.int te), .val (.int ma), .val (.int s_), .val (.int e_), .val (.int c0), .val (.int c1), .val (.int c2), .val (.int c3), .val (.ref b1), .val (.int m0), .val (.int m1), .val (.int (2 : Int32)), .val (.ref b118), .val (.int x_), .val (.int y_), .unset, .unset, .unset] [(.int x_)]))
    refine OwnFin.step (fun tT kK => XS.iload X138.here hx rfl (hb hby at_170) rfl kK) ?_
    obtain ⟨_, _, ⟨T145, L145, k145, n145⟩, -, X145, ⟨Lc145, hQ145, l145, y145, z145⟩, st145⟩ := Jvm.LawKit.callS X138 hx (y := (⟨"java/lang/Math", "min", "(II)I"⟩ : MethodName)) hown (mvT hZ (hw _ (List.mem_of_getElem? (i := 34) rfl))) (mvT hZ (hw _ (List.mem_of_getElem? (i := 35) rfl))) (mvT hZ (hw _ (List.mem_of_getElem? (i := 36) rfl))) (mvT hZ (hw _ (List.mem_of_getElem? (i := 37) rfl))) (by decide) (backOf (W := 0) (rm1b l Z a0 hw hEL wS [] x_ y_ T138.heap n0 (Nat.le_trans Z0 Kp142.1) ) hZ (hw _ (List.mem_of_getElem? (i := 37) rfl)) (hw _ (List.mem_of_getElem? (i := 36) rfl)) (by decide) (by decide)) (g := (mkF m 172 #[.val (.int te), .val (.int ma), .val (.int s_), .val (.int e_), .val (.int c0), .val (.int c1), .val (.int c2), .val (.int c3), .val (.ref b1), .val (.int m0), .val (.int m1), .val (.int (2 : Int32)), .val (.ref b118), .val (.int x_), .val (.int y_), .unset, .unset, .unset] [(.int y_), (.int x_)])) rfl (by rw [hml]; rfl) (argsL := [(.int x_), (.int y_)]) (rest := []) (lenOf pd_82 rfl) rfl (by show 2 * 0 + _ ≤ _; exact Nat.le_of_eq rfl) (hb hby at_172) (fun _ _ => ⟨rfl, rfl, (by decide : 6 + 0 ≤ _), (by decide : 20 + 0 ≤ _)⟩)
    dsimp only [Pt.U, Pt.locs, Pt.cells, Pt.slots] at X145 l145 y145 z145 st145 hQ145
    subst l145 y145 z145
    obtain ⟨rfl, N145q, e145⟩ := hQ145
    have N145 := Fr.app N138 N145q
    refine OwnFin.step st145 ?_
    show OwnFin p e below _ (T145.setTop (mkF m 175 #[.val (.int te), .val (.int ma), .val (.int s_), .val (.int e_), .val (.int c0), .val (.int c1), .val (.int c2), .val (.int c3), .val (.ref b1), .val (.int m0), .val (.int m1), .val (.int (2 : Int32)), .val (.ref b118), .val (.int x_), .val (.int y_), .unset, .unset, .unset] [(.int (if y_ < x_ then y_ else x_))]))
    refine OwnFin.step (fun tT kK => XS.istore X145.here hx rfl (hb hby at_175) rfl (l' := #[.val (.int te), .val (.int ma), .val (.int s_), .val (.int e_), .val (.int c0), .val (.int c1), .val (.int c2), .val (.int c3), .val (.ref b1), .val (.int m0), .val (.int m1), .val (.int (2 : Int32)), .val (.ref b118), .val (.int x_), .val (.int y_), .val (.int (if y_ < x_ then y_ else x_)), .unset, .unset]) rfl kK) ?_
    show OwnFin p e below _ (T145.setTop (mkF m 177 #[.val (.int te), .val (.int ma), .val (.int s_), .val (.int e_), .val (.int c0), .val (.int c1), .val (.int c2), .val (.int c3), .val (.ref b1), .val (.int m0), .val (.int m1), .val (.int (2 : Int32)), .val (.ref b118), .val (.int x_), .val (.int y_), .val (.int (if y_ < x_ then y_ else x_)), .unset, .unset] []))
    refine OwnFin.step (fun tT kK => XS.iload X145.here hx rfl (hb hby at_177) rfl kK) ?_
    refine OwnFin.step (fun tT kK => XS.iload X145.here hx rfl (hb hby at_179) rfl kK) ?_
    show OwnFin p e below _ (T145.setTop (mkF m 181 #[.val (.int te), .val (.int ma), .val (.int s_), .val (.int e_), .val (.int c0), .val (.int c1), .val (.int c2), .val (.int c3), .val (.ref b1), .val (.int m0), .val (.int m1), .val (.int (2 : Int32)), .val (.ref b118), .val (.int x_), .val (.int y_), .val (.int (if y_ < x_ then y_ else x_)), .unset, .unset] [(.int y_), (.int x_)]))
    obtain ⟨_, _, ⟨T146, L146, k146, n146⟩, -, X146, ⟨Lc146, hQ146, l146, y146, z146⟩, st146⟩ := Jvm.LawKit.callS X145 hx (y := (⟨"java/lang/Math", "max", "(II)I"⟩ : MethodName)) hown (mvT hZ (hw _ (List.mem_of_getElem? (i := 38) rfl))) (mvT hZ (hw _ (List.mem_of_getElem? (i := 39) rfl))) (mvT hZ (hw _ (List.mem_of_getElem? (i := 36) rfl))) (mvT hZ (hw _ (List.mem_of_getElem? (i := 40) rfl))) (by decide) (backOf (W := 0) (rm1a l Z a0 hw hEL wS [] x_ y_ T138.heap n0 (Nat.le_trans Z0 Kp142.1) ) hZ (hw _ (List.mem_of_getElem? (i := 40) rfl)) (hw _ (List.mem_of_getElem? (i := 36) rfl)) (by decide) (by decide)) (g := (mkF m 181 #[.val (.int te), .val (.int ma), .val (.int s_), .val (.int e_), .val (.int c0), .val (.int c1), .val (.int c2), .val (.int c3), .val (.ref b1), .val (.int m0), .val (.int m1), .val (.int (2 : Int32)), .val (.ref b118), .val (.int x_), .val (.int y_), .val (.int (if y_ < x_ then y_ else x_)), .unset, .unset] [(.int y_), (.int x_)])) rfl (by rw [hml]; rfl) (argsL := [(.int x_), (.int y_)]) (rest := []) (lenOf pd_82 rfl) rfl (by show 2 * 0 + _ ≤ _; exact Nat.le_of_eq rfl) (hb hby at_181) (fun _ _ => ⟨rfl, e145, (by decide : 6 + 0 ≤ _), (by decide : 20 + 0 ≤ _)⟩)
    dsimp only [Pt.U, Pt.locs, Pt.cells, Pt.slots] at X146 l146 y146 z146 st146 hQ146
    subst l146 y146 z146
    obtain ⟨rfl, N146q, e146⟩ := hQ146
    have N146 := Fr.app N145 N146q
    refine OwnFin.step st146 ?_
    show OwnFin p e below _ (T146.setTop (mkF m 184 #[.val (.int te), .val (.int ma), .val (.int s_), .val (.int e_), .val (.int c0), .val (.int c1), .val (.int c2), .val (.int c3), .val (.ref b1), .val (.int m0), .val (.int m1), .val (.int (2 : Int32)), .val (.ref b118), .val (.int x_), .val (.int y_), .val (.int (if y_ < x_ then y_ else x_)), .unset, .unset] [(.int (if x_ < y_ then y_ else x_))]))
    refine OwnFin.step (fun tT kK => XS.istore X146.here hx rfl (hb hby at_184) rfl (l' := #[.val (.int te), .val (.int ma), .val (.int s_), .val (.int e_), .val (.int c0), .val (.int c1), .val (.int c2), .val (.int c3), .val (.ref b1), .val (.int m0), .val (.int m1), .val (.int (2 : Int32)), .val (.ref b118), .val (.int x_), .val (.int y_), .val (.int (if y_ < x_ then y_ else x_)), .val (.int (if x_ < y_ then y_ else x_)), .unset]) rfl kK) ?_
    obtain ⟨lo, hlo⟩ : ∃ z : Int32, z = (if y_ < x_ then y_ else x_) := ⟨_, rfl⟩
    rw [← hlo]
    show OwnFin p e below _ (T146.setTop (mkF m 186 #[.val (.int te), .val (.int ma), .val (.int s_), .val (.int e_), .val (.int c0), .val (.int c1), .val (.int c2), .val (.int c3), .val (.ref b1), .val (.int m0), .val (.int m1), .val (.int (2 : Int32)), .val (.ref b118), .val (.int x_), .val (.int y_), .val (.int lo), .val (.int (if x_ < y_ then y_ else x_)), .unset] []))
    obtain ⟨hi, hhi⟩ : ∃ z : Int32, z = (if x_ < y_ then y_ else x_) := ⟨_, rfl⟩
    rw [← hhi]
    show OwnFin p e below _ (T146.setTop (mkF m 186 #[.val (.int te), .val (.int ma), .val (.int s_), .val (.int e_), .val (.int c0), .val (.int c1), .val (.int c2), .val (.int c3), .val (.ref b1), .val (.int m0), .val (.int m1), .val (.int (2 : Int32)), .val (.ref b118), .val (.int x_), .val (.int y_), .val (.int lo), .val (.int hi), .unset] []))
    have hP : OwnP lo hi := by rw [hlo, hhi, hx_, hy_]; exact own_p (own_mod _ _ 5 rfl (by decide)).1 (own_mod _ _ 5 rfl (by decide)).2 (own_mod _ _ 5 rfl (by decide)).1 (own_mod _ _ 5 rfl (by decide)).2
    refine OwnFin.step (fun tT kK => XS.iload X146.here hx rfl (hb hby at_186) rfl kK) ?_
    show OwnFin p e below _ (T146.setTop (mkF m 188 #[.val (.int te), .val (.int ma), .val (.int s_), .val (.int e_), .val (.int c0), .val (.int c1), .val (.int c2), .val (.int c3), .val (.ref b1), .val (.int m0), .val (.int m1), .val (.int (2 : Int32)), .val (.ref b118), .val (.int x_), .val (.int y_), .val (.int lo), .val (.int hi), .unset] [(.int lo)]))
    refine OwnFin.step (fun tT kK => XS.istore X146.here hx rfl (hb hby at_188) rfl (l' := #[.val (.int te), .val (.int ma), .val (.int s_), .val (.int e_), .val (.int c0), .val (.int c1), .val (.int c2), .val (.int c3), .val (.ref b1), .val (.int m0), .val (.int m1), .val (.int (2 : Int32)), .val (.ref b118), .val (.int x_), .val (.int y_), .val (.int lo), .val (.int hi), .val (.int lo)]) rfl kK) ?_
    have key147 : ∀ (T148 : State) (L148 : List Loc), Stand p l e room_1 (s.setVm s.vm) m #[(.int te), (.int ma), (.int s_), (.int e_)] below meth cC T148 L148 6 20 → T148.heap = T138.heap → Fr n0 L148 → ∀ (r1 : Int32), (r1 = OwnS lo hi (0 : Int32) (1 : Int32) (decide (c0 = m0 ∨ c0 = m1)) lo) → OwnFin p e below (R0 Z te ma s_ e_ cs fm h0 n0 s) (T148.setTop (mkF m 218 #[.val (.int te), .val (.int ma), .val (.int s_), .val (.int e_), .val (.int c0), .val (.int c1), .val (.int c2), .val (.int c3), .val (.ref b1), .val (.int m0), .val (.int m1), .val (.int (2 : Int32)), .val (.ref b118), .val (.int x_), .val (.int y_), .val (.int lo), .val (.int hi), .val (.int r1)] [])) := by
      intro T148 L148 X148 e148 N148 r1 hj149
      have key150 : ∀ (T151 : State) (L151 : List Loc), Stand p l e room_1 (s.setVm s.vm) m #[(.int te), (.int ma), (.int s_), (.int e_)] below meth cC T151 L151 6 20 → T151.heap = T138.heap → Fr n0 L151 → ∀ (r2 : Int32), (r2 = OwnS lo hi (1 : Int32) (2 : Int32) (decide (c1 = m0 ∨ c1 = m1)) r1) → OwnFin p e below (R0 Z te ma s_ e_ cs fm h0 n0 s) (T151.setTop (mkF m 247 #[.val (.int te), .val (.int ma), .val (.int s_), .val (.int e_), .val (.int c0), .val (.int c1), .val (.int c2), .val (.int c3), .val (.ref b1), .val (.int m0), .val (.int m1), .val (.int (2 : Int32)), .val (.ref b118), .val (.int x_), .val (.int y_), .val (.int lo), .val (.int hi), .val (.int r2)] [])) := by
        intro T151 L151 X151 e151 N151 r2 hj152
        have key153 : ∀ (T154 : State) (L154 : List Loc), Stand p l e room_1 (s.setVm s.vm) m #[(.int te), (.int ma), (.int s_), (.int e_)] below meth cC T154 L154 6 20 → T154.heap = T138.heap → Fr n0 L154 → ∀ (r3 : Int32), (r3 = OwnS lo hi (2 : Int32) (3 : Int32) (decide (c2 = m0 ∨ c2 = m1)) r2) → OwnFin p e below (R0 Z te ma s_ e_ cs fm h0 n0 s) (T154.setTop (mkF m 276 #[.val (.int te), .val (.int ma), .val (.int s_), .val (.int e_), .val (.int c0), .val (.int c1), .val (.int c2), .val (.int c3), .val (.ref b1), .val (.int m0), .val (.int m1), .val (.int (2 : Int32)), .val (.ref b118), .val (.int x_), .val (.int y_), .val (.int lo), .val (.int hi), .val (.int r3)] [])) := by
          intro T154 L154 X154 e154 N154 r3 hj155
          have key156 : ∀ (T157 : State) (L157 : List Loc), Stand p l e room_1 (s.setVm s.vm) m #[(.int te), (.int ma), (.int s_), (.int e_)] below meth cC T157 L157 6 20 → T157.heap = T138.heap → Fr n0 L157 → ∀ (r4 : Int32), (r4 = OwnS lo hi (3 : Int32) (4 : Int32) (decide (c3 = m0 ∨ c3 = m1)) r3) → OwnFin p e below (R0 Z te ma s_ e_ cs fm h0 n0 s) (T157.setTop (mkF m 305 #[.val (.int te), .val (.int ma), .val (.int s_), .val (.int e_), .val (.int c0), .val (.int c1), .val (.int c2), .val (.int c3), .val (.ref b1), .val (.int m0), .val (.int m1), .val (.int (2 : Int32)), .val (.ref b118), .val (.int x_), .val (.int y_), .val (.int lo), .val (.int hi), .val (.int r4)] [])) := by
            intro T157 L157 X157 e157 N157 r4 hj158
            refine OwnFin.step (fun tT kK => XS.aload X157.here hx rfl (hb hby at_305) rfl rfl kK) ?_
            show OwnFin p e below _ (T157.setTop (mkF m 307 #[.val (.int te), .val (.int ma), .val (.int s_), .val (.int e_), .val (.int c0), .val (.int c1), .val (.int c2), .val (.int c3), .val (.ref b1), .val (.int m0), .val (.int m1), .val (.int (2 : Int32)), .val (.ref b118), .val (.int x_), .val (.int y_), .val (.int lo), .val (.int hi), .val (.int r4)] [(.ref b1)]))
            refine OwnFin.step (fun tT kK => XS.iload X157.here hx rfl (hb hby at_307) rfl kK) ?_
            refine OwnFin.step (fun tT kK => XS.iload X157.here hx rfl (hb hby at_309) rfl kK) ?_
            show OwnFin p e below _ (T157.setTop (mkF m 311 #[.val (.int te), .val (.int ma), .val (.int s_), .val (.int e_), .val (.int c0), .val (.int c1), .val (.int c2), .val (.int c3), .val (.ref b1), .val (.int m0), .val (.int m1), .val (.int (2 : Int32)), .val (.ref b118), .val (.int x_), .val (.int y_), .val (.int lo), .val (.int hi), .val (.int r4)] [(.int hi), (.int lo), (.ref b1)]))
            refine OwnFin.step (fun tT kK => XS.aload X157.here hx rfl (hb hby at_311) rfl rfl kK) ?_
            have f159 : Sta Z T138.heap "jdk/internal/util/Preconditions" "SIOOBE_FORMATTER" "Ljava/util/function/BiFunction;" fm := (own_sta_keep hp2 Kp142 all0)
            have f160 : Exa Z T138.heap b1 "java/lang/String" := (((((P29_0.ext E118).ext E123).wr W127).wr W131).keep K138)
            have f161 : Fld Z T138.heap b1 "java/lang/String" "value" "[B" (.ref b30) := (((((P29_1.ext E118).ext E123).other W127 (Or.inl (Nat.ne_of_lt (Nat.lt_of_lt_of_le (Nat.lt_of_lt_of_le P29_0.lt (Nat.le_trans (Nat.le_refl _) E118.1)) (Nat.le_of_eq g123.symm))))).other W131 (Or.inl (Nat.ne_of_lt (Nat.lt_of_lt_of_le (Nat.lt_of_lt_of_le P29_0.lt (Nat.le_trans (Nat.le_refl _) E118.1)) (Nat.le_of_eq g123.symm))))).keep K138 (ninS (Nat.ne_of_lt (Nat.lt_of_lt_of_le (Nat.lt_of_lt_of_le P29_0.lt (Nat.le_refl _)) (Nat.le_of_eq g118.symm))) nin0))
            have f162 : Fld Z T138.heap b1 "java/lang/String" "coder" "B" (.int (0 : Int32)) := (((((P29_2.ext E118).ext E123).other W127 (Or.inl (Nat.ne_of_lt (Nat.lt_of_lt_of_le (Nat.lt_of_lt_of_le P29_0.lt (Nat.le_trans (Nat.le_refl _) E118.1)) (Nat.le_of_eq g123.symm))))).other W131 (Or.inl (Nat.ne_of_lt (Nat.lt_of_lt_of_le (Nat.lt_of_lt_of_le P29_0.lt (Nat.le_trans (Nat.le_refl _) E118.1)) (Nat.le_of_eq g123.symm))))).keep K138 (ninS (Nat.ne_of_lt (Nat.lt_of_lt_of_le (Nat.lt_of_lt_of_le P29_0.lt (Nat.le_refl _)) (Nat.le_of_eq g118.symm))) nin0))
            have f163 : Arv Z T138.heap b30 kb31 .byte (4 : Int32) [(.int (nar .byte (c0.toInt8.toInt32))), (.int (nar .byte (c1.toInt8.toInt32))), (.int (nar .byte (c2.toInt8.toInt32))), (.int (nar .byte (c3.toInt8.toInt32)))] (.int (0 : Int32)) := (((((Vc35.ext E118).ext E123).other W127 (Nat.ne_of_lt (Nat.lt_of_lt_of_le (Nat.lt_of_lt_of_le P29_3.lt (Nat.le_trans (Nat.le_refl _) E118.1)) (Nat.le_of_eq g123.symm)))).other W131 (Nat.ne_of_lt (Nat.lt_of_lt_of_le (Nat.lt_of_lt_of_le P29_3.lt (Nat.le_trans (Nat.le_refl _) E118.1)) (Nat.le_of_eq g123.symm)))).keep K138 (ninS (Nat.ne_of_lt (Nat.lt_of_lt_of_le (Nat.lt_of_lt_of_le P29_3.lt (Nat.le_refl _)) (Nat.le_of_eq g118.symm))) nin0))
            have f164 : Sta Z T138.heap "java/lang/String" "COMPACT_STRINGS" "Z" (.int cs) := (own_sta_keep f137 K138 (allS (own_nonsta f134) all0))
            obtain ⟨_, _, ⟨T165, L165, k165, n165⟩, -, X165, ⟨Lc165, hQ165, l165, y165, z165⟩, st165⟩ := Jvm.LawKit.callS X157 hx (y := (⟨"com/example/covenantry/covenantry/text/Phrases", "afterLastMark", "(Ljava/lang/String;IILjava/lang/String;)I"⟩ : MethodName)) hown (mvT hZ (hw _ (List.mem_of_getElem? (i := 45) rfl))) (mvT hZ (hw _ (List.mem_of_getElem? (i := 46) rfl))) (mvT hZ (hw _ (List.mem_of_getElem? (i := 47) rfl))) (mvT hZ (hw _ (List.mem_of_getElem? (i := 48) rfl))) (by decide) (backOf (W := 0) (rm62 l Z a0 hw hEL wS [] b1 lo hi b118 b30 kb31 fm cs c0 c1 c2 c3 b139 kb140 m0 m1 T138.heap n0 (Nat.le_trans Z0 Kp142.1) f159 hp3 f160 f161 f162 f163 i8c0 i8c1 i8c2 i8c3 f164 hp1 P138_0 P138_1 P138_2 Vc144 i8m0 i8m1 hP) hZ (hw _ (List.mem_of_getElem? (i := 48) rfl)) (hw _ (List.mem_of_getElem? (i := 47) rfl)) (by decide) (by decide)) (g := (mkF m 313 #[.val (.int te), .val (.int ma), .val (.int s_), .val (.int e_), .val (.int c0), .val (.int c1), .val (.int c2), .val (.int c3), .val (.ref b1), .val (.int m0), .val (.int m1), .val (.int (2 : Int32)), .val (.ref b118), .val (.int x_), .val (.int y_), .val (.int lo), .val (.int hi), .val (.int r4)] [(.ref b118), (.int hi), (.int lo), (.ref b1)])) rfl (by rw [hml]; rfl) (argsL := [(.ref b1), (.int lo), (.int hi), (.ref b118)]) (rest := []) (lenOf pd_301 rfl) rfl (by show 2 * 0 + _ ≤ _; exact Nat.le_of_eq rfl) (hb hby at_313) (fun _ _ => ⟨rfl, e157, (by decide : 6 + 0 ≤ _), (by decide : 20 + 0 ≤ _)⟩)
            dsimp only [Pt.U, Pt.locs, Pt.cells, Pt.slots] at X165 l165 y165 z165 st165 hQ165
            subst l165 y165 z165
            obtain ⟨rfl, N165q, e165⟩ := hQ165
            have N165 := Fr.app N157 N165q
            refine OwnFin.step st165 ?_
            show OwnFin p e below _ (T165.setTop (mkF m 316 #[.val (.int te), .val (.int ma), .val (.int s_), .val (.int e_), .val (.int c0), .val (.int c1), .val (.int c2), .val (.int c3), .val (.ref b1), .val (.int m0), .val (.int m1), .val (.int (2 : Int32)), .val (.ref b118), .val (.int x_), .val (.int y_), .val (.int lo), .val (.int hi), .val (.int r4)] [(.int (OwnT lo hi (decide (c0 = m0 ∨ c0 = m1)) (decide (c1 = m0 ∨ c1 = m1)) (decide (c2 = m0 ∨ c2 = m1)) (decide (c3 = m0 ∨ c3 = m1))))]))
            have hr : (OwnT lo hi (decide (c0 = m0 ∨ c0 = m1)) (decide (c1 = m0 ∨ c1 = m1)) (decide (c2 = m0 ∨ c2 = m1)) (decide (c3 = m0 ∨ c3 = m1))) = r4 := by rw [own_tr hP, hj158, hj155, hj152, hj149]; rfl
            rw [hr]
            show OwnFin p e below _ (T165.setTop (mkF m 316 #[.val (.int te), .val (.int ma), .val (.int s_), .val (.int e_), .val (.int c0), .val (.int c1), .val (.int c2), .val (.int c3), .val (.ref b1), .val (.int m0), .val (.int m1), .val (.int (2 : Int32)), .val (.ref b118), .val (.int x_), .val (.int y_), .val (.int lo), .val (.int hi), .val (.int r4)] [(.int r4)]))
            refine OwnFin.step (fun tT kK => XS.iload X165.here hx rfl (hb hby at_316) rfl kK) ?_
            show OwnFin p e below _ (T165.setTop (mkF m 318 #[.val (.int te), .val (.int ma), .val (.int s_), .val (.int e_), .val (.int c0), .val (.int c1), .val (.int c2), .val (.int c3), .val (.ref b1), .val (.int m0), .val (.int m1), .val (.int (2 : Int32)), .val (.ref b118), .val (.int x_), .val (.int y_), .val (.int lo), .val (.int hi), .val (.int r4)] [(.int r4), (.int r4)]))
            refine OwnFin.step (fun tT kK => XS.icmpNo X165.here hx rfl (hb hby at_318) rfl (teq (rfl : r4 = r4)).2 kK) ?_
            show OwnFin p e below _ (T165.setTop (mkF m 321 #[.val (.int te), .val (.int ma), .val (.int s_), .val (.int e_), .val (.int c0), .val (.int c1), .val (.int c2), .val (.int c3), .val (.ref b1), .val (.int m0), .val (.int m1), .val (.int (2 : Int32)), .val (.ref b118), .val (.int x_), .val (.int y_), .val (.int lo), .val (.int hi), .val (.int r4)] []))
            refine OwnFin.step (fun tT kK => XS.iconst X165.here hx rfl (hb hby at_321) kK) ?_
            refine OwnFin.step (fun tT kK => XS.goto X165.here hx rfl (pc0 := 322) (pc' := 326) rfl (hb hby at_322) (by decide) (by decide) kK) ?_
            show OwnFin p e below _ (T165.setTop (mkF m 326 #[.val (.int te), .val (.int ma), .val (.int s_), .val (.int e_), .val (.int c0), .val (.int c1), .val (.int c2), .val (.int c3), .val (.ref b1), .val (.int m0), .val (.int m1), .val (.int (2 : Int32)), .val (.ref b118), .val (.int x_), .val (.int y_), .val (.int lo), .val (.int hi), .val (.int r4)] [(.int (1 : Int32))]))
            obtain ⟨fs166, hr166, hrun166, hended166, hW166⟩ := X165.leaveW (s := s) hS0 (by rw [e165]; exact (Nat.le_trans hk0 (Nat.le_trans (Nat.le_trans (Nat.le_trans (Nat.le_trans (Nat.le_trans (Nat.le_trans (Nat.le_trans (Nat.le_trans (Nat.le_trans (Nat.le_trans (Nat.le_trans (Nat.le_trans (Nat.le_refl _) E1.1) E6.1) (Keep.of_wr W10).1) (Keep.of_wr W14).1) (Keep.of_wr W18).1) (Keep.of_wr W22).1) K29.1) E118.1) E123.1) (Keep.of_wr W127).1) (Keep.of_wr W131).1) K138.1))) (v := (some (.int (1 : Int32)))) (fun h => by rw [Bd.returns] at h; cases h)
            refine ⟨_, _, retN X165 hx (t := .boolean) Bd.returns (by simp) (hb hby at_326) hr166, hrun166, hended166, _, _, rfl, ?_, (by show CHr Z OwnEL s.vm s.heap T165.vm T165.heap; rw [hh, e165]; exact C143.trans (CHv.at X165 hZ hEL C143.1)), hW166.1, hW166.2.1, hW166.2.2.1, hW166.2.2.2.mono (by decide) (by decide)⟩
            show Q0 Z te ma s_ e_ cs fm h0 n0 _ T165.heap _
            rw [e165]
            exact ⟨rfl, N165, Kp142⟩
          refine OwnFin.step (fun tT kK => XS.iload X154.here hx rfl (hb hby at_276) rfl kK) ?_
          show OwnFin p e below _ (T154.setTop (mkF m 278 #[.val (.int te), .val (.int ma), .val (.int s_), .val (.int e_), .val (.int c0), .val (.int c1), .val (.int c2), .val (.int c3), .val (.ref b1), .val (.int m0), .val (.int m1), .val (.int (2 : Int32)), .val (.ref b118), .val (.int x_), .val (.int y_), .val (.int lo), .val (.int hi), .val (.int r3)] [(.int lo)]))
          refine OwnFin.step (fun tT kK => XS.iconst X154.here hx rfl (hb hby at_278) kK) ?_
          by_cases hc167 : (3 : Int32) < lo
          · skip
            refine OwnFin.step (fun tT kK => XS.icmpYes X154.here hx rfl (pc0 := 279) (pc' := 305) rfl (hb hby at_279) rfl (tlt (hc167 : (3 : Int32) < lo)).2.2.1 (by decide) (by decide) kK) ?_
            show OwnFin p e below _ (T154.setTop (mkF m 305 #[.val (.int te), .val (.int ma), .val (.int s_), .val (.int e_), .val (.int c0), .val (.int c1), .val (.int c2), .val (.int c3), .val (.ref b1), .val (.int m0), .val (.int m1), .val (.int (2 : Int32)), .val (.ref b118), .val (.int x_), .val (.int y_), .val (.int lo), .val (.int hi), .val (.int r3)] []))
            exact key156 _ _ X154 e154 N154 r3 (by simp [OwnS, hc167])
          · skip
            refine OwnFin.step (fun tT kK => XS.icmpNo X154.here hx rfl (hb hby at_279) rfl (flt (hc167 : ¬ ((3 : Int32) < lo))).2.2.1 kK) ?_
            show OwnFin p e below _ (T154.setTop (mkF m 282 #[.val (.int te), .val (.int ma), .val (.int s_), .val (.int e_), .val (.int c0), .val (.int c1), .val (.int c2), .val (.int c3), .val (.ref b1), .val (.int m0), .val (.int m1), .val (.int (2 : Int32)), .val (.ref b118), .val (.int x_), .val (.int y_), .val (.int lo), .val (.int hi), .val (.int r3)] []))
            refine OwnFin.step (fun tT kK => XS.iconst X154.here hx rfl (hb hby at_282) kK) ?_
            show OwnFin p e below _ (T154.setTop (mkF m 283 #[.val (.int te), .val (.int ma), .val (.int s_), .val (.int e_), .val (.int c0), .val (.int c1), .val (.int c2), .val (.int c3), .val (.ref b1), .val (.int m0), .val (.int m1), .val (.int (2 : Int32)), .val (.ref b118), .val (.int x_), .val (.int y_), .val (.int lo), .val (.int hi), .val (.int r3)] [(.int (3 : Int32))]))
            refine OwnFin.step (fun tT kK => XS.iload X154.here hx rfl (hb hby at_283) rfl kK) ?_
            by_cases hc168 : (3 : Int32) < hi
            · skip
              refine OwnFin.step (fun tT kK => XS.icmpNo X154.here hx rfl (hb hby at_285) rfl (tlt (hc168 : (3 : Int32) < hi)).2.1 kK) ?_
              show OwnFin p e below _ (T154.setTop (mkF m 288 #[.val (.int te), .val (.int ma), .val (.int s_), .val (.int e_), .val (.int c0), .val (.int c1), .val (.int c2), .val (.int c3), .val (.ref b1), .val (.int m0), .val (.int m1), .val (.int (2 : Int32)), .val (.ref b118), .val (.int x_), .val (.int y_), .val (.int lo), .val (.int hi), .val (.int r3)] []))
              refine OwnFin.step (fun tT kK => XS.iload X154.here hx rfl (hb hby at_288) rfl kK) ?_
              show OwnFin p e below _ (T154.setTop (mkF m 290 #[.val (.int te), .val (.int ma), .val (.int s_), .val (.int e_), .val (.int c0), .val (.int c1), .val (.int c2), .val (.int c3), .val (.ref b1), .val (.int m0), .val (.int m1), .val (.int (2 : Int32)), .val (.ref b118), .val (.int x_), .val (.int y_), .val (.int lo), .val (.int hi), .val (.int r3)] [(.int c3)]))
              refine OwnFin.step (fun tT kK => XS.iload X154.here hx rfl (hb hby at_290) rfl kK) ?_
              refine OwnFin.step (fun tT kK => XS.iload X154.here hx rfl (hb hby at_292) rfl kK) ?_
              show OwnFin p e below _ (T154.setTop (mkF m 294 #[.val (.int te), .val (.int ma), .val (.int s_), .val (.int e_), .val (.int c0), .val (.int c1), .val (.int c2), .val (.int c3), .val (.ref b1), .val (.int m0), .val (.int m1), .val (.int (2 : Int32)), .val (.ref b118), .val (.int x_), .val (.int y_), .val (.int lo), .val (.int hi), .val (.int r3)] [(.int m0), (.int (2 : Int32)), (.int c3)]))
              refine OwnFin.step (fun tT kK => XS.iload X154.here hx rfl (hb hby at_294) rfl kK) ?_
              obtain ⟨_, _, ⟨T169, L169, k169, n169⟩, -, X169, ⟨Lc169, hQ169, l169, y169, z169⟩, st169⟩ := Jvm.LawKit.callS X154 hx (y := (⟨"com/example/covenantry/covenantry/text/PhrasesAfterLastMarkPinLaw", "isMark", "(CICC)Z"⟩ : MethodName)) hown (mvT hZ (hw _ (List.mem_of_getElem? (i := 41) rfl))) (mvT hZ (hw _ (List.mem_of_getElem? (i := 42) rfl))) (mvT hZ (hw _ (List.mem_of_getElem? (i := 43) rfl))) (mvT hZ (hw _ (List.mem_of_getElem? (i := 44) rfl))) (by decide) (backOf (W := 0) (rm72 l Z a0 hw hEL wS [] c3 m0 m1 T138.heap n0 (Nat.le_trans Z0 Kp142.1) ) hZ (hw _ (List.mem_of_getElem? (i := 44) rfl)) (hw _ (List.mem_of_getElem? (i := 43) rfl)) (by decide) (by decide)) (g := (mkF m 296 #[.val (.int te), .val (.int ma), .val (.int s_), .val (.int e_), .val (.int c0), .val (.int c1), .val (.int c2), .val (.int c3), .val (.ref b1), .val (.int m0), .val (.int m1), .val (.int (2 : Int32)), .val (.ref b118), .val (.int x_), .val (.int y_), .val (.int lo), .val (.int hi), .val (.int r3)] [(.int m1), (.int m0), (.int (2 : Int32)), (.int c3)])) rfl (by rw [hml]; rfl) (argsL := [(.int c3), (.int (2 : Int32)), (.int m0), (.int m1)]) (rest := []) (lenOf pd_302 rfl) rfl (by show 2 * 0 + _ ≤ _; exact Nat.le_of_eq rfl) (hb hby at_296) (fun _ _ => ⟨rfl, e154, (by decide : 6 + 0 ≤ _), (by decide : 20 + 0 ≤ _)⟩)
              dsimp only [Pt.U, Pt.locs, Pt.cells, Pt.slots] at X169 l169 y169 z169 st169 hQ169
              subst l169 y169 z169
              obtain ⟨rfl, N169q, e169⟩ := hQ169
              have N169 := Fr.app N154 N169q
              refine OwnFin.step st169 ?_
              show OwnFin p e below _ (T169.setTop (mkF m 299 #[.val (.int te), .val (.int ma), .val (.int s_), .val (.int e_), .val (.int c0), .val (.int c1), .val (.int c2), .val (.int c3), .val (.ref b1), .val (.int m0), .val (.int m1), .val (.int (2 : Int32)), .val (.ref b118), .val (.int x_), .val (.int y_), .val (.int lo), .val (.int hi), .val (.int r3)] [(.int (if c3 = m0 ∨ c3 = m1 then 1 else 0))]))
              by_cases hc170 : (c3 = m0 ∨ c3 = m1)
              · skip
                rw [if_pos hc170]
                show OwnFin p e below _ (T169.setTop (mkF m 299 #[.val (.int te), .val (.int ma), .val (.int s_), .val (.int e_), .val (.int c0), .val (.int c1), .val (.int c2), .val (.int c3), .val (.ref b1), .val (.int m0), .val (.int m1), .val (.int (2 : Int32)), .val (.ref b118), .val (.int x_), .val (.int y_), .val (.int lo), .val (.int hi), .val (.int r3)] [(.int (1 : Int32))]))
                refine OwnFin.step (fun tT kK => XS.ifNo X169.here hx rfl (hb hby at_299) rfl ((if0 _ _).trans (feq (by decide : ¬ ((1 : Int32) = (0 : Int32)))).1) kK) ?_
                show OwnFin p e below _ (T169.setTop (mkF m 302 #[.val (.int te), .val (.int ma), .val (.int s_), .val (.int e_), .val (.int c0), .val (.int c1), .val (.int c2), .val (.int c3), .val (.ref b1), .val (.int m0), .val (.int m1), .val (.int (2 : Int32)), .val (.ref b118), .val (.int x_), .val (.int y_), .val (.int lo), .val (.int hi), .val (.int r3)] []))
                refine OwnFin.step (fun tT kK => XS.iconst X169.here hx rfl (hb hby at_302) kK) ?_
                show OwnFin p e below _ (T169.setTop (mkF m 303 #[.val (.int te), .val (.int ma), .val (.int s_), .val (.int e_), .val (.int c0), .val (.int c1), .val (.int c2), .val (.int c3), .val (.ref b1), .val (.int m0), .val (.int m1), .val (.int (2 : Int32)), .val (.ref b118), .val (.int x_), .val (.int y_), .val (.int lo), .val (.int hi), .val (.int r3)] [(.int (4 : Int32))]))
                refine OwnFin.step (fun tT kK => XS.istore X169.here hx rfl (hb hby at_303) rfl (l' := #[.val (.int te), .val (.int ma), .val (.int s_), .val (.int e_), .val (.int c0), .val (.int c1), .val (.int c2), .val (.int c3), .val (.ref b1), .val (.int m0), .val (.int m1), .val (.int (2 : Int32)), .val (.ref b118), .val (.int x_), .val (.int y_), .val (.int lo), .val (.int hi), .val (.int (4 : Int32))]) rfl kK) ?_
                exact key156 _ _ X169 e169 N169 (4 : Int32) (by simp [OwnS, hc167, hc168, hc170])
              · skip
                rw [if_neg hc170]
                show OwnFin p e below _ (T169.setTop (mkF m 299 #[.val (.int te), .val (.int ma), .val (.int s_), .val (.int e_), .val (.int c0), .val (.int c1), .val (.int c2), .val (.int c3), .val (.ref b1), .val (.int m0), .val (.int m1), .val (.int (2 : Int32)), .val (.ref b118), .val (.int x_), .val (.int y_), .val (.int lo), .val (.int hi), .val (.int r3)] [(.int (0 : Int32))]))
                refine OwnFin.step (fun tT kK => XS.ifYes X169.here hx rfl (pc0 := 299) (pc' := 305) rfl (hb hby at_299) rfl ((if0 _ _).trans (teq (rfl : (0 : Int32) = (0 : Int32))).1) (by decide) (by decide) kK) ?_
                show OwnFin p e below _ (T169.setTop (mkF m 305 #[.val (.int te), .val (.int ma), .val (.int s_), .val (.int e_), .val (.int c0), .val (.int c1), .val (.int c2), .val (.int c3), .val (.ref b1), .val (.int m0), .val (.int m1), .val (.int (2 : Int32)), .val (.ref b118), .val (.int x_), .val (.int y_), .val (.int lo), .val (.int hi), .val (.int r3)] []))
                exact key156 _ _ X169 e169 N169 r3 (by simp [OwnS, hc170])
            · skip
              refine OwnFin.step (fun tT kK => XS.icmpYes X154.here hx rfl (pc0 := 285) (pc' := 305) rfl (hb hby at_285) rfl (flt (hc168 : ¬ ((3 : Int32) < hi))).2.1 (by decide) (by decide) kK) ?_
              show OwnFin p e below _ (T154.setTop (mkF m 305 #[.val (.int te), .val (.int ma), .val (.int s_), .val (.int e_), .val (.int c0), .val (.int c1), .val (.int c2), .val (.int c3), .val (.ref b1), .val (.int m0), .val (.int m1), .val (.int (2 : Int32)), .val (.ref b118), .val (.int x_), .val (.int y_), .val (.int lo), .val (.int hi), .val (.int r3)] []))
              exact key156 _ _ X154 e154 N154 r3 (by simp [OwnS, hc168])
        refine OwnFin.step (fun tT kK => XS.iload X151.here hx rfl (hb hby at_247) rfl kK) ?_
        show OwnFin p e below _ (T151.setTop (mkF m 249 #[.val (.int te), .val (.int ma), .val (.int s_), .val (.int e_), .val (.int c0), .val (.int c1), .val (.int c2), .val (.int c3), .val (.ref b1), .val (.int m0), .val (.int m1), .val (.int (2 : Int32)), .val (.ref b118), .val (.int x_), .val (.int y_), .val (.int lo), .val (.int hi), .val (.int r2)] [(.int lo)]))
        refine OwnFin.step (fun tT kK => XS.iconst X151.here hx rfl (hb hby at_249) kK) ?_
        by_cases hc171 : (2 : Int32) < lo
        · skip
          refine OwnFin.step (fun tT kK => XS.icmpYes X151.here hx rfl (pc0 := 250) (pc' := 276) rfl (hb hby at_250) rfl (tlt (hc171 : (2 : Int32) < lo)).2.2.1 (by decide) (by decide) kK) ?_
          show OwnFin p e below _ (T151.setTop (mkF m 276 #[.val (.int te), .val (.int ma), .val (.int s_), .val (.int e_), .val (.int c0), .val (.int c1), .val (.int c2), .val (.int c3), .val (.ref b1), .val (.int m0), .val (.int m1), .val (.int (2 : Int32)), .val (.ref b118), .val (.int x_), .val (.int y_), .val (.int lo), .val (.int hi), .val (.int r2)] []))
          exact key153 _ _ X151 e151 N151 r2 (by simp [OwnS, hc171])
        · skip
          refine OwnFin.step (fun tT kK => XS.icmpNo X151.here hx rfl (hb hby at_250) rfl (flt (hc171 : ¬ ((2 : Int32) < lo))).2.2.1 kK) ?_
          show OwnFin p e below _ (T151.setTop (mkF m 253 #[.val (.int te), .val (.int ma), .val (.int s_), .val (.int e_), .val (.int c0), .val (.int c1), .val (.int c2), .val (.int c3), .val (.ref b1), .val (.int m0), .val (.int m1), .val (.int (2 : Int32)), .val (.ref b118), .val (.int x_), .val (.int y_), .val (.int lo), .val (.int hi), .val (.int r2)] []))
          refine OwnFin.step (fun tT kK => XS.iconst X151.here hx rfl (hb hby at_253) kK) ?_
          show OwnFin p e below _ (T151.setTop (mkF m 254 #[.val (.int te), .val (.int ma), .val (.int s_), .val (.int e_), .val (.int c0), .val (.int c1), .val (.int c2), .val (.int c3), .val (.ref b1), .val (.int m0), .val (.int m1), .val (.int (2 : Int32)), .val (.ref b118), .val (.int x_), .val (.int y_), .val (.int lo), .val (.int hi), .val (.int r2)] [(.int (2 : Int32))]))
          refine OwnFin.step (fun tT kK => XS.iload X151.here hx rfl (hb hby at_254) rfl kK) ?_
          by_cases hc172 : (2 : Int32) < hi
          · skip
            refine OwnFin.step (fun tT kK => XS.icmpNo X151.here hx rfl (hb hby at_256) rfl (tlt (hc172 : (2 : Int32) < hi)).2.1 kK) ?_
            show OwnFin p e below _ (T151.setTop (mkF m 259 #[.val (.int te), .val (.int ma), .val (.int s_), .val (.int e_), .val (.int c0), .val (.int c1), .val (.int c2), .val (.int c3), .val (.ref b1), .val (.int m0), .val (.int m1), .val (.int (2 : Int32)), .val (.ref b118), .val (.int x_), .val (.int y_), .val (.int lo), .val (.int hi), .val (.int r2)] []))
            refine OwnFin.step (fun tT kK => XS.iload X151.here hx rfl (hb hby at_259) rfl kK) ?_
            show OwnFin p e below _ (T151.setTop (mkF m 261 #[.val (.int te), .val (.int ma), .val (.int s_), .val (.int e_), .val (.int c0), .val (.int c1), .val (.int c2), .val (.int c3), .val (.ref b1), .val (.int m0), .val (.int m1), .val (.int (2 : Int32)), .val (.ref b118), .val (.int x_), .val (.int y_), .val (.int lo), .val (.int hi), .val (.int r2)] [(.int c2)]))
            refine OwnFin.step (fun tT kK => XS.iload X151.here hx rfl (hb hby at_261) rfl kK) ?_
            refine OwnFin.step (fun tT kK => XS.iload X151.here hx rfl (hb hby at_263) rfl kK) ?_
            show OwnFin p e below _ (T151.setTop (mkF m 265 #[.val (.int te), .val (.int ma), .val (.int s_), .val (.int e_), .val (.int c0), .val (.int c1), .val (.int c2), .val (.int c3), .val (.ref b1), .val (.int m0), .val (.int m1), .val (.int (2 : Int32)), .val (.ref b118), .val (.int x_), .val (.int y_), .val (.int lo), .val (.int hi), .val (.int r2)] [(.int m0), (.int (2 : Int32)), (.int c2)]))
            refine OwnFin.step (fun tT kK => XS.iload X151.here hx rfl (hb hby at_265) rfl kK) ?_
            obtain ⟨_, _, ⟨T173, L173, k173, n173⟩, -, X173, ⟨Lc173, hQ173, l173, y173, z173⟩, st173⟩ := Jvm.LawKit.callS X151 hx (y := (⟨"com/example/covenantry/covenantry/text/PhrasesAfterLastMarkPinLaw", "isMark", "(CICC)Z"⟩ : MethodName)) hown (mvT hZ (hw _ (List.mem_of_getElem? (i := 41) rfl))) (mvT hZ (hw _ (List.mem_of_getElem? (i := 42) rfl))) (mvT hZ (hw _ (List.mem_of_getElem? (i := 43) rfl))) (mvT hZ (hw _ (List.mem_of_getElem? (i := 44) rfl))) (by decide) (backOf (W := 0) (rm72 l Z a0 hw hEL wS [] c2 m0 m1 T138.heap n0 (Nat.le_trans Z0 Kp142.1) ) hZ (hw _ (List.mem_of_getElem? (i := 44) rfl)) (hw _ (List.mem_of_getElem? (i := 43) rfl)) (by decide) (by decide)) (g := (mkF m 267 #[.val (.int te), .val (.int ma), .val (.int s_), .val (.int e_), .val (.int c0), .val (.int c1), .val (.int c2), .val (.int c3), .val (.ref b1), .val (.int m0), .val (.int m1), .val (.int (2 : Int32)), .val (.ref b118), .val (.int x_), .val (.int y_), .val (.int lo), .val (.int hi), .val (.int r2)] [(.int m1), (.int m0), (.int (2 : Int32)), (.int c2)])) rfl (by rw [hml]; rfl) (argsL := [(.int c2), (.int (2 : Int32)), (.int m0), (.int m1)]) (rest := []) (lenOf pd_302 rfl) rfl (by show 2 * 0 + _ ≤ _; exact Nat.le_of_eq rfl) (hb hby at_267) (fun _ _ => ⟨rfl, e151, (by decide : 6 + 0 ≤ _), (by decide : 20 + 0 ≤ _)⟩)
            dsimp only [Pt.U, Pt.locs, Pt.cells, Pt.slots] at X173 l173 y173 z173 st173 hQ173
            subst l173 y173 z173
            obtain ⟨rfl, N173q, e173⟩ := hQ173
            have N173 := Fr.app N151 N173q
            refine OwnFin.step st173 ?_
            show OwnFin p e below _ (T173.setTop (mkF m 270 #[.val (.int te), .val (.int ma), .val (.int s_), .val (.int e_), .val (.int c0), .val (.int c1), .val (.int c2), .val (.int c3), .val (.ref b1), .val (.int m0), .val (.int m1), .val (.int (2 : Int32)), .val (.ref b118), .val (.int x_), .val (.int y_), .val (.int lo), .val (.int hi), .val (.int r2)] [(.int (if c2 = m0 ∨ c2 = m1 then 1 else 0))]))
            by_cases hc174 : (c2 = m0 ∨ c2 = m1)
            · skip
              rw [if_pos hc174]
              show OwnFin p e below _ (T173.setTop (mkF m 270 #[.val (.int te), .val (.int ma), .val (.int s_), .val (.int e_), .val (.int c0), .val (.int c1), .val (.int c2), .val (.int c3), .val (.ref b1), .val (.int m0), .val (.int m1), .val (.int (2 : Int32)), .val (.ref b118), .val (.int x_), .val (.int y_), .val (.int lo), .val (.int hi), .val (.int r2)] [(.int (1 : Int32))]))
              refine OwnFin.step (fun tT kK => XS.ifNo X173.here hx rfl (hb hby at_270) rfl ((if0 _ _).trans (feq (by decide : ¬ ((1 : Int32) = (0 : Int32)))).1) kK) ?_
              show OwnFin p e below _ (T173.setTop (mkF m 273 #[.val (.int te), .val (.int ma), .val (.int s_), .val (.int e_), .val (.int c0), .val (.int c1), .val (.int c2), .val (.int c3), .val (.ref b1), .val (.int m0), .val (.int m1), .val (.int (2 : Int32)), .val (.ref b118), .val (.int x_), .val (.int y_), .val (.int lo), .val (.int hi), .val (.int r2)] []))
              refine OwnFin.step (fun tT kK => XS.iconst X173.here hx rfl (hb hby at_273) kK) ?_
              show OwnFin p e below _ (T173.setTop (mkF m 274 #[.val (.int te), .val (.int ma), .val (.int s_), .val (.int e_), .val (.int c0), .val (.int c1), .val (.int c2), .val (.int c3), .val (.ref b1), .val (.int m0), .val (.int m1), .val (.int (2 : Int32)), .val (.ref b118), .val (.int x_), .val (.int y_), .val (.int lo), .val (.int hi), .val (.int r2)] [(.int (3 : Int32))]))
              refine OwnFin.step (fun tT kK => XS.istore X173.here hx rfl (hb hby at_274) rfl (l' := #[.val (.int te), .val (.int ma), .val (.int s_), .val (.int e_), .val (.int c0), .val (.int c1), .val (.int c2), .val (.int c3), .val (.ref b1), .val (.int m0), .val (.int m1), .val (.int (2 : Int32)), .val (.ref b118), .val (.int x_), .val (.int y_), .val (.int lo), .val (.int hi), .val (.int (3 : Int32))]) rfl kK) ?_
              exact key153 _ _ X173 e173 N173 (3 : Int32) (by simp [OwnS, hc171, hc172, hc174])
            · skip
              rw [if_neg hc174]
              show OwnFin p e below _ (T173.setTop (mkF m 270 #[.val (.int te), .val (.int ma), .val (.int s_), .val (.int e_), .val (.int c0), .val (.int c1), .val (.int c2), .val (.int c3), .val (.ref b1), .val (.int m0), .val (.int m1), .val (.int (2 : Int32)), .val (.ref b118), .val (.int x_), .val (.int y_), .val (.int lo), .val (.int hi), .val (.int r2)] [(.int (0 : Int32))]))
              refine OwnFin.step (fun tT kK => XS.ifYes X173.here hx rfl (pc0 := 270) (pc' := 276) rfl (hb hby at_270) rfl ((if0 _ _).trans (teq (rfl : (0 : Int32) = (0 : Int32))).1) (by decide) (by decide) kK) ?_
              show OwnFin p e below _ (T173.setTop (mkF m 276 #[.val (.int te), .val (.int ma), .val (.int s_), .val (.int e_), .val (.int c0), .val (.int c1), .val (.int c2), .val (.int c3), .val (.ref b1), .val (.int m0), .val (.int m1), .val (.int (2 : Int32)), .val (.ref b118), .val (.int x_), .val (.int y_), .val (.int lo), .val (.int hi), .val (.int r2)] []))
              exact key153 _ _ X173 e173 N173 r2 (by simp [OwnS, hc174])
          · skip
            refine OwnFin.step (fun tT kK => XS.icmpYes X151.here hx rfl (pc0 := 256) (pc' := 276) rfl (hb hby at_256) rfl (flt (hc172 : ¬ ((2 : Int32) < hi))).2.1 (by decide) (by decide) kK) ?_
            show OwnFin p e below _ (T151.setTop (mkF m 276 #[.val (.int te), .val (.int ma), .val (.int s_), .val (.int e_), .val (.int c0), .val (.int c1), .val (.int c2), .val (.int c3), .val (.ref b1), .val (.int m0), .val (.int m1), .val (.int (2 : Int32)), .val (.ref b118), .val (.int x_), .val (.int y_), .val (.int lo), .val (.int hi), .val (.int r2)] []))
            exact key153 _ _ X151 e151 N151 r2 (by simp [OwnS, hc172])
      refine OwnFin.step (fun tT kK => XS.iload X148.here hx rfl (hb hby at_218) rfl kK) ?_
      show OwnFin p e below _ (T148.setTop (mkF m 220 #[.val (.int te), .val (.int ma), .val (.int s_), .val (.int e_), .val (.int c0), .val (.int c1), .val (.int c2), .val (.int c3), .val (.ref b1), .val (.int m0), .val (.int m1), .val (.int (2 : Int32)), .val (.ref b118), .val (.int x_), .val (.int y_), .val (.int lo), .val (.int hi), .val (.int r1)] [(.int lo)]))
      refine OwnFin.step (fun tT kK => XS.iconst X148.here hx rfl (hb hby at_220) kK) ?_
      by_cases hc175 : (1 : Int32) < lo
      · skip
        refine OwnFin.step (fun tT kK => XS.icmpYes X148.here hx rfl (pc0 := 221) (pc' := 247) rfl (hb hby at_221) rfl (tlt (hc175 : (1 : Int32) < lo)).2.2.1 (by decide) (by decide) kK) ?_
        show OwnFin p e below _ (T148.setTop (mkF m 247 #[.val (.int te), .val (.int ma), .val (.int s_), .val (.int e_), .val (.int c0), .val (.int c1), .val (.int c2), .val (.int c3), .val (.ref b1), .val (.int m0), .val (.int m1), .val (.int (2 : Int32)), .val (.ref b118), .val (.int x_), .val (.int y_), .val (.int lo), .val (.int hi), .val (.int r1)] []))
        exact key150 _ _ X148 e148 N148 r1 (by simp [OwnS, hc175])
      · skip
        refine OwnFin.step (fun tT kK => XS.icmpNo X148.here hx rfl (hb hby at_221) rfl (flt (hc175 : ¬ ((1 : Int32) < lo))).2.2.1 kK) ?_
        show OwnFin p e below _ (T148.setTop (mkF m 224 #[.val (.int te), .val (.int ma), .val (.int s_), .val (.int e_), .val (.int c0), .val (.int c1), .val (.int c2), .val (.int c3), .val (.ref b1), .val (.int m0), .val (.int m1), .val (.int (2 : Int32)), .val (.ref b118), .val (.int x_), .val (.int y_), .val (.int lo), .val (.int hi), .val (.int r1)] []))
        refine OwnFin.step (fun tT kK => XS.iconst X148.here hx rfl (hb hby at_224) kK) ?_
        show OwnFin p e below _ (T148.setTop (mkF m 225 #[.val (.int te), .val (.int ma), .val (.int s_), .val (.int e_), .val (.int c0), .val (.int c1), .val (.int c2), .val (.int c3), .val (.ref b1), .val (.int m0), .val (.int m1), .val (.int (2 : Int32)), .val (.ref b118), .val (.int x_), .val (.int y_), .val (.int lo), .val (.int hi), .val (.int r1)] [(.int (1 : Int32))]))
        refine OwnFin.step (fun tT kK => XS.iload X148.here hx rfl (hb hby at_225) rfl kK) ?_
        by_cases hc176 : (1 : Int32) < hi
        · skip
          refine OwnFin.step (fun tT kK => XS.icmpNo X148.here hx rfl (hb hby at_227) rfl (tlt (hc176 : (1 : Int32) < hi)).2.1 kK) ?_
          show OwnFin p e below _ (T148.setTop (mkF m 230 #[.val (.int te), .val (.int ma), .val (.int s_), .val (.int e_), .val (.int c0), .val (.int c1), .val (.int c2), .val (.int c3), .val (.ref b1), .val (.int m0), .val (.int m1), .val (.int (2 : Int32)), .val (.ref b118), .val (.int x_), .val (.int y_), .val (.int lo), .val (.int hi), .val (.int r1)] []))
          refine OwnFin.step (fun tT kK => XS.iload X148.here hx rfl (hb hby at_230) rfl kK) ?_
          show OwnFin p e below _ (T148.setTop (mkF m 232 #[.val (.int te), .val (.int ma), .val (.int s_), .val (.int e_), .val (.int c0), .val (.int c1), .val (.int c2), .val (.int c3), .val (.ref b1), .val (.int m0), .val (.int m1), .val (.int (2 : Int32)), .val (.ref b118), .val (.int x_), .val (.int y_), .val (.int lo), .val (.int hi), .val (.int r1)] [(.int c1)]))
          refine OwnFin.step (fun tT kK => XS.iload X148.here hx rfl (hb hby at_232) rfl kK) ?_
          refine OwnFin.step (fun tT kK => XS.iload X148.here hx rfl (hb hby at_234) rfl kK) ?_
          show OwnFin p e below _ (T148.setTop (mkF m 236 #[.val (.int te), .val (.int ma), .val (.int s_), .val (.int e_), .val (.int c0), .val (.int c1), .val (.int c2), .val (.int c3), .val (.ref b1), .val (.int m0), .val (.int m1), .val (.int (2 : Int32)), .val (.ref b118), .val (.int x_), .val (.int y_), .val (.int lo), .val (.int hi), .val (.int r1)] [(.int m0), (.int (2 : Int32)), (.int c1)]))
          refine OwnFin.step (fun tT kK => XS.iload X148.here hx rfl (hb hby at_236) rfl kK) ?_
          obtain ⟨_, _, ⟨T177, L177, k177, n177⟩, -, X177, ⟨Lc177, hQ177, l177, y177, z177⟩, st177⟩ := Jvm.LawKit.callS X148 hx (y := (⟨"com/example/covenantry/covenantry/text/PhrasesAfterLastMarkPinLaw", "isMark", "(CICC)Z"⟩ : MethodName)) hown (mvT hZ (hw _ (List.mem_of_getElem? (i := 41) rfl))) (mvT hZ (hw _ (List.mem_of_getElem? (i := 42) rfl))) (mvT hZ (hw _ (List.mem_of_getElem? (i := 43) rfl))) (mvT hZ (hw _ (List.mem_of_getElem? (i := 44) rfl))) (by decide) (backOf (W := 0) (rm72 l Z a0 hw hEL wS [] c1 m0 m1 T138.heap n0 (Nat.le_trans Z0 Kp142.1) ) hZ (hw _ (List.mem_of_getElem? (i := 44) rfl)) (hw _ (List.mem_of_getElem? (i := 43) rfl)) (by decide) (by decide)) (g := (mkF m 238 #[.val (.int te), .val (.int ma), .val (.int s_), .val (.int e_), .val (.int c0), .val (.int c1), .val (.int c2), .val (.int c3), .val (.ref b1), .val (.int m0), .val (.int m1), .val (.int (2 : Int32)), .val (.ref b118), .val (.int x_), .val (.int y_), .val (.int lo), .val (.int hi), .val (.int r1)] [(.int m1), (.int m0), (.int (2 : Int32)), (.int c1)])) rfl (by rw [hml]; rfl) (argsL := [(.int c1), (.int (2 : Int32)), (.int m0), (.int m1)]) (rest := []) (lenOf pd_302 rfl) rfl (by show 2 * 0 + _ ≤ _; exact Nat.le_of_eq rfl) (hb hby at_238) (fun _ _ => ⟨rfl, e148, (by decide : 6 + 0 ≤ _), (by decide : 20 + 0 ≤ _)⟩)
          dsimp only [Pt.U, Pt.locs, Pt.cells, Pt.slots] at X177 l177 y177 z177 st177 hQ177
          subst l177 y177 z177
          obtain ⟨rfl, N177q, e177⟩ := hQ177
          have N177 := Fr.app N148 N177q
          refine OwnFin.step st177 ?_
          show OwnFin p e below _ (T177.setTop (mkF m 241 #[.val (.int te), .val (.int ma), .val (.int s_), .val (.int e_), .val (.int c0), .val (.int c1), .val (.int c2), .val (.int c3), .val (.ref b1), .val (.int m0), .val (.int m1), .val (.int (2 : Int32)), .val (.ref b118), .val (.int x_), .val (.int y_), .val (.int lo), .val (.int hi), .val (.int r1)] [(.int (if c1 = m0 ∨ c1 = m1 then 1 else 0))]))
          by_cases hc178 : (c1 = m0 ∨ c1 = m1)
          · skip
            rw [if_pos hc178]
            show OwnFin p e below _ (T177.setTop (mkF m 241 #[.val (.int te), .val (.int ma), .val (.int s_), .val (.int e_), .val (.int c0), .val (.int c1), .val (.int c2), .val (.int c3), .val (.ref b1), .val (.int m0), .val (.int m1), .val (.int (2 : Int32)), .val (.ref b118), .val (.int x_), .val (.int y_), .val (.int lo), .val (.int hi), .val (.int r1)] [(.int (1 : Int32))]))
            refine OwnFin.step (fun tT kK => XS.ifNo X177.here hx rfl (hb hby at_241) rfl ((if0 _ _).trans (feq (by decide : ¬ ((1 : Int32) = (0 : Int32)))).1) kK) ?_
            show OwnFin p e below _ (T177.setTop (mkF m 244 #[.val (.int te), .val (.int ma), .val (.int s_), .val (.int e_), .val (.int c0), .val (.int c1), .val (.int c2), .val (.int c3), .val (.ref b1), .val (.int m0), .val (.int m1), .val (.int (2 : Int32)), .val (.ref b118), .val (.int x_), .val (.int y_), .val (.int lo), .val (.int hi), .val (.int r1)] []))
            refine OwnFin.step (fun tT kK => XS.iconst X177.here hx rfl (hb hby at_244) kK) ?_
            show OwnFin p e below _ (T177.setTop (mkF m 245 #[.val (.int te), .val (.int ma), .val (.int s_), .val (.int e_), .val (.int c0), .val (.int c1), .val (.int c2), .val (.int c3), .val (.ref b1), .val (.int m0), .val (.int m1), .val (.int (2 : Int32)), .val (.ref b118), .val (.int x_), .val (.int y_), .val (.int lo), .val (.int hi), .val (.int r1)] [(.int (2 : Int32))]))
            refine OwnFin.step (fun tT kK => XS.istore X177.here hx rfl (hb hby at_245) rfl (l' := #[.val (.int te), .val (.int ma), .val (.int s_), .val (.int e_), .val (.int c0), .val (.int c1), .val (.int c2), .val (.int c3), .val (.ref b1), .val (.int m0), .val (.int m1), .val (.int (2 : Int32)), .val (.ref b118), .val (.int x_), .val (.int y_), .val (.int lo), .val (.int hi), .val (.int (2 : Int32))]) rfl kK) ?_
            exact key150 _ _ X177 e177 N177 (2 : Int32) (by simp [OwnS, hc175, hc176, hc178])
          · skip
            rw [if_neg hc178]
            show OwnFin p e below _ (T177.setTop (mkF m 241 #[.val (.int te), .val (.int ma), .val (.int s_), .val (.int e_), .val (.int c0), .val (.int c1), .val (.int c2), .val (.int c3), .val (.ref b1), .val (.int m0), .val (.int m1), .val (.int (2 : Int32)), .val (.ref b118), .val (.int x_), .val (.int y_), .val (.int lo), .val (.int hi), .val (.int r1)] [(.int (0 : Int32))]))
            refine OwnFin.step (fun tT kK => XS.ifYes X177.here hx rfl (pc0 := 241) (pc' := 247) rfl (hb hby at_241) rfl ((if0 _ _).trans (teq (rfl : (0 : Int32) = (0 : Int32))).1) (by decide) (by decide) kK) ?_
            show OwnFin p e below _ (T177.setTop (mkF m 247 #[.val (.int te), .val (.int ma), .val (.int s_), .val (.int e_), .val (.int c0), .val (.int c1), .val (.int c2), .val (.int c3), .val (.ref b1), .val (.int m0), .val (.int m1), .val (.int (2 : Int32)), .val (.ref b118), .val (.int x_), .val (.int y_), .val (.int lo), .val (.int hi), .val (.int r1)] []))
            exact key150 _ _ X177 e177 N177 r1 (by simp [OwnS, hc178])
        · skip
          refine OwnFin.step (fun tT kK => XS.icmpYes X148.here hx rfl (pc0 := 227) (pc' := 247) rfl (hb hby at_227) rfl (flt (hc176 : ¬ ((1 : Int32) < hi))).2.1 (by decide) (by decide) kK) ?_
          show OwnFin p e below _ (T148.setTop (mkF m 247 #[.val (.int te), .val (.int ma), .val (.int s_), .val (.int e_), .val (.int c0), .val (.int c1), .val (.int c2), .val (.int c3), .val (.ref b1), .val (.int m0), .val (.int m1), .val (.int (2 : Int32)), .val (.ref b118), .val (.int x_), .val (.int y_), .val (.int lo), .val (.int hi), .val (.int r1)] []))
          exact key150 _ _ X148 e148 N148 r1 (by simp [OwnS, hc176])
    refine OwnFin.step (fun tT kK => XS.iload X146.here hx rfl (hb hby at_190) rfl kK) ?_
    show OwnFin p e below _ (T146.setTop (mkF m 192 #[.val (.int te), .val (.int ma), .val (.int s_), .val (.int e_), .val (.int c0), .val (.int c1), .val (.int c2), .val (.int c3), .val (.ref b1), .val (.int m0), .val (.int m1), .val (.int (2 : Int32)), .val (.ref b118), .val (.int x_), .val (.int y_), .val (.int lo), .val (.int hi), .val (.int lo)] [(.int lo)]))
    by_cases hc179 : (0 : Int32) < lo
    · skip
      refine OwnFin.step (fun tT kK => XS.ifYes X146.here hx rfl (pc0 := 192) (pc' := 218) rfl (hb hby at_192) rfl ((if0 _ _).trans (tlt (hc179 : (0 : Int32) < lo)).2.2.1) (by decide) (by decide) kK) ?_
      show OwnFin p e below _ (T146.setTop (mkF m 218 #[.val (.int te), .val (.int ma), .val (.int s_), .val (.int e_), .val (.int c0), .val (.int c1), .val (.int c2), .val (.int c3), .val (.ref b1), .val (.int m0), .val (.int m1), .val (.int (2 : Int32)), .val (.ref b118), .val (.int x_), .val (.int y_), .val (.int lo), .val (.int hi), .val (.int lo)] []))
      exact key147 _ _ X146 e146 N146 lo (by simp [OwnS, hc179])
    · skip
      refine OwnFin.step (fun tT kK => XS.ifNo X146.here hx rfl (hb hby at_192) rfl ((if0 _ _).trans (flt (hc179 : ¬ ((0 : Int32) < lo))).2.2.1) kK) ?_
      show OwnFin p e below _ (T146.setTop (mkF m 195 #[.val (.int te), .val (.int ma), .val (.int s_), .val (.int e_), .val (.int c0), .val (.int c1), .val (.int c2), .val (.int c3), .val (.ref b1), .val (.int m0), .val (.int m1), .val (.int (2 : Int32)), .val (.ref b118), .val (.int x_), .val (.int y_), .val (.int lo), .val (.int hi), .val (.int lo)] []))
      refine OwnFin.step (fun tT kK => XS.iconst X146.here hx rfl (hb hby at_195) kK) ?_
      refine OwnFin.step (fun tT kK => XS.iload X146.here hx rfl (hb hby at_196) rfl kK) ?_
      show OwnFin p e below _ (T146.setTop (mkF m 198 #[.val (.int te), .val (.int ma), .val (.int s_), .val (.int e_), .val (.int c0), .val (.int c1), .val (.int c2), .val (.int c3), .val (.ref b1), .val (.int m0), .val (.int m1), .val (.int (2 : Int32)), .val (.ref b118), .val (.int x_), .val (.int y_), .val (.int lo), .val (.int hi), .val (.int lo)] [(.int hi), (.int (0 : Int32))]))
      by_cases hc180 : (0 : Int32) < hi
      · skip
        refine OwnFin.step (fun tT kK => XS.icmpNo X146.here hx rfl (hb hby at_198) rfl (tlt (hc180 : (0 : Int32) < hi)).2.1 kK) ?_
        show OwnFin p e below _ (T146.setTop (mkF m 201 #[.val (.int te), .val (.int ma), .val (.int s_), .val (.int e_), .val (.int c0), .val (.int c1), .val (.int c2), .val (.int c3), .val (.ref b1), .val (.int m0), .val (.int m1), .val (.int (2 : Int32)), .val (.ref b118), .val (.int x_), .val (.int y_), .val (.int lo), .val (.int hi), .val (.int lo)] []))
        refine OwnFin.step (fun tT kK => XS.iload X146.here hx rfl (hb hby at_201) rfl kK) ?_
        refine OwnFin.step (fun tT kK => XS.iload X146.here hx rfl (hb hby at_203) rfl kK) ?_
        show OwnFin p e below _ (T146.setTop (mkF m 205 #[.val (.int te), .val (.int ma), .val (.int s_), .val (.int e_), .val (.int c0), .val (.int c1), .val (.int c2), .val (.int c3), .val (.ref b1), .val (.int m0), .val (.int m1), .val (.int (2 : Int32)), .val (.ref b118), .val (.int x_), .val (.int y_), .val (.int lo), .val (.int hi), .val (.int lo)] [(.int (2 : Int32)), (.int c0)]))
        refine OwnFin.step (fun tT kK => XS.iload X146.here hx rfl (hb hby at_205) rfl kK) ?_
        refine OwnFin.step (fun tT kK => XS.iload X146.here hx rfl (hb hby at_207) rfl kK) ?_
        show OwnFin p e below _ (T146.setTop (mkF m 209 #[.val (.int te), .val (.int ma), .val (.int s_), .val (.int e_), .val (.int c0), .val (.int c1), .val (.int c2), .val (.int c3), .val (.ref b1), .val (.int m0), .val (.int m1), .val (.int (2 : Int32)), .val (.ref b118), .val (.int x_), .val (.int y_), .val (.int lo), .val (.int hi), .val (.int lo)] [(.int m1), (.int m0), (.int (2 : Int32)), (.int c0)]))
        obtain ⟨_, _, ⟨T181, L181, k181, n181⟩, -, X181, ⟨Lc181, hQ181, l181, y181, z181⟩, st181⟩ := Jvm.LawKit.callS X146 hx (y := (⟨"com/example/covenantry/covenantry/text/PhrasesAfterLastMarkPinLaw", "isMark", "(CICC)Z"⟩ : MethodName)) hown (mvT hZ (hw _ (List.mem_of_getElem? (i := 41) rfl))) (mvT hZ (hw _ (List.mem_of_getElem? (i := 42) rfl))) (mvT hZ (hw _ (List.mem_of_getElem? (i := 43) rfl))) (mvT hZ (hw _ (List.mem_of_getElem? (i := 44) rfl))) (by decide) (backOf (W := 0) (rm72 l Z a0 hw hEL wS [] c0 m0 m1 T138.heap n0 (Nat.le_trans Z0 Kp142.1) ) hZ (hw _ (List.mem_of_getElem? (i := 44) rfl)) (hw _ (List.mem_of_getElem? (i := 43) rfl)) (by decide) (by decide)) (g := (mkF m 209 #[.val (.int te), .val (.int ma), .val (.int s_), .val (.int e_), .val (.int c0), .val (.int c1), .val (.int c2), .val (.int c3), .val (.ref b1), .val (.int m0), .val (.int m1), .val (.int (2 : Int32)), .val (.ref b118), .val (.int x_), .val (.int y_), .val (.int lo), .val (.int hi), .val (.int lo)] [(.int m1), (.int m0), (.int (2 : Int32)), (.int c0)])) rfl (by rw [hml]; rfl) (argsL := [(.int c0), (.int (2 : Int32)), (.int m0), (.int m1)]) (rest := []) (lenOf pd_302 rfl) rfl (by show 2 * 0 + _ ≤ _; exact Nat.le_of_eq rfl) (hb hby at_209) (fun _ _ => ⟨rfl, e146, (by decide : 6 + 0 ≤ _), (by decide : 20 + 0 ≤ _)⟩)
        dsimp only [Pt.U, Pt.locs, Pt.cells, Pt.slots] at X181 l181 y181 z181 st181 hQ181
        subst l181 y181 z181
        obtain ⟨rfl, N181q, e181⟩ := hQ181
        have N181 := Fr.app N146 N181q
        refine OwnFin.step st181 ?_
        show OwnFin p e below _ (T181.setTop (mkF m 212 #[.val (.int te), .val (.int ma), .val (.int s_), .val (.int e_), .val (.int c0), .val (.int c1), .val (.int c2), .val (.int c3), .val (.ref b1), .val (.int m0), .val (.int m1), .val (.int (2 : Int32)), .val (.ref b118), .val (.int x_), .val (.int y_), .val (.int lo), .val (.int hi), .val (.int lo)] [(.int (if c0 = m0 ∨ c0 = m1 then 1 else 0))]))
        by_cases hc182 : (c0 = m0 ∨ c0 = m1)
        · skip
          rw [if_pos hc182]
          show OwnFin p e below _ (T181.setTop (mkF m 212 #[.val (.int te), .val (.int ma), .val (.int s_), .val (.int e_), .val (.int c0), .val (.int c1), .val (.int c2), .val (.int c3), .val (.ref b1), .val (.int m0), .val (.int m1), .val (.int (2 : Int32)), .val (.ref b118), .val (.int x_), .val (.int y_), .val (.int lo), .val (.int hi), .val (.int lo)] [(.int (1 : Int32))]))
          refine OwnFin.step (fun tT kK => XS.ifNo X181.here hx rfl (hb hby at_212) rfl ((if0 _ _).trans (feq (by decide : ¬ ((1 : Int32) = (0 : Int32)))).1) kK) ?_
          show OwnFin p e below _ (T181.setTop (mkF m 215 #[.val (.int te), .val (.int ma), .val (.int s_), .val (.int e_), .val (.int c0), .val (.int c1), .val (.int c2), .val (.int c3), .val (.ref b1), .val (.int m0), .val (.int m1), .val (.int (2 : Int32)), .val (.ref b118), .val (.int x_), .val (.int y_), .val (.int lo), .val (.int hi), .val (.int lo)] []))
          refine OwnFin.step (fun tT kK => XS.iconst X181.here hx rfl (hb hby at_215) kK) ?_
          refine OwnFin.step (fun tT kK => XS.istore X181.here hx rfl (hb hby at_216) rfl (l' := #[.val (.int te), .val (.int ma), .val (.int s_), .val (.int e_), .val (.int c0), .val (.int c1), .val (.int c2), .val (.int c3), .val (.ref b1), .val (.int m0), .val (.int m1), .val (.int (2 : Int32)), .val (.ref b118), .val (.int x_), .val (.int y_), .val (.int lo), .val (.int hi), .val (.int (1 : Int32))]) rfl kK) ?_
          show OwnFin p e below _ (T181.setTop (mkF m 218 #[.val (.int te), .val (.int ma), .val (.int s_), .val (.int e_), .val (.int c0), .val (.int c1), .val (.int c2), .val (.int c3), .val (.ref b1), .val (.int m0), .val (.int m1), .val (.int (2 : Int32)), .val (.ref b118), .val (.int x_), .val (.int y_), .val (.int lo), .val (.int hi), .val (.int (1 : Int32))] []))
          exact key147 _ _ X181 e181 N181 (1 : Int32) (by simp [OwnS, hc179, hc180, hc182])
        · skip
          rw [if_neg hc182]
          show OwnFin p e below _ (T181.setTop (mkF m 212 #[.val (.int te), .val (.int ma), .val (.int s_), .val (.int e_), .val (.int c0), .val (.int c1), .val (.int c2), .val (.int c3), .val (.ref b1), .val (.int m0), .val (.int m1), .val (.int (2 : Int32)), .val (.ref b118), .val (.int x_), .val (.int y_), .val (.int lo), .val (.int hi), .val (.int lo)] [(.int (0 : Int32))]))
          refine OwnFin.step (fun tT kK => XS.ifYes X181.here hx rfl (pc0 := 212) (pc' := 218) rfl (hb hby at_212) rfl ((if0 _ _).trans (teq (rfl : (0 : Int32) = (0 : Int32))).1) (by decide) (by decide) kK) ?_
          show OwnFin p e below _ (T181.setTop (mkF m 218 #[.val (.int te), .val (.int ma), .val (.int s_), .val (.int e_), .val (.int c0), .val (.int c1), .val (.int c2), .val (.int c3), .val (.ref b1), .val (.int m0), .val (.int m1), .val (.int (2 : Int32)), .val (.ref b118), .val (.int x_), .val (.int y_), .val (.int lo), .val (.int hi), .val (.int lo)] []))
          exact key147 _ _ X181 e181 N181 lo (by simp [OwnS, hc182])
      · skip
        refine OwnFin.step (fun tT kK => XS.icmpYes X146.here hx rfl (pc0 := 198) (pc' := 218) rfl (hb hby at_198) rfl (flt (hc180 : ¬ ((0 : Int32) < hi))).2.1 (by decide) (by decide) kK) ?_
        show OwnFin p e below _ (T146.setTop (mkF m 218 #[.val (.int te), .val (.int ma), .val (.int s_), .val (.int e_), .val (.int c0), .val (.int c1), .val (.int c2), .val (.int c3), .val (.ref b1), .val (.int m0), .val (.int m1), .val (.int (2 : Int32)), .val (.ref b118), .val (.int x_), .val (.int y_), .val (.int lo), .val (.int hi), .val (.int lo)] []))
        exact key147 _ _ X146 e146 N146 lo (by simp [OwnS, hc180])
set_option maxRecDepth 65536 in
set_option maxHeartbeats 40000000 in
theorem comes_1 {Post : Tables → Env → Array Value → State → Outcome → State → Prop} (hpost : ∀ tb e args s v u, (limb_1_1.after args s (.returned v) u = true ∧ limb_1_2.after args s (.returned v) u = true ∧ True) → FramedW s (.returned v) u (Jvm.fieldLocs frame_1_writes args s ++ Jvm.arrayLocs frame_1_arrays args s ++ Jvm.staticLocs frame_1_statics s) 24 1152 → Post tb e args s (.returned v) u) :
    ArmFor flags0 classFile x code maxLocals ret World_1 tables_1 room_1 Calls_1 rest_1 Pre_1 Post := by
  intro l hfl _ _ p e ha hc hk s m args below hf hA hF happ hP
  obtain ⟨hcalls, hrest, hpre⟩ := hP
  obtain ⟨-, -, -, hnamed, -, -, -, hat⟩ := (Spec.applies_iff hf).mp happ
  obtain ⟨hg, hn⟩ := and_e (Cond.before_iff.mp (show (Jvm.Cond.and given_1 narrow_1).before args s = true from hpre))
  obtain ⟨g1, g2⟩ := and_e hg
  obtain ⟨g3, g4⟩ := and_e g2
  obtain ⟨g5, g6⟩ := and_e g4
  obtain ⟨g7, g8⟩ := and_e g6
  obtain ⟨w_0, w_1, w_2, w_3, rfl⟩ : ∃ w_0 w_1 w_2 w_3 : Value, args = #[w_0, w_1, w_2, w_3] := by
    have hs : args.size = 4 := by simpa [Cond.value, given_1] using g1
    obtain ⟨L⟩ := args
    match L, hs with
    | [w_0, w_1, w_2, w_3], _ => exact ⟨w_0, w_1, w_2, w_3, rfl⟩
  have hw := fun d (hd : d ∈ tables_1) => atoms_spec (ws := Jvm.Cond.code x code maxLocals ret :: tables_1) hat d (List.mem_cons_of_mem _ hd)
  have hfit : Fit s := fun {y c} hc i hi => by
    obtain ⟨ha, rfl⟩ := Array.getElem?_eq_some_iff.mp hc
    have q := List.all_eq_true.mp ((Array.all_eq_true_iff_forall_mem.mp hF) _ (Array.getElem_mem ha)) i (List.mem_range.mpr hi)
    simpa [Array.getElem?_eq_getElem hi] using q
  obtain ⟨hsets, hown0⟩ := atoms_of _ (rest_1_c_eq ▸ (show rest_1_c.before _ s = true from hrest))
  have hr0 := Cond.before_iff.mp hown0
  obtain ⟨te, ei0⟩ := is_v g3
  obtain rfl : w_0 = (.int te) := Option.some.inj ei0
  obtain ⟨ma, ei1⟩ := is_v g5
  obtain rfl : w_1 = (.int ma) := Option.some.inj ei1
  obtain ⟨s_, ei2⟩ := is_v g7
  obtain rfl : w_2 = (.int s_) := Option.some.inj ei2
  obtain ⟨e_, ei3⟩ := is_v g8
  obtain rfl : w_3 = (.int e_) := Option.some.inj ei3
  obtain ⟨cs, ev_cs⟩ := is_v (Cond.before_iff.mp (hsets _ (List.mem_of_getElem? (i := 1) rfl)))
  have S_cs := Sta.start ev_cs (Or.inl (hsets _ (List.mem_of_getElem? (i := 0) rfl)))
  have hcs : ¬ cs = (0 : Int32) := own_neI ev_cs (Cond.before_iff.mp (hsets _ (List.mem_of_getElem? (i := 2) rfl)))
  obtain ⟨fm, ev_fm, hfm⟩ := isR_v (Cond.before_iff.mp (hsets _ (List.mem_of_getElem? (i := 8) rfl)))
  have S_fm := Sta.start ev_fm (Or.inl (hsets _ (List.mem_of_getElem? (i := 7) rfl)))
  have hEL : EW s _ OwnEL := (EW.cons (hw _ (List.mem_of_getElem? (i := 30) rfl)) (by decide) EW.nil)
  have wS : ∀ a ∈ Bundle.stringAtoms, a.before _ s = true := fun d hd => by
    simp only [Bundle.stringAtoms, List.mem_cons, List.not_mem_nil, or_false] at hd
    rcases hd with rfl | rfl | rfl | rfl | rfl | rfl | rfl
    · exact (hw _ (List.mem_of_getElem? (i := 2) rfl))
    · exact (hw _ (List.mem_of_getElem? (i := 1) rfl))
    · exact (hw _ (List.mem_of_getElem? (i := 19) rfl))
    · exact (hw _ (List.mem_of_getElem? (i := 29) rfl))
    · exact (hw _ (List.mem_of_getElem? (i := 27) rfl))
    · exact (hw _ (List.mem_of_getElem? (i := 31) rfl))
    · exact (hw _ (List.mem_of_getElem? (i := 32) rfl))
  have hCH : CHv s OwnEL s.vm s.heap := CHv.start hEL hcalls.1 (hsets _ (List.mem_of_getElem? (i := 2) rfl)) (hw _ (List.mem_of_getElem? (i := 19) rfl)) (hw _ (List.mem_of_getElem? (i := 1) rfl))
  obtain ⟨n, o, h1, h2, h3, _, L, rfl, ⟨rfl, N, -⟩, -, hq⟩ := rm0 l s _ hw hEL wS tables_1 te ma s_ e_ cs fm s.heap s.heap.size (Nat.le_refl _) S_cs hcs S_fm hfm p e ha hc hk s m _ below hf ((Spec.applies_iff_loose hf).mp happ).1 ⟨rfl, State.Warmed39.refl s, rfl, hCH⟩ trivial
  refine ⟨n, _, h1, h2, h3, hpost _ _ _ _ _ _ ⟨Cond.after_iff.mpr rfl, Cond.after_iff.mpr (eq_i res_at (Term.int_eval (1)) rfl), trivial⟩ ⟨hq.1, hq.2.1, hq.2.2.1, (hq.2.2.2.sift fun y hy => Or.inr (N y hy)).mono (by decide) (by decide)⟩⟩
theorem main_1_1 : Claimed_1_1 := comes_1 fun _ _ _ _ _ _ h hF => ⟨h.1, hF⟩
theorem main_1_2 : Claimed_1_2 := comes_1 fun _ _ _ _ _ _ h hF => ⟨h.2.1, hF⟩
end Jvm.Pilot.@@N@@
namespace Jvm.Pilot.@@N@@
open Jvm Jvm.ClassFile Sem Op Lib Jvm.Free Jvm.Stand Jvm.Pilot.@@N@@.Jvm.D
/-! MADE BY PROGRAM (witnessworld.py) out of the Statement's table words and the real class files: 21 classes; the members and pool entries that the words name. The judged class is class 1, her method 2. -/
namespace start1
open Jvm.ClassFile
def u (s : String) : CpInfo := .utf8 (stringToUtf16 s)
/-- a pool by its gaps: so many unusable entries, then the entry; so many at the end -/
def gap : Nat → List CpInfo → List CpInfo
  | 0, r => r
  | n + 1, r => .unusable :: gap n r
def poolList (es : List (Nat × CpInfo)) (last : Nat) : List CpInfo := es.foldr (fun e r => gap e.1 (e.2 :: r)) (gap last [])
def pool (es : List (Nat × CpInfo)) (last : Nat) : Array CpInfo := ⟨poolList es last⟩
def fileOf (pool : Array CpInfo) (this : Nat) (attrs : Array Attribute := #[]) (ms : Array MethodInfo := #[]) (fl : Nat := 33) (sup : Nat := 0) (ifs : Array Nat := #[]) (fds : Array FieldInfo := #[]) : ClassFile where
  minorVersion := 0
  majorVersion := 65
  constantPool := pool
  accessFlags := fl
  thisClass := this
  superClass := sup
  interfaces := ifs
  fields := fds
  methods := ms
  attributes := attrs
def plain (name : String) (sup : Option ClassId) : Class where
  name := name
  kind := .ordinary
  loader := none
  accessFlags := 33
  super := sup
  interfaces := #[]
  cf := none
  fields := #[]
  methods := #[]
  instanceTypes := #[]
  staticTypes := #[]
  resolved := #[]
  callSites := []
  init := .initialized
  statics := none
  mirror := none

def pool0 : Array CpInfo := pool [(5, u "<init>"), (0, u "()V"), (1, .class_ 10), (1, u "java/lang/Object")] 113

def k0c0 : Code := { maxStack := 0, maxLocals := 1, code := object_method_1_code, exceptionTable := #[], attributes := #[] }
def k0m0 : Method := { name := "<init>", desc := "()V", sig := { parameters := [], returnType := none }, accessFlags := 1, code := some k0c0 }
/-- java/lang/Object -/
def k0 : Class := { plain "java/lang/Object" none with
  accessFlags := 33
  interfaces := #[]
  cf := some (fileOf pool0 8 #[] #[{ accessFlags := 1, nameIndex := 5, descriptorIndex := 6, attributes := #[] }] 33 0 #[] #[])
  fields := #[]
  methods := #[k0m0]
  instanceTypes := #[]
  staticTypes := #[]
  resolved := Array.replicate 124 none
  statics := none }

def pool1 : Array CpInfo := pool [(2, .class_ 4), (1, u "java/lang/Object"), (0, u "<init>"), (0, u "()V"), (0, .class_ 8), (0, u "java/lang/String"), (0, .methodref 7 10), (0, .nameAndType 5 11), (0, u "([C)V"), (0, .string 13), (0, u ""), (0, .methodref 7 15), (0, .nameAndType 16 17), (0, u "valueOf"), (0, u "(C)Ljava/lang/String;"), (0, .integer 2147483647), (0, .methodref 20 21), (0, .class_ 22), (0, .nameAndType 23 24), (0, u "java/lang/Math"), (0, u "min"), (0, u "(II)I"), (0, .methodref 20 26), (0, .nameAndType 27 24), (0, u "max"), (0, .methodref 29 30), (0, .class_ 31), (0, .nameAndType 32 33), (0, u "com/example/covenantry/covenantry/text/PhrasesAfterLastMarkPinLaw"), (0, u "isMark"), (0, u "(CICC)Z"), (0, .methodref 35 36), (0, .class_ 37), (0, .nameAndType 38 39), (0, u "com/example/covenantry/covenantry/text/Phrases"), (0, u "afterLastMark"), (0, u "(Ljava/lang/String;IILjava/lang/String;)I"), (3, u "law"), (0, u "(IIII)Z")] 2

def k1m0 : Method := { name := "<init>", desc := "()V", sig := { parameters := [], returnType := none }, accessFlags := 2, code := none }
def k1c1 : Code := { maxStack := 2, maxLocals := 4, code := method_2_code, exceptionTable := #[], attributes := #[] }
def k1m1 : Method := { name := "isMark", desc := "(CICC)Z", sig := { parameters := [.char, .int, .char, .char], returnType := some .boolean }, accessFlags := 10, code := some k1c1 }
def k1c2 : Code := { maxStack := 6, maxLocals := 18, code := code, exceptionTable := #[], attributes := #[] }
def k1m2 : Method := { name := "law", desc := "(IIII)Z", sig := { parameters := [.int, .int, .int, .int], returnType := some .boolean }, accessFlags := 9, code := some k1c2 }
/-- com/example/covenantry/covenantry/text/PhrasesAfterLastMarkPinLaw -/
def k1 : Class := { plain "com/example/covenantry/covenantry/text/PhrasesAfterLastMarkPinLaw" (some 0) with
  accessFlags := 49
  interfaces := #[]
  cf := some (fileOf pool1 29 #[] #[{ accessFlags := 2, nameIndex := 5, descriptorIndex := 6, attributes := #[] }, { accessFlags := 10, nameIndex := 32, descriptorIndex := 33, attributes := #[] }, { accessFlags := 9, nameIndex := 43, descriptorIndex := 44, attributes := #[] }] 49 2 #[] #[])
  fields := #[]
  methods := #[k1m0, k1m1, k1m2]
  instanceTypes := #[]
  staticTypes := #[]
  resolved := Array.replicate 47 none
  statics := none }

def pool2 : Array CpInfo := pool [(1, .class_ 2), (0, u "java/io/Serializable"), (0, .class_ 4), (0, u "java/lang/Object")] 2

/-- java/io/Serializable -/
def k2 : Class := { plain "java/io/Serializable" (some 0) with
  accessFlags := 1537
  interfaces := #[]
  cf := some (fileOf pool2 1 #[] #[] 1537 3 #[] #[])
  fields := #[]
  methods := #[]
  instanceTypes := #[]
  staticTypes := #[]
  resolved := Array.replicate 7 none
  statics := none }

def pool3 : Array CpInfo := pool [(1, .class_ 2), (0, u "java/lang/Comparable"), (0, .class_ 4), (0, u "java/lang/Object")] 7

/-- java/lang/Comparable -/
def k3 : Class := { plain "java/lang/Comparable" (some 0) with
  accessFlags := 1537
  interfaces := #[]
  cf := some (fileOf pool3 1 #[] #[] 1537 3 #[] #[])
  fields := #[]
  methods := #[]
  instanceTypes := #[]
  staticTypes := #[]
  resolved := Array.replicate 12 none
  statics := none }

def pool4 : Array CpInfo := pool [(2, .class_ 4), (1, u "java/lang/CharSequence"), (42, .class_ 48), (0, u "java/lang/CharSequence$1CodePointIterator"), (10, .class_ 60), (0, u "java/lang/CharSequence$1CharIterator"), (5, .class_ 67), (0, u "java/lang/Object")] 63

/-- java/lang/CharSequence -/
def k4 : Class := { plain "java/lang/CharSequence" (some 0) with
  accessFlags := 1537
  interfaces := #[]
  cf := some (fileOf pool4 2 #[.nestMembers #[47, 59]] #[] 1537 66 #[] #[])
  fields := #[]
  methods := #[]
  instanceTypes := #[]
  staticTypes := #[]
  resolved := Array.replicate 131 none
  statics := none }

def pool5 : Array CpInfo := pool [(1, .class_ 2), (0, u "java/lang/constant/Constable"), (0, .class_ 4), (0, u "java/lang/Object")] 6

/-- java/lang/constant/Constable -/
def k5 : Class := { plain "java/lang/constant/Constable" (some 0) with
  accessFlags := 1537
  interfaces := #[]
  cf := some (fileOf pool5 1 #[] #[] 1537 3 #[] #[])
  fields := #[]
  methods := #[]
  instanceTypes := #[]
  staticTypes := #[]
  resolved := Array.replicate 11 none
  statics := none }

def pool6 : Array CpInfo := pool [(1, .class_ 2), (0, u "java/lang/constant/ConstantDesc"), (0, .class_ 4), (0, u "java/lang/Object")] 32

/-- java/lang/constant/ConstantDesc -/
def k6 : Class := { plain "java/lang/constant/ConstantDesc" (some 0) with
  accessFlags := 1537
  interfaces := #[]
  cf := some (fileOf pool6 1 #[] #[] 1537 3 #[] #[])
  fields := #[]
  methods := #[]
  instanceTypes := #[]
  staticTypes := #[]
  resolved := Array.replicate 37 none
  statics := none }

def pool7 : Array CpInfo := pool [(1, .methodref 2 3), (0, .class_ 4), (0, .nameAndType 5 6), (0, u "java/lang/Object"), (0, u "<init>"), (0, u "()V"), (2, .fieldref 10 11), (0, .class_ 12), (0, .nameAndType 13 14), (0, u "java/lang/String"), (0, u "value"), (0, u "[B"), (0, .fieldref 10 16), (0, .nameAndType 17 18), (0, u "coder"), (0, u "B"), (2, u "hash"), (0, u "I"), (2, u "hashIsZero"), (0, u "Z"), (0, .methodref 10 28), (0, .nameAndType 5 29), (0, u "([CIILjava/lang/Void;)V"), (8, .fieldref 10 39), (0, .nameAndType 40 26), (0, u "COMPACT_STRINGS"), (1, .class_ 44), (1, u "java/lang/StringUTF16"), (0, u "compress"), (1, .methodref 42 48), (0, .nameAndType 49 50), (0, u "coderFromArrayLen"), (0, u "([BI)B"), (2, u "toBytes"), (53, .class_ 109), (1, u "java/lang/StringLatin1"), (32, u "()Z"), (34, .methodref 42 178), (0, .nameAndType 45 179), (0, u "([CII)[B"), (29, .methodref 10 210), (0, .nameAndType 5 211), (0, u "([BB)V"), (122, u "()I"), (0, .methodref 10 336), (0, .nameAndType 17 337), (0, u "()B"), (25, u "([BI)C"), (5, u "(C)Z"), (21, u "(II)V"), (35, u "(I)C"), (64, .methodref 10 493), (0, .nameAndType 494 142), (0, u "isLatin1"), (0, .methodref 107 496), (0, .nameAndType 497 363), (0, u "charAt"), (3, u "checkIndex"), (3, .methodref 10 506), (0, .nameAndType 507 334), (0, u "length"), (67, .class_ 576), (0, u "java/lang/CharSequence"), (22, u "CASE_INSENSITIVE_ORDER"), (0, u "Ljava/util/Comparator;"), (32, .methodref 10 634), (0, .nameAndType 635 636), (0, u "indexOf"), (0, u "(II)I"), (0, .methodref 107 638), (0, .nameAndType 635 639), (0, u "([BIII)I"), (125, u "(I)I"), (16, u "valueOf"), (0, u "(C)Ljava/lang/String;"), (226, u "([C)V"), (4, .methodref 107 1016), (0, .nameAndType 1017 369), (0, u "canEncode"), (0, .methodref 107 1019), (0, .nameAndType 53 1020), (0, u "(C)[B"), (32, .fieldref 1054 1055), (0, .class_ 1056), (0, .nameAndType 1057 1058), (0, u "jdk/internal/util/Preconditions"), (0, u "SIOOBE_FORMATTER"), (0, u "Ljava/util/function/BiFunction;"), (0, .methodref 1054 1060), (0, .nameAndType 501 1061), (0, u "(IILjava/util/function/BiFunction;)I"), (39, u "serialPersistentFields"), (0, u "[Ljava/io/ObjectStreamField;"), (0, .class_ 1104), (0, u "java/lang/String$CaseInsensitiveComparator"), (1, .class_ 1107), (0, u "java/io/Serializable"), (0, .class_ 1109), (0, u "java/lang/Comparable"), (0, .class_ 1111), (0, u "java/lang/constant/Constable"), (0, .class_ 1113), (0, u "java/lang/constant/ConstantDesc"), (2, u "serialVersionUID"), (0, u "J"), (3, u "REPL"), (0, u "C"), (2, u "LATIN1"), (1, u "UTF16")] 323

def k7m0 : Method := { name := "<init>", desc := "()V", sig := { parameters := [], returnType := none }, accessFlags := 1, code := none }
def k7c1 : Code := { maxStack := 5, maxLocals := 2, code := jdk_42_method_3_code, exceptionTable := #[], attributes := #[] }
def k7m1 : Method := { name := "<init>", desc := "([C)V", sig := { parameters := [(.array .char)], returnType := none }, accessFlags := 1, code := some k7c1 }
def k7c2 : Code := { maxStack := 2, maxLocals := 1, code := jdk_42_method_54_code, exceptionTable := #[], attributes := #[] }
def k7m2 : Method := { name := "length", desc := "()I", sig := { parameters := [], returnType := some .int }, accessFlags := 1, code := some k7c2 }
def k7c3 : Code := { maxStack := 2, maxLocals := 2, code := jdk_42_method_56_code, exceptionTable := #[], attributes := #[] }
def k7m3 : Method := { name := "charAt", desc := "(I)C", sig := { parameters := [.int], returnType := some .char }, accessFlags := 1, code := some k7c3 }
def k7c4 : Code := { maxStack := 3, maxLocals := 2, code := jdk_42_method_79_code, exceptionTable := #[], attributes := #[] }
def k7m4 : Method := { name := "indexOf", desc := "(I)I", sig := { parameters := [.int], returnType := some .int }, accessFlags := 1, code := some k7c4 }
def k7c5 : Code := { maxStack := 4, maxLocals := 3, code := jdk_42_method_80_code, exceptionTable := #[], attributes := #[] }
def k7m5 : Method := { name := "indexOf", desc := "(II)I", sig := { parameters := [.int, .int], returnType := some .int }, accessFlags := 1, code := some k7c5 }
def k7c6 : Code := { maxStack := 4, maxLocals := 1, code := jdk_42_method_139_code, exceptionTable := #[], attributes := #[] }
def k7m6 : Method := { name := "valueOf", desc := "(C)Ljava/lang/String;", sig := { parameters := [.char], returnType := some (.object "java/lang/String") }, accessFlags := 9, code := some k7c6 }
def k7c7 : Code := { maxStack := 4, maxLocals := 6, code := jdk_42_method_149_code, exceptionTable := #[], attributes := #[] }
def k7m7 : Method := { name := "<init>", desc := "([CIILjava/lang/Void;)V", sig := { parameters := [(.array .char), .int, .int, (.object "java/lang/Void")], returnType := none }, accessFlags := 2, code := some k7c7 }
def k7c8 : Code := { maxStack := 2, maxLocals := 3, code := jdk_42_method_151_code, exceptionTable := #[], attributes := #[] }
def k7m8 : Method := { name := "<init>", desc := "([BB)V", sig := { parameters := [(.array .byte), .byte], returnType := none }, accessFlags := 0, code := some k7c8 }
def k7c9 : Code := { maxStack := 1, maxLocals := 1, code := jdk_42_method_152_code, exceptionTable := #[], attributes := #[] }
def k7m9 : Method := { name := "coder", desc := "()B", sig := { parameters := [], returnType := some .byte }, accessFlags := 0, code := some k7c9 }
def k7c10 : Code := { maxStack := 1, maxLocals := 1, code := jdk_42_method_154_code, exceptionTable := #[], attributes := #[] }
def k7m10 : Method := { name := "isLatin1", desc := "()Z", sig := { parameters := [], returnType := some .boolean }, accessFlags := 0, code := some k7c10 }
def k7c11 : Code := { maxStack := 3, maxLocals := 2, code := jdk_42_method_155_code, exceptionTable := #[], attributes := #[] }
def k7m11 : Method := { name := "checkIndex", desc := "(II)V", sig := { parameters := [.int, .int], returnType := none }, accessFlags := 8, code := some k7c11 }
/-- java/lang/String -/
def k7 : Class := { plain "java/lang/String" (some 0) with
  accessFlags := 49
  interfaces := #[2, 3, 4, 5, 6]
  cf := some (fileOf pool7 10 #[.nestMembers #[1103]] #[{ accessFlags := 1, nameIndex := 5, descriptorIndex := 6, attributes := #[] }, { accessFlags := 1, nameIndex := 5, descriptorIndex := 1010, attributes := #[] }, { accessFlags := 1, nameIndex := 507, descriptorIndex := 334, attributes := #[] }, { accessFlags := 1, nameIndex := 497, descriptorIndex := 427, attributes := #[] }, { accessFlags := 1, nameIndex := 635, descriptorIndex := 765, attributes := #[] }, { accessFlags := 1, nameIndex := 635, descriptorIndex := 636, attributes := #[] }, { accessFlags := 9, nameIndex := 782, descriptorIndex := 783, attributes := #[] }, { accessFlags := 2, nameIndex := 5, descriptorIndex := 29, attributes := #[] }, { accessFlags := 0, nameIndex := 5, descriptorIndex := 211, attributes := #[] }, { accessFlags := 0, nameIndex := 17, descriptorIndex := 337, attributes := #[] }, { accessFlags := 0, nameIndex := 494, descriptorIndex := 142, attributes := #[] }, { accessFlags := 8, nameIndex := 501, descriptorIndex := 391, attributes := #[] }] 49 2 #[1106, 1108, 575, 1110, 1112] #[{ accessFlags := 18, nameIndex := 13, descriptorIndex := 14, attributes := #[] }, { accessFlags := 18, nameIndex := 17, descriptorIndex := 18, attributes := #[] }, { accessFlags := 2, nameIndex := 21, descriptorIndex := 22, attributes := #[] }, { accessFlags := 2, nameIndex := 25, descriptorIndex := 26, attributes := #[] }, { accessFlags := 26, nameIndex := 1116, descriptorIndex := 1117, attributes := #[] }, { accessFlags := 24, nameIndex := 40, descriptorIndex := 26, attributes := #[] }, { accessFlags := 26, nameIndex := 1101, descriptorIndex := 1102, attributes := #[] }, { accessFlags := 26, nameIndex := 1121, descriptorIndex := 1122, attributes := #[] }, { accessFlags := 25, nameIndex := 599, descriptorIndex := 600, attributes := #[] }, { accessFlags := 24, nameIndex := 1125, descriptorIndex := 18, attributes := #[] }, { accessFlags := 24, nameIndex := 1127, descriptorIndex := 18, attributes := #[] }])
  fields := #[{ name := "value", type := (.array .byte), accessFlags := 18, slot := 0, constantValue := 0 }, { name := "coder", type := .byte, accessFlags := 18, slot := 1, constantValue := 0 }, { name := "hash", type := .int, accessFlags := 2, slot := 2, constantValue := 0 }, { name := "hashIsZero", type := .boolean, accessFlags := 2, slot := 3, constantValue := 0 }, { name := "serialVersionUID", type := .long, accessFlags := 26, slot := 0, constantValue := 0 }, { name := "COMPACT_STRINGS", type := .boolean, accessFlags := 24, slot := 1, constantValue := 0 }, { name := "serialPersistentFields", type := (.array (.object "java/io/ObjectStreamField")), accessFlags := 26, slot := 2, constantValue := 0 }, { name := "REPL", type := .char, accessFlags := 26, slot := 3, constantValue := 0 }, { name := "CASE_INSENSITIVE_ORDER", type := (.object "java/util/Comparator"), accessFlags := 25, slot := 4, constantValue := 0 }, { name := "LATIN1", type := .byte, accessFlags := 24, slot := 5, constantValue := 0 }, { name := "UTF16", type := .byte, accessFlags := 24, slot := 6, constantValue := 0 }]
  methods := #[k7m0, k7m1, k7m2, k7m3, k7m4, k7m5, k7m6, k7m7, k7m8, k7m9, k7m10, k7m11]
  instanceTypes := #[(.array .byte), .byte, .int, .boolean]
  staticTypes := #[.long, .boolean, (.array (.object "java/io/ObjectStreamField")), .char, (.object "java/util/Comparator"), .byte, .byte]
  resolved := Array.replicate 1451 none
  statics := some 0 }

def pool8 : Array CpInfo := pool [(6, .class_ 8), (1, u "java/lang/Object"), (0, u "<init>"), (0, u "()V"), (1, .class_ 14), (1, u "java/lang/StringUTF16"), (31, u "$assertionsDisabled"), (0, u "Z"), (13, u "HI_BYTE_SHIFT"), (0, u "I"), (2, u "LO_BYTE_SHIFT"), (49, .methodref 12 116), (0, .nameAndType 117 118), (0, u "compress"), (0, u "([CI[BII)I"), (3, u "([CII)[B"), (138, u "coderFromArrayLen"), (0, u "([BI)B"), (106, .class_ 371), (1, u "java/lang/StringUTF16$LinesSpliterator"), (58, u "MAX_LENGTH"), (196, .class_ 628), (0, u "java/lang/StringUTF16$CodePointsSpliterator"), (0, .class_ 630), (0, u "java/lang/StringUTF16$CharsSpliterator")] 4

def k8m0 : Method := { name := "<init>", desc := "()V", sig := { parameters := [], returnType := none }, accessFlags := 0, code := none }
def k8c1 : Code := { maxStack := 2, maxLocals := 2, code := jdk_52_method_15_code, exceptionTable := #[], attributes := #[] }
def k8m1 : Method := { name := "coderFromArrayLen", desc := "([BI)B", sig := { parameters := [(.array .byte), .int], returnType := some .byte }, accessFlags := 8, code := some k8c1 }
def k8c2 : Code := { maxStack := 5, maxLocals := 6, code := jdk_52_method_16_code, exceptionTable := #[], attributes := #[] }
def k8m2 : Method := { name := "compress", desc := "([CII)[B", sig := { parameters := [(.array .char), .int, .int], returnType := some (.array .byte) }, accessFlags := 9, code := some k8c2 }
def k8c3 : Code := { maxStack := 3, maxLocals := 7, code := jdk_52_method_21_code, exceptionTable := #[], attributes := #[] }
def k8m3 : Method := { name := "compress", desc := "([CI[BII)I", sig := { parameters := [(.array .char), .int, (.array .byte), .int, .int], returnType := some .int }, accessFlags := 9, code := some k8c3 }
/-- java/lang/StringUTF16 -/
def k8 : Class := { plain "java/lang/StringUTF16" (some 0) with
  accessFlags := 48
  interfaces := #[]
  cf := some (fileOf pool8 12 #[.nestMembers #[627, 629, 369]] #[{ accessFlags := 0, nameIndex := 9, descriptorIndex := 10, attributes := #[] }, { accessFlags := 8, nameIndex := 261, descriptorIndex := 262, attributes := #[] }, { accessFlags := 9, nameIndex := 117, descriptorIndex := 122, attributes := #[] }, { accessFlags := 9, nameIndex := 117, descriptorIndex := 118, attributes := #[] }] 48 6 #[] #[{ accessFlags := 26, nameIndex := 61, descriptorIndex := 62, attributes := #[] }, { accessFlags := 26, nameIndex := 65, descriptorIndex := 62, attributes := #[] }, { accessFlags := 24, nameIndex := 430, descriptorIndex := 62, attributes := #[] }, { accessFlags := 4120, nameIndex := 46, descriptorIndex := 47, attributes := #[] }])
  fields := #[{ name := "HI_BYTE_SHIFT", type := .int, accessFlags := 26, slot := 0, constantValue := 0 }, { name := "LO_BYTE_SHIFT", type := .int, accessFlags := 26, slot := 1, constantValue := 0 }, { name := "MAX_LENGTH", type := .int, accessFlags := 24, slot := 2, constantValue := 0 }, { name := "$assertionsDisabled", type := .boolean, accessFlags := 4120, slot := 3, constantValue := 0 }]
  methods := #[k8m0, k8m1, k8m2, k8m3]
  instanceTypes := #[]
  staticTypes := #[.int, .int, .int, .boolean]
  resolved := Array.replicate 635 none
  statics := none }

def pool9 : Array CpInfo := pool [(1, .class_ 2), (0, u "java/lang/Math"), (1, .class_ 6), (1, u "java/lang/Object"), (0, u "<init>"), (0, u "()V"), (89, .class_ 100), (1, u "java/lang/Math$RandomNumberGeneratorHolder"), (71, u "negativeZeroFloatBits"), (0, u "J"), (2, u "negativeZeroDoubleBits"), (21, u "max"), (2, u "min"), (43, u "$assertionsDisabled"), (0, u "Z"), (88, u "(II)I"), (2, u "twoToTheDoubleScaleDown"), (0, u "D"), (4, u "twoToTheDoubleScaleUp"), (9, u "E"), (3, u "PI"), (2, u "TAU"), (2, u "DEGREES_TO_RADIANS"), (0, u "RADIANS_TO_DEGREES")] 94

def k9m0 : Method := { name := "<init>", desc := "()V", sig := { parameters := [], returnType := none }, accessFlags := 2, code := none }
def k9c1 : Code := { maxStack := 2, maxLocals := 2, code := jdk_29_method_65_code, exceptionTable := #[], attributes := #[] }
def k9m1 : Method := { name := "max", desc := "(II)I", sig := { parameters := [.int, .int], returnType := some .int }, accessFlags := 9, code := some k9c1 }
def k9c2 : Code := { maxStack := 2, maxLocals := 2, code := jdk_29_method_69_code, exceptionTable := #[], attributes := #[] }
def k9m2 : Method := { name := "min", desc := "(II)I", sig := { parameters := [.int, .int], returnType := some .int }, accessFlags := 9, code := some k9c2 }
/-- java/lang/Math -/
def k9 : Class := { plain "java/lang/Math" (some 0) with
  accessFlags := 49
  interfaces := #[]
  cf := some (fileOf pool9 1 #[.nestMembers #[98]] #[{ accessFlags := 2, nameIndex := 7, descriptorIndex := 8, attributes := #[] }, { accessFlags := 9, nameIndex := 198, descriptorIndex := 335, attributes := #[] }, { accessFlags := 9, nameIndex := 201, descriptorIndex := 335, attributes := #[] }] 49 4 #[] #[{ accessFlags := 25, nameIndex := 354, descriptorIndex := 339, attributes := #[] }, { accessFlags := 25, nameIndex := 358, descriptorIndex := 339, attributes := #[] }, { accessFlags := 25, nameIndex := 361, descriptorIndex := 339, attributes := #[] }, { accessFlags := 26, nameIndex := 364, descriptorIndex := 339, attributes := #[] }, { accessFlags := 26, nameIndex := 365, descriptorIndex := 339, attributes := #[] }, { accessFlags := 26, nameIndex := 172, descriptorIndex := 173, attributes := #[] }, { accessFlags := 26, nameIndex := 176, descriptorIndex := 173, attributes := #[] }, { accessFlags := 8, nameIndex := 344, descriptorIndex := 339, attributes := #[] }, { accessFlags := 8, nameIndex := 338, descriptorIndex := 339, attributes := #[] }, { accessFlags := 4120, nameIndex := 245, descriptorIndex := 246, attributes := #[] }])
  fields := #[{ name := "E", type := .double, accessFlags := 25, slot := 0, constantValue := 0 }, { name := "PI", type := .double, accessFlags := 25, slot := 1, constantValue := 0 }, { name := "TAU", type := .double, accessFlags := 25, slot := 2, constantValue := 0 }, { name := "DEGREES_TO_RADIANS", type := .double, accessFlags := 26, slot := 3, constantValue := 0 }, { name := "RADIANS_TO_DEGREES", type := .double, accessFlags := 26, slot := 4, constantValue := 0 }, { name := "negativeZeroFloatBits", type := .long, accessFlags := 26, slot := 5, constantValue := 0 }, { name := "negativeZeroDoubleBits", type := .long, accessFlags := 26, slot := 6, constantValue := 0 }, { name := "twoToTheDoubleScaleUp", type := .double, accessFlags := 8, slot := 7, constantValue := 0 }, { name := "twoToTheDoubleScaleDown", type := .double, accessFlags := 8, slot := 8, constantValue := 0 }, { name := "$assertionsDisabled", type := .boolean, accessFlags := 4120, slot := 9, constantValue := 0 }]
  methods := #[k9m0, k9m1, k9m2]
  instanceTypes := #[]
  staticTypes := #[.double, .double, .double, .double, .double, .long, .long, .double, .double, .boolean]
  resolved := Array.replicate 460 none
  statics := none }

def pool10 : Array CpInfo := pool [(2, .class_ 4), (1, u "java/lang/Object"), (0, u "<init>"), (0, u "()V"), (1, .class_ 10), (1, u "com/example/covenantry/covenantry/text/Phrases"), (0, u "NUMBER_WORDS"), (0, u "Ljava/util/List;"), (4, u "indexOf"), (2, .class_ 22), (1, u "java/lang/String"), (2, .methodref 20 26), (0, .nameAndType 27 28), (0, u "charAt"), (0, u "(I)C"), (62, .methodref 20 92), (0, .nameAndType 17 93), (0, u "(I)I"), (12, u "CLAUSE_NUMBER_KINDS"), (9, u "(Ljava/lang/String;IILjava/lang/String;)I"), (24, u "ABBREVIATIONS"), (106, u "afterLastMark")] 39

def k10m0 : Method := { name := "<init>", desc := "()V", sig := { parameters := [], returnType := none }, accessFlags := 2, code := none }
def k10c1 : Code := { maxStack := 4, maxLocals := 5, code := prog_84_method_13_code, exceptionTable := #[], attributes := #[] }
def k10m1 : Method := { name := "afterLastMark", desc := "(Ljava/lang/String;IILjava/lang/String;)I", sig := { parameters := [(.object "java/lang/String"), .int, .int, (.object "java/lang/String")], returnType := some .int }, accessFlags := 9, code := some k10c1 }
/-- com/example/covenantry/covenantry/text/Phrases -/
def k10 : Class := { plain "com/example/covenantry/covenantry/text/Phrases" (some 0) with
  accessFlags := 49
  interfaces := #[]
  cf := some (fileOf pool10 8 #[] #[{ accessFlags := 2, nameIndex := 5, descriptorIndex := 6, attributes := #[] }, { accessFlags := 9, nameIndex := 248, descriptorIndex := 116, attributes := #[] }] 49 2 #[] #[{ accessFlags := 26, nameIndex := 106, descriptorIndex := 12, attributes := #[] }, { accessFlags := 26, nameIndex := 11, descriptorIndex := 12, attributes := #[] }, { accessFlags := 26, nameIndex := 141, descriptorIndex := 12, attributes := #[] }])
  fields := #[{ name := "CLAUSE_NUMBER_KINDS", type := (.object "java/util/List"), accessFlags := 26, slot := 0, constantValue := 0 }, { name := "NUMBER_WORDS", type := (.object "java/util/List"), accessFlags := 26, slot := 1, constantValue := 0 }, { name := "ABBREVIATIONS", type := (.object "java/util/List"), accessFlags := 26, slot := 2, constantValue := 0 }]
  methods := #[k10m0, k10m1]
  instanceTypes := #[]
  staticTypes := #[(.object "java/util/List"), (.object "java/util/List"), (.object "java/util/List")]
  resolved := Array.replicate 288 none
  statics := none }

def pool11 : Array CpInfo := pool [(1, .class_ 2), (0, u "java/lang/String"), (1, .class_ 6), (1, u "java/lang/Object"), (0, u "<init>"), (0, u "()V"), (0, .methodref 1 10), (0, .nameAndType 11 12), (0, u "checkIndex"), (0, u "(II)V"), (1, .class_ 16), (1, u "java/lang/StringLatin1"), (21, .methodref 39 40), (0, .class_ 41), (0, .nameAndType 42 43), (0, u "java/lang/Math"), (0, u "min"), (0, u "(II)I"), (9, u "([BI)C"), (34, .methodref 14 89), (0, .nameAndType 90 91), (0, u "canEncode"), (0, u "(I)Z"), (0, .methodref 39 93), (0, .nameAndType 94 43), (0, u "max"), (0, .methodref 14 96), (0, .nameAndType 97 98), (0, u "indexOfChar"), (0, u "([BIII)I"), (2, u "indexOf"), (3, u "(C)Z"), (15, u "$assertionsDisabled"), (0, u "Z"), (98, .class_ 223), (1, u "java/lang/StringLatin1$LinesSpliterator"), (28, u "charAt"), (127, u "toBytes"), (1, u "(C)[B"), (7, .class_ 391), (0, u "java/lang/StringLatin1$CharsSpliterator")] 3

def k11m0 : Method := { name := "<init>", desc := "()V", sig := { parameters := [], returnType := none }, accessFlags := 0, code := none }
def k11c1 : Code := { maxStack := 2, maxLocals := 2, code := jdk_43_method_2_code, exceptionTable := #[], attributes := #[] }
def k11m1 : Method := { name := "charAt", desc := "([BI)C", sig := { parameters := [(.array .byte), .int], returnType := some .char }, accessFlags := 9, code := some k11c1 }
def k11c2 : Code := { maxStack := 2, maxLocals := 1, code := jdk_43_method_3_code, exceptionTable := #[], attributes := #[] }
def k11m2 : Method := { name := "canEncode", desc := "(C)Z", sig := { parameters := [.char], returnType := some .boolean }, accessFlags := 9, code := some k11c2 }
def k11c3 : Code := { maxStack := 2, maxLocals := 1, code := jdk_43_method_4_code, exceptionTable := #[], attributes := #[] }
def k11m3 : Method := { name := "canEncode", desc := "(I)Z", sig := { parameters := [.int], returnType := some .boolean }, accessFlags := 9, code := some k11c3 }
def k11c4 : Code := { maxStack := 4, maxLocals := 4, code := jdk_43_method_22_code, exceptionTable := #[], attributes := #[] }
def k11m4 : Method := { name := "indexOf", desc := "([BIII)I", sig := { parameters := [(.array .byte), .int, .int, .int], returnType := some .int }, accessFlags := 9, code := some k11c4 }
def k11c5 : Code := { maxStack := 2, maxLocals := 6, code := jdk_43_method_23_code, exceptionTable := #[], attributes := #[] }
def k11m5 : Method := { name := "indexOfChar", desc := "([BIII)I", sig := { parameters := [(.array .byte), .int, .int, .int], returnType := some .int }, accessFlags := 10, code := some k11c5 }
def k11c6 : Code := { maxStack := 4, maxLocals := 1, code := jdk_43_method_46_code, exceptionTable := #[], attributes := #[] }
def k11m6 : Method := { name := "toBytes", desc := "(C)[B", sig := { parameters := [.char], returnType := some (.array .byte) }, accessFlags := 9, code := some k11c6 }
/-- java/lang/StringLatin1 -/
def k11 : Class := { plain "java/lang/StringLatin1" (some 0) with
  accessFlags := 48
  interfaces := #[]
  cf := some (fileOf pool11 14 #[.nestMembers #[390, 221]] #[{ accessFlags := 0, nameIndex := 7, descriptorIndex := 8, attributes := #[] }, { accessFlags := 9, nameIndex := 252, descriptorIndex := 53, attributes := #[] }, { accessFlags := 9, nameIndex := 90, descriptorIndex := 105, attributes := #[] }, { accessFlags := 9, nameIndex := 90, descriptorIndex := 91, attributes := #[] }, { accessFlags := 9, nameIndex := 101, descriptorIndex := 98, attributes := #[] }, { accessFlags := 10, nameIndex := 97, descriptorIndex := 98, attributes := #[] }, { accessFlags := 9, nameIndex := 380, descriptorIndex := 382, attributes := #[] }] 48 4 #[] #[{ accessFlags := 4120, nameIndex := 121, descriptorIndex := 122, attributes := #[] }])
  fields := #[{ name := "$assertionsDisabled", type := .boolean, accessFlags := 4120, slot := 0, constantValue := 0 }]
  methods := #[k11m0, k11m1, k11m2, k11m3, k11m4, k11m5, k11m6]
  instanceTypes := #[]
  staticTypes := #[.boolean]
  resolved := Array.replicate 395 none
  statics := none }

def pool12 : Array CpInfo := pool [(2, .class_ 4), (1, u "java/lang/Object"), (0, u "<init>"), (0, u "()V"), (17, .class_ 26), (1, u "jdk/internal/util/Preconditions"), (6, u "checkIndex"), (21, .class_ 56), (0, u "jdk/internal/util/Preconditions$4"), (57, .class_ 115), (0, u "jdk/internal/util/Preconditions$1"), (7, u "SIOOBE_FORMATTER"), (0, u "Ljava/util/function/BiFunction;"), (0, .class_ 126), (0, u "jdk/internal/util/Preconditions$2"), (3, u "AIOOBE_FORMATTER"), (0, .class_ 132), (0, u "jdk/internal/util/Preconditions$3"), (3, u "IOOBE_FORMATTER"), (41, u "(IILjava/util/function/BiFunction;)I")] 15

def k12m0 : Method := { name := "<init>", desc := "()V", sig := { parameters := [], returnType := none }, accessFlags := 1, code := none }
def k12c1 : Code := { maxStack := 3, maxLocals := 3, code := jdk_41_method_11_code, exceptionTable := #[], attributes := #[] }
def k12m1 : Method := { name := "checkIndex", desc := "(IILjava/util/function/BiFunction;)I", sig := { parameters := [.int, .int, (.object "java/util/function/BiFunction")], returnType := some .int }, accessFlags := 9, code := some k12c1 }
/-- jdk/internal/util/Preconditions -/
def k12 : Class := { plain "jdk/internal/util/Preconditions" (some 0) with
  accessFlags := 33
  interfaces := #[]
  cf := some (fileOf pool12 24 #[.nestMembers #[55, 131, 125, 114]] #[{ accessFlags := 1, nameIndex := 5, descriptorIndex := 6, attributes := #[] }, { accessFlags := 9, nameIndex := 33, descriptorIndex := 178, attributes := #[] }] 33 2 #[] #[{ accessFlags := 25, nameIndex := 123, descriptorIndex := 124, attributes := #[] }, { accessFlags := 25, nameIndex := 130, descriptorIndex := 124, attributes := #[] }, { accessFlags := 25, nameIndex := 136, descriptorIndex := 124, attributes := #[] }])
  fields := #[{ name := "SIOOBE_FORMATTER", type := (.object "java/util/function/BiFunction"), accessFlags := 25, slot := 0, constantValue := 0 }, { name := "AIOOBE_FORMATTER", type := (.object "java/util/function/BiFunction"), accessFlags := 25, slot := 1, constantValue := 0 }, { name := "IOOBE_FORMATTER", type := (.object "java/util/function/BiFunction"), accessFlags := 25, slot := 2, constantValue := 0 }]
  methods := #[k12m0, k12m1]
  instanceTypes := #[]
  staticTypes := #[(.object "java/util/function/BiFunction"), (.object "java/util/function/BiFunction"), (.object "java/util/function/BiFunction")]
  resolved := Array.replicate 194 none
  statics := some 1 }

def pool13 : Array CpInfo := pool [(9, u "<init>"), (6, .class_ 18), (1, u "java/lang/Object"), (0, u "()V"), (1, .class_ 23), (1, u "jdk/internal/util/ArraysSupport"), (0, u "LOG2_ARRAY_LONG_INDEX_SCALE"), (0, u "I"), (2, u "U"), (0, u "Ljdk/internal/misc/Unsafe;"), (8, u "BIG_ENDIAN"), (0, u "Z"), (8, u "LOG2_BYTE_BIT_SIZE"), (4, u "LOG2_ARRAY_INT_INDEX_SCALE"), (54, u "JLA"), (0, u "Ljdk/internal/access/JavaLangAccess;"), (11, u "LOG2_ARRAY_BOOLEAN_INDEX_SCALE"), (9, u "LOG2_ARRAY_BYTE_INDEX_SCALE"), (5, u "LOG2_ARRAY_CHAR_INDEX_SCALE"), (5, u "LOG2_ARRAY_SHORT_INDEX_SCALE"), (18, u "LOG2_ARRAY_FLOAT_INDEX_SCALE"), (24, u "LOG2_ARRAY_DOUBLE_INDEX_SCALE"), (89, u "T_BOOLEAN"), (2, u "T_CHAR"), (1, u "T_FLOAT"), (1, u "T_DOUBLE"), (1, u "T_BYTE"), (1, u "T_SHORT"), (1, u "T_INT"), (1, u "T_LONG"), (1, u "SOFT_MAX_ARRAY_LENGTH")] 83

def k13m0 : Method := { name := "<init>", desc := "()V", sig := { parameters := [], returnType := none }, accessFlags := 2, code := none }
/-- jdk/internal/util/ArraysSupport -/
def k13 : Class := { plain "jdk/internal/util/ArraysSupport" (some 0) with
  accessFlags := 33
  interfaces := #[]
  cf := some (fileOf pool13 21 #[] #[{ accessFlags := 2, nameIndex := 9, descriptorIndex := 19, attributes := #[] }] 33 16 #[] #[{ accessFlags := 24, nameIndex := 28, descriptorIndex := 29, attributes := #[] }, { accessFlags := 26, nameIndex := 38, descriptorIndex := 39, attributes := #[] }, { accessFlags := 25, nameIndex := 121, descriptorIndex := 25, attributes := #[] }, { accessFlags := 25, nameIndex := 131, descriptorIndex := 25, attributes := #[] }, { accessFlags := 25, nameIndex := 137, descriptorIndex := 25, attributes := #[] }, { accessFlags := 25, nameIndex := 143, descriptorIndex := 25, attributes := #[] }, { accessFlags := 25, nameIndex := 53, descriptorIndex := 25, attributes := #[] }, { accessFlags := 25, nameIndex := 24, descriptorIndex := 25, attributes := #[] }, { accessFlags := 25, nameIndex := 162, descriptorIndex := 25, attributes := #[] }, { accessFlags := 25, nameIndex := 187, descriptorIndex := 25, attributes := #[] }, { accessFlags := 26, nameIndex := 48, descriptorIndex := 25, attributes := #[] }, { accessFlags := 25, nameIndex := 277, descriptorIndex := 25, attributes := #[] }, { accessFlags := 25, nameIndex := 280, descriptorIndex := 25, attributes := #[] }, { accessFlags := 25, nameIndex := 282, descriptorIndex := 25, attributes := #[] }, { accessFlags := 25, nameIndex := 284, descriptorIndex := 25, attributes := #[] }, { accessFlags := 25, nameIndex := 286, descriptorIndex := 25, attributes := #[] }, { accessFlags := 25, nameIndex := 288, descriptorIndex := 25, attributes := #[] }, { accessFlags := 25, nameIndex := 290, descriptorIndex := 25, attributes := #[] }, { accessFlags := 25, nameIndex := 292, descriptorIndex := 25, attributes := #[] }, { accessFlags := 26, nameIndex := 108, descriptorIndex := 109, attributes := #[] }, { accessFlags := 25, nameIndex := 294, descriptorIndex := 25, attributes := #[] }])
  fields := #[{ name := "U", type := (.object "jdk/internal/misc/Unsafe"), accessFlags := 24, slot := 0, constantValue := 0 }, { name := "BIG_ENDIAN", type := .boolean, accessFlags := 26, slot := 1, constantValue := 0 }, { name := "LOG2_ARRAY_BOOLEAN_INDEX_SCALE", type := .int, accessFlags := 25, slot := 2, constantValue := 0 }, { name := "LOG2_ARRAY_BYTE_INDEX_SCALE", type := .int, accessFlags := 25, slot := 3, constantValue := 0 }, { name := "LOG2_ARRAY_CHAR_INDEX_SCALE", type := .int, accessFlags := 25, slot := 4, constantValue := 0 }, { name := "LOG2_ARRAY_SHORT_INDEX_SCALE", type := .int, accessFlags := 25, slot := 5, constantValue := 0 }, { name := "LOG2_ARRAY_INT_INDEX_SCALE", type := .int, accessFlags := 25, slot := 6, constantValue := 0 }, { name := "LOG2_ARRAY_LONG_INDEX_SCALE", type := .int, accessFlags := 25, slot := 7, constantValue := 0 }, { name := "LOG2_ARRAY_FLOAT_INDEX_SCALE", type := .int, accessFlags := 25, slot := 8, constantValue := 0 }, { name := "LOG2_ARRAY_DOUBLE_INDEX_SCALE", type := .int, accessFlags := 25, slot := 9, constantValue := 0 }, { name := "LOG2_BYTE_BIT_SIZE", type := .int, accessFlags := 26, slot := 10, constantValue := 0 }, { name := "T_BOOLEAN", type := .int, accessFlags := 25, slot := 11, constantValue := 0 }, { name := "T_CHAR", type := .int, accessFlags := 25, slot := 12, constantValue := 0 }, { name := "T_FLOAT", type := .int, accessFlags := 25, slot := 13, constantValue := 0 }, { name := "T_DOUBLE", type := .int, accessFlags := 25, slot := 14, constantValue := 0 }, { name := "T_BYTE", type := .int, accessFlags := 25, slot := 15, constantValue := 0 }, { name := "T_SHORT", type := .int, accessFlags := 25, slot := 16, constantValue := 0 }, { name := "T_INT", type := .int, accessFlags := 25, slot := 17, constantValue := 0 }, { name := "T_LONG", type := .int, accessFlags := 25, slot := 18, constantValue := 0 }, { name := "JLA", type := (.object "jdk/internal/access/JavaLangAccess"), accessFlags := 26, slot := 19, constantValue := 0 }, { name := "SOFT_MAX_ARRAY_LENGTH", type := .int, accessFlags := 25, slot := 20, constantValue := 0 }]
  methods := #[k13m0]
  instanceTypes := #[]
  staticTypes := #[(.object "jdk/internal/misc/Unsafe"), .boolean, .int, .int, .int, .int, .int, .int, .int, .int, .int, .int, .int, .int, .int, .int, .int, .int, .int, (.object "jdk/internal/access/JavaLangAccess"), .int]
  resolved := Array.replicate 378 none
  statics := none }

def pool14 : Array CpInfo := pool [(1, u "java/lang/Cloneable"), (0, .class_ 1), (0, u "java/lang/Object"), (0, .class_ 3)] 3

/-- java/lang/Cloneable -/
def k14 : Class := { plain "java/lang/Cloneable" (some 0) with
  accessFlags := 1537
  interfaces := #[]
  cf := some (fileOf pool14 2 #[] #[] 1537 4 #[] #[])
  fields := #[]
  methods := #[]
  instanceTypes := #[]
  staticTypes := #[]
  resolved := Array.replicate 8 none
  statics := none }

/-- the primitive byte -/
def k15 : Class := { plain "byte" none with kind := .primitive 'B', accessFlags := 0x411 }
/-- [B -/
def k16 : Class := { plain "[B" (some 0) with kind := .array 15 .byte, interfaces := #[14, 2], accessFlags := 1041 }

/-- the primitive char -/
def k17 : Class := { plain "char" none with kind := .primitive 'C', accessFlags := 0x411 }
/-- [C -/
def k18 : Class := { plain "[C" (some 0) with kind := .array 17 .char, interfaces := #[14, 2], accessFlags := 1041 }

/-- the primitive int -/
def k19 : Class := { plain "int" none with kind := .primitive 'I', accessFlags := 0x411 }
/-- [I -/
def k20 : Class := { plain "[I" (some 0) with kind := .array 19 .int, interfaces := #[14, 2], accessFlags := 1041 }

def heap : Heap := #[{ cls := 7, slots := #[.long 0, .int 1, .null, .int 0, .null, .int 0, .int 0], vm := .statics 7 },
  { cls := 12, slots := #[.null, .null, .null], vm := .statics 12 }]
def classes : Array Class := #[k0, k1, k2, k3, k4, k5, k6, k7, k8, k9, k10, k11, k12, k13, k14, k15, k16, k17, k18, k19, k20]
def interned : List (Array UInt16 × Addr) := []
def slotsUsed : Nat := 10
def theMethod : MethodId := ⟨1, 2⟩
def args0 : Array Value := #[.int 65, .int 66, .int 67, .int 4]
def aboutOver (below : List Frame) : State where
  vm := { classes := classes, interned := interned.toArray }
  heap := heap
  slotsUsed := slotsUsed
  threads := #[{ frames := .invoking theMethod args0 :: below }]
def below0 : List Frame := [.native { method := ⟨0, 0⟩, args := #[] }]
def about1 : State := aboutOver below0
def p0 : Program := .bare "" "" ""
def e0 : Env := launch0.env 0 0 0
theorem w_frames : about1.frames = Frame.invoking theMethod args0 :: below0 := rfl
set_option maxRecDepth 65536 in
theorem w_args : argsFit about1.vm theMethod args0 = true := by decide +kernel
set_option maxRecDepth 65536 in
theorem w_heap : heapFits about1 = true := by decide +kernel
set_option maxRecDepth 65536 in
theorem w_runnable : about1.curStatus? = some .runnable := by decide +kernel
set_option maxRecDepth 65536 in
theorem w_alone : about1.alone = true := by decide +kernel
set_option maxRecDepth 65536 in
theorem w_named : about1.methodNamed? x = some theMethod := by decide +kernel
set_option maxRecDepth 65536 in
theorem w_hears : about1.hears theMethod below0 = true := by decide +kernel
set_option maxRecDepth 65536 in
theorem w_ripe : about1.ripe theMethod args0 below0 = true := by decide +kernel
theorem w_running : about1.status = .running := rfl
set_option maxRecDepth 65536 in
theorem w_room : about1.hasRoom e0.platform room_1 = true :=
  launch0.hasRoom_least _ room_1 (by decide +kernel) (by decide +kernel) (by decide +kernel) (by decide +kernel) (by decide +kernel) (by decide +kernel)
theorem allAtoms_all (ts : List Jvm.Cond) (a : Array Jvm.Value) (st : Jvm.State) : (allAtoms ts).before a st = ts.all (fun c => c.before a st) := by
  induction ts with
  | nil => rfl
  | cons c t ih =>
    show (Jvm.Cond.and c (allAtoms t)).before a st = _
    rw [Jvm.Cond.before_and, ih, List.all_cons]
def words1 : List Jvm.Cond := Jvm.Cond.code x code maxLocals ret :: tables_1
/-- a 'code' word, met by the world's own term for the bytes: nothing is compared byte by byte -/
theorem code_word {y : MethodName} {bytes : ByteArray} {mx : Nat} {rt : Option FieldType} {a : Array Value} {s : State} {m : MethodId} {meth : Method} {c : Code} (h1 : s.methodNamed? y = some m) (h2 : s.vm.method? m = some meth) (h3 : meth.code = some c) (h4 : c.code = bytes)
    (h5 : (c.maxLocals == mx && c.exceptionTable.isEmpty && decide (c.maxStack ≤ mostOperands) && decide (meth.sig.returnType = rt) && !meth.locks && decide (parseMethodDescriptor y.desc = some meth.sig)) = true) : (Jvm.Cond.code y bytes mx rt).before a s = true := by
  simp only [Bool.and_eq_true, beq_iff_eq, Bool.not_eq_true', decide_eq_true_eq] at h5
  obtain ⟨⟨⟨⟨⟨g1, g2⟩, g3⟩, g4⟩, g5⟩, g6⟩ := h5
  simp [Cond.before, Cond.holds, Cond.value, h1, h2, h3, h4, g1, g2, g3, g4, g5, g6]
def isCode : Jvm.Cond → Bool
  | .code _ _ _ _ => true
  | _ => false
theorem all_split {L : List Jvm.Cond} {P : Jvm.Cond → Bool} (h1 : L.all (fun c => isCode c || P c) = true) (h2 : ∀ c ∈ L.filter isCode, P c = true) : L.all P = true := by
  refine List.all_eq_true.mpr fun c hc => ?_
  have h := List.all_eq_true.mp h1 c hc
  rcases Bool.eq_false_or_eq_true (isCode c) with hi | hi
  · exact h2 c (List.mem_filter.mpr ⟨hc, hi⟩)
  · simpa [hi] using h
set_option maxRecDepth 65536 in
theorem w_c0 : (Jvm.Cond.code x code maxLocals ret).before args0 about1 = true := code_word (m := ⟨1, 2⟩) (meth := k1m2) (c := k1c2) (by decide +kernel) rfl rfl rfl (by decide +kernel)
set_option maxRecDepth 65536 in
theorem w_c1 : (Jvm.Cond.code ({ cls := "java/lang/String", name := "<init>", desc := "([C)V" } : Jvm.MethodName) jdk_42_method_3_code (2 : Nat) (Option.none : Option Jvm.ClassFile.FieldType)).before args0 about1 = true := code_word (m := ⟨7, 1⟩) (meth := k7m1) (c := k7c1) (by decide +kernel) rfl rfl rfl (by decide +kernel)
set_option maxRecDepth 65536 in
theorem w_c2 : (Jvm.Cond.code ({ cls := "java/lang/String", name := "<init>", desc := "([CIILjava/lang/Void;)V" } : Jvm.MethodName) jdk_42_method_149_code (6 : Nat) (Option.none : Option Jvm.ClassFile.FieldType)).before args0 about1 = true := code_word (m := ⟨7, 7⟩) (meth := k7m7) (c := k7c7) (by decide +kernel) rfl rfl rfl (by decide +kernel)
set_option maxRecDepth 65536 in
theorem w_c3 : (Jvm.Cond.code ({ cls := "java/lang/Object", name := "<init>", desc := "()V" } : Jvm.MethodName) object_method_1_code (1 : Nat) (Option.none : Option Jvm.ClassFile.FieldType)).before args0 about1 = true := code_word (m := ⟨0, 0⟩) (meth := k0m0) (c := k0c0) (by decide +kernel) rfl rfl rfl (by decide +kernel)
set_option maxRecDepth 65536 in
theorem w_c4 : (Jvm.Cond.code ({ cls := "java/lang/StringUTF16", name := "compress", desc := "([CII)[B" } : Jvm.MethodName) jdk_52_method_16_code (6 : Nat) (Option.some (Jvm.ClassFile.FieldType.array Jvm.ClassFile.FieldType.byte))).before args0 about1 = true := code_word (m := ⟨8, 2⟩) (meth := k8m2) (c := k8c2) (by decide +kernel) rfl rfl rfl (by decide +kernel)
set_option maxRecDepth 65536 in
theorem w_c5 : (Jvm.Cond.code ({ cls := "java/lang/StringUTF16", name := "compress", desc := "([CI[BII)I" } : Jvm.MethodName) jdk_52_method_21_code (7 : Nat) (Option.some Jvm.ClassFile.FieldType.int)).before args0 about1 = true := code_word (m := ⟨8, 3⟩) (meth := k8m3) (c := k8c3) (by decide +kernel) rfl rfl rfl (by decide +kernel)
set_option maxRecDepth 65536 in
theorem w_c6 : (Jvm.Cond.code ({ cls := "java/lang/StringUTF16", name := "coderFromArrayLen", desc := "([BI)B" } : Jvm.MethodName) jdk_52_method_15_code (2 : Nat) (Option.some Jvm.ClassFile.FieldType.byte)).before args0 about1 = true := code_word (m := ⟨8, 1⟩) (meth := k8m1) (c := k8c1) (by decide +kernel) rfl rfl rfl (by decide +kernel)
set_option maxRecDepth 65536 in
theorem w_c7 : (Jvm.Cond.code ({ cls := "java/lang/Math", name := "min", desc := "(II)I" } : Jvm.MethodName) jdk_29_method_69_code (2 : Nat) (Option.some Jvm.ClassFile.FieldType.int)).before args0 about1 = true := code_word (m := ⟨9, 2⟩) (meth := k9m2) (c := k9c2) (by decide +kernel) rfl rfl rfl (by decide +kernel)
set_option maxRecDepth 65536 in
theorem w_c8 : (Jvm.Cond.code ({ cls := "java/lang/Math", name := "max", desc := "(II)I" } : Jvm.MethodName) jdk_29_method_65_code (2 : Nat) (Option.some Jvm.ClassFile.FieldType.int)).before args0 about1 = true := code_word (m := ⟨9, 1⟩) (meth := k9m1) (c := k9c1) (by decide +kernel) rfl rfl rfl (by decide +kernel)
set_option maxRecDepth 65536 in
theorem w_c9 : (Jvm.Cond.code ({ cls := "com/example/covenantry/covenantry/text/PhrasesAfterLastMarkPinLaw", name := "isMark", desc := "(CICC)Z" } : Jvm.MethodName) method_2_code (4 : Nat) (Option.some Jvm.ClassFile.FieldType.boolean)).before args0 about1 = true := code_word (m := ⟨1, 1⟩) (meth := k1m1) (c := k1c1) (by decide +kernel) rfl rfl rfl (by decide +kernel)
set_option maxRecDepth 65536 in
theorem w_c10 : (Jvm.Cond.code ({ cls := "com/example/covenantry/covenantry/text/Phrases", name := "afterLastMark", desc := "(Ljava/lang/String;IILjava/lang/String;)I" } : Jvm.MethodName) prog_84_method_13_code (5 : Nat) (Option.some Jvm.ClassFile.FieldType.int)).before args0 about1 = true := code_word (m := ⟨10, 1⟩) (meth := k10m1) (c := k10c1) (by decide +kernel) rfl rfl rfl (by decide +kernel)
set_option maxRecDepth 65536 in
theorem w_c11 : (Jvm.Cond.code ({ cls := "java/lang/String", name := "charAt", desc := "(I)C" } : Jvm.MethodName) jdk_42_method_56_code (2 : Nat) (Option.some Jvm.ClassFile.FieldType.char)).before args0 about1 = true := code_word (m := ⟨7, 3⟩) (meth := k7m3) (c := k7c3) (by decide +kernel) rfl rfl rfl (by decide +kernel)
set_option maxRecDepth 65536 in
theorem w_c12 : (Jvm.Cond.code ({ cls := "java/lang/String", name := "isLatin1", desc := "()Z" } : Jvm.MethodName) jdk_42_method_154_code (1 : Nat) (Option.some Jvm.ClassFile.FieldType.boolean)).before args0 about1 = true := code_word (m := ⟨7, 10⟩) (meth := k7m10) (c := k7c10) (by decide +kernel) rfl rfl rfl (by decide +kernel)
set_option maxRecDepth 65536 in
theorem w_c13 : (Jvm.Cond.code ({ cls := "java/lang/StringLatin1", name := "charAt", desc := "([BI)C" } : Jvm.MethodName) jdk_43_method_2_code (2 : Nat) (Option.some Jvm.ClassFile.FieldType.char)).before args0 about1 = true := code_word (m := ⟨11, 1⟩) (meth := k11m1) (c := k11c1) (by decide +kernel) rfl rfl rfl (by decide +kernel)
set_option maxRecDepth 65536 in
theorem w_c14 : (Jvm.Cond.code ({ cls := "java/lang/String", name := "checkIndex", desc := "(II)V" } : Jvm.MethodName) jdk_42_method_155_code (2 : Nat) (Option.none : Option Jvm.ClassFile.FieldType)).before args0 about1 = true := code_word (m := ⟨7, 11⟩) (meth := k7m11) (c := k7c11) (by decide +kernel) rfl rfl rfl (by decide +kernel)
set_option maxRecDepth 65536 in
theorem w_c15 : (Jvm.Cond.code ({ cls := "jdk/internal/util/Preconditions", name := "checkIndex", desc := "(IILjava/util/function/BiFunction;)I" } : Jvm.MethodName) jdk_41_method_11_code (3 : Nat) (Option.some Jvm.ClassFile.FieldType.int)).before args0 about1 = true := code_word (m := ⟨12, 1⟩) (meth := k12m1) (c := k12c1) (by decide +kernel) rfl rfl rfl (by decide +kernel)
set_option maxRecDepth 65536 in
theorem w_c16 : (Jvm.Cond.code ({ cls := "java/lang/String", name := "indexOf", desc := "(I)I" } : Jvm.MethodName) jdk_42_method_79_code (2 : Nat) (Option.some Jvm.ClassFile.FieldType.int)).before args0 about1 = true := code_word (m := ⟨7, 4⟩) (meth := k7m4) (c := k7c4) (by decide +kernel) rfl rfl rfl (by decide +kernel)
set_option maxRecDepth 65536 in
theorem w_c17 : (Jvm.Cond.code ({ cls := "java/lang/String", name := "indexOf", desc := "(II)I" } : Jvm.MethodName) jdk_42_method_80_code (3 : Nat) (Option.some Jvm.ClassFile.FieldType.int)).before args0 about1 = true := code_word (m := ⟨7, 5⟩) (meth := k7m5) (c := k7c5) (by decide +kernel) rfl rfl rfl (by decide +kernel)
set_option maxRecDepth 65536 in
theorem w_c18 : (Jvm.Cond.code ({ cls := "java/lang/String", name := "length", desc := "()I" } : Jvm.MethodName) jdk_42_method_54_code (1 : Nat) (Option.some Jvm.ClassFile.FieldType.int)).before args0 about1 = true := code_word (m := ⟨7, 2⟩) (meth := k7m2) (c := k7c2) (by decide +kernel) rfl rfl rfl (by decide +kernel)
set_option maxRecDepth 65536 in
theorem w_c19 : (Jvm.Cond.code ({ cls := "java/lang/String", name := "coder", desc := "()B" } : Jvm.MethodName) jdk_42_method_152_code (1 : Nat) (Option.some Jvm.ClassFile.FieldType.byte)).before args0 about1 = true := code_word (m := ⟨7, 9⟩) (meth := k7m9) (c := k7c9) (by decide +kernel) rfl rfl rfl (by decide +kernel)
set_option maxRecDepth 65536 in
theorem w_c20 : (Jvm.Cond.code ({ cls := "java/lang/StringLatin1", name := "indexOf", desc := "([BIII)I" } : Jvm.MethodName) jdk_43_method_22_code (4 : Nat) (Option.some Jvm.ClassFile.FieldType.int)).before args0 about1 = true := code_word (m := ⟨11, 4⟩) (meth := k11m4) (c := k11c4) (by decide +kernel) rfl rfl rfl (by decide +kernel)
set_option maxRecDepth 65536 in
theorem w_c21 : (Jvm.Cond.code ({ cls := "java/lang/StringLatin1", name := "canEncode", desc := "(I)Z" } : Jvm.MethodName) jdk_43_method_4_code (1 : Nat) (Option.some Jvm.ClassFile.FieldType.boolean)).before args0 about1 = true := code_word (m := ⟨11, 3⟩) (meth := k11m3) (c := k11c3) (by decide +kernel) rfl rfl rfl (by decide +kernel)
set_option maxRecDepth 65536 in
theorem w_c22 : (Jvm.Cond.code ({ cls := "java/lang/String", name := "valueOf", desc := "(C)Ljava/lang/String;" } : Jvm.MethodName) jdk_42_method_139_code (1 : Nat) (Option.some (Jvm.ClassFile.FieldType.object "java/lang/String"))).before args0 about1 = true := code_word (m := ⟨7, 6⟩) (meth := k7m6) (c := k7c6) (by decide +kernel) rfl rfl rfl (by decide +kernel)
set_option maxRecDepth 65536 in
theorem w_c23 : (Jvm.Cond.code ({ cls := "java/lang/StringLatin1", name := "canEncode", desc := "(C)Z" } : Jvm.MethodName) jdk_43_method_3_code (1 : Nat) (Option.some Jvm.ClassFile.FieldType.boolean)).before args0 about1 = true := code_word (m := ⟨11, 2⟩) (meth := k11m2) (c := k11c2) (by decide +kernel) rfl rfl rfl (by decide +kernel)
set_option maxRecDepth 65536 in
theorem w_c24 : (Jvm.Cond.code ({ cls := "java/lang/StringLatin1", name := "toBytes", desc := "(C)[B" } : Jvm.MethodName) jdk_43_method_46_code (1 : Nat) (Option.some (Jvm.ClassFile.FieldType.array Jvm.ClassFile.FieldType.byte))).before args0 about1 = true := code_word (m := ⟨11, 6⟩) (meth := k11m6) (c := k11c6) (by decide +kernel) rfl rfl rfl (by decide +kernel)
set_option maxRecDepth 65536 in
theorem w_c25 : (Jvm.Cond.code ({ cls := "java/lang/String", name := "<init>", desc := "([BB)V" } : Jvm.MethodName) jdk_42_method_151_code (3 : Nat) (Option.none : Option Jvm.ClassFile.FieldType)).before args0 about1 = true := code_word (m := ⟨7, 8⟩) (meth := k7m8) (c := k7c8) (by decide +kernel) rfl rfl rfl (by decide +kernel)
set_option maxRecDepth 65536 in
theorem w_c26 : (Jvm.Cond.code ({ cls := "java/lang/StringLatin1", name := "indexOfChar", desc := "([BIII)I" } : Jvm.MethodName) jdk_43_method_23_code (6 : Nat) (Option.some Jvm.ClassFile.FieldType.int)).before args0 about1 = true := code_word (m := ⟨11, 5⟩) (meth := k11m5) (c := k11c5) (by decide +kernel) rfl rfl rfl (by decide +kernel)
def codes1 : List Jvm.Cond := [Jvm.Cond.code x code maxLocals ret, Jvm.Cond.code ({ cls := "java/lang/String", name := "<init>", desc := "([C)V" } : Jvm.MethodName) jdk_42_method_3_code (2 : Nat) (Option.none : Option Jvm.ClassFile.FieldType), Jvm.Cond.code ({ cls := "java/lang/String", name := "<init>", desc := "([CIILjava/lang/Void;)V" } : Jvm.MethodName) jdk_42_method_149_code (6 : Nat) (Option.none : Option Jvm.ClassFile.FieldType), Jvm.Cond.code ({ cls := "java/lang/Object", name := "<init>", desc := "()V" } : Jvm.MethodName) object_method_1_code (1 : Nat) (Option.none : Option Jvm.ClassFile.FieldType), Jvm.Cond.code ({ cls := "java/lang/StringUTF16", name := "compress", desc := "([CII)[B" } : Jvm.MethodName) jdk_52_method_16_code (6 : Nat) (Option.some (Jvm.ClassFile.FieldType.array Jvm.ClassFile.FieldType.byte)), Jvm.Cond.code ({ cls := "java/lang/StringUTF16", name := "compress", desc := "([CI[BII)I" } : Jvm.MethodName) jdk_52_method_21_code (7 : Nat) (Option.some Jvm.ClassFile.FieldType.int), Jvm.Cond.code ({ cls := "java/lang/StringUTF16", name := "coderFromArrayLen", desc := "([BI)B" } : Jvm.MethodName) jdk_52_method_15_code (2 : Nat) (Option.some Jvm.ClassFile.FieldType.byte), Jvm.Cond.code ({ cls := "java/lang/Math", name := "min", desc := "(II)I" } : Jvm.MethodName) jdk_29_method_69_code (2 : Nat) (Option.some Jvm.ClassFile.FieldType.int), Jvm.Cond.code ({ cls := "java/lang/Math", name := "max", desc := "(II)I" } : Jvm.MethodName) jdk_29_method_65_code (2 : Nat) (Option.some Jvm.ClassFile.FieldType.int), Jvm.Cond.code ({ cls := "com/example/covenantry/covenantry/text/PhrasesAfterLastMarkPinLaw", name := "isMark", desc := "(CICC)Z" } : Jvm.MethodName) method_2_code (4 : Nat) (Option.some Jvm.ClassFile.FieldType.boolean), Jvm.Cond.code ({ cls := "com/example/covenantry/covenantry/text/Phrases", name := "afterLastMark", desc := "(Ljava/lang/String;IILjava/lang/String;)I" } : Jvm.MethodName) prog_84_method_13_code (5 : Nat) (Option.some Jvm.ClassFile.FieldType.int), Jvm.Cond.code ({ cls := "java/lang/String", name := "charAt", desc := "(I)C" } : Jvm.MethodName) jdk_42_method_56_code (2 : Nat) (Option.some Jvm.ClassFile.FieldType.char), Jvm.Cond.code ({ cls := "java/lang/String", name := "isLatin1", desc := "()Z" } : Jvm.MethodName) jdk_42_method_154_code (1 : Nat) (Option.some Jvm.ClassFile.FieldType.boolean), Jvm.Cond.code ({ cls := "java/lang/StringLatin1", name := "charAt", desc := "([BI)C" } : Jvm.MethodName) jdk_43_method_2_code (2 : Nat) (Option.some Jvm.ClassFile.FieldType.char), Jvm.Cond.code ({ cls := "java/lang/String", name := "checkIndex", desc := "(II)V" } : Jvm.MethodName) jdk_42_method_155_code (2 : Nat) (Option.none : Option Jvm.ClassFile.FieldType), Jvm.Cond.code ({ cls := "jdk/internal/util/Preconditions", name := "checkIndex", desc := "(IILjava/util/function/BiFunction;)I" } : Jvm.MethodName) jdk_41_method_11_code (3 : Nat) (Option.some Jvm.ClassFile.FieldType.int), Jvm.Cond.code ({ cls := "java/lang/String", name := "indexOf", desc := "(I)I" } : Jvm.MethodName) jdk_42_method_79_code (2 : Nat) (Option.some Jvm.ClassFile.FieldType.int), Jvm.Cond.code ({ cls := "java/lang/String", name := "indexOf", desc := "(II)I" } : Jvm.MethodName) jdk_42_method_80_code (3 : Nat) (Option.some Jvm.ClassFile.FieldType.int), Jvm.Cond.code ({ cls := "java/lang/String", name := "length", desc := "()I" } : Jvm.MethodName) jdk_42_method_54_code (1 : Nat) (Option.some Jvm.ClassFile.FieldType.int), Jvm.Cond.code ({ cls := "java/lang/String", name := "coder", desc := "()B" } : Jvm.MethodName) jdk_42_method_152_code (1 : Nat) (Option.some Jvm.ClassFile.FieldType.byte), Jvm.Cond.code ({ cls := "java/lang/StringLatin1", name := "indexOf", desc := "([BIII)I" } : Jvm.MethodName) jdk_43_method_22_code (4 : Nat) (Option.some Jvm.ClassFile.FieldType.int), Jvm.Cond.code ({ cls := "java/lang/StringLatin1", name := "canEncode", desc := "(I)Z" } : Jvm.MethodName) jdk_43_method_4_code (1 : Nat) (Option.some Jvm.ClassFile.FieldType.boolean), Jvm.Cond.code ({ cls := "java/lang/String", name := "valueOf", desc := "(C)Ljava/lang/String;" } : Jvm.MethodName) jdk_42_method_139_code (1 : Nat) (Option.some (Jvm.ClassFile.FieldType.object "java/lang/String")), Jvm.Cond.code ({ cls := "java/lang/StringLatin1", name := "canEncode", desc := "(C)Z" } : Jvm.MethodName) jdk_43_method_3_code (1 : Nat) (Option.some Jvm.ClassFile.FieldType.boolean), Jvm.Cond.code ({ cls := "java/lang/StringLatin1", name := "toBytes", desc := "(C)[B" } : Jvm.MethodName) jdk_43_method_46_code (1 : Nat) (Option.some (Jvm.ClassFile.FieldType.array Jvm.ClassFile.FieldType.byte)), Jvm.Cond.code ({ cls := "java/lang/String", name := "<init>", desc := "([BB)V" } : Jvm.MethodName) jdk_42_method_151_code (3 : Nat) (Option.none : Option Jvm.ClassFile.FieldType), Jvm.Cond.code ({ cls := "java/lang/StringLatin1", name := "indexOfChar", desc := "([BIII)I" } : Jvm.MethodName) jdk_43_method_23_code (6 : Nat) (Option.some Jvm.ClassFile.FieldType.int)]
set_option maxRecDepth 65536 in
theorem codes_eq : words1.filter isCode = codes1 := rfl
theorem w_codes : ∀ c ∈ words1.filter isCode, c.before args0 about1 = true := by
  rw [codes_eq]
  intro c hc
  simp only [codes1, List.mem_cons, List.not_mem_nil, or_false] at hc
  rcases hc with rfl | rfl | rfl | rfl | rfl | rfl | rfl | rfl | rfl | rfl | rfl | rfl | rfl | rfl | rfl | rfl | rfl | rfl | rfl | rfl | rfl | rfl | rfl | rfl | rfl | rfl | rfl
  · exact w_c0
  · exact w_c1
  · exact w_c2
  · exact w_c3
  · exact w_c4
  · exact w_c5
  · exact w_c6
  · exact w_c7
  · exact w_c8
  · exact w_c9
  · exact w_c10
  · exact w_c11
  · exact w_c12
  · exact w_c13
  · exact w_c14
  · exact w_c15
  · exact w_c16
  · exact w_c17
  · exact w_c18
  · exact w_c19
  · exact w_c20
  · exact w_c21
  · exact w_c22
  · exact w_c23
  · exact w_c24
  · exact w_c25
  · exact w_c26
set_option maxRecDepth 65536 in
theorem w_t1 : (words1.take 24).all (fun c => isCode c || c.before args0 about1) = true := by decide +kernel
set_option maxRecDepth 65536 in
theorem w_t2 : ((words1.drop 24).take 24).all (fun c => isCode c || c.before args0 about1) = true := by decide +kernel
set_option maxRecDepth 65536 in
theorem w_t3 : (((words1.drop 24).drop 24).take 24).all (fun c => isCode c || c.before args0 about1) = true := by decide +kernel
set_option maxRecDepth 65536 in
theorem w_t4 : ((((words1.drop 24).drop 24).drop 24).take 24).all (fun c => isCode c || c.before args0 about1) = true := by decide +kernel
set_option maxRecDepth 65536 in
theorem w_t5 : ((((words1.drop 24).drop 24).drop 24).drop 24).all (fun c => isCode c || c.before args0 about1) = true := by decide +kernel
theorem w_tables : (allAtoms (Jvm.Cond.code x code maxLocals ret :: tables_1)).before args0 about1 = true := by
  rw [allAtoms_all]
  show words1.all (fun c => c.before args0 about1) = true
  refine all_split ?_ w_codes
  rw [← List.take_append_drop 24 words1, List.all_append, w_t1, ← List.take_append_drop 24 (words1.drop 24), List.all_append, w_t2, ← List.take_append_drop 24 ((words1.drop 24).drop 24), List.all_append, w_t3, ← List.take_append_drop 24 (((words1.drop 24).drop 24).drop 24), List.all_append, w_t4, w_t5]
  rfl
set_option maxRecDepth 65536 in
theorem w_rest : rest_1_c.before args0 about1 = true := by decide +kernel
set_option maxRecDepth 65536 in
theorem w_case : (Jvm.Cond.and given_1 narrow_1).before args0 about1 = true := by decide +kernel
set_option maxRecDepth 65536 in
theorem w_consts : constsHeld consts_1 about1 := Jvm.Lit.constsHeldB_iff.mp (by decide +kernel)
theorem w_applies : (headSpec (Jvm.Cond.code x code maxLocals ret :: tables_1) room_1).applies x e0.platform about1 = true :=
  (Spec.applies_iff w_frames).mpr ⟨w_running, w_runnable, w_alone, w_named, w_hears, w_ripe, w_room, w_tables⟩
theorem atStart : AtStart classFile x code maxLocals ret World_1 tables_1 room_1 Calls_1 rest_1 Pre_1 launch0 p0 e0 about1 theMethod args0 below0 :=
  ⟨lists_1, trivial, launch0.admits_env _ _ _, launch0.least_env, fairChoices_fair.cas, fairChoices_fair.clock, w_frames, w_args, w_heap, w_applies, ⟨w_consts, trivial⟩, w_rest, w_case⟩
end start1
theorem witness_1 : WitnessClaimed_1 := ⟨start1.p0, start1.e0, start1.about1, start1.theMethod, start1.args0, start1.below0, start1.atStart⟩
end Jvm.Pilot.@@N@@
