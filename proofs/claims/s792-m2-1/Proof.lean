import JvmDerived
import JvmDerived.Pilot.@@N@@Statement
import JvmDerived.Pilot.@@N@@Code
set_option linter.unusedVariables false
set_option linter.unusedSimpArgs false
namespace Jvm.Pilot.@@N@@
open Jvm Jvm.ClassFile Sem Op Lib Jvm.Free Jvm.Stand Jvm.LawKit Jvm.RoadKit Bundle Jvm.Pilot.@@N@@.Jvm.D
abbrev St (p : Program) (e : Env) (below : List Frame) (T : State) (g : JFrame) (t : State) : Prop := Steps p.tables e below (T.setTop g) t
theorem ww {Z : State} {a0 : Array Value} (hw : ∀ d ∈ tables_1, d.before a0 Z = true) {d : Jvm.Cond} (i : Nat) (h : tables_1[i]? = some d) : d.before a0 Z = true := hw _ (List.mem_of_getElem? h)
theorem ltI {a b : Int32} (h : a < b) : a.toInt < b.toInt := Int32.lt_iff_toInt_lt.mp h
theorem nltI {a b : Int32} (h : ¬ a < b) : ¬ a.toInt < b.toInt := mt Int32.lt_iff_toInt_lt.mpr h
theorem eqI {a b : Int32} (h : a = b) : a.toInt = b.toInt := congrArg Int32.toInt h
theorem neI {a b : Int32} (h : ¬ a = b) : ¬ a.toInt = b.toInt := mt Int32.toInt_inj.mp h
theorem ltJ {a b : Int64} (h : a < b) : a.toInt < b.toInt := Int64.lt_iff_toInt_lt.mp h
theorem nltJ {a b : Int64} (h : ¬ a < b) : ¬ a.toInt < b.toInt := mt Int64.lt_iff_toInt_lt.mpr h
theorem eqJ {a b : Int64} (h : a = b) : a.toInt = b.toInt := congrArg Int64.toInt h
theorem neJ {a b : Int64} (h : ¬ a = b) : ¬ a.toInt = b.toInt := mt Int64.toInt_inj.mp h
theorem own_eqI {args : Array Value} {s : State} {t : Term} {k : Int32} (h : (Jvm.Cond.eq t (.int k)).value args s none s [] = some true) : t.eval args s none [] s = some (.int k) := by
  obtain ⟨x, y, ex, ey, k1, k2⟩ := cmp_v (Or.inl h)
  obtain rfl : y = .int k := Option.some.inj (ey.symm.trans (Term.int_eval k))
  obtain ⟨z, rfl⟩ := k2
  rw [ex, gotT (Cond.eq_ints ex ey) h]
theorem own_eqJ {args : Array Value} {s : State} {t : Term} {k : Int64} (h : (Jvm.Cond.eq t (.long k)).value args s none s [] = some true) : t.eval args s none [] s = some (.long k) := by
  obtain ⟨x, y, ex, ey, k1, k2⟩ := cmp_v (Or.inl h)
  obtain rfl : y = .long k := Option.some.inj (ey.symm.trans (long_at k))
  obtain ⟨z, rfl⟩ := k2
  rw [ex, gotT (eq_L ex ey) h]
theorem own_eqR {args : Array Value} {s : State} {t u : Term} {b : Addr} (h : (Jvm.Cond.eq t u).value args s none s [] = some true) (hu : u.eval args s none [] s = some (.ref b)) : t.eval args s none [] s = some (.ref b) := by
  obtain ⟨x, y, ex, ey, k1, k2⟩ := cmp_v (Or.inl h)
  obtain rfl : y = .ref b := Option.some.inj (ey.symm.trans hu)
  have hx : x.isRef = true := k2.2
  rw [ex, gotT (eq_R ex ey hx rfl) h]
theorem own_len {args : Array Value} {s : State} {t : Term} {a : Addr} {cl : Cell} {ty : FieldType} {k : Int32} (ev : t.eval args s none [] s = some (.ref a)) (A : Arr s s.heap a cl ty) (h : (Term.length t).eval args s none [] s = some (.int k)) : cl.slots.size < 2 ^ 31 ∧ cl.slots.size.toInt32 = k := by
  have ha := A.fin (Vm.Alike.refl _)
  by_cases hl : cl.slots.size < 2 ^ 31
  · exact ⟨hl, Value.int.inj (Option.some.inj ((len_f ev ha hl).symm.trans h))⟩
  · exfalso; simp [Term.eval, ev, ha, hl] at h
theorem own_sel {Z : State} {a0 : Array Value} {y : MethodName} {n : Nat} (wi : (Jvm.Cond.instantiable y.cls n).before a0 Z = true) (wp : (Jvm.Cond.privateMethod y).before a0 Z = true) (wm : (Jvm.Cond.instanceMethod y).before a0 Z = true) (hy : y.cls ≠ "java/lang/invoke/MethodHandle" ∧ y.cls ≠ "java/lang/invoke/VarHandle") : (Jvm.Cond.selects y.cls y y).before a0 Z = true := by
  obtain ⟨c, k, h1, h2, h3, h4, -⟩ := Cond.instantiable_spec wi
  exact selects_self_of_private h1 h2 (by simp only [Bool.or_eq_false_iff] at h4; exact h4.1) (Cond.privateMethod_at wp) wm hy
def own_nz (x : Int64) : Int32 := if x = 0 then 0 else 1
theorem own_c_nz (x : Int64) : (x.toInt = 0 → (own_nz x).toInt = 0) ∧ (x.toInt ≠ 0 → (own_nz x).toInt = 1) := by
  unfold own_nz
  by_cases h : x = 0
  · subst h; exact ⟨fun _ => by decide, fun q => absurd (by decide) q⟩
  · rw [if_neg h]; exact ⟨fun q => absurd (Int64.toInt_inj.mp (q.trans (by decide : (0 : Int) = (0 : Int64).toInt))) h, fun _ => by decide⟩
theorem own_old_le {Z : State} {n0 : Nat} {h : Heap} (O : Old Z n0 h) : n0 ≤ h.size := O.1 ▸ O.2.1
abbrev M0 : MethodName := ⟨"com/example/quadrille/quadrille/rdf/Iri", "isNotAllowed", "(I)Z"⟩
abbrev M1 : MethodName := ⟨"com/example/quadrille/quadrille/rdf/IriIsNotAllowedPinLaw", "expected", "(I)Z"⟩
theorem lI128 : (128 : Int32).toInt = 128 := by decide
theorem lI0 : (0 : Int32).toInt = 0 := by decide
theorem lI32 : (32 : Int32).toInt = 32 := by decide
theorem lI60 : (60 : Int32).toInt = 60 := by decide
theorem lI62 : (62 : Int32).toInt = 62 := by decide
theorem lI34 : (34 : Int32).toInt = 34 := by decide
theorem lI123 : (123 : Int32).toInt = 123 := by decide
theorem lI125 : (125 : Int32).toInt = 125 := by decide
theorem lI124 : (124 : Int32).toInt = 124 := by decide
theorem lI94 : (94 : Int32).toInt = 94 := by decide
theorem lI96 : (96 : Int32).toInt = 96 := by decide
theorem lI92 : (92 : Int32).toInt = 92 := by decide
theorem lI33 : (33 : Int32).toInt = 33 := by decide
def own_tab (cl : Cell) (j : Int32) : Prop := (cl.slots[j.toNatClampNeg]? = some (.int (1 : Int32)) ∧ j < (33 : Int32)) ∨ (cl.slots[j.toNatClampNeg]? = some (.int (1 : Int32)) ∧ j = (34 : Int32)) ∨ (cl.slots[j.toNatClampNeg]? = some (.int (1 : Int32)) ∧ j = (60 : Int32)) ∨ (cl.slots[j.toNatClampNeg]? = some (.int (1 : Int32)) ∧ j = (62 : Int32)) ∨ (cl.slots[j.toNatClampNeg]? = some (.int (1 : Int32)) ∧ j = (92 : Int32)) ∨ (cl.slots[j.toNatClampNeg]? = some (.int (1 : Int32)) ∧ j = (94 : Int32)) ∨ (cl.slots[j.toNatClampNeg]? = some (.int (1 : Int32)) ∧ j = (96 : Int32)) ∨ (cl.slots[j.toNatClampNeg]? = some (.int (1 : Int32)) ∧ j = (123 : Int32)) ∨ (cl.slots[j.toNatClampNeg]? = some (.int (1 : Int32)) ∧ j = (124 : Int32)) ∨ (cl.slots[j.toNatClampNeg]? = some (.int (1 : Int32)) ∧ j = (125 : Int32)) ∨ (cl.slots[j.toNatClampNeg]? = some (.int (0 : Int32)) ∧ ¬ (j < (33 : Int32)) ∧ ¬ (j = (34 : Int32)) ∧ ¬ (j = (60 : Int32)) ∧ ¬ (j = (62 : Int32)) ∧ ¬ (j = (92 : Int32)) ∧ ¬ (j = (94 : Int32)) ∧ ¬ (j = (96 : Int32)) ∧ ¬ (j = (123 : Int32)) ∧ ¬ (j = (124 : Int32)) ∧ ¬ (j = (125 : Int32)))
theorem own_tab_of {cl : Cell} {j : Int32} (v : cl.slots[j.toNatClampNeg]? = some (.int (atv cl j))) (h0 : ¬ j < 0) (h1 : j < 128) (A33 : j < 33 → atv cl j = 1) (B34 : atv cl 34 = 1) (B60 : atv cl 60 = 1) (B62 : atv cl 62 = 1) (B92 : atv cl 92 = 1) (B94 : atv cl 94 = 1) (B96 : atv cl 96 = 1) (B123 : atv cl 123 = 1) (B124 : atv cl 124 = 1) (B125 : atv cl 125 = 1) (B33 : atv cl 33 = 0) (B61 : atv cl 61 = 0) (B93 : atv cl 93 = 0) (B95 : atv cl 95 = 0) (B126 : atv cl 126 = 0) (B127 : atv cl 127 = 0) (R35 : ¬ j < 35 → j < 60 → atv cl j = 0) (R63 : ¬ j < 63 → j < 92 → atv cl j = 0) (R97 : ¬ j < 97 → j < 123 → atv cl j = 0) : own_tab cl j := by
  by_cases c33 : j < 33
  · exact Or.inl ⟨by rw [v, A33 c33], c33⟩
  by_cases c34 : j = 34
  · refine Or.inr (Or.inl ⟨?_, c34⟩); subst c34; rw [v, B34]
  by_cases c60 : j = 60
  · refine Or.inr (Or.inr (Or.inl ⟨?_, c60⟩)); subst c60; rw [v, B60]
  by_cases c62 : j = 62
  · refine Or.inr (Or.inr (Or.inr (Or.inl ⟨?_, c62⟩))); subst c62; rw [v, B62]
  by_cases c92 : j = 92
  · refine Or.inr (Or.inr (Or.inr (Or.inr (Or.inl ⟨?_, c92⟩)))); subst c92; rw [v, B92]
  by_cases c94 : j = 94
  · refine Or.inr (Or.inr (Or.inr (Or.inr (Or.inr (Or.inl ⟨?_, c94⟩))))); subst c94; rw [v, B94]
  by_cases c96 : j = 96
  · refine Or.inr (Or.inr (Or.inr (Or.inr (Or.inr (Or.inr (Or.inl ⟨?_, c96⟩)))))); subst c96; rw [v, B96]
  by_cases c123 : j = 123
  · refine Or.inr (Or.inr (Or.inr (Or.inr (Or.inr (Or.inr (Or.inr (Or.inl ⟨?_, c123⟩))))))); subst c123; rw [v, B123]
  by_cases c124 : j = 124
  · refine Or.inr (Or.inr (Or.inr (Or.inr (Or.inr (Or.inr (Or.inr (Or.inr (Or.inl ⟨?_, c124⟩)))))))); subst c124; rw [v, B124]
  by_cases c125 : j = 125
  · refine Or.inr (Or.inr (Or.inr (Or.inr (Or.inr (Or.inr (Or.inr (Or.inr (Or.inr (Or.inl ⟨?_, c125⟩))))))))); subst c125; rw [v, B125]
  have z : atv cl j = 0 := by
    have l0 : (0 : Int32).toInt = 0 := by decide
    have l33 : (33 : Int32).toInt = 33 := by decide
    have l34 : (34 : Int32).toInt = 34 := by decide
    have l35 : (35 : Int32).toInt = 35 := by decide
    have l60 : (60 : Int32).toInt = 60 := by decide
    have l61 : (61 : Int32).toInt = 61 := by decide
    have l62 : (62 : Int32).toInt = 62 := by decide
    have l63 : (63 : Int32).toInt = 63 := by decide
    have l92 : (92 : Int32).toInt = 92 := by decide
    have l93 : (93 : Int32).toInt = 93 := by decide
    have l94 : (94 : Int32).toInt = 94 := by decide
    have l95 : (95 : Int32).toInt = 95 := by decide
    have l96 : (96 : Int32).toInt = 96 := by decide
    have l97 : (97 : Int32).toInt = 97 := by decide
    have l123 : (123 : Int32).toInt = 123 := by decide
    have l124 : (124 : Int32).toInt = 124 := by decide
    have l125 : (125 : Int32).toInt = 125 := by decide
    have l126 : (126 : Int32).toInt = 126 := by decide
    have l127 : (127 : Int32).toInt = 127 := by decide
    have l128 : (128 : Int32).toInt = 128 := by decide
    have q0 := mt Int32.lt_iff_toInt_lt.mpr h0; have q1 := Int32.lt_iff_toInt_lt.mp h1; have q33 := mt Int32.lt_iff_toInt_lt.mpr c33
    have q34_ := mt Int32.toInt_inj.mp c34
    have q60_ := mt Int32.toInt_inj.mp c60
    have q62_ := mt Int32.toInt_inj.mp c62
    have q92_ := mt Int32.toInt_inj.mp c92
    have q94_ := mt Int32.toInt_inj.mp c94
    have q96_ := mt Int32.toInt_inj.mp c96
    have q123_ := mt Int32.toInt_inj.mp c123
    have q124_ := mt Int32.toInt_inj.mp c124
    have q125_ := mt Int32.toInt_inj.mp c125
    have d : j.toInt = (33 : Int32).toInt ∨ j.toInt = (61 : Int32).toInt ∨ j.toInt = (93 : Int32).toInt ∨ j.toInt = (95 : Int32).toInt ∨ j.toInt = (126 : Int32).toInt ∨ j.toInt = (127 : Int32).toInt ∨ (¬ j.toInt < (35 : Int32).toInt ∧ j.toInt < (60 : Int32).toInt) ∨ (¬ j.toInt < (63 : Int32).toInt ∧ j.toInt < (92 : Int32).toInt) ∨ (¬ j.toInt < (97 : Int32).toInt ∧ j.toInt < (123 : Int32).toInt) := by omega
    rcases d with d | d | d | d | d | d | ⟨d, d'⟩ | ⟨d, d'⟩ | ⟨d, d'⟩
    · rw [Int32.toInt_inj.mp d]; exact B33
    · rw [Int32.toInt_inj.mp d]; exact B61
    · rw [Int32.toInt_inj.mp d]; exact B93
    · rw [Int32.toInt_inj.mp d]; exact B95
    · rw [Int32.toInt_inj.mp d]; exact B126
    · rw [Int32.toInt_inj.mp d]; exact B127
    · exact R35 (mt Int32.lt_iff_toInt_lt.mp d) (Int32.lt_iff_toInt_lt.mpr d')
    · exact R63 (mt Int32.lt_iff_toInt_lt.mp d) (Int32.lt_iff_toInt_lt.mpr d')
    · exact R97 (mt Int32.lt_iff_toInt_lt.mp d) (Int32.lt_iff_toInt_lt.mpr d')
  exact Or.inr (Or.inr (Or.inr (Or.inr (Or.inr (Or.inr (Or.inr (Or.inr (Or.inr (Or.inr (⟨by rw [v, z], c33, c34, c60, c62, c92, c94, c96, c123, c124, c125⟩))))))))))
def Env1 (Z : State) (a_ASCII_NOT_ALLOWED : Addr) (clA : Cell) : Prop := Sta Z Z.heap "com/example/quadrille/quadrille/rdf/Iri" "ASCII_NOT_ALLOWED" "[Z" (.ref a_ASCII_NOT_ALLOWED) ∧
  Arr Z Z.heap a_ASCII_NOT_ALLOWED clA .boolean ∧
  clA.slots.size = (128 : Int32).toNatClampNeg ∧
  ∀ j : Int32, ¬ (j < (0 : Int32)) → j < (128 : Int32) → own_tab clA j
theorem ef0 (m : MethodId) (x0 : Int32) : entryFrame m #[(.int x0)] maxLocals = mkF m 0 #[.val (.int x0)] [] := by first | (simp [entryFrame, mkF, argsToLocals, Value.category, maxLocals]; done) | rfl
theorem pn0 : plainName "com/example/quadrille/quadrille/rdf/IriIsNotAllowedPinLaw" = true := by first | (simp [plainName, overriddenIn]; done) | decide +kernel
theorem ef1 (m : MethodId) (x0 : Int32) : entryFrame m #[(.int x0)] 1 = mkF m 0 #[.val (.int x0)] [] := by first | (simp [entryFrame, mkF, argsToLocals, Value.category]; done) | rfl
theorem pn1 : plainName "com/example/quadrille/quadrille/rdf/Iri" = true := by first | (simp [plainName, overriddenIn]; done) | decide +kernel
theorem d1_0 : decode prog_6_method_6_code 0 = .ok (.iload_n 0, 1) := by decide +kernel
theorem d1_1 : decode prog_6_method_6_code 1 = .ok (.getstatic 91, 3) := by decide +kernel
theorem d1_4 : decode prog_6_method_6_code 4 = .ok (.arraylength, 1) := by decide +kernel
theorem d1_5 : decode prog_6_method_6_code 5 = .ok (.if_icmp .ge 19, 3) := by decide +kernel
theorem d1_8 : decode prog_6_method_6_code 8 = .ok (.iload_n 0, 1) := by decide +kernel
theorem d1_9 : decode prog_6_method_6_code 9 = .ok (.ifCond .lt 11, 3) := by decide +kernel
theorem d1_20 : decode prog_6_method_6_code 20 = .ok (.iconst 1, 1) := by decide +kernel
theorem d1_21 : decode prog_6_method_6_code 21 = .ok (.goto 4, 3) := by decide +kernel
theorem d1_25 : decode prog_6_method_6_code 25 = .ok (.ireturn, 1) := by decide +kernel
theorem d1_12 : decode prog_6_method_6_code 12 = .ok (.getstatic 91, 3) := by decide +kernel
theorem d1_15 : decode prog_6_method_6_code 15 = .ok (.iload_n 0, 1) := by decide +kernel
theorem d1_16 : decode prog_6_method_6_code 16 = .ok (.baload, 1) := by decide +kernel
theorem d1_17 : decode prog_6_method_6_code 17 = .ok (.ifCond .eq 7, 3) := by decide +kernel
theorem d1_24 : decode prog_6_method_6_code 24 = .ok (.iconst 0, 1) := by decide +kernel
def Q1_0 (Z : State) (a_ASCII_NOT_ALLOWED : Addr) (clA : Cell) (i0 : Int32) (h0 : Heap) (n0 : Nat) (v : Option Value) (h : Heap) (L : List Loc) : Prop := Fr n0 L ∧ h = h0 ∧ ((v = some (.int (1 : Int32)) ∧ i0 < (128 : Int32) ∧ i0 < (0 : Int32)) ∨ (v = some (.int (1 : Int32)) ∧ i0 < (128 : Int32) ∧ ¬ (i0 < (0 : Int32)) ∧ i0 < (33 : Int32)) ∨ (v = some (.int (1 : Int32)) ∧ i0 < (128 : Int32) ∧ ¬ (i0 < (0 : Int32)) ∧ i0 = (34 : Int32)) ∨ (v = some (.int (1 : Int32)) ∧ i0 < (128 : Int32) ∧ ¬ (i0 < (0 : Int32)) ∧ i0 = (60 : Int32)) ∨ (v = some (.int (1 : Int32)) ∧ i0 < (128 : Int32) ∧ ¬ (i0 < (0 : Int32)) ∧ i0 = (62 : Int32)) ∨ (v = some (.int (1 : Int32)) ∧ i0 < (128 : Int32) ∧ ¬ (i0 < (0 : Int32)) ∧ i0 = (92 : Int32)) ∨ (v = some (.int (1 : Int32)) ∧ i0 < (128 : Int32) ∧ ¬ (i0 < (0 : Int32)) ∧ i0 = (94 : Int32)) ∨ (v = some (.int (1 : Int32)) ∧ i0 < (128 : Int32) ∧ ¬ (i0 < (0 : Int32)) ∧ i0 = (96 : Int32)) ∨ (v = some (.int (1 : Int32)) ∧ i0 < (128 : Int32) ∧ ¬ (i0 < (0 : Int32)) ∧ i0 = (123 : Int32)) ∨ (v = some (.int (1 : Int32)) ∧ i0 < (128 : Int32) ∧ ¬ (i0 < (0 : Int32)) ∧ i0 = (124 : Int32)) ∨ (v = some (.int (1 : Int32)) ∧ i0 < (128 : Int32) ∧ ¬ (i0 < (0 : Int32)) ∧ i0 = (125 : Int32)) ∨ (v = some (.int (0 : Int32)) ∧ i0 < (128 : Int32) ∧ ¬ (i0 < (0 : Int32)) ∧ ¬ (i0 < (33 : Int32)) ∧ ¬ (i0 = (34 : Int32)) ∧ ¬ (i0 = (60 : Int32)) ∧ ¬ (i0 = (62 : Int32)) ∧ ¬ (i0 = (92 : Int32)) ∧ ¬ (i0 = (94 : Int32)) ∧ ¬ (i0 = (96 : Int32)) ∧ ¬ (i0 = (123 : Int32)) ∧ ¬ (i0 = (124 : Int32)) ∧ ¬ (i0 = (125 : Int32))) ∨ (v = some (.int (0 : Int32)) ∧ ¬ (i0 < (128 : Int32))))
set_option maxRecDepth 65536 in
set_option maxHeartbeats 40000000 in
theorem rm1_0 (l : Launch) (Z : State) (a0 : Array Value) (hw : ∀ d ∈ tables_1, d.before a0 Z = true) (ws : List Jvm.Cond) (a_ASCII_NOT_ALLOWED : Addr) (clA : Cell) (i0 : Int32) (h0 : Heap) (n0 : Nat) (O0 : Old Z n0 h0) (HE : Env1 Z a_ASCII_NOT_ALLOWED clA)  :
    MetFree l M0 (head1 (Jvm.Cond.code M0 prog_6_method_6_code 1 (some .boolean) :: ws) ({ frames := 0, cells := 0, slots := 0, locals := 0 } : Room)) (fun a U => a = #[(.int i0)] ∧ Z.Warmed39 U.vm ∧ U.heap = h0) (fun _ _ _ _ _ => True) (fun _ U o U' => ∃ v L, o = .returned v ∧ Q1_0 Z a_ASCII_NOT_ALLOWED clA i0 h0 n0 v U'.heap L ∧ FrameEnd U o U' L ({ frames := 0, cells := 0, slots := 0, locals := 0 } : Room).cells ({ frames := 0, cells := 0, slots := 0, locals := 0 } : Room).slots) := by
 refine MetFree.of_bodySF (plainFor_of_name pn1) hisR ?_
 intro p e s m args below meth c s₁ Bd hml0 hP hK
 obtain ⟨rfl, hZ, hh⟩ := hP
 have hx := Bd.exec
 have hby := Bd.bytes
 have hml : c.maxLocals = 1 := hml0
 have hown : s.vm.findClass "com/example/quadrille/quadrille/rdf/Iri" = some m.cls := findClass_of_methodNamed Bd.named
 have hnm := (name_of_methodNamed Bd.named Bd.method).1
 have X0 : Stand p l e ({ frames := 0, cells := 0, slots := 0, locals := 0 } : Room) s m #[(.int i0)] below meth c s₁ [] 0 0 := Stand.of_body Bd
 have e0 : s₁.heap = h0 := by rw [← hh, Bd.state]; rfl
 have N0 := Fr.nil n0
 let S0 : State → Prop := fun t => Steps p.tables e below (s₁.setTop (entryFrame m #[(.int i0)] 1)) t
 have p0 : ∀ t, St p e below s₁ (mkF m 0 #[.val (.int i0)] []) t → S0 t := fun t k => castTop (ef1 m i0) k
 have HE' := HE
 obtain ⟨Sa_ASCII_NOT_ALLOWED, RA, ZA, TA⟩ := HE
 have p1 : ∀ t, St p e below s₁ (mkF m 1 #[.val (.int i0)] [(.int i0)]) t → S0 t := fun t k => p0 t (by
   show St p e below s₁ (mkF m 0 #[.val (.int i0)] []) t
   refine XS.iloadN X0.here hx rfl (hb hby d1_0) rfl ?_
   exact k)
 obtain ⟨T2, X2, e2, st2⟩ := getS2 X0 hx hZ hown (host := "") (Or.inl (ww hw 4 rfl)) Via.refl e0 (Sa_ASCII_NOT_ALLOWED.ext O0.2) (g := (mkF m 1 #[.val (.int i0)] [(.int i0)])) rfl (hb hby d1_1)
 have p3 : ∀ t, St p e below T2 (mkF m 4 #[.val (.int i0)] [(.ref a_ASCII_NOT_ALLOWED), (.int i0)]) t → S0 t := fun t k => p1 t (st2 t k)
 have Ln4 : clA.slots.size.toInt32 = (128 : Int32) := by rw [ZA]; rfl
 have p5 : ∀ t, St p e below T2 (mkF m 5 #[.val (.int i0)] [(.int (128 : Int32)), (.int i0)]) t → S0 t := fun t k => p3 t (X2.arraylength hx (by rw [e2]; exact (RA.ext O0.2).1) (State.isArrayOf_alike hZ.alike RA.2.1) (g := (mkF m 4 #[.val (.int i0)] [(.ref a_ASCII_NOT_ALLOWED), (.int i0)])) rfl rfl (hb hby d1_4) t (by rw [Ln4]; exact k))
 by_cases g6 : i0 < (128 : Int32)
 ·
  have p7 : ∀ t, St p e below T2 (mkF m 9 #[.val (.int i0)] [(.int i0)]) t → S0 t := fun t k => p5 t (by
    show St p e below T2 (mkF m 5 #[.val (.int i0)] [(.int (128 : Int32)), (.int i0)]) t
    refine XS.icmpNo X2.here hx rfl (hb hby d1_5) rfl (tlt g6).2.1 ?_
    show St p e below T2 (mkF m 8 #[.val (.int i0)] []) t
    refine XS.iloadN X2.here hx rfl (hb hby d1_8) rfl ?_
    exact k)
  by_cases g8 : i0 < (0 : Int32)
  ·
   have p9 : ∀ t, St p e below T2 (mkF m 25 #[.val (.int i0)] [(.int (1 : Int32))]) t → S0 t := fun t k => p7 t (by
     show St p e below T2 (mkF m 9 #[.val (.int i0)] [(.int i0)]) t
     refine XS.ifYes X2.here hx rfl (pc0 := 9) (pc' := 20) rfl (hb hby d1_9) rfl ((if0 _ _).trans (tlt g8).1) (by decide) (by decide) ?_
     show St p e below T2 (mkF m 20 #[.val (.int i0)] []) t
     refine XT.iconstV X2.here hx rfl (1 : Int32) (hb hby d1_20) (by decide) ?_
     show St p e below T2 (mkF m 21 #[.val (.int i0)] [(.int (1 : Int32))]) t
     refine XS.goto X2.here hx rfl (pc0 := 21) (pc' := 25) rfl (hb hby d1_21) (by decide) (by decide) ?_
     exact k)
   obtain ⟨fs, hr, hrun, hended, hW, hsame⟩ := X2.leave (v := some (.int (1 : Int32))) (fun h => by rw [Bd.returns] at h; cases h)
   refine ⟨_, _, p9 _ ?_, hrun, hended, _, _, rfl, ?_, ⟨_, rfl⟩, hW, hsame.mono (by decide) (by decide)⟩
   · exact retOut X2 hx Bd.returns rfl (Or.inl ⟨rfl, by simp, _, rfl⟩) (hb hby d1_25) hr
   · show Q1_0 Z a_ASCII_NOT_ALLOWED clA i0 h0 n0 _ T2.heap _
     exact ⟨N0, e2, (Or.inl ⟨rfl, g6, g8⟩)⟩
  ·
   have p10 : ∀ t, St p e below T2 (mkF m 12 #[.val (.int i0)] []) t → S0 t := fun t k => p7 t (by
     show St p e below T2 (mkF m 9 #[.val (.int i0)] [(.int i0)]) t
     refine XS.ifNo X2.here hx rfl (hb hby d1_9) rfl ((if0 _ _).trans (flt g8).1) ?_
     exact k)
   obtain ⟨T11, X11, e11, st11⟩ := getS2 X2 hx hZ hown (host := "") (Or.inl (ww hw 4 rfl)) Via.refl e2 (Sa_ASCII_NOT_ALLOWED.ext O0.2) (g := (mkF m 12 #[.val (.int i0)] [])) rfl (hb hby d1_12)
   have p12 : ∀ t, St p e below T11 (mkF m 15 #[.val (.int i0)] [(.ref a_ASCII_NOT_ALLOWED)]) t → S0 t := fun t k => p10 t (st11 t k)
   have p13 : ∀ t, St p e below T11 (mkF m 16 #[.val (.int i0)] [(.int i0), (.ref a_ASCII_NOT_ALLOWED)]) t → S0 t := fun t k => p12 t (by
     show St p e below T11 (mkF m 15 #[.val (.int i0)] [(.ref a_ASCII_NOT_ALLOWED)]) t
     refine XS.iloadN X11.here hx rfl (hb hby d1_15) rfl ?_
     exact k)
   have hin14 : ¬ (i0 < 0 ∨ clA.slots.size ≤ i0.toNatClampNeg) := inb_of ZA ⟨g8, g6⟩
   rcases TA i0 g8 g6 with ⟨hat14, g15⟩ | ⟨hat14, g16⟩ | ⟨hat14, g17⟩ | ⟨hat14, g18⟩ | ⟨hat14, g19⟩ | ⟨hat14, g20⟩ | ⟨hat14, g21⟩ | ⟨hat14, g22⟩ | ⟨hat14, g23⟩ | ⟨hat14, g24⟩ | ⟨hat14, g25, g26, g27, g28, g29, g30, g31, g32, g33, g34⟩
   ·
    have p35 : ∀ t, St p e below T11 (mkF m 25 #[.val (.int i0)] [(.int (1 : Int32))]) t → S0 t := fun t k => p13 t (by
      show St p e below T11 (mkF m 16 #[.val (.int i0)] [(.int i0), (.ref a_ASCII_NOT_ALLOWED)]) t
      refine X11.baloadBooleans hx (j := i0) (v := (.int (1 : Int32))) (by rw [e11]; exact (RA.ext O0.2).1) (State.isArrayOf_alike hZ.alike RA.2.1) RA.2.2 hin14 hat14 (g := (mkF m 16 #[.val (.int i0)] [(.int i0), (.ref a_ASCII_NOT_ALLOWED)])) rfl rfl (hb hby d1_16) _ ?_
      show St p e below T11 (mkF m 17 #[.val (.int i0)] [(.int (1 : Int32))]) t
      refine XS.ifNo X11.here hx rfl (hb hby d1_17) rfl ((if0 _ _).trans (feq (by decide : ¬ ((1 : Int32) = (0 : Int32)))).1) ?_
      show St p e below T11 (mkF m 20 #[.val (.int i0)] []) t
      refine XT.iconstV X11.here hx rfl (1 : Int32) (hb hby d1_20) (by decide) ?_
      show St p e below T11 (mkF m 21 #[.val (.int i0)] [(.int (1 : Int32))]) t
      refine XS.goto X11.here hx rfl (pc0 := 21) (pc' := 25) rfl (hb hby d1_21) (by decide) (by decide) ?_
      exact k)
    obtain ⟨fs, hr, hrun, hended, hW, hsame⟩ := X11.leave (v := some (.int (1 : Int32))) (fun h => by rw [Bd.returns] at h; cases h)
    refine ⟨_, _, p35 _ ?_, hrun, hended, _, _, rfl, ?_, ⟨_, rfl⟩, hW, hsame.mono (by decide) (by decide)⟩
    · exact retOut X11 hx Bd.returns rfl (Or.inl ⟨rfl, by simp, _, rfl⟩) (hb hby d1_25) hr
    · show Q1_0 Z a_ASCII_NOT_ALLOWED clA i0 h0 n0 _ T11.heap _
      exact ⟨N0, e11, (Or.inr (Or.inl ⟨rfl, g6, g8, g15⟩))⟩
   ·
    have p36 : ∀ t, St p e below T11 (mkF m 25 #[.val (.int i0)] [(.int (1 : Int32))]) t → S0 t := fun t k => p13 t (by
      show St p e below T11 (mkF m 16 #[.val (.int i0)] [(.int i0), (.ref a_ASCII_NOT_ALLOWED)]) t
      refine X11.baloadBooleans hx (j := i0) (v := (.int (1 : Int32))) (by rw [e11]; exact (RA.ext O0.2).1) (State.isArrayOf_alike hZ.alike RA.2.1) RA.2.2 hin14 hat14 (g := (mkF m 16 #[.val (.int i0)] [(.int i0), (.ref a_ASCII_NOT_ALLOWED)])) rfl rfl (hb hby d1_16) _ ?_
      show St p e below T11 (mkF m 17 #[.val (.int i0)] [(.int (1 : Int32))]) t
      refine XS.ifNo X11.here hx rfl (hb hby d1_17) rfl ((if0 _ _).trans (feq (by decide : ¬ ((1 : Int32) = (0 : Int32)))).1) ?_
      show St p e below T11 (mkF m 20 #[.val (.int i0)] []) t
      refine XT.iconstV X11.here hx rfl (1 : Int32) (hb hby d1_20) (by decide) ?_
      show St p e below T11 (mkF m 21 #[.val (.int i0)] [(.int (1 : Int32))]) t
      refine XS.goto X11.here hx rfl (pc0 := 21) (pc' := 25) rfl (hb hby d1_21) (by decide) (by decide) ?_
      exact k)
    obtain ⟨fs, hr, hrun, hended, hW, hsame⟩ := X11.leave (v := some (.int (1 : Int32))) (fun h => by rw [Bd.returns] at h; cases h)
    refine ⟨_, _, p36 _ ?_, hrun, hended, _, _, rfl, ?_, ⟨_, rfl⟩, hW, hsame.mono (by decide) (by decide)⟩
    · exact retOut X11 hx Bd.returns rfl (Or.inl ⟨rfl, by simp, _, rfl⟩) (hb hby d1_25) hr
    · show Q1_0 Z a_ASCII_NOT_ALLOWED clA i0 h0 n0 _ T11.heap _
      exact ⟨N0, e11, (Or.inr (Or.inr (Or.inl ⟨rfl, g6, g8, g16⟩)))⟩
   ·
    have p37 : ∀ t, St p e below T11 (mkF m 25 #[.val (.int i0)] [(.int (1 : Int32))]) t → S0 t := fun t k => p13 t (by
      show St p e below T11 (mkF m 16 #[.val (.int i0)] [(.int i0), (.ref a_ASCII_NOT_ALLOWED)]) t
      refine X11.baloadBooleans hx (j := i0) (v := (.int (1 : Int32))) (by rw [e11]; exact (RA.ext O0.2).1) (State.isArrayOf_alike hZ.alike RA.2.1) RA.2.2 hin14 hat14 (g := (mkF m 16 #[.val (.int i0)] [(.int i0), (.ref a_ASCII_NOT_ALLOWED)])) rfl rfl (hb hby d1_16) _ ?_
      show St p e below T11 (mkF m 17 #[.val (.int i0)] [(.int (1 : Int32))]) t
      refine XS.ifNo X11.here hx rfl (hb hby d1_17) rfl ((if0 _ _).trans (feq (by decide : ¬ ((1 : Int32) = (0 : Int32)))).1) ?_
      show St p e below T11 (mkF m 20 #[.val (.int i0)] []) t
      refine XT.iconstV X11.here hx rfl (1 : Int32) (hb hby d1_20) (by decide) ?_
      show St p e below T11 (mkF m 21 #[.val (.int i0)] [(.int (1 : Int32))]) t
      refine XS.goto X11.here hx rfl (pc0 := 21) (pc' := 25) rfl (hb hby d1_21) (by decide) (by decide) ?_
      exact k)
    obtain ⟨fs, hr, hrun, hended, hW, hsame⟩ := X11.leave (v := some (.int (1 : Int32))) (fun h => by rw [Bd.returns] at h; cases h)
    refine ⟨_, _, p37 _ ?_, hrun, hended, _, _, rfl, ?_, ⟨_, rfl⟩, hW, hsame.mono (by decide) (by decide)⟩
    · exact retOut X11 hx Bd.returns rfl (Or.inl ⟨rfl, by simp, _, rfl⟩) (hb hby d1_25) hr
    · show Q1_0 Z a_ASCII_NOT_ALLOWED clA i0 h0 n0 _ T11.heap _
      exact ⟨N0, e11, (Or.inr (Or.inr (Or.inr (Or.inl ⟨rfl, g6, g8, g17⟩))))⟩
   ·
    have p38 : ∀ t, St p e below T11 (mkF m 25 #[.val (.int i0)] [(.int (1 : Int32))]) t → S0 t := fun t k => p13 t (by
      show St p e below T11 (mkF m 16 #[.val (.int i0)] [(.int i0), (.ref a_ASCII_NOT_ALLOWED)]) t
      refine X11.baloadBooleans hx (j := i0) (v := (.int (1 : Int32))) (by rw [e11]; exact (RA.ext O0.2).1) (State.isArrayOf_alike hZ.alike RA.2.1) RA.2.2 hin14 hat14 (g := (mkF m 16 #[.val (.int i0)] [(.int i0), (.ref a_ASCII_NOT_ALLOWED)])) rfl rfl (hb hby d1_16) _ ?_
      show St p e below T11 (mkF m 17 #[.val (.int i0)] [(.int (1 : Int32))]) t
      refine XS.ifNo X11.here hx rfl (hb hby d1_17) rfl ((if0 _ _).trans (feq (by decide : ¬ ((1 : Int32) = (0 : Int32)))).1) ?_
      show St p e below T11 (mkF m 20 #[.val (.int i0)] []) t
      refine XT.iconstV X11.here hx rfl (1 : Int32) (hb hby d1_20) (by decide) ?_
      show St p e below T11 (mkF m 21 #[.val (.int i0)] [(.int (1 : Int32))]) t
      refine XS.goto X11.here hx rfl (pc0 := 21) (pc' := 25) rfl (hb hby d1_21) (by decide) (by decide) ?_
      exact k)
    obtain ⟨fs, hr, hrun, hended, hW, hsame⟩ := X11.leave (v := some (.int (1 : Int32))) (fun h => by rw [Bd.returns] at h; cases h)
    refine ⟨_, _, p38 _ ?_, hrun, hended, _, _, rfl, ?_, ⟨_, rfl⟩, hW, hsame.mono (by decide) (by decide)⟩
    · exact retOut X11 hx Bd.returns rfl (Or.inl ⟨rfl, by simp, _, rfl⟩) (hb hby d1_25) hr
    · show Q1_0 Z a_ASCII_NOT_ALLOWED clA i0 h0 n0 _ T11.heap _
      exact ⟨N0, e11, (Or.inr (Or.inr (Or.inr (Or.inr (Or.inl ⟨rfl, g6, g8, g18⟩)))))⟩
   ·
    have p39 : ∀ t, St p e below T11 (mkF m 25 #[.val (.int i0)] [(.int (1 : Int32))]) t → S0 t := fun t k => p13 t (by
      show St p e below T11 (mkF m 16 #[.val (.int i0)] [(.int i0), (.ref a_ASCII_NOT_ALLOWED)]) t
      refine X11.baloadBooleans hx (j := i0) (v := (.int (1 : Int32))) (by rw [e11]; exact (RA.ext O0.2).1) (State.isArrayOf_alike hZ.alike RA.2.1) RA.2.2 hin14 hat14 (g := (mkF m 16 #[.val (.int i0)] [(.int i0), (.ref a_ASCII_NOT_ALLOWED)])) rfl rfl (hb hby d1_16) _ ?_
      show St p e below T11 (mkF m 17 #[.val (.int i0)] [(.int (1 : Int32))]) t
      refine XS.ifNo X11.here hx rfl (hb hby d1_17) rfl ((if0 _ _).trans (feq (by decide : ¬ ((1 : Int32) = (0 : Int32)))).1) ?_
      show St p e below T11 (mkF m 20 #[.val (.int i0)] []) t
      refine XT.iconstV X11.here hx rfl (1 : Int32) (hb hby d1_20) (by decide) ?_
      show St p e below T11 (mkF m 21 #[.val (.int i0)] [(.int (1 : Int32))]) t
      refine XS.goto X11.here hx rfl (pc0 := 21) (pc' := 25) rfl (hb hby d1_21) (by decide) (by decide) ?_
      exact k)
    obtain ⟨fs, hr, hrun, hended, hW, hsame⟩ := X11.leave (v := some (.int (1 : Int32))) (fun h => by rw [Bd.returns] at h; cases h)
    refine ⟨_, _, p39 _ ?_, hrun, hended, _, _, rfl, ?_, ⟨_, rfl⟩, hW, hsame.mono (by decide) (by decide)⟩
    · exact retOut X11 hx Bd.returns rfl (Or.inl ⟨rfl, by simp, _, rfl⟩) (hb hby d1_25) hr
    · show Q1_0 Z a_ASCII_NOT_ALLOWED clA i0 h0 n0 _ T11.heap _
      exact ⟨N0, e11, (Or.inr (Or.inr (Or.inr (Or.inr (Or.inr (Or.inl ⟨rfl, g6, g8, g19⟩))))))⟩
   ·
    have p40 : ∀ t, St p e below T11 (mkF m 25 #[.val (.int i0)] [(.int (1 : Int32))]) t → S0 t := fun t k => p13 t (by
      show St p e below T11 (mkF m 16 #[.val (.int i0)] [(.int i0), (.ref a_ASCII_NOT_ALLOWED)]) t
      refine X11.baloadBooleans hx (j := i0) (v := (.int (1 : Int32))) (by rw [e11]; exact (RA.ext O0.2).1) (State.isArrayOf_alike hZ.alike RA.2.1) RA.2.2 hin14 hat14 (g := (mkF m 16 #[.val (.int i0)] [(.int i0), (.ref a_ASCII_NOT_ALLOWED)])) rfl rfl (hb hby d1_16) _ ?_
      show St p e below T11 (mkF m 17 #[.val (.int i0)] [(.int (1 : Int32))]) t
      refine XS.ifNo X11.here hx rfl (hb hby d1_17) rfl ((if0 _ _).trans (feq (by decide : ¬ ((1 : Int32) = (0 : Int32)))).1) ?_
      show St p e below T11 (mkF m 20 #[.val (.int i0)] []) t
      refine XT.iconstV X11.here hx rfl (1 : Int32) (hb hby d1_20) (by decide) ?_
      show St p e below T11 (mkF m 21 #[.val (.int i0)] [(.int (1 : Int32))]) t
      refine XS.goto X11.here hx rfl (pc0 := 21) (pc' := 25) rfl (hb hby d1_21) (by decide) (by decide) ?_
      exact k)
    obtain ⟨fs, hr, hrun, hended, hW, hsame⟩ := X11.leave (v := some (.int (1 : Int32))) (fun h => by rw [Bd.returns] at h; cases h)
    refine ⟨_, _, p40 _ ?_, hrun, hended, _, _, rfl, ?_, ⟨_, rfl⟩, hW, hsame.mono (by decide) (by decide)⟩
    · exact retOut X11 hx Bd.returns rfl (Or.inl ⟨rfl, by simp, _, rfl⟩) (hb hby d1_25) hr
    · show Q1_0 Z a_ASCII_NOT_ALLOWED clA i0 h0 n0 _ T11.heap _
      exact ⟨N0, e11, (Or.inr (Or.inr (Or.inr (Or.inr (Or.inr (Or.inr (Or.inl ⟨rfl, g6, g8, g20⟩)))))))⟩
   ·
    have p41 : ∀ t, St p e below T11 (mkF m 25 #[.val (.int i0)] [(.int (1 : Int32))]) t → S0 t := fun t k => p13 t (by
      show St p e below T11 (mkF m 16 #[.val (.int i0)] [(.int i0), (.ref a_ASCII_NOT_ALLOWED)]) t
      refine X11.baloadBooleans hx (j := i0) (v := (.int (1 : Int32))) (by rw [e11]; exact (RA.ext O0.2).1) (State.isArrayOf_alike hZ.alike RA.2.1) RA.2.2 hin14 hat14 (g := (mkF m 16 #[.val (.int i0)] [(.int i0), (.ref a_ASCII_NOT_ALLOWED)])) rfl rfl (hb hby d1_16) _ ?_
      show St p e below T11 (mkF m 17 #[.val (.int i0)] [(.int (1 : Int32))]) t
      refine XS.ifNo X11.here hx rfl (hb hby d1_17) rfl ((if0 _ _).trans (feq (by decide : ¬ ((1 : Int32) = (0 : Int32)))).1) ?_
      show St p e below T11 (mkF m 20 #[.val (.int i0)] []) t
      refine XT.iconstV X11.here hx rfl (1 : Int32) (hb hby d1_20) (by decide) ?_
      show St p e below T11 (mkF m 21 #[.val (.int i0)] [(.int (1 : Int32))]) t
      refine XS.goto X11.here hx rfl (pc0 := 21) (pc' := 25) rfl (hb hby d1_21) (by decide) (by decide) ?_
      exact k)
    obtain ⟨fs, hr, hrun, hended, hW, hsame⟩ := X11.leave (v := some (.int (1 : Int32))) (fun h => by rw [Bd.returns] at h; cases h)
    refine ⟨_, _, p41 _ ?_, hrun, hended, _, _, rfl, ?_, ⟨_, rfl⟩, hW, hsame.mono (by decide) (by decide)⟩
    · exact retOut X11 hx Bd.returns rfl (Or.inl ⟨rfl, by simp, _, rfl⟩) (hb hby d1_25) hr
    · show Q1_0 Z a_ASCII_NOT_ALLOWED clA i0 h0 n0 _ T11.heap _
      exact ⟨N0, e11, (Or.inr (Or.inr (Or.inr (Or.inr (Or.inr (Or.inr (Or.inr (Or.inl ⟨rfl, g6, g8, g21⟩))))))))⟩
   ·
    have p42 : ∀ t, St p e below T11 (mkF m 25 #[.val (.int i0)] [(.int (1 : Int32))]) t → S0 t := fun t k => p13 t (by
      show St p e below T11 (mkF m 16 #[.val (.int i0)] [(.int i0), (.ref a_ASCII_NOT_ALLOWED)]) t
      refine X11.baloadBooleans hx (j := i0) (v := (.int (1 : Int32))) (by rw [e11]; exact (RA.ext O0.2).1) (State.isArrayOf_alike hZ.alike RA.2.1) RA.2.2 hin14 hat14 (g := (mkF m 16 #[.val (.int i0)] [(.int i0), (.ref a_ASCII_NOT_ALLOWED)])) rfl rfl (hb hby d1_16) _ ?_
      show St p e below T11 (mkF m 17 #[.val (.int i0)] [(.int (1 : Int32))]) t
      refine XS.ifNo X11.here hx rfl (hb hby d1_17) rfl ((if0 _ _).trans (feq (by decide : ¬ ((1 : Int32) = (0 : Int32)))).1) ?_
      show St p e below T11 (mkF m 20 #[.val (.int i0)] []) t
      refine XT.iconstV X11.here hx rfl (1 : Int32) (hb hby d1_20) (by decide) ?_
      show St p e below T11 (mkF m 21 #[.val (.int i0)] [(.int (1 : Int32))]) t
      refine XS.goto X11.here hx rfl (pc0 := 21) (pc' := 25) rfl (hb hby d1_21) (by decide) (by decide) ?_
      exact k)
    obtain ⟨fs, hr, hrun, hended, hW, hsame⟩ := X11.leave (v := some (.int (1 : Int32))) (fun h => by rw [Bd.returns] at h; cases h)
    refine ⟨_, _, p42 _ ?_, hrun, hended, _, _, rfl, ?_, ⟨_, rfl⟩, hW, hsame.mono (by decide) (by decide)⟩
    · exact retOut X11 hx Bd.returns rfl (Or.inl ⟨rfl, by simp, _, rfl⟩) (hb hby d1_25) hr
    · show Q1_0 Z a_ASCII_NOT_ALLOWED clA i0 h0 n0 _ T11.heap _
      exact ⟨N0, e11, (Or.inr (Or.inr (Or.inr (Or.inr (Or.inr (Or.inr (Or.inr (Or.inr (Or.inl ⟨rfl, g6, g8, g22⟩)))))))))⟩
   ·
    have p43 : ∀ t, St p e below T11 (mkF m 25 #[.val (.int i0)] [(.int (1 : Int32))]) t → S0 t := fun t k => p13 t (by
      show St p e below T11 (mkF m 16 #[.val (.int i0)] [(.int i0), (.ref a_ASCII_NOT_ALLOWED)]) t
      refine X11.baloadBooleans hx (j := i0) (v := (.int (1 : Int32))) (by rw [e11]; exact (RA.ext O0.2).1) (State.isArrayOf_alike hZ.alike RA.2.1) RA.2.2 hin14 hat14 (g := (mkF m 16 #[.val (.int i0)] [(.int i0), (.ref a_ASCII_NOT_ALLOWED)])) rfl rfl (hb hby d1_16) _ ?_
      show St p e below T11 (mkF m 17 #[.val (.int i0)] [(.int (1 : Int32))]) t
      refine XS.ifNo X11.here hx rfl (hb hby d1_17) rfl ((if0 _ _).trans (feq (by decide : ¬ ((1 : Int32) = (0 : Int32)))).1) ?_
      show St p e below T11 (mkF m 20 #[.val (.int i0)] []) t
      refine XT.iconstV X11.here hx rfl (1 : Int32) (hb hby d1_20) (by decide) ?_
      show St p e below T11 (mkF m 21 #[.val (.int i0)] [(.int (1 : Int32))]) t
      refine XS.goto X11.here hx rfl (pc0 := 21) (pc' := 25) rfl (hb hby d1_21) (by decide) (by decide) ?_
      exact k)
    obtain ⟨fs, hr, hrun, hended, hW, hsame⟩ := X11.leave (v := some (.int (1 : Int32))) (fun h => by rw [Bd.returns] at h; cases h)
    refine ⟨_, _, p43 _ ?_, hrun, hended, _, _, rfl, ?_, ⟨_, rfl⟩, hW, hsame.mono (by decide) (by decide)⟩
    · exact retOut X11 hx Bd.returns rfl (Or.inl ⟨rfl, by simp, _, rfl⟩) (hb hby d1_25) hr
    · show Q1_0 Z a_ASCII_NOT_ALLOWED clA i0 h0 n0 _ T11.heap _
      exact ⟨N0, e11, (Or.inr (Or.inr (Or.inr (Or.inr (Or.inr (Or.inr (Or.inr (Or.inr (Or.inr (Or.inl ⟨rfl, g6, g8, g23⟩))))))))))⟩
   ·
    have p44 : ∀ t, St p e below T11 (mkF m 25 #[.val (.int i0)] [(.int (1 : Int32))]) t → S0 t := fun t k => p13 t (by
      show St p e below T11 (mkF m 16 #[.val (.int i0)] [(.int i0), (.ref a_ASCII_NOT_ALLOWED)]) t
      refine X11.baloadBooleans hx (j := i0) (v := (.int (1 : Int32))) (by rw [e11]; exact (RA.ext O0.2).1) (State.isArrayOf_alike hZ.alike RA.2.1) RA.2.2 hin14 hat14 (g := (mkF m 16 #[.val (.int i0)] [(.int i0), (.ref a_ASCII_NOT_ALLOWED)])) rfl rfl (hb hby d1_16) _ ?_
      show St p e below T11 (mkF m 17 #[.val (.int i0)] [(.int (1 : Int32))]) t
      refine XS.ifNo X11.here hx rfl (hb hby d1_17) rfl ((if0 _ _).trans (feq (by decide : ¬ ((1 : Int32) = (0 : Int32)))).1) ?_
      show St p e below T11 (mkF m 20 #[.val (.int i0)] []) t
      refine XT.iconstV X11.here hx rfl (1 : Int32) (hb hby d1_20) (by decide) ?_
      show St p e below T11 (mkF m 21 #[.val (.int i0)] [(.int (1 : Int32))]) t
      refine XS.goto X11.here hx rfl (pc0 := 21) (pc' := 25) rfl (hb hby d1_21) (by decide) (by decide) ?_
      exact k)
    obtain ⟨fs, hr, hrun, hended, hW, hsame⟩ := X11.leave (v := some (.int (1 : Int32))) (fun h => by rw [Bd.returns] at h; cases h)
    refine ⟨_, _, p44 _ ?_, hrun, hended, _, _, rfl, ?_, ⟨_, rfl⟩, hW, hsame.mono (by decide) (by decide)⟩
    · exact retOut X11 hx Bd.returns rfl (Or.inl ⟨rfl, by simp, _, rfl⟩) (hb hby d1_25) hr
    · show Q1_0 Z a_ASCII_NOT_ALLOWED clA i0 h0 n0 _ T11.heap _
      exact ⟨N0, e11, (Or.inr (Or.inr (Or.inr (Or.inr (Or.inr (Or.inr (Or.inr (Or.inr (Or.inr (Or.inr (Or.inl ⟨rfl, g6, g8, g24⟩)))))))))))⟩
   ·
    have p45 : ∀ t, St p e below T11 (mkF m 25 #[.val (.int i0)] [(.int (0 : Int32))]) t → S0 t := fun t k => p13 t (by
      show St p e below T11 (mkF m 16 #[.val (.int i0)] [(.int i0), (.ref a_ASCII_NOT_ALLOWED)]) t
      refine X11.baloadBooleans hx (j := i0) (v := (.int (0 : Int32))) (by rw [e11]; exact (RA.ext O0.2).1) (State.isArrayOf_alike hZ.alike RA.2.1) RA.2.2 hin14 hat14 (g := (mkF m 16 #[.val (.int i0)] [(.int i0), (.ref a_ASCII_NOT_ALLOWED)])) rfl rfl (hb hby d1_16) _ ?_
      show St p e below T11 (mkF m 17 #[.val (.int i0)] [(.int (0 : Int32))]) t
      refine XS.ifYes X11.here hx rfl (pc0 := 17) (pc' := 24) rfl (hb hby d1_17) rfl ((if0 _ _).trans (teq (by decide : (0 : Int32) = (0 : Int32))).1) (by decide) (by decide) ?_
      show St p e below T11 (mkF m 24 #[.val (.int i0)] []) t
      refine XT.iconstV X11.here hx rfl (0 : Int32) (hb hby d1_24) (by decide) ?_
      exact k)
    obtain ⟨fs, hr, hrun, hended, hW, hsame⟩ := X11.leave (v := some (.int (0 : Int32))) (fun h => by rw [Bd.returns] at h; cases h)
    refine ⟨_, _, p45 _ ?_, hrun, hended, _, _, rfl, ?_, ⟨_, rfl⟩, hW, hsame.mono (by decide) (by decide)⟩
    · exact retOut X11 hx Bd.returns rfl (Or.inl ⟨rfl, by simp, _, rfl⟩) (hb hby d1_25) hr
    · show Q1_0 Z a_ASCII_NOT_ALLOWED clA i0 h0 n0 _ T11.heap _
      exact ⟨N0, e11, (Or.inr (Or.inr (Or.inr (Or.inr (Or.inr (Or.inr (Or.inr (Or.inr (Or.inr (Or.inr (Or.inr (Or.inl ⟨rfl, g6, g8, g25, g26, g27, g28, g29, g30, g31, g32, g33, g34⟩))))))))))))⟩
 ·
  have p46 : ∀ t, St p e below T2 (mkF m 25 #[.val (.int i0)] [(.int (0 : Int32))]) t → S0 t := fun t k => p5 t (by
    show St p e below T2 (mkF m 5 #[.val (.int i0)] [(.int (128 : Int32)), (.int i0)]) t
    refine XS.icmpYes X2.here hx rfl (pc0 := 5) (pc' := 24) rfl (hb hby d1_5) rfl (flt g6).2.1 (by decide) (by decide) ?_
    show St p e below T2 (mkF m 24 #[.val (.int i0)] []) t
    refine XT.iconstV X2.here hx rfl (0 : Int32) (hb hby d1_24) (by decide) ?_
    exact k)
  obtain ⟨fs, hr, hrun, hended, hW, hsame⟩ := X2.leave (v := some (.int (0 : Int32))) (fun h => by rw [Bd.returns] at h; cases h)
  refine ⟨_, _, p46 _ ?_, hrun, hended, _, _, rfl, ?_, ⟨_, rfl⟩, hW, hsame.mono (by decide) (by decide)⟩
  · exact retOut X2 hx Bd.returns rfl (Or.inl ⟨rfl, by simp, _, rfl⟩) (hb hby d1_25) hr
  · show Q1_0 Z a_ASCII_NOT_ALLOWED clA i0 h0 n0 _ T2.heap _
    exact ⟨N0, e2, (Or.inr (Or.inr (Or.inr (Or.inr (Or.inr (Or.inr (Or.inr (Or.inr (Or.inr (Or.inr (Or.inr (Or.inr (⟨rfl, g6⟩)))))))))))))⟩
theorem pd0 : parseMethodDescriptor "(I)Z" = some ⟨[.int], some .boolean⟩ := by decide +kernel
theorem ef2 (m : MethodId) (x0 : Int32) : entryFrame m #[(.int x0)] 1 = mkF m 0 #[.val (.int x0)] [] := by first | (simp [entryFrame, mkF, argsToLocals, Value.category]; done) | rfl
theorem d2_0 : decode method_3_code 0 = .ok (.iload_n 0, 1) := by decide +kernel
theorem d2_1 : decode method_3_code 1 = .ok (.bipush 32, 2) := by decide +kernel
theorem d2_3 : decode method_3_code 3 = .ok (.if_icmp .gt 5, 3) := by decide +kernel
theorem d2_8 : decode method_3_code 8 = .ok (.iload_n 0, 1) := by decide +kernel
theorem d2_9 : decode method_3_code 9 = .ok (.bipush 60, 2) := by decide +kernel
theorem d2_11 : decode method_3_code 11 = .ok (.if_icmp .eq 51, 3) := by decide +kernel
theorem d2_62 : decode method_3_code 62 = .ok (.iconst 1, 1) := by decide +kernel
theorem d2_63 : decode method_3_code 63 = .ok (.goto 4, 3) := by decide +kernel
theorem d2_67 : decode method_3_code 67 = .ok (.ireturn, 1) := by decide +kernel
theorem d2_14 : decode method_3_code 14 = .ok (.iload_n 0, 1) := by decide +kernel
theorem d2_15 : decode method_3_code 15 = .ok (.bipush 62, 2) := by decide +kernel
theorem d2_17 : decode method_3_code 17 = .ok (.if_icmp .eq 45, 3) := by decide +kernel
theorem d2_20 : decode method_3_code 20 = .ok (.iload_n 0, 1) := by decide +kernel
theorem d2_21 : decode method_3_code 21 = .ok (.bipush 34, 2) := by decide +kernel
theorem d2_23 : decode method_3_code 23 = .ok (.if_icmp .eq 39, 3) := by decide +kernel
theorem d2_26 : decode method_3_code 26 = .ok (.iload_n 0, 1) := by decide +kernel
theorem d2_27 : decode method_3_code 27 = .ok (.bipush 123, 2) := by decide +kernel
theorem d2_29 : decode method_3_code 29 = .ok (.if_icmp .eq 33, 3) := by decide +kernel
theorem d2_32 : decode method_3_code 32 = .ok (.iload_n 0, 1) := by decide +kernel
theorem d2_33 : decode method_3_code 33 = .ok (.bipush 125, 2) := by decide +kernel
theorem d2_35 : decode method_3_code 35 = .ok (.if_icmp .eq 27, 3) := by decide +kernel
theorem d2_38 : decode method_3_code 38 = .ok (.iload_n 0, 1) := by decide +kernel
theorem d2_39 : decode method_3_code 39 = .ok (.bipush 124, 2) := by decide +kernel
theorem d2_41 : decode method_3_code 41 = .ok (.if_icmp .eq 21, 3) := by decide +kernel
theorem d2_44 : decode method_3_code 44 = .ok (.iload_n 0, 1) := by decide +kernel
theorem d2_45 : decode method_3_code 45 = .ok (.bipush 94, 2) := by decide +kernel
theorem d2_47 : decode method_3_code 47 = .ok (.if_icmp .eq 15, 3) := by decide +kernel
theorem d2_50 : decode method_3_code 50 = .ok (.iload_n 0, 1) := by decide +kernel
theorem d2_51 : decode method_3_code 51 = .ok (.bipush 96, 2) := by decide +kernel
theorem d2_53 : decode method_3_code 53 = .ok (.if_icmp .eq 9, 3) := by decide +kernel
theorem d2_56 : decode method_3_code 56 = .ok (.iload_n 0, 1) := by decide +kernel
theorem d2_57 : decode method_3_code 57 = .ok (.bipush 92, 2) := by decide +kernel
theorem d2_59 : decode method_3_code 59 = .ok (.if_icmp .ne 7, 3) := by decide +kernel
theorem d2_66 : decode method_3_code 66 = .ok (.iconst 0, 1) := by decide +kernel
theorem d2_6 : decode method_3_code 6 = .ok (.iconst 1, 1) := by decide +kernel
theorem d2_7 : decode method_3_code 7 = .ok (.ireturn, 1) := by decide +kernel
def Q2_1 (Z : State) (a_ASCII_NOT_ALLOWED : Addr) (clA : Cell) (i0 : Int32) (h0 : Heap) (n0 : Nat) (v : Option Value) (h : Heap) (L : List Loc) : Prop := Fr n0 L ∧ h = h0 ∧ ((v = some (.int (1 : Int32)) ∧ (32 : Int32) < i0 ∧ i0 = (60 : Int32)) ∨ (v = some (.int (1 : Int32)) ∧ (32 : Int32) < i0 ∧ ¬ (i0 = (60 : Int32)) ∧ i0 = (62 : Int32)) ∨ (v = some (.int (1 : Int32)) ∧ (32 : Int32) < i0 ∧ ¬ (i0 = (60 : Int32)) ∧ ¬ (i0 = (62 : Int32)) ∧ i0 = (34 : Int32)) ∨ (v = some (.int (1 : Int32)) ∧ (32 : Int32) < i0 ∧ ¬ (i0 = (60 : Int32)) ∧ ¬ (i0 = (62 : Int32)) ∧ ¬ (i0 = (34 : Int32)) ∧ i0 = (123 : Int32)) ∨ (v = some (.int (1 : Int32)) ∧ (32 : Int32) < i0 ∧ ¬ (i0 = (60 : Int32)) ∧ ¬ (i0 = (62 : Int32)) ∧ ¬ (i0 = (34 : Int32)) ∧ ¬ (i0 = (123 : Int32)) ∧ i0 = (125 : Int32)) ∨ (v = some (.int (1 : Int32)) ∧ (32 : Int32) < i0 ∧ ¬ (i0 = (60 : Int32)) ∧ ¬ (i0 = (62 : Int32)) ∧ ¬ (i0 = (34 : Int32)) ∧ ¬ (i0 = (123 : Int32)) ∧ ¬ (i0 = (125 : Int32)) ∧ i0 = (124 : Int32)) ∨ (v = some (.int (1 : Int32)) ∧ (32 : Int32) < i0 ∧ ¬ (i0 = (60 : Int32)) ∧ ¬ (i0 = (62 : Int32)) ∧ ¬ (i0 = (34 : Int32)) ∧ ¬ (i0 = (123 : Int32)) ∧ ¬ (i0 = (125 : Int32)) ∧ ¬ (i0 = (124 : Int32)) ∧ i0 = (94 : Int32)) ∨ (v = some (.int (1 : Int32)) ∧ (32 : Int32) < i0 ∧ ¬ (i0 = (60 : Int32)) ∧ ¬ (i0 = (62 : Int32)) ∧ ¬ (i0 = (34 : Int32)) ∧ ¬ (i0 = (123 : Int32)) ∧ ¬ (i0 = (125 : Int32)) ∧ ¬ (i0 = (124 : Int32)) ∧ ¬ (i0 = (94 : Int32)) ∧ i0 = (96 : Int32)) ∨ (v = some (.int (1 : Int32)) ∧ (32 : Int32) < i0 ∧ ¬ (i0 = (60 : Int32)) ∧ ¬ (i0 = (62 : Int32)) ∧ ¬ (i0 = (34 : Int32)) ∧ ¬ (i0 = (123 : Int32)) ∧ ¬ (i0 = (125 : Int32)) ∧ ¬ (i0 = (124 : Int32)) ∧ ¬ (i0 = (94 : Int32)) ∧ ¬ (i0 = (96 : Int32)) ∧ i0 = (92 : Int32)) ∨ (v = some (.int (0 : Int32)) ∧ (32 : Int32) < i0 ∧ ¬ (i0 = (60 : Int32)) ∧ ¬ (i0 = (62 : Int32)) ∧ ¬ (i0 = (34 : Int32)) ∧ ¬ (i0 = (123 : Int32)) ∧ ¬ (i0 = (125 : Int32)) ∧ ¬ (i0 = (124 : Int32)) ∧ ¬ (i0 = (94 : Int32)) ∧ ¬ (i0 = (96 : Int32)) ∧ ¬ (i0 = (92 : Int32))) ∨ (v = some (.int (1 : Int32)) ∧ ¬ ((32 : Int32) < i0)))
set_option maxRecDepth 65536 in
set_option maxHeartbeats 40000000 in
theorem rm2_1 (l : Launch) (Z : State) (a0 : Array Value) (hw : ∀ d ∈ tables_1, d.before a0 Z = true) (ws : List Jvm.Cond) (a_ASCII_NOT_ALLOWED : Addr) (clA : Cell) (i0 : Int32) (h0 : Heap) (n0 : Nat) (O0 : Old Z n0 h0) (HE : Env1 Z a_ASCII_NOT_ALLOWED clA)  :
    MetFree l M1 (head1 (Jvm.Cond.code M1 method_3_code 1 (some .boolean) :: ws) ({ frames := 0, cells := 0, slots := 0, locals := 0 } : Room)) (fun a U => a = #[(.int i0)] ∧ Z.Warmed39 U.vm ∧ U.heap = h0) (fun _ _ _ _ _ => True) (fun _ U o U' => ∃ v L, o = .returned v ∧ Q2_1 Z a_ASCII_NOT_ALLOWED clA i0 h0 n0 v U'.heap L ∧ FrameEnd U o U' L ({ frames := 0, cells := 0, slots := 0, locals := 0 } : Room).cells ({ frames := 0, cells := 0, slots := 0, locals := 0 } : Room).slots) := by
 refine MetFree.of_bodySF (plainFor_of_name pn0) hisR ?_
 intro p e s m args below meth c s₁ Bd hml0 hP hK
 obtain ⟨rfl, hZ, hh⟩ := hP
 have hx := Bd.exec
 have hby := Bd.bytes
 have hml : c.maxLocals = 1 := hml0
 have hown : s.vm.findClass "com/example/quadrille/quadrille/rdf/IriIsNotAllowedPinLaw" = some m.cls := findClass_of_methodNamed Bd.named
 have hnm := (name_of_methodNamed Bd.named Bd.method).1
 have X0 : Stand p l e ({ frames := 0, cells := 0, slots := 0, locals := 0 } : Room) s m #[(.int i0)] below meth c s₁ [] 0 0 := Stand.of_body Bd
 have e0 : s₁.heap = h0 := by rw [← hh, Bd.state]; rfl
 have N0 := Fr.nil n0
 let S0 : State → Prop := fun t => Steps p.tables e below (s₁.setTop (entryFrame m #[(.int i0)] 1)) t
 have p0 : ∀ t, St p e below s₁ (mkF m 0 #[.val (.int i0)] []) t → S0 t := fun t k => castTop (ef2 m i0) k
 have HE' := HE
 obtain ⟨Sa_ASCII_NOT_ALLOWED, RA, ZA, TA⟩ := HE
 have p1 : ∀ t, St p e below s₁ (mkF m 3 #[.val (.int i0)] [(.int (32 : Int32)), (.int i0)]) t → S0 t := fun t k => p0 t (by
   show St p e below s₁ (mkF m 0 #[.val (.int i0)] []) t
   refine XS.iloadN X0.here hx rfl (hb hby d2_0) rfl ?_
   show St p e below s₁ (mkF m 1 #[.val (.int i0)] [(.int i0)]) t
   refine XT.bipushV X0.here hx rfl (32 : Int32) (hb hby d2_1) (by decide) ?_
   exact k)
 by_cases g2 : (32 : Int32) < i0
 ·
  have p3 : ∀ t, St p e below s₁ (mkF m 11 #[.val (.int i0)] [(.int (60 : Int32)), (.int i0)]) t → S0 t := fun t k => p1 t (by
    show St p e below s₁ (mkF m 3 #[.val (.int i0)] [(.int (32 : Int32)), (.int i0)]) t
    refine XS.icmpYes X0.here hx rfl (pc0 := 3) (pc' := 8) rfl (hb hby d2_3) rfl (tlt g2).2.2.1 (by decide) (by decide) ?_
    show St p e below s₁ (mkF m 8 #[.val (.int i0)] []) t
    refine XS.iloadN X0.here hx rfl (hb hby d2_8) rfl ?_
    show St p e below s₁ (mkF m 9 #[.val (.int i0)] [(.int i0)]) t
    refine XT.bipushV X0.here hx rfl (60 : Int32) (hb hby d2_9) (by decide) ?_
    exact k)
  by_cases g4 : i0 = (60 : Int32)
  ·
   have p5 : ∀ t, St p e below s₁ (mkF m 67 #[.val (.int i0)] [(.int (1 : Int32))]) t → S0 t := fun t k => p3 t (by
     show St p e below s₁ (mkF m 11 #[.val (.int i0)] [(.int (60 : Int32)), (.int i0)]) t
     refine XS.icmpYes X0.here hx rfl (pc0 := 11) (pc' := 62) rfl (hb hby d2_11) rfl (teq g4).1 (by decide) (by decide) ?_
     show St p e below s₁ (mkF m 62 #[.val (.int i0)] []) t
     refine XT.iconstV X0.here hx rfl (1 : Int32) (hb hby d2_62) (by decide) ?_
     show St p e below s₁ (mkF m 63 #[.val (.int i0)] [(.int (1 : Int32))]) t
     refine XS.goto X0.here hx rfl (pc0 := 63) (pc' := 67) rfl (hb hby d2_63) (by decide) (by decide) ?_
     exact k)
   obtain ⟨fs, hr, hrun, hended, hW, hsame⟩ := X0.leave (v := some (.int (1 : Int32))) (fun h => by rw [Bd.returns] at h; cases h)
   refine ⟨_, _, p5 _ ?_, hrun, hended, _, _, rfl, ?_, ⟨_, rfl⟩, hW, hsame.mono (by decide) (by decide)⟩
   · exact retOut X0 hx Bd.returns rfl (Or.inl ⟨rfl, by simp, _, rfl⟩) (hb hby d2_67) hr
   · show Q2_1 Z a_ASCII_NOT_ALLOWED clA i0 h0 n0 _ s₁.heap _
     exact ⟨N0, e0, (Or.inl ⟨rfl, g2, g4⟩)⟩
  ·
   have p6 : ∀ t, St p e below s₁ (mkF m 17 #[.val (.int i0)] [(.int (62 : Int32)), (.int i0)]) t → S0 t := fun t k => p3 t (by
     show St p e below s₁ (mkF m 11 #[.val (.int i0)] [(.int (60 : Int32)), (.int i0)]) t
     refine XS.icmpNo X0.here hx rfl (hb hby d2_11) rfl (feq g4).1 ?_
     show St p e below s₁ (mkF m 14 #[.val (.int i0)] []) t
     refine XS.iloadN X0.here hx rfl (hb hby d2_14) rfl ?_
     show St p e below s₁ (mkF m 15 #[.val (.int i0)] [(.int i0)]) t
     refine XT.bipushV X0.here hx rfl (62 : Int32) (hb hby d2_15) (by decide) ?_
     exact k)
   by_cases g7 : i0 = (62 : Int32)
   ·
    have p8 : ∀ t, St p e below s₁ (mkF m 67 #[.val (.int i0)] [(.int (1 : Int32))]) t → S0 t := fun t k => p6 t (by
      show St p e below s₁ (mkF m 17 #[.val (.int i0)] [(.int (62 : Int32)), (.int i0)]) t
      refine XS.icmpYes X0.here hx rfl (pc0 := 17) (pc' := 62) rfl (hb hby d2_17) rfl (teq g7).1 (by decide) (by decide) ?_
      show St p e below s₁ (mkF m 62 #[.val (.int i0)] []) t
      refine XT.iconstV X0.here hx rfl (1 : Int32) (hb hby d2_62) (by decide) ?_
      show St p e below s₁ (mkF m 63 #[.val (.int i0)] [(.int (1 : Int32))]) t
      refine XS.goto X0.here hx rfl (pc0 := 63) (pc' := 67) rfl (hb hby d2_63) (by decide) (by decide) ?_
      exact k)
    obtain ⟨fs, hr, hrun, hended, hW, hsame⟩ := X0.leave (v := some (.int (1 : Int32))) (fun h => by rw [Bd.returns] at h; cases h)
    refine ⟨_, _, p8 _ ?_, hrun, hended, _, _, rfl, ?_, ⟨_, rfl⟩, hW, hsame.mono (by decide) (by decide)⟩
    · exact retOut X0 hx Bd.returns rfl (Or.inl ⟨rfl, by simp, _, rfl⟩) (hb hby d2_67) hr
    · show Q2_1 Z a_ASCII_NOT_ALLOWED clA i0 h0 n0 _ s₁.heap _
      exact ⟨N0, e0, (Or.inr (Or.inl ⟨rfl, g2, g4, g7⟩))⟩
   ·
    have p9 : ∀ t, St p e below s₁ (mkF m 23 #[.val (.int i0)] [(.int (34 : Int32)), (.int i0)]) t → S0 t := fun t k => p6 t (by
      show St p e below s₁ (mkF m 17 #[.val (.int i0)] [(.int (62 : Int32)), (.int i0)]) t
      refine XS.icmpNo X0.here hx rfl (hb hby d2_17) rfl (feq g7).1 ?_
      show St p e below s₁ (mkF m 20 #[.val (.int i0)] []) t
      refine XS.iloadN X0.here hx rfl (hb hby d2_20) rfl ?_
      show St p e below s₁ (mkF m 21 #[.val (.int i0)] [(.int i0)]) t
      refine XT.bipushV X0.here hx rfl (34 : Int32) (hb hby d2_21) (by decide) ?_
      exact k)
    by_cases g10 : i0 = (34 : Int32)
    ·
     have p11 : ∀ t, St p e below s₁ (mkF m 67 #[.val (.int i0)] [(.int (1 : Int32))]) t → S0 t := fun t k => p9 t (by
       show St p e below s₁ (mkF m 23 #[.val (.int i0)] [(.int (34 : Int32)), (.int i0)]) t
       refine XS.icmpYes X0.here hx rfl (pc0 := 23) (pc' := 62) rfl (hb hby d2_23) rfl (teq g10).1 (by decide) (by decide) ?_
       show St p e below s₁ (mkF m 62 #[.val (.int i0)] []) t
       refine XT.iconstV X0.here hx rfl (1 : Int32) (hb hby d2_62) (by decide) ?_
       show St p e below s₁ (mkF m 63 #[.val (.int i0)] [(.int (1 : Int32))]) t
       refine XS.goto X0.here hx rfl (pc0 := 63) (pc' := 67) rfl (hb hby d2_63) (by decide) (by decide) ?_
       exact k)
     obtain ⟨fs, hr, hrun, hended, hW, hsame⟩ := X0.leave (v := some (.int (1 : Int32))) (fun h => by rw [Bd.returns] at h; cases h)
     refine ⟨_, _, p11 _ ?_, hrun, hended, _, _, rfl, ?_, ⟨_, rfl⟩, hW, hsame.mono (by decide) (by decide)⟩
     · exact retOut X0 hx Bd.returns rfl (Or.inl ⟨rfl, by simp, _, rfl⟩) (hb hby d2_67) hr
     · show Q2_1 Z a_ASCII_NOT_ALLOWED clA i0 h0 n0 _ s₁.heap _
       exact ⟨N0, e0, (Or.inr (Or.inr (Or.inl ⟨rfl, g2, g4, g7, g10⟩)))⟩
    ·
     have p12 : ∀ t, St p e below s₁ (mkF m 29 #[.val (.int i0)] [(.int (123 : Int32)), (.int i0)]) t → S0 t := fun t k => p9 t (by
       show St p e below s₁ (mkF m 23 #[.val (.int i0)] [(.int (34 : Int32)), (.int i0)]) t
       refine XS.icmpNo X0.here hx rfl (hb hby d2_23) rfl (feq g10).1 ?_
       show St p e below s₁ (mkF m 26 #[.val (.int i0)] []) t
       refine XS.iloadN X0.here hx rfl (hb hby d2_26) rfl ?_
       show St p e below s₁ (mkF m 27 #[.val (.int i0)] [(.int i0)]) t
       refine XT.bipushV X0.here hx rfl (123 : Int32) (hb hby d2_27) (by decide) ?_
       exact k)
     by_cases g13 : i0 = (123 : Int32)
     ·
      have p14 : ∀ t, St p e below s₁ (mkF m 67 #[.val (.int i0)] [(.int (1 : Int32))]) t → S0 t := fun t k => p12 t (by
        show St p e below s₁ (mkF m 29 #[.val (.int i0)] [(.int (123 : Int32)), (.int i0)]) t
        refine XS.icmpYes X0.here hx rfl (pc0 := 29) (pc' := 62) rfl (hb hby d2_29) rfl (teq g13).1 (by decide) (by decide) ?_
        show St p e below s₁ (mkF m 62 #[.val (.int i0)] []) t
        refine XT.iconstV X0.here hx rfl (1 : Int32) (hb hby d2_62) (by decide) ?_
        show St p e below s₁ (mkF m 63 #[.val (.int i0)] [(.int (1 : Int32))]) t
        refine XS.goto X0.here hx rfl (pc0 := 63) (pc' := 67) rfl (hb hby d2_63) (by decide) (by decide) ?_
        exact k)
      obtain ⟨fs, hr, hrun, hended, hW, hsame⟩ := X0.leave (v := some (.int (1 : Int32))) (fun h => by rw [Bd.returns] at h; cases h)
      refine ⟨_, _, p14 _ ?_, hrun, hended, _, _, rfl, ?_, ⟨_, rfl⟩, hW, hsame.mono (by decide) (by decide)⟩
      · exact retOut X0 hx Bd.returns rfl (Or.inl ⟨rfl, by simp, _, rfl⟩) (hb hby d2_67) hr
      · show Q2_1 Z a_ASCII_NOT_ALLOWED clA i0 h0 n0 _ s₁.heap _
        exact ⟨N0, e0, (Or.inr (Or.inr (Or.inr (Or.inl ⟨rfl, g2, g4, g7, g10, g13⟩))))⟩
     ·
      have p15 : ∀ t, St p e below s₁ (mkF m 35 #[.val (.int i0)] [(.int (125 : Int32)), (.int i0)]) t → S0 t := fun t k => p12 t (by
        show St p e below s₁ (mkF m 29 #[.val (.int i0)] [(.int (123 : Int32)), (.int i0)]) t
        refine XS.icmpNo X0.here hx rfl (hb hby d2_29) rfl (feq g13).1 ?_
        show St p e below s₁ (mkF m 32 #[.val (.int i0)] []) t
        refine XS.iloadN X0.here hx rfl (hb hby d2_32) rfl ?_
        show St p e below s₁ (mkF m 33 #[.val (.int i0)] [(.int i0)]) t
        refine XT.bipushV X0.here hx rfl (125 : Int32) (hb hby d2_33) (by decide) ?_
        exact k)
      by_cases g16 : i0 = (125 : Int32)
      ·
       have p17 : ∀ t, St p e below s₁ (mkF m 67 #[.val (.int i0)] [(.int (1 : Int32))]) t → S0 t := fun t k => p15 t (by
         show St p e below s₁ (mkF m 35 #[.val (.int i0)] [(.int (125 : Int32)), (.int i0)]) t
         refine XS.icmpYes X0.here hx rfl (pc0 := 35) (pc' := 62) rfl (hb hby d2_35) rfl (teq g16).1 (by decide) (by decide) ?_
         show St p e below s₁ (mkF m 62 #[.val (.int i0)] []) t
         refine XT.iconstV X0.here hx rfl (1 : Int32) (hb hby d2_62) (by decide) ?_
         show St p e below s₁ (mkF m 63 #[.val (.int i0)] [(.int (1 : Int32))]) t
         refine XS.goto X0.here hx rfl (pc0 := 63) (pc' := 67) rfl (hb hby d2_63) (by decide) (by decide) ?_
         exact k)
       obtain ⟨fs, hr, hrun, hended, hW, hsame⟩ := X0.leave (v := some (.int (1 : Int32))) (fun h => by rw [Bd.returns] at h; cases h)
       refine ⟨_, _, p17 _ ?_, hrun, hended, _, _, rfl, ?_, ⟨_, rfl⟩, hW, hsame.mono (by decide) (by decide)⟩
       · exact retOut X0 hx Bd.returns rfl (Or.inl ⟨rfl, by simp, _, rfl⟩) (hb hby d2_67) hr
       · show Q2_1 Z a_ASCII_NOT_ALLOWED clA i0 h0 n0 _ s₁.heap _
         exact ⟨N0, e0, (Or.inr (Or.inr (Or.inr (Or.inr (Or.inl ⟨rfl, g2, g4, g7, g10, g13, g16⟩)))))⟩
      ·
       have p18 : ∀ t, St p e below s₁ (mkF m 41 #[.val (.int i0)] [(.int (124 : Int32)), (.int i0)]) t → S0 t := fun t k => p15 t (by
         show St p e below s₁ (mkF m 35 #[.val (.int i0)] [(.int (125 : Int32)), (.int i0)]) t
         refine XS.icmpNo X0.here hx rfl (hb hby d2_35) rfl (feq g16).1 ?_
         show St p e below s₁ (mkF m 38 #[.val (.int i0)] []) t
         refine XS.iloadN X0.here hx rfl (hb hby d2_38) rfl ?_
         show St p e below s₁ (mkF m 39 #[.val (.int i0)] [(.int i0)]) t
         refine XT.bipushV X0.here hx rfl (124 : Int32) (hb hby d2_39) (by decide) ?_
         exact k)
       by_cases g19 : i0 = (124 : Int32)
       ·
        have p20 : ∀ t, St p e below s₁ (mkF m 67 #[.val (.int i0)] [(.int (1 : Int32))]) t → S0 t := fun t k => p18 t (by
          show St p e below s₁ (mkF m 41 #[.val (.int i0)] [(.int (124 : Int32)), (.int i0)]) t
          refine XS.icmpYes X0.here hx rfl (pc0 := 41) (pc' := 62) rfl (hb hby d2_41) rfl (teq g19).1 (by decide) (by decide) ?_
          show St p e below s₁ (mkF m 62 #[.val (.int i0)] []) t
          refine XT.iconstV X0.here hx rfl (1 : Int32) (hb hby d2_62) (by decide) ?_
          show St p e below s₁ (mkF m 63 #[.val (.int i0)] [(.int (1 : Int32))]) t
          refine XS.goto X0.here hx rfl (pc0 := 63) (pc' := 67) rfl (hb hby d2_63) (by decide) (by decide) ?_
          exact k)
        obtain ⟨fs, hr, hrun, hended, hW, hsame⟩ := X0.leave (v := some (.int (1 : Int32))) (fun h => by rw [Bd.returns] at h; cases h)
        refine ⟨_, _, p20 _ ?_, hrun, hended, _, _, rfl, ?_, ⟨_, rfl⟩, hW, hsame.mono (by decide) (by decide)⟩
        · exact retOut X0 hx Bd.returns rfl (Or.inl ⟨rfl, by simp, _, rfl⟩) (hb hby d2_67) hr
        · show Q2_1 Z a_ASCII_NOT_ALLOWED clA i0 h0 n0 _ s₁.heap _
          exact ⟨N0, e0, (Or.inr (Or.inr (Or.inr (Or.inr (Or.inr (Or.inl ⟨rfl, g2, g4, g7, g10, g13, g16, g19⟩))))))⟩
       ·
        have p21 : ∀ t, St p e below s₁ (mkF m 47 #[.val (.int i0)] [(.int (94 : Int32)), (.int i0)]) t → S0 t := fun t k => p18 t (by
          show St p e below s₁ (mkF m 41 #[.val (.int i0)] [(.int (124 : Int32)), (.int i0)]) t
          refine XS.icmpNo X0.here hx rfl (hb hby d2_41) rfl (feq g19).1 ?_
          show St p e below s₁ (mkF m 44 #[.val (.int i0)] []) t
          refine XS.iloadN X0.here hx rfl (hb hby d2_44) rfl ?_
          show St p e below s₁ (mkF m 45 #[.val (.int i0)] [(.int i0)]) t
          refine XT.bipushV X0.here hx rfl (94 : Int32) (hb hby d2_45) (by decide) ?_
          exact k)
        by_cases g22 : i0 = (94 : Int32)
        ·
         have p23 : ∀ t, St p e below s₁ (mkF m 67 #[.val (.int i0)] [(.int (1 : Int32))]) t → S0 t := fun t k => p21 t (by
           show St p e below s₁ (mkF m 47 #[.val (.int i0)] [(.int (94 : Int32)), (.int i0)]) t
           refine XS.icmpYes X0.here hx rfl (pc0 := 47) (pc' := 62) rfl (hb hby d2_47) rfl (teq g22).1 (by decide) (by decide) ?_
           show St p e below s₁ (mkF m 62 #[.val (.int i0)] []) t
           refine XT.iconstV X0.here hx rfl (1 : Int32) (hb hby d2_62) (by decide) ?_
           show St p e below s₁ (mkF m 63 #[.val (.int i0)] [(.int (1 : Int32))]) t
           refine XS.goto X0.here hx rfl (pc0 := 63) (pc' := 67) rfl (hb hby d2_63) (by decide) (by decide) ?_
           exact k)
         obtain ⟨fs, hr, hrun, hended, hW, hsame⟩ := X0.leave (v := some (.int (1 : Int32))) (fun h => by rw [Bd.returns] at h; cases h)
         refine ⟨_, _, p23 _ ?_, hrun, hended, _, _, rfl, ?_, ⟨_, rfl⟩, hW, hsame.mono (by decide) (by decide)⟩
         · exact retOut X0 hx Bd.returns rfl (Or.inl ⟨rfl, by simp, _, rfl⟩) (hb hby d2_67) hr
         · show Q2_1 Z a_ASCII_NOT_ALLOWED clA i0 h0 n0 _ s₁.heap _
           exact ⟨N0, e0, (Or.inr (Or.inr (Or.inr (Or.inr (Or.inr (Or.inr (Or.inl ⟨rfl, g2, g4, g7, g10, g13, g16, g19, g22⟩)))))))⟩
        ·
         have p24 : ∀ t, St p e below s₁ (mkF m 53 #[.val (.int i0)] [(.int (96 : Int32)), (.int i0)]) t → S0 t := fun t k => p21 t (by
           show St p e below s₁ (mkF m 47 #[.val (.int i0)] [(.int (94 : Int32)), (.int i0)]) t
           refine XS.icmpNo X0.here hx rfl (hb hby d2_47) rfl (feq g22).1 ?_
           show St p e below s₁ (mkF m 50 #[.val (.int i0)] []) t
           refine XS.iloadN X0.here hx rfl (hb hby d2_50) rfl ?_
           show St p e below s₁ (mkF m 51 #[.val (.int i0)] [(.int i0)]) t
           refine XT.bipushV X0.here hx rfl (96 : Int32) (hb hby d2_51) (by decide) ?_
           exact k)
         by_cases g25 : i0 = (96 : Int32)
         ·
          have p26 : ∀ t, St p e below s₁ (mkF m 67 #[.val (.int i0)] [(.int (1 : Int32))]) t → S0 t := fun t k => p24 t (by
            show St p e below s₁ (mkF m 53 #[.val (.int i0)] [(.int (96 : Int32)), (.int i0)]) t
            refine XS.icmpYes X0.here hx rfl (pc0 := 53) (pc' := 62) rfl (hb hby d2_53) rfl (teq g25).1 (by decide) (by decide) ?_
            show St p e below s₁ (mkF m 62 #[.val (.int i0)] []) t
            refine XT.iconstV X0.here hx rfl (1 : Int32) (hb hby d2_62) (by decide) ?_
            show St p e below s₁ (mkF m 63 #[.val (.int i0)] [(.int (1 : Int32))]) t
            refine XS.goto X0.here hx rfl (pc0 := 63) (pc' := 67) rfl (hb hby d2_63) (by decide) (by decide) ?_
            exact k)
          obtain ⟨fs, hr, hrun, hended, hW, hsame⟩ := X0.leave (v := some (.int (1 : Int32))) (fun h => by rw [Bd.returns] at h; cases h)
          refine ⟨_, _, p26 _ ?_, hrun, hended, _, _, rfl, ?_, ⟨_, rfl⟩, hW, hsame.mono (by decide) (by decide)⟩
          · exact retOut X0 hx Bd.returns rfl (Or.inl ⟨rfl, by simp, _, rfl⟩) (hb hby d2_67) hr
          · show Q2_1 Z a_ASCII_NOT_ALLOWED clA i0 h0 n0 _ s₁.heap _
            exact ⟨N0, e0, (Or.inr (Or.inr (Or.inr (Or.inr (Or.inr (Or.inr (Or.inr (Or.inl ⟨rfl, g2, g4, g7, g10, g13, g16, g19, g22, g25⟩))))))))⟩
         ·
          have p27 : ∀ t, St p e below s₁ (mkF m 59 #[.val (.int i0)] [(.int (92 : Int32)), (.int i0)]) t → S0 t := fun t k => p24 t (by
            show St p e below s₁ (mkF m 53 #[.val (.int i0)] [(.int (96 : Int32)), (.int i0)]) t
            refine XS.icmpNo X0.here hx rfl (hb hby d2_53) rfl (feq g25).1 ?_
            show St p e below s₁ (mkF m 56 #[.val (.int i0)] []) t
            refine XS.iloadN X0.here hx rfl (hb hby d2_56) rfl ?_
            show St p e below s₁ (mkF m 57 #[.val (.int i0)] [(.int i0)]) t
            refine XT.bipushV X0.here hx rfl (92 : Int32) (hb hby d2_57) (by decide) ?_
            exact k)
          by_cases g28 : i0 = (92 : Int32)
          ·
           have p29 : ∀ t, St p e below s₁ (mkF m 67 #[.val (.int i0)] [(.int (1 : Int32))]) t → S0 t := fun t k => p27 t (by
             show St p e below s₁ (mkF m 59 #[.val (.int i0)] [(.int (92 : Int32)), (.int i0)]) t
             refine XS.icmpNo X0.here hx rfl (hb hby d2_59) rfl (teq g28).2 ?_
             show St p e below s₁ (mkF m 62 #[.val (.int i0)] []) t
             refine XT.iconstV X0.here hx rfl (1 : Int32) (hb hby d2_62) (by decide) ?_
             show St p e below s₁ (mkF m 63 #[.val (.int i0)] [(.int (1 : Int32))]) t
             refine XS.goto X0.here hx rfl (pc0 := 63) (pc' := 67) rfl (hb hby d2_63) (by decide) (by decide) ?_
             exact k)
           obtain ⟨fs, hr, hrun, hended, hW, hsame⟩ := X0.leave (v := some (.int (1 : Int32))) (fun h => by rw [Bd.returns] at h; cases h)
           refine ⟨_, _, p29 _ ?_, hrun, hended, _, _, rfl, ?_, ⟨_, rfl⟩, hW, hsame.mono (by decide) (by decide)⟩
           · exact retOut X0 hx Bd.returns rfl (Or.inl ⟨rfl, by simp, _, rfl⟩) (hb hby d2_67) hr
           · show Q2_1 Z a_ASCII_NOT_ALLOWED clA i0 h0 n0 _ s₁.heap _
             exact ⟨N0, e0, (Or.inr (Or.inr (Or.inr (Or.inr (Or.inr (Or.inr (Or.inr (Or.inr (Or.inl ⟨rfl, g2, g4, g7, g10, g13, g16, g19, g22, g25, g28⟩)))))))))⟩
          ·
           have p30 : ∀ t, St p e below s₁ (mkF m 67 #[.val (.int i0)] [(.int (0 : Int32))]) t → S0 t := fun t k => p27 t (by
             show St p e below s₁ (mkF m 59 #[.val (.int i0)] [(.int (92 : Int32)), (.int i0)]) t
             refine XS.icmpYes X0.here hx rfl (pc0 := 59) (pc' := 66) rfl (hb hby d2_59) rfl (feq g28).2 (by decide) (by decide) ?_
             show St p e below s₁ (mkF m 66 #[.val (.int i0)] []) t
             refine XT.iconstV X0.here hx rfl (0 : Int32) (hb hby d2_66) (by decide) ?_
             exact k)
           obtain ⟨fs, hr, hrun, hended, hW, hsame⟩ := X0.leave (v := some (.int (0 : Int32))) (fun h => by rw [Bd.returns] at h; cases h)
           refine ⟨_, _, p30 _ ?_, hrun, hended, _, _, rfl, ?_, ⟨_, rfl⟩, hW, hsame.mono (by decide) (by decide)⟩
           · exact retOut X0 hx Bd.returns rfl (Or.inl ⟨rfl, by simp, _, rfl⟩) (hb hby d2_67) hr
           · show Q2_1 Z a_ASCII_NOT_ALLOWED clA i0 h0 n0 _ s₁.heap _
             exact ⟨N0, e0, (Or.inr (Or.inr (Or.inr (Or.inr (Or.inr (Or.inr (Or.inr (Or.inr (Or.inr (Or.inl ⟨rfl, g2, g4, g7, g10, g13, g16, g19, g22, g25, g28⟩))))))))))⟩
 ·
  have p31 : ∀ t, St p e below s₁ (mkF m 7 #[.val (.int i0)] [(.int (1 : Int32))]) t → S0 t := fun t k => p1 t (by
    show St p e below s₁ (mkF m 3 #[.val (.int i0)] [(.int (32 : Int32)), (.int i0)]) t
    refine XS.icmpNo X0.here hx rfl (hb hby d2_3) rfl (flt g2).2.2.1 ?_
    show St p e below s₁ (mkF m 6 #[.val (.int i0)] []) t
    refine XT.iconstV X0.here hx rfl (1 : Int32) (hb hby d2_6) (by decide) ?_
    exact k)
  obtain ⟨fs, hr, hrun, hended, hW, hsame⟩ := X0.leave (v := some (.int (1 : Int32))) (fun h => by rw [Bd.returns] at h; cases h)
  refine ⟨_, _, p31 _ ?_, hrun, hended, _, _, rfl, ?_, ⟨_, rfl⟩, hW, hsame.mono (by decide) (by decide)⟩
  · exact retOut X0 hx Bd.returns rfl (Or.inl ⟨rfl, by simp, _, rfl⟩) (hb hby d2_7) hr
  · show Q2_1 Z a_ASCII_NOT_ALLOWED clA i0 h0 n0 _ s₁.heap _
    exact ⟨N0, e0, (Or.inr (Or.inr (Or.inr (Or.inr (Or.inr (Or.inr (Or.inr (Or.inr (Or.inr (Or.inr (⟨rfl, g2⟩)))))))))))⟩
def Q0 (Z : State) (a_ASCII_NOT_ALLOWED : Addr) (clA : Cell) (i0 : Int32) (h0 : Heap) (n0 : Nat) (v : Option Value) (h : Heap) (L : List Loc) : Prop := v = some (.int 1) ∧ Fr n0 L
set_option maxRecDepth 65536 in
set_option maxHeartbeats 40000000 in
theorem rm0 (l : Launch) (Z : State) (a0 : Array Value) (hw : ∀ d ∈ tables_1, d.before a0 Z = true) (ws : List Jvm.Cond) (a_ASCII_NOT_ALLOWED : Addr) (clA : Cell) (i0 : Int32) (h0 : Heap) (n0 : Nat) (O0 : Old Z n0 h0) (HE : Env1 Z a_ASCII_NOT_ALLOWED clA)  :
    MetFree l x (head1 (Jvm.Cond.code x code maxLocals ret :: ws) room_1) (fun a U => a = #[(.int i0)] ∧ Z.Warmed39 U.vm ∧ U.heap = h0) (fun _ _ _ _ _ => True) (fun _ U o U' => ∃ v L, o = .returned v ∧ Q0 Z a_ASCII_NOT_ALLOWED clA i0 h0 n0 v U'.heap L ∧ FrameEnd U o U' L 0 0) := by
 refine MetFree.of_bodySF (plainFor_of_name pn0) hisR ?_
 intro p e s m args below meth c s₁ Bd hml0 hP hK
 obtain ⟨rfl, hZ, hh⟩ := hP
 have hx := Bd.exec
 have hby := Bd.bytes
 have hml : c.maxLocals = 1 := hml0
 have hown : s.vm.findClass "com/example/quadrille/quadrille/rdf/IriIsNotAllowedPinLaw" = some m.cls := findClass_of_methodNamed Bd.named
 have hnm := (name_of_methodNamed Bd.named Bd.method).1
 have X0 : Stand p l e room_1 s m #[(.int i0)] below meth c s₁ [] 0 0 := Stand.of_body Bd
 have e0 : s₁.heap = h0 := by rw [← hh, Bd.state]; rfl
 have N0 := Fr.nil n0
 let S0 : State → Prop := fun t => Steps p.tables e below (s₁.setTop (entryFrame m #[(.int i0)] maxLocals)) t
 have p0 : ∀ t, St p e below s₁ (mkF m 0 #[.val (.int i0)] []) t → S0 t := fun t k => castTop (ef0 m i0) k
 have HE' := HE
 obtain ⟨Sa_ASCII_NOT_ALLOWED, RA, ZA, TA⟩ := HE
 have p1 : ∀ t, St p e below s₁ (mkF m 1 #[.val (.int i0)] [(.int i0)]) t → S0 t := fun t k => p0 t (by
   show St p e below s₁ (mkF m 0 #[.val (.int i0)] []) t
   refine XS.iloadN X0.here hx rfl (hb hby at_0) rfl ?_
   exact k)
 obtain ⟨_, _, ⟨Tc2, Lc2, kc2, nc2⟩, -, Xc2, ⟨Lcc2, hQc2, lc2, yc2, zc2⟩, stc2⟩ := Jvm.LawKit.callS X0 hx (y := M0) hown (mvT hZ (ww hw 0 rfl)) (mvT hZ (ww hw 1 rfl)) (mvT hZ (ww hw 2 rfl)) (mvT hZ (ww hw 3 rfl)) (by decide) (backOf (W := 0) (rm1_0 l Z a0 hw [] a_ASCII_NOT_ALLOWED clA i0 h0 n0 O0 HE' ) hZ (ww hw 3 rfl) (ww hw 2 rfl) (by decide) (by decide)) (g := (mkF m 1 #[.val (.int i0)] [(.int i0)])) rfl (by rw [hml]; rfl) (argsL := [(.int i0)]) (rest := []) (lenOf pd0 rfl) rfl (by show 2 * 0 + _ ≤ _; exact Nat.le_of_eq rfl) (hb hby at_1) (fun _ _ => ⟨rfl, e0, (by decide : 0 + 0 ≤ _), (by decide : 0 + 0 ≤ _)⟩)
 dsimp only [Pt.U, Pt.locs, Pt.cells, Pt.slots] at Xc2 lc2 yc2 zc2 stc2 hQc2
 subst lc2 yc2 zc2
 obtain ⟨Nqc2, ec2, hAc2⟩ := hQc2
 have Nc2 := Fr.app N0 Nqc2
 rcases hAc2 with ⟨rfl, g3, g4⟩ | ⟨rfl, g5, g6, g7⟩ | ⟨rfl, g8, g9, g10⟩ | ⟨rfl, g11, g12, g13⟩ | ⟨rfl, g14, g15, g16⟩ | ⟨rfl, g17, g18, g19⟩ | ⟨rfl, g20, g21, g22⟩ | ⟨rfl, g23, g24, g25⟩ | ⟨rfl, g26, g27, g28⟩ | ⟨rfl, g29, g30, g31⟩ | ⟨rfl, g32, g33, g34⟩ | ⟨rfl, g35, g36, g37, g38, g39, g40, g41, g42, g43, g44, g45, g46⟩ | ⟨rfl, g47⟩
 ·
  have p48 : ∀ t, St p e below Tc2 (mkF m 4 #[.val (.int i0)] [(.int (1 : Int32))]) t → S0 t := fun t k => p1 t (stc2 t k)
  have p49 : ∀ t, St p e below Tc2 (mkF m 5 #[.val (.int i0)] [(.int i0), (.int (1 : Int32))]) t → S0 t := fun t k => p48 t (by
    show St p e below Tc2 (mkF m 4 #[.val (.int i0)] [(.int (1 : Int32))]) t
    refine XS.iloadN Xc2.here hx rfl (hb hby at_4) rfl ?_
    exact k)
  obtain ⟨_, _, ⟨Tc50, Lc50, kc50, nc50⟩, -, Xc50, ⟨Lcc50, hQc50, lc50, yc50, zc50⟩, stc50⟩ := Jvm.LawKit.callS Xc2 hx (y := M1) hown (mvT hZ (ww hw 6 rfl)) (mvT hZ (ww hw 7 rfl)) (mvT hZ (ww hw 8 rfl)) (mvT hZ (ww hw 9 rfl)) (by decide) (backOf (W := 1) (rm2_1 l Z a0 hw [] a_ASCII_NOT_ALLOWED clA i0 h0 n0 O0 HE' ) hZ (ww hw 9 rfl) (ww hw 8 rfl) (by decide) (by decide)) (g := (mkF m 5 #[.val (.int i0)] [(.int i0), (.int (1 : Int32))])) rfl (by rw [hml]; rfl) (argsL := [(.int i0)]) (rest := [(.int (1 : Int32))]) (lenOf pd0 rfl) rfl (by show 2 * 0 + _ ≤ _; exact Nat.le_of_eq rfl) (hb hby at_5) (fun _ _ => ⟨rfl, ec2, (by decide : 0 + 0 ≤ _), (by decide : 0 + 0 ≤ _)⟩)
  dsimp only [Pt.U, Pt.locs, Pt.cells, Pt.slots] at Xc50 lc50 yc50 zc50 stc50 hQc50
  subst lc50 yc50 zc50
  obtain ⟨Nqc50, ec50, hAc50⟩ := hQc50
  have Nc50 := Fr.app Nc2 Nqc50
  rcases hAc50 with ⟨rfl, g51, g52⟩ | ⟨rfl, g53, g54, g55⟩ | ⟨rfl, g56, g57, g58, g59⟩ | ⟨rfl, g60, g61, g62, g63, g64⟩ | ⟨rfl, g65, g66, g67, g68, g69, g70⟩ | ⟨rfl, g71, g72, g73, g74, g75, g76, g77⟩ | ⟨rfl, g78, g79, g80, g81, g82, g83, g84, g85⟩ | ⟨rfl, g86, g87, g88, g89, g90, g91, g92, g93, g94⟩ | ⟨rfl, g95, g96, g97, g98, g99, g100, g101, g102, g103, g104⟩ | ⟨rfl, g105, g106, g107, g108, g109, g110, g111, g112, g113, g114⟩ | ⟨rfl, g115⟩
  ·
   exfalso
   have q1_ := ltI g3
   have q2_ := ltI g4
   have q3_ := ltI g51
   have q4_ := eqI g52
   have l5_ := rng32 i0
   have l6_ := lI128
   have l7_ := lI0
   have l8_ := lI32
   have l9_ := lI60
   omega
  ·
   exfalso
   have q1_ := ltI g3
   have q2_ := ltI g4
   have q3_ := ltI g53
   have q4_ := neI g54
   have q5_ := eqI g55
   have l6_ := rng32 i0
   have l7_ := lI128
   have l8_ := lI0
   have l9_ := lI32
   have l10_ := lI60
   have l11_ := lI62
   omega
  ·
   exfalso
   have q1_ := ltI g3
   have q2_ := ltI g4
   have q3_ := ltI g56
   have q4_ := neI g57
   have q5_ := neI g58
   have q6_ := eqI g59
   have l7_ := rng32 i0
   have l8_ := lI128
   have l9_ := lI0
   have l10_ := lI32
   have l11_ := lI60
   have l12_ := lI62
   have l13_ := lI34
   omega
  ·
   exfalso
   have q1_ := ltI g3
   have q2_ := ltI g4
   have q3_ := ltI g60
   have q4_ := neI g61
   have q5_ := neI g62
   have q6_ := neI g63
   have q7_ := eqI g64
   have l8_ := rng32 i0
   have l9_ := lI128
   have l10_ := lI0
   have l11_ := lI32
   have l12_ := lI60
   have l13_ := lI62
   have l14_ := lI34
   have l15_ := lI123
   omega
  ·
   exfalso
   have q1_ := ltI g3
   have q2_ := ltI g4
   have q3_ := ltI g65
   have q4_ := neI g66
   have q5_ := neI g67
   have q6_ := neI g68
   have q7_ := neI g69
   have q8_ := eqI g70
   have l9_ := rng32 i0
   have l10_ := lI128
   have l11_ := lI0
   have l12_ := lI32
   have l13_ := lI60
   have l14_ := lI62
   have l15_ := lI34
   have l16_ := lI123
   have l17_ := lI125
   omega
  ·
   exfalso
   have q1_ := ltI g3
   have q2_ := ltI g4
   have q3_ := ltI g71
   have q4_ := neI g72
   have q5_ := neI g73
   have q6_ := neI g74
   have q7_ := neI g75
   have q8_ := neI g76
   have q9_ := eqI g77
   have l10_ := rng32 i0
   have l11_ := lI128
   have l12_ := lI0
   have l13_ := lI32
   have l14_ := lI60
   have l15_ := lI62
   have l16_ := lI34
   have l17_ := lI123
   have l18_ := lI125
   have l19_ := lI124
   omega
  ·
   exfalso
   have q1_ := ltI g3
   have q2_ := ltI g4
   have q3_ := ltI g78
   have q4_ := neI g79
   have q5_ := neI g80
   have q6_ := neI g81
   have q7_ := neI g82
   have q8_ := neI g83
   have q9_ := neI g84
   have q10_ := eqI g85
   have l11_ := rng32 i0
   have l12_ := lI128
   have l13_ := lI0
   have l14_ := lI32
   have l15_ := lI60
   have l16_ := lI62
   have l17_ := lI34
   have l18_ := lI123
   have l19_ := lI125
   have l20_ := lI124
   have l21_ := lI94
   omega
  ·
   exfalso
   have q1_ := ltI g3
   have q2_ := ltI g4
   have q3_ := ltI g86
   have q4_ := neI g87
   have q5_ := neI g88
   have q6_ := neI g89
   have q7_ := neI g90
   have q8_ := neI g91
   have q9_ := neI g92
   have q10_ := neI g93
   have q11_ := eqI g94
   have l12_ := rng32 i0
   have l13_ := lI128
   have l14_ := lI0
   have l15_ := lI32
   have l16_ := lI60
   have l17_ := lI62
   have l18_ := lI34
   have l19_ := lI123
   have l20_ := lI125
   have l21_ := lI124
   have l22_ := lI94
   have l23_ := lI96
   omega
  ·
   exfalso
   have q1_ := ltI g3
   have q2_ := ltI g4
   have q3_ := ltI g95
   have q4_ := neI g96
   have q5_ := neI g97
   have q6_ := neI g98
   have q7_ := neI g99
   have q8_ := neI g100
   have q9_ := neI g101
   have q10_ := neI g102
   have q11_ := neI g103
   have q12_ := eqI g104
   have l13_ := rng32 i0
   have l14_ := lI128
   have l15_ := lI0
   have l16_ := lI32
   have l17_ := lI60
   have l18_ := lI62
   have l19_ := lI34
   have l20_ := lI123
   have l21_ := lI125
   have l22_ := lI124
   have l23_ := lI94
   have l24_ := lI96
   have l25_ := lI92
   omega
  ·
   exfalso
   have q1_ := ltI g3
   have q2_ := ltI g4
   have q3_ := ltI g105
   have q4_ := neI g106
   have q5_ := neI g107
   have q6_ := neI g108
   have q7_ := neI g109
   have q8_ := neI g110
   have q9_ := neI g111
   have q10_ := neI g112
   have q11_ := neI g113
   have q12_ := neI g114
   have l13_ := rng32 i0
   have l14_ := lI128
   have l15_ := lI0
   have l16_ := lI32
   have l17_ := lI60
   have l18_ := lI62
   have l19_ := lI34
   have l20_ := lI123
   have l21_ := lI125
   have l22_ := lI124
   have l23_ := lI94
   have l24_ := lI96
   have l25_ := lI92
   omega
  ·
   have p116 : ∀ t, St p e below Tc50 (mkF m 8 #[.val (.int i0)] [(.int (1 : Int32)), (.int (1 : Int32))]) t → S0 t := fun t k => p49 t (stc50 t k)
   have p117 : ∀ t, St p e below Tc50 (mkF m 16 #[.val (.int i0)] [(.int (1 : Int32))]) t → S0 t := fun t k => p116 t (by
     show St p e below Tc50 (mkF m 8 #[.val (.int i0)] [(.int (1 : Int32)), (.int (1 : Int32))]) t
     refine XS.icmpNo Xc50.here hx rfl (hb hby at_8) rfl (teq (by decide : (1 : Int32) = (1 : Int32))).2 ?_
     show St p e below Tc50 (mkF m 11 #[.val (.int i0)] []) t
     refine XT.iconstV Xc50.here hx rfl (1 : Int32) (hb hby at_11) (by decide) ?_
     show St p e below Tc50 (mkF m 12 #[.val (.int i0)] [(.int (1 : Int32))]) t
     refine XS.goto Xc50.here hx rfl (pc0 := 12) (pc' := 16) rfl (hb hby at_12) (by decide) (by decide) ?_
     exact k)
   obtain ⟨fs, hr, hrun, hended, hW, hsame⟩ := Xc50.leave (v := some (.int (1 : Int32))) (fun h => by rw [Bd.returns] at h; cases h)
   refine ⟨_, _, p117 _ ?_, hrun, hended, _, _, rfl, ?_, ⟨_, rfl⟩, hW, hsame.mono (by decide) (by decide)⟩
   · exact retOut Xc50 hx Bd.returns rfl (Or.inl ⟨rfl, by simp, _, rfl⟩) (hb hby at_16) hr
   · exact ⟨rfl, Nc50⟩
 ·
  have p118 : ∀ t, St p e below Tc2 (mkF m 4 #[.val (.int i0)] [(.int (1 : Int32))]) t → S0 t := fun t k => p1 t (stc2 t k)
  have p119 : ∀ t, St p e below Tc2 (mkF m 5 #[.val (.int i0)] [(.int i0), (.int (1 : Int32))]) t → S0 t := fun t k => p118 t (by
    show St p e below Tc2 (mkF m 4 #[.val (.int i0)] [(.int (1 : Int32))]) t
    refine XS.iloadN Xc2.here hx rfl (hb hby at_4) rfl ?_
    exact k)
  obtain ⟨_, _, ⟨Tc120, Lc120, kc120, nc120⟩, -, Xc120, ⟨Lcc120, hQc120, lc120, yc120, zc120⟩, stc120⟩ := Jvm.LawKit.callS Xc2 hx (y := M1) hown (mvT hZ (ww hw 6 rfl)) (mvT hZ (ww hw 7 rfl)) (mvT hZ (ww hw 8 rfl)) (mvT hZ (ww hw 9 rfl)) (by decide) (backOf (W := 1) (rm2_1 l Z a0 hw [] a_ASCII_NOT_ALLOWED clA i0 h0 n0 O0 HE' ) hZ (ww hw 9 rfl) (ww hw 8 rfl) (by decide) (by decide)) (g := (mkF m 5 #[.val (.int i0)] [(.int i0), (.int (1 : Int32))])) rfl (by rw [hml]; rfl) (argsL := [(.int i0)]) (rest := [(.int (1 : Int32))]) (lenOf pd0 rfl) rfl (by show 2 * 0 + _ ≤ _; exact Nat.le_of_eq rfl) (hb hby at_5) (fun _ _ => ⟨rfl, ec2, (by decide : 0 + 0 ≤ _), (by decide : 0 + 0 ≤ _)⟩)
  dsimp only [Pt.U, Pt.locs, Pt.cells, Pt.slots] at Xc120 lc120 yc120 zc120 stc120 hQc120
  subst lc120 yc120 zc120
  obtain ⟨Nqc120, ec120, hAc120⟩ := hQc120
  have Nc120 := Fr.app Nc2 Nqc120
  rcases hAc120 with ⟨rfl, g121, g122⟩ | ⟨rfl, g123, g124, g125⟩ | ⟨rfl, g126, g127, g128, g129⟩ | ⟨rfl, g130, g131, g132, g133, g134⟩ | ⟨rfl, g135, g136, g137, g138, g139, g140⟩ | ⟨rfl, g141, g142, g143, g144, g145, g146, g147⟩ | ⟨rfl, g148, g149, g150, g151, g152, g153, g154, g155⟩ | ⟨rfl, g156, g157, g158, g159, g160, g161, g162, g163, g164⟩ | ⟨rfl, g165, g166, g167, g168, g169, g170, g171, g172, g173, g174⟩ | ⟨rfl, g175, g176, g177, g178, g179, g180, g181, g182, g183, g184⟩ | ⟨rfl, g185⟩
  ·
   exfalso
   have q1_ := ltI g5
   have q2_ := nltI g6
   have q3_ := ltI g7
   have q4_ := ltI g121
   have q5_ := eqI g122
   have l6_ := rng32 i0
   have l7_ := lI128
   have l8_ := lI0
   have l9_ := lI33
   have l10_ := lI32
   have l11_ := lI60
   omega
  ·
   exfalso
   have q1_ := ltI g5
   have q2_ := nltI g6
   have q3_ := ltI g7
   have q4_ := ltI g123
   have q5_ := neI g124
   have q6_ := eqI g125
   have l7_ := rng32 i0
   have l8_ := lI128
   have l9_ := lI0
   have l10_ := lI33
   have l11_ := lI32
   have l12_ := lI60
   have l13_ := lI62
   omega
  ·
   exfalso
   have q1_ := ltI g5
   have q2_ := nltI g6
   have q3_ := ltI g7
   have q4_ := ltI g126
   have q5_ := neI g127
   have q6_ := neI g128
   have q7_ := eqI g129
   have l8_ := rng32 i0
   have l9_ := lI128
   have l10_ := lI0
   have l11_ := lI33
   have l12_ := lI32
   have l13_ := lI60
   have l14_ := lI62
   have l15_ := lI34
   omega
  ·
   exfalso
   have q1_ := ltI g5
   have q2_ := nltI g6
   have q3_ := ltI g7
   have q4_ := ltI g130
   have q5_ := neI g131
   have q6_ := neI g132
   have q7_ := neI g133
   have q8_ := eqI g134
   have l9_ := rng32 i0
   have l10_ := lI128
   have l11_ := lI0
   have l12_ := lI33
   have l13_ := lI32
   have l14_ := lI60
   have l15_ := lI62
   have l16_ := lI34
   have l17_ := lI123
   omega
  ·
   exfalso
   have q1_ := ltI g5
   have q2_ := nltI g6
   have q3_ := ltI g7
   have q4_ := ltI g135
   have q5_ := neI g136
   have q6_ := neI g137
   have q7_ := neI g138
   have q8_ := neI g139
   have q9_ := eqI g140
   have l10_ := rng32 i0
   have l11_ := lI128
   have l12_ := lI0
   have l13_ := lI33
   have l14_ := lI32
   have l15_ := lI60
   have l16_ := lI62
   have l17_ := lI34
   have l18_ := lI123
   have l19_ := lI125
   omega
  ·
   exfalso
   have q1_ := ltI g5
   have q2_ := nltI g6
   have q3_ := ltI g7
   have q4_ := ltI g141
   have q5_ := neI g142
   have q6_ := neI g143
   have q7_ := neI g144
   have q8_ := neI g145
   have q9_ := neI g146
   have q10_ := eqI g147
   have l11_ := rng32 i0
   have l12_ := lI128
   have l13_ := lI0
   have l14_ := lI33
   have l15_ := lI32
   have l16_ := lI60
   have l17_ := lI62
   have l18_ := lI34
   have l19_ := lI123
   have l20_ := lI125
   have l21_ := lI124
   omega
  ·
   exfalso
   have q1_ := ltI g5
   have q2_ := nltI g6
   have q3_ := ltI g7
   have q4_ := ltI g148
   have q5_ := neI g149
   have q6_ := neI g150
   have q7_ := neI g151
   have q8_ := neI g152
   have q9_ := neI g153
   have q10_ := neI g154
   have q11_ := eqI g155
   have l12_ := rng32 i0
   have l13_ := lI128
   have l14_ := lI0
   have l15_ := lI33
   have l16_ := lI32
   have l17_ := lI60
   have l18_ := lI62
   have l19_ := lI34
   have l20_ := lI123
   have l21_ := lI125
   have l22_ := lI124
   have l23_ := lI94
   omega
  ·
   exfalso
   have q1_ := ltI g5
   have q2_ := nltI g6
   have q3_ := ltI g7
   have q4_ := ltI g156
   have q5_ := neI g157
   have q6_ := neI g158
   have q7_ := neI g159
   have q8_ := neI g160
   have q9_ := neI g161
   have q10_ := neI g162
   have q11_ := neI g163
   have q12_ := eqI g164
   have l13_ := rng32 i0
   have l14_ := lI128
   have l15_ := lI0
   have l16_ := lI33
   have l17_ := lI32
   have l18_ := lI60
   have l19_ := lI62
   have l20_ := lI34
   have l21_ := lI123
   have l22_ := lI125
   have l23_ := lI124
   have l24_ := lI94
   have l25_ := lI96
   omega
  ·
   exfalso
   have q1_ := ltI g5
   have q2_ := nltI g6
   have q3_ := ltI g7
   have q4_ := ltI g165
   have q5_ := neI g166
   have q6_ := neI g167
   have q7_ := neI g168
   have q8_ := neI g169
   have q9_ := neI g170
   have q10_ := neI g171
   have q11_ := neI g172
   have q12_ := neI g173
   have q13_ := eqI g174
   have l14_ := rng32 i0
   have l15_ := lI128
   have l16_ := lI0
   have l17_ := lI33
   have l18_ := lI32
   have l19_ := lI60
   have l20_ := lI62
   have l21_ := lI34
   have l22_ := lI123
   have l23_ := lI125
   have l24_ := lI124
   have l25_ := lI94
   have l26_ := lI96
   have l27_ := lI92
   omega
  ·
   exfalso
   have q1_ := ltI g5
   have q2_ := nltI g6
   have q3_ := ltI g7
   have q4_ := ltI g175
   have q5_ := neI g176
   have q6_ := neI g177
   have q7_ := neI g178
   have q8_ := neI g179
   have q9_ := neI g180
   have q10_ := neI g181
   have q11_ := neI g182
   have q12_ := neI g183
   have q13_ := neI g184
   have l14_ := rng32 i0
   have l15_ := lI128
   have l16_ := lI0
   have l17_ := lI33
   have l18_ := lI32
   have l19_ := lI60
   have l20_ := lI62
   have l21_ := lI34
   have l22_ := lI123
   have l23_ := lI125
   have l24_ := lI124
   have l25_ := lI94
   have l26_ := lI96
   have l27_ := lI92
   omega
  ·
   have p186 : ∀ t, St p e below Tc120 (mkF m 8 #[.val (.int i0)] [(.int (1 : Int32)), (.int (1 : Int32))]) t → S0 t := fun t k => p119 t (stc120 t k)
   have p187 : ∀ t, St p e below Tc120 (mkF m 16 #[.val (.int i0)] [(.int (1 : Int32))]) t → S0 t := fun t k => p186 t (by
     show St p e below Tc120 (mkF m 8 #[.val (.int i0)] [(.int (1 : Int32)), (.int (1 : Int32))]) t
     refine XS.icmpNo Xc120.here hx rfl (hb hby at_8) rfl (teq (by decide : (1 : Int32) = (1 : Int32))).2 ?_
     show St p e below Tc120 (mkF m 11 #[.val (.int i0)] []) t
     refine XT.iconstV Xc120.here hx rfl (1 : Int32) (hb hby at_11) (by decide) ?_
     show St p e below Tc120 (mkF m 12 #[.val (.int i0)] [(.int (1 : Int32))]) t
     refine XS.goto Xc120.here hx rfl (pc0 := 12) (pc' := 16) rfl (hb hby at_12) (by decide) (by decide) ?_
     exact k)
   obtain ⟨fs, hr, hrun, hended, hW, hsame⟩ := Xc120.leave (v := some (.int (1 : Int32))) (fun h => by rw [Bd.returns] at h; cases h)
   refine ⟨_, _, p187 _ ?_, hrun, hended, _, _, rfl, ?_, ⟨_, rfl⟩, hW, hsame.mono (by decide) (by decide)⟩
   · exact retOut Xc120 hx Bd.returns rfl (Or.inl ⟨rfl, by simp, _, rfl⟩) (hb hby at_16) hr
   · exact ⟨rfl, Nc120⟩
 ·
  have p188 : ∀ t, St p e below Tc2 (mkF m 4 #[.val (.int i0)] [(.int (1 : Int32))]) t → S0 t := fun t k => p1 t (stc2 t k)
  have p189 : ∀ t, St p e below Tc2 (mkF m 5 #[.val (.int i0)] [(.int i0), (.int (1 : Int32))]) t → S0 t := fun t k => p188 t (by
    show St p e below Tc2 (mkF m 4 #[.val (.int i0)] [(.int (1 : Int32))]) t
    refine XS.iloadN Xc2.here hx rfl (hb hby at_4) rfl ?_
    exact k)
  obtain ⟨_, _, ⟨Tc190, Lc190, kc190, nc190⟩, -, Xc190, ⟨Lcc190, hQc190, lc190, yc190, zc190⟩, stc190⟩ := Jvm.LawKit.callS Xc2 hx (y := M1) hown (mvT hZ (ww hw 6 rfl)) (mvT hZ (ww hw 7 rfl)) (mvT hZ (ww hw 8 rfl)) (mvT hZ (ww hw 9 rfl)) (by decide) (backOf (W := 1) (rm2_1 l Z a0 hw [] a_ASCII_NOT_ALLOWED clA i0 h0 n0 O0 HE' ) hZ (ww hw 9 rfl) (ww hw 8 rfl) (by decide) (by decide)) (g := (mkF m 5 #[.val (.int i0)] [(.int i0), (.int (1 : Int32))])) rfl (by rw [hml]; rfl) (argsL := [(.int i0)]) (rest := [(.int (1 : Int32))]) (lenOf pd0 rfl) rfl (by show 2 * 0 + _ ≤ _; exact Nat.le_of_eq rfl) (hb hby at_5) (fun _ _ => ⟨rfl, ec2, (by decide : 0 + 0 ≤ _), (by decide : 0 + 0 ≤ _)⟩)
  dsimp only [Pt.U, Pt.locs, Pt.cells, Pt.slots] at Xc190 lc190 yc190 zc190 stc190 hQc190
  subst lc190 yc190 zc190
  obtain ⟨Nqc190, ec190, hAc190⟩ := hQc190
  have Nc190 := Fr.app Nc2 Nqc190
  rcases hAc190 with ⟨rfl, g191, g192⟩ | ⟨rfl, g193, g194, g195⟩ | ⟨rfl, g196, g197, g198, g199⟩ | ⟨rfl, g200, g201, g202, g203, g204⟩ | ⟨rfl, g205, g206, g207, g208, g209, g210⟩ | ⟨rfl, g211, g212, g213, g214, g215, g216, g217⟩ | ⟨rfl, g218, g219, g220, g221, g222, g223, g224, g225⟩ | ⟨rfl, g226, g227, g228, g229, g230, g231, g232, g233, g234⟩ | ⟨rfl, g235, g236, g237, g238, g239, g240, g241, g242, g243, g244⟩ | ⟨rfl, g245, g246, g247, g248, g249, g250, g251, g252, g253, g254⟩ | ⟨rfl, g255⟩
  ·
   exfalso
   have q1_ := ltI g8
   have q2_ := nltI g9
   have q3_ := eqI g10
   have q4_ := ltI g191
   have q5_ := eqI g192
   have l6_ := rng32 i0
   have l7_ := lI128
   have l8_ := lI0
   have l9_ := lI34
   have l10_ := lI32
   have l11_ := lI60
   omega
  ·
   exfalso
   have q1_ := ltI g8
   have q2_ := nltI g9
   have q3_ := eqI g10
   have q4_ := ltI g193
   have q5_ := neI g194
   have q6_ := eqI g195
   have l7_ := rng32 i0
   have l8_ := lI128
   have l9_ := lI0
   have l10_ := lI34
   have l11_ := lI32
   have l12_ := lI60
   have l13_ := lI62
   omega
  ·
   have p256 : ∀ t, St p e below Tc190 (mkF m 8 #[.val (.int i0)] [(.int (1 : Int32)), (.int (1 : Int32))]) t → S0 t := fun t k => p189 t (stc190 t k)
   have p257 : ∀ t, St p e below Tc190 (mkF m 16 #[.val (.int i0)] [(.int (1 : Int32))]) t → S0 t := fun t k => p256 t (by
     show St p e below Tc190 (mkF m 8 #[.val (.int i0)] [(.int (1 : Int32)), (.int (1 : Int32))]) t
     refine XS.icmpNo Xc190.here hx rfl (hb hby at_8) rfl (teq (by decide : (1 : Int32) = (1 : Int32))).2 ?_
     show St p e below Tc190 (mkF m 11 #[.val (.int i0)] []) t
     refine XT.iconstV Xc190.here hx rfl (1 : Int32) (hb hby at_11) (by decide) ?_
     show St p e below Tc190 (mkF m 12 #[.val (.int i0)] [(.int (1 : Int32))]) t
     refine XS.goto Xc190.here hx rfl (pc0 := 12) (pc' := 16) rfl (hb hby at_12) (by decide) (by decide) ?_
     exact k)
   obtain ⟨fs, hr, hrun, hended, hW, hsame⟩ := Xc190.leave (v := some (.int (1 : Int32))) (fun h => by rw [Bd.returns] at h; cases h)
   refine ⟨_, _, p257 _ ?_, hrun, hended, _, _, rfl, ?_, ⟨_, rfl⟩, hW, hsame.mono (by decide) (by decide)⟩
   · exact retOut Xc190 hx Bd.returns rfl (Or.inl ⟨rfl, by simp, _, rfl⟩) (hb hby at_16) hr
   · exact ⟨rfl, Nc190⟩
  ·
   exfalso
   have q1_ := ltI g8
   have q2_ := nltI g9
   have q3_ := eqI g10
   have q4_ := ltI g200
   have q5_ := neI g201
   have q6_ := neI g202
   have q7_ := neI g203
   have q8_ := eqI g204
   have l9_ := rng32 i0
   have l10_ := lI128
   have l11_ := lI0
   have l12_ := lI34
   have l13_ := lI32
   have l14_ := lI60
   have l15_ := lI62
   have l16_ := lI123
   omega
  ·
   exfalso
   have q1_ := ltI g8
   have q2_ := nltI g9
   have q3_ := eqI g10
   have q4_ := ltI g205
   have q5_ := neI g206
   have q6_ := neI g207
   have q7_ := neI g208
   have q8_ := neI g209
   have q9_ := eqI g210
   have l10_ := rng32 i0
   have l11_ := lI128
   have l12_ := lI0
   have l13_ := lI34
   have l14_ := lI32
   have l15_ := lI60
   have l16_ := lI62
   have l17_ := lI123
   have l18_ := lI125
   omega
  ·
   exfalso
   have q1_ := ltI g8
   have q2_ := nltI g9
   have q3_ := eqI g10
   have q4_ := ltI g211
   have q5_ := neI g212
   have q6_ := neI g213
   have q7_ := neI g214
   have q8_ := neI g215
   have q9_ := neI g216
   have q10_ := eqI g217
   have l11_ := rng32 i0
   have l12_ := lI128
   have l13_ := lI0
   have l14_ := lI34
   have l15_ := lI32
   have l16_ := lI60
   have l17_ := lI62
   have l18_ := lI123
   have l19_ := lI125
   have l20_ := lI124
   omega
  ·
   exfalso
   have q1_ := ltI g8
   have q2_ := nltI g9
   have q3_ := eqI g10
   have q4_ := ltI g218
   have q5_ := neI g219
   have q6_ := neI g220
   have q7_ := neI g221
   have q8_ := neI g222
   have q9_ := neI g223
   have q10_ := neI g224
   have q11_ := eqI g225
   have l12_ := rng32 i0
   have l13_ := lI128
   have l14_ := lI0
   have l15_ := lI34
   have l16_ := lI32
   have l17_ := lI60
   have l18_ := lI62
   have l19_ := lI123
   have l20_ := lI125
   have l21_ := lI124
   have l22_ := lI94
   omega
  ·
   exfalso
   have q1_ := ltI g8
   have q2_ := nltI g9
   have q3_ := eqI g10
   have q4_ := ltI g226
   have q5_ := neI g227
   have q6_ := neI g228
   have q7_ := neI g229
   have q8_ := neI g230
   have q9_ := neI g231
   have q10_ := neI g232
   have q11_ := neI g233
   have q12_ := eqI g234
   have l13_ := rng32 i0
   have l14_ := lI128
   have l15_ := lI0
   have l16_ := lI34
   have l17_ := lI32
   have l18_ := lI60
   have l19_ := lI62
   have l20_ := lI123
   have l21_ := lI125
   have l22_ := lI124
   have l23_ := lI94
   have l24_ := lI96
   omega
  ·
   exfalso
   have q1_ := ltI g8
   have q2_ := nltI g9
   have q3_ := eqI g10
   have q4_ := ltI g235
   have q5_ := neI g236
   have q6_ := neI g237
   have q7_ := neI g238
   have q8_ := neI g239
   have q9_ := neI g240
   have q10_ := neI g241
   have q11_ := neI g242
   have q12_ := neI g243
   have q13_ := eqI g244
   have l14_ := rng32 i0
   have l15_ := lI128
   have l16_ := lI0
   have l17_ := lI34
   have l18_ := lI32
   have l19_ := lI60
   have l20_ := lI62
   have l21_ := lI123
   have l22_ := lI125
   have l23_ := lI124
   have l24_ := lI94
   have l25_ := lI96
   have l26_ := lI92
   omega
  ·
   exfalso
   have q1_ := ltI g8
   have q2_ := nltI g9
   have q3_ := eqI g10
   have q4_ := ltI g245
   have q5_ := neI g246
   have q6_ := neI g247
   have q7_ := neI g248
   have q8_ := neI g249
   have q9_ := neI g250
   have q10_ := neI g251
   have q11_ := neI g252
   have q12_ := neI g253
   have q13_ := neI g254
   have l14_ := rng32 i0
   have l15_ := lI128
   have l16_ := lI0
   have l17_ := lI34
   have l18_ := lI32
   have l19_ := lI60
   have l20_ := lI62
   have l21_ := lI123
   have l22_ := lI125
   have l23_ := lI124
   have l24_ := lI94
   have l25_ := lI96
   have l26_ := lI92
   omega
  ·
   exfalso
   have q1_ := ltI g8
   have q2_ := nltI g9
   have q3_ := eqI g10
   have q4_ := nltI g255
   have l5_ := rng32 i0
   have l6_ := lI128
   have l7_ := lI0
   have l8_ := lI34
   have l9_ := lI32
   omega
 ·
  have p258 : ∀ t, St p e below Tc2 (mkF m 4 #[.val (.int i0)] [(.int (1 : Int32))]) t → S0 t := fun t k => p1 t (stc2 t k)
  have p259 : ∀ t, St p e below Tc2 (mkF m 5 #[.val (.int i0)] [(.int i0), (.int (1 : Int32))]) t → S0 t := fun t k => p258 t (by
    show St p e below Tc2 (mkF m 4 #[.val (.int i0)] [(.int (1 : Int32))]) t
    refine XS.iloadN Xc2.here hx rfl (hb hby at_4) rfl ?_
    exact k)
  obtain ⟨_, _, ⟨Tc260, Lc260, kc260, nc260⟩, -, Xc260, ⟨Lcc260, hQc260, lc260, yc260, zc260⟩, stc260⟩ := Jvm.LawKit.callS Xc2 hx (y := M1) hown (mvT hZ (ww hw 6 rfl)) (mvT hZ (ww hw 7 rfl)) (mvT hZ (ww hw 8 rfl)) (mvT hZ (ww hw 9 rfl)) (by decide) (backOf (W := 1) (rm2_1 l Z a0 hw [] a_ASCII_NOT_ALLOWED clA i0 h0 n0 O0 HE' ) hZ (ww hw 9 rfl) (ww hw 8 rfl) (by decide) (by decide)) (g := (mkF m 5 #[.val (.int i0)] [(.int i0), (.int (1 : Int32))])) rfl (by rw [hml]; rfl) (argsL := [(.int i0)]) (rest := [(.int (1 : Int32))]) (lenOf pd0 rfl) rfl (by show 2 * 0 + _ ≤ _; exact Nat.le_of_eq rfl) (hb hby at_5) (fun _ _ => ⟨rfl, ec2, (by decide : 0 + 0 ≤ _), (by decide : 0 + 0 ≤ _)⟩)
  dsimp only [Pt.U, Pt.locs, Pt.cells, Pt.slots] at Xc260 lc260 yc260 zc260 stc260 hQc260
  subst lc260 yc260 zc260
  obtain ⟨Nqc260, ec260, hAc260⟩ := hQc260
  have Nc260 := Fr.app Nc2 Nqc260
  rcases hAc260 with ⟨rfl, g261, g262⟩ | ⟨rfl, g263, g264, g265⟩ | ⟨rfl, g266, g267, g268, g269⟩ | ⟨rfl, g270, g271, g272, g273, g274⟩ | ⟨rfl, g275, g276, g277, g278, g279, g280⟩ | ⟨rfl, g281, g282, g283, g284, g285, g286, g287⟩ | ⟨rfl, g288, g289, g290, g291, g292, g293, g294, g295⟩ | ⟨rfl, g296, g297, g298, g299, g300, g301, g302, g303, g304⟩ | ⟨rfl, g305, g306, g307, g308, g309, g310, g311, g312, g313, g314⟩ | ⟨rfl, g315, g316, g317, g318, g319, g320, g321, g322, g323, g324⟩ | ⟨rfl, g325⟩
  ·
   have p326 : ∀ t, St p e below Tc260 (mkF m 8 #[.val (.int i0)] [(.int (1 : Int32)), (.int (1 : Int32))]) t → S0 t := fun t k => p259 t (stc260 t k)
   have p327 : ∀ t, St p e below Tc260 (mkF m 16 #[.val (.int i0)] [(.int (1 : Int32))]) t → S0 t := fun t k => p326 t (by
     show St p e below Tc260 (mkF m 8 #[.val (.int i0)] [(.int (1 : Int32)), (.int (1 : Int32))]) t
     refine XS.icmpNo Xc260.here hx rfl (hb hby at_8) rfl (teq (by decide : (1 : Int32) = (1 : Int32))).2 ?_
     show St p e below Tc260 (mkF m 11 #[.val (.int i0)] []) t
     refine XT.iconstV Xc260.here hx rfl (1 : Int32) (hb hby at_11) (by decide) ?_
     show St p e below Tc260 (mkF m 12 #[.val (.int i0)] [(.int (1 : Int32))]) t
     refine XS.goto Xc260.here hx rfl (pc0 := 12) (pc' := 16) rfl (hb hby at_12) (by decide) (by decide) ?_
     exact k)
   obtain ⟨fs, hr, hrun, hended, hW, hsame⟩ := Xc260.leave (v := some (.int (1 : Int32))) (fun h => by rw [Bd.returns] at h; cases h)
   refine ⟨_, _, p327 _ ?_, hrun, hended, _, _, rfl, ?_, ⟨_, rfl⟩, hW, hsame.mono (by decide) (by decide)⟩
   · exact retOut Xc260 hx Bd.returns rfl (Or.inl ⟨rfl, by simp, _, rfl⟩) (hb hby at_16) hr
   · exact ⟨rfl, Nc260⟩
  ·
   exfalso
   have q1_ := ltI g11
   have q2_ := nltI g12
   have q3_ := eqI g13
   have q4_ := ltI g263
   have q5_ := neI g264
   have q6_ := eqI g265
   have l7_ := rng32 i0
   have l8_ := lI128
   have l9_ := lI0
   have l10_ := lI60
   have l11_ := lI32
   have l12_ := lI62
   omega
  ·
   exfalso
   have q1_ := ltI g11
   have q2_ := nltI g12
   have q3_ := eqI g13
   have q4_ := ltI g266
   have q5_ := neI g267
   have q6_ := neI g268
   have q7_ := eqI g269
   have l8_ := rng32 i0
   have l9_ := lI128
   have l10_ := lI0
   have l11_ := lI60
   have l12_ := lI32
   have l13_ := lI62
   have l14_ := lI34
   omega
  ·
   exfalso
   have q1_ := ltI g11
   have q2_ := nltI g12
   have q3_ := eqI g13
   have q4_ := ltI g270
   have q5_ := neI g271
   have q6_ := neI g272
   have q7_ := neI g273
   have q8_ := eqI g274
   have l9_ := rng32 i0
   have l10_ := lI128
   have l11_ := lI0
   have l12_ := lI60
   have l13_ := lI32
   have l14_ := lI62
   have l15_ := lI34
   have l16_ := lI123
   omega
  ·
   exfalso
   have q1_ := ltI g11
   have q2_ := nltI g12
   have q3_ := eqI g13
   have q4_ := ltI g275
   have q5_ := neI g276
   have q6_ := neI g277
   have q7_ := neI g278
   have q8_ := neI g279
   have q9_ := eqI g280
   have l10_ := rng32 i0
   have l11_ := lI128
   have l12_ := lI0
   have l13_ := lI60
   have l14_ := lI32
   have l15_ := lI62
   have l16_ := lI34
   have l17_ := lI123
   have l18_ := lI125
   omega
  ·
   exfalso
   have q1_ := ltI g11
   have q2_ := nltI g12
   have q3_ := eqI g13
   have q4_ := ltI g281
   have q5_ := neI g282
   have q6_ := neI g283
   have q7_ := neI g284
   have q8_ := neI g285
   have q9_ := neI g286
   have q10_ := eqI g287
   have l11_ := rng32 i0
   have l12_ := lI128
   have l13_ := lI0
   have l14_ := lI60
   have l15_ := lI32
   have l16_ := lI62
   have l17_ := lI34
   have l18_ := lI123
   have l19_ := lI125
   have l20_ := lI124
   omega
  ·
   exfalso
   have q1_ := ltI g11
   have q2_ := nltI g12
   have q3_ := eqI g13
   have q4_ := ltI g288
   have q5_ := neI g289
   have q6_ := neI g290
   have q7_ := neI g291
   have q8_ := neI g292
   have q9_ := neI g293
   have q10_ := neI g294
   have q11_ := eqI g295
   have l12_ := rng32 i0
   have l13_ := lI128
   have l14_ := lI0
   have l15_ := lI60
   have l16_ := lI32
   have l17_ := lI62
   have l18_ := lI34
   have l19_ := lI123
   have l20_ := lI125
   have l21_ := lI124
   have l22_ := lI94
   omega
  ·
   exfalso
   have q1_ := ltI g11
   have q2_ := nltI g12
   have q3_ := eqI g13
   have q4_ := ltI g296
   have q5_ := neI g297
   have q6_ := neI g298
   have q7_ := neI g299
   have q8_ := neI g300
   have q9_ := neI g301
   have q10_ := neI g302
   have q11_ := neI g303
   have q12_ := eqI g304
   have l13_ := rng32 i0
   have l14_ := lI128
   have l15_ := lI0
   have l16_ := lI60
   have l17_ := lI32
   have l18_ := lI62
   have l19_ := lI34
   have l20_ := lI123
   have l21_ := lI125
   have l22_ := lI124
   have l23_ := lI94
   have l24_ := lI96
   omega
  ·
   exfalso
   have q1_ := ltI g11
   have q2_ := nltI g12
   have q3_ := eqI g13
   have q4_ := ltI g305
   have q5_ := neI g306
   have q6_ := neI g307
   have q7_ := neI g308
   have q8_ := neI g309
   have q9_ := neI g310
   have q10_ := neI g311
   have q11_ := neI g312
   have q12_ := neI g313
   have q13_ := eqI g314
   have l14_ := rng32 i0
   have l15_ := lI128
   have l16_ := lI0
   have l17_ := lI60
   have l18_ := lI32
   have l19_ := lI62
   have l20_ := lI34
   have l21_ := lI123
   have l22_ := lI125
   have l23_ := lI124
   have l24_ := lI94
   have l25_ := lI96
   have l26_ := lI92
   omega
  ·
   exfalso
   have q1_ := ltI g11
   have q2_ := nltI g12
   have q3_ := eqI g13
   have q4_ := ltI g315
   have q5_ := neI g316
   have q6_ := neI g317
   have q7_ := neI g318
   have q8_ := neI g319
   have q9_ := neI g320
   have q10_ := neI g321
   have q11_ := neI g322
   have q12_ := neI g323
   have q13_ := neI g324
   have l14_ := rng32 i0
   have l15_ := lI128
   have l16_ := lI0
   have l17_ := lI60
   have l18_ := lI32
   have l19_ := lI62
   have l20_ := lI34
   have l21_ := lI123
   have l22_ := lI125
   have l23_ := lI124
   have l24_ := lI94
   have l25_ := lI96
   have l26_ := lI92
   omega
  ·
   exfalso
   have q1_ := ltI g11
   have q2_ := nltI g12
   have q3_ := eqI g13
   have q4_ := nltI g325
   have l5_ := rng32 i0
   have l6_ := lI128
   have l7_ := lI0
   have l8_ := lI60
   have l9_ := lI32
   omega
 ·
  have p328 : ∀ t, St p e below Tc2 (mkF m 4 #[.val (.int i0)] [(.int (1 : Int32))]) t → S0 t := fun t k => p1 t (stc2 t k)
  have p329 : ∀ t, St p e below Tc2 (mkF m 5 #[.val (.int i0)] [(.int i0), (.int (1 : Int32))]) t → S0 t := fun t k => p328 t (by
    show St p e below Tc2 (mkF m 4 #[.val (.int i0)] [(.int (1 : Int32))]) t
    refine XS.iloadN Xc2.here hx rfl (hb hby at_4) rfl ?_
    exact k)
  obtain ⟨_, _, ⟨Tc330, Lc330, kc330, nc330⟩, -, Xc330, ⟨Lcc330, hQc330, lc330, yc330, zc330⟩, stc330⟩ := Jvm.LawKit.callS Xc2 hx (y := M1) hown (mvT hZ (ww hw 6 rfl)) (mvT hZ (ww hw 7 rfl)) (mvT hZ (ww hw 8 rfl)) (mvT hZ (ww hw 9 rfl)) (by decide) (backOf (W := 1) (rm2_1 l Z a0 hw [] a_ASCII_NOT_ALLOWED clA i0 h0 n0 O0 HE' ) hZ (ww hw 9 rfl) (ww hw 8 rfl) (by decide) (by decide)) (g := (mkF m 5 #[.val (.int i0)] [(.int i0), (.int (1 : Int32))])) rfl (by rw [hml]; rfl) (argsL := [(.int i0)]) (rest := [(.int (1 : Int32))]) (lenOf pd0 rfl) rfl (by show 2 * 0 + _ ≤ _; exact Nat.le_of_eq rfl) (hb hby at_5) (fun _ _ => ⟨rfl, ec2, (by decide : 0 + 0 ≤ _), (by decide : 0 + 0 ≤ _)⟩)
  dsimp only [Pt.U, Pt.locs, Pt.cells, Pt.slots] at Xc330 lc330 yc330 zc330 stc330 hQc330
  subst lc330 yc330 zc330
  obtain ⟨Nqc330, ec330, hAc330⟩ := hQc330
  have Nc330 := Fr.app Nc2 Nqc330
  rcases hAc330 with ⟨rfl, g331, g332⟩ | ⟨rfl, g333, g334, g335⟩ | ⟨rfl, g336, g337, g338, g339⟩ | ⟨rfl, g340, g341, g342, g343, g344⟩ | ⟨rfl, g345, g346, g347, g348, g349, g350⟩ | ⟨rfl, g351, g352, g353, g354, g355, g356, g357⟩ | ⟨rfl, g358, g359, g360, g361, g362, g363, g364, g365⟩ | ⟨rfl, g366, g367, g368, g369, g370, g371, g372, g373, g374⟩ | ⟨rfl, g375, g376, g377, g378, g379, g380, g381, g382, g383, g384⟩ | ⟨rfl, g385, g386, g387, g388, g389, g390, g391, g392, g393, g394⟩ | ⟨rfl, g395⟩
  ·
   exfalso
   have q1_ := ltI g14
   have q2_ := nltI g15
   have q3_ := eqI g16
   have q4_ := ltI g331
   have q5_ := eqI g332
   have l6_ := rng32 i0
   have l7_ := lI128
   have l8_ := lI0
   have l9_ := lI62
   have l10_ := lI32
   have l11_ := lI60
   omega
  ·
   have p396 : ∀ t, St p e below Tc330 (mkF m 8 #[.val (.int i0)] [(.int (1 : Int32)), (.int (1 : Int32))]) t → S0 t := fun t k => p329 t (stc330 t k)
   have p397 : ∀ t, St p e below Tc330 (mkF m 16 #[.val (.int i0)] [(.int (1 : Int32))]) t → S0 t := fun t k => p396 t (by
     show St p e below Tc330 (mkF m 8 #[.val (.int i0)] [(.int (1 : Int32)), (.int (1 : Int32))]) t
     refine XS.icmpNo Xc330.here hx rfl (hb hby at_8) rfl (teq (by decide : (1 : Int32) = (1 : Int32))).2 ?_
     show St p e below Tc330 (mkF m 11 #[.val (.int i0)] []) t
     refine XT.iconstV Xc330.here hx rfl (1 : Int32) (hb hby at_11) (by decide) ?_
     show St p e below Tc330 (mkF m 12 #[.val (.int i0)] [(.int (1 : Int32))]) t
     refine XS.goto Xc330.here hx rfl (pc0 := 12) (pc' := 16) rfl (hb hby at_12) (by decide) (by decide) ?_
     exact k)
   obtain ⟨fs, hr, hrun, hended, hW, hsame⟩ := Xc330.leave (v := some (.int (1 : Int32))) (fun h => by rw [Bd.returns] at h; cases h)
   refine ⟨_, _, p397 _ ?_, hrun, hended, _, _, rfl, ?_, ⟨_, rfl⟩, hW, hsame.mono (by decide) (by decide)⟩
   · exact retOut Xc330 hx Bd.returns rfl (Or.inl ⟨rfl, by simp, _, rfl⟩) (hb hby at_16) hr
   · exact ⟨rfl, Nc330⟩
  ·
   exfalso
   have q1_ := ltI g14
   have q2_ := nltI g15
   have q3_ := eqI g16
   have q4_ := ltI g336
   have q5_ := neI g337
   have q6_ := neI g338
   have q7_ := eqI g339
   have l8_ := rng32 i0
   have l9_ := lI128
   have l10_ := lI0
   have l11_ := lI62
   have l12_ := lI32
   have l13_ := lI60
   have l14_ := lI34
   omega
  ·
   exfalso
   have q1_ := ltI g14
   have q2_ := nltI g15
   have q3_ := eqI g16
   have q4_ := ltI g340
   have q5_ := neI g341
   have q6_ := neI g342
   have q7_ := neI g343
   have q8_ := eqI g344
   have l9_ := rng32 i0
   have l10_ := lI128
   have l11_ := lI0
   have l12_ := lI62
   have l13_ := lI32
   have l14_ := lI60
   have l15_ := lI34
   have l16_ := lI123
   omega
  ·
   exfalso
   have q1_ := ltI g14
   have q2_ := nltI g15
   have q3_ := eqI g16
   have q4_ := ltI g345
   have q5_ := neI g346
   have q6_ := neI g347
   have q7_ := neI g348
   have q8_ := neI g349
   have q9_ := eqI g350
   have l10_ := rng32 i0
   have l11_ := lI128
   have l12_ := lI0
   have l13_ := lI62
   have l14_ := lI32
   have l15_ := lI60
   have l16_ := lI34
   have l17_ := lI123
   have l18_ := lI125
   omega
  ·
   exfalso
   have q1_ := ltI g14
   have q2_ := nltI g15
   have q3_ := eqI g16
   have q4_ := ltI g351
   have q5_ := neI g352
   have q6_ := neI g353
   have q7_ := neI g354
   have q8_ := neI g355
   have q9_ := neI g356
   have q10_ := eqI g357
   have l11_ := rng32 i0
   have l12_ := lI128
   have l13_ := lI0
   have l14_ := lI62
   have l15_ := lI32
   have l16_ := lI60
   have l17_ := lI34
   have l18_ := lI123
   have l19_ := lI125
   have l20_ := lI124
   omega
  ·
   exfalso
   have q1_ := ltI g14
   have q2_ := nltI g15
   have q3_ := eqI g16
   have q4_ := ltI g358
   have q5_ := neI g359
   have q6_ := neI g360
   have q7_ := neI g361
   have q8_ := neI g362
   have q9_ := neI g363
   have q10_ := neI g364
   have q11_ := eqI g365
   have l12_ := rng32 i0
   have l13_ := lI128
   have l14_ := lI0
   have l15_ := lI62
   have l16_ := lI32
   have l17_ := lI60
   have l18_ := lI34
   have l19_ := lI123
   have l20_ := lI125
   have l21_ := lI124
   have l22_ := lI94
   omega
  ·
   exfalso
   have q1_ := ltI g14
   have q2_ := nltI g15
   have q3_ := eqI g16
   have q4_ := ltI g366
   have q5_ := neI g367
   have q6_ := neI g368
   have q7_ := neI g369
   have q8_ := neI g370
   have q9_ := neI g371
   have q10_ := neI g372
   have q11_ := neI g373
   have q12_ := eqI g374
   have l13_ := rng32 i0
   have l14_ := lI128
   have l15_ := lI0
   have l16_ := lI62
   have l17_ := lI32
   have l18_ := lI60
   have l19_ := lI34
   have l20_ := lI123
   have l21_ := lI125
   have l22_ := lI124
   have l23_ := lI94
   have l24_ := lI96
   omega
  ·
   exfalso
   have q1_ := ltI g14
   have q2_ := nltI g15
   have q3_ := eqI g16
   have q4_ := ltI g375
   have q5_ := neI g376
   have q6_ := neI g377
   have q7_ := neI g378
   have q8_ := neI g379
   have q9_ := neI g380
   have q10_ := neI g381
   have q11_ := neI g382
   have q12_ := neI g383
   have q13_ := eqI g384
   have l14_ := rng32 i0
   have l15_ := lI128
   have l16_ := lI0
   have l17_ := lI62
   have l18_ := lI32
   have l19_ := lI60
   have l20_ := lI34
   have l21_ := lI123
   have l22_ := lI125
   have l23_ := lI124
   have l24_ := lI94
   have l25_ := lI96
   have l26_ := lI92
   omega
  ·
   exfalso
   have q1_ := ltI g14
   have q2_ := nltI g15
   have q3_ := eqI g16
   have q4_ := ltI g385
   have q5_ := neI g386
   have q6_ := neI g387
   have q7_ := neI g388
   have q8_ := neI g389
   have q9_ := neI g390
   have q10_ := neI g391
   have q11_ := neI g392
   have q12_ := neI g393
   have q13_ := neI g394
   have l14_ := rng32 i0
   have l15_ := lI128
   have l16_ := lI0
   have l17_ := lI62
   have l18_ := lI32
   have l19_ := lI60
   have l20_ := lI34
   have l21_ := lI123
   have l22_ := lI125
   have l23_ := lI124
   have l24_ := lI94
   have l25_ := lI96
   have l26_ := lI92
   omega
  ·
   exfalso
   have q1_ := ltI g14
   have q2_ := nltI g15
   have q3_ := eqI g16
   have q4_ := nltI g395
   have l5_ := rng32 i0
   have l6_ := lI128
   have l7_ := lI0
   have l8_ := lI62
   have l9_ := lI32
   omega
 ·
  have p398 : ∀ t, St p e below Tc2 (mkF m 4 #[.val (.int i0)] [(.int (1 : Int32))]) t → S0 t := fun t k => p1 t (stc2 t k)
  have p399 : ∀ t, St p e below Tc2 (mkF m 5 #[.val (.int i0)] [(.int i0), (.int (1 : Int32))]) t → S0 t := fun t k => p398 t (by
    show St p e below Tc2 (mkF m 4 #[.val (.int i0)] [(.int (1 : Int32))]) t
    refine XS.iloadN Xc2.here hx rfl (hb hby at_4) rfl ?_
    exact k)
  obtain ⟨_, _, ⟨Tc400, Lc400, kc400, nc400⟩, -, Xc400, ⟨Lcc400, hQc400, lc400, yc400, zc400⟩, stc400⟩ := Jvm.LawKit.callS Xc2 hx (y := M1) hown (mvT hZ (ww hw 6 rfl)) (mvT hZ (ww hw 7 rfl)) (mvT hZ (ww hw 8 rfl)) (mvT hZ (ww hw 9 rfl)) (by decide) (backOf (W := 1) (rm2_1 l Z a0 hw [] a_ASCII_NOT_ALLOWED clA i0 h0 n0 O0 HE' ) hZ (ww hw 9 rfl) (ww hw 8 rfl) (by decide) (by decide)) (g := (mkF m 5 #[.val (.int i0)] [(.int i0), (.int (1 : Int32))])) rfl (by rw [hml]; rfl) (argsL := [(.int i0)]) (rest := [(.int (1 : Int32))]) (lenOf pd0 rfl) rfl (by show 2 * 0 + _ ≤ _; exact Nat.le_of_eq rfl) (hb hby at_5) (fun _ _ => ⟨rfl, ec2, (by decide : 0 + 0 ≤ _), (by decide : 0 + 0 ≤ _)⟩)
  dsimp only [Pt.U, Pt.locs, Pt.cells, Pt.slots] at Xc400 lc400 yc400 zc400 stc400 hQc400
  subst lc400 yc400 zc400
  obtain ⟨Nqc400, ec400, hAc400⟩ := hQc400
  have Nc400 := Fr.app Nc2 Nqc400
  rcases hAc400 with ⟨rfl, g401, g402⟩ | ⟨rfl, g403, g404, g405⟩ | ⟨rfl, g406, g407, g408, g409⟩ | ⟨rfl, g410, g411, g412, g413, g414⟩ | ⟨rfl, g415, g416, g417, g418, g419, g420⟩ | ⟨rfl, g421, g422, g423, g424, g425, g426, g427⟩ | ⟨rfl, g428, g429, g430, g431, g432, g433, g434, g435⟩ | ⟨rfl, g436, g437, g438, g439, g440, g441, g442, g443, g444⟩ | ⟨rfl, g445, g446, g447, g448, g449, g450, g451, g452, g453, g454⟩ | ⟨rfl, g455, g456, g457, g458, g459, g460, g461, g462, g463, g464⟩ | ⟨rfl, g465⟩
  ·
   exfalso
   have q1_ := ltI g17
   have q2_ := nltI g18
   have q3_ := eqI g19
   have q4_ := ltI g401
   have q5_ := eqI g402
   have l6_ := rng32 i0
   have l7_ := lI128
   have l8_ := lI0
   have l9_ := lI92
   have l10_ := lI32
   have l11_ := lI60
   omega
  ·
   exfalso
   have q1_ := ltI g17
   have q2_ := nltI g18
   have q3_ := eqI g19
   have q4_ := ltI g403
   have q5_ := neI g404
   have q6_ := eqI g405
   have l7_ := rng32 i0
   have l8_ := lI128
   have l9_ := lI0
   have l10_ := lI92
   have l11_ := lI32
   have l12_ := lI60
   have l13_ := lI62
   omega
  ·
   exfalso
   have q1_ := ltI g17
   have q2_ := nltI g18
   have q3_ := eqI g19
   have q4_ := ltI g406
   have q5_ := neI g407
   have q6_ := neI g408
   have q7_ := eqI g409
   have l8_ := rng32 i0
   have l9_ := lI128
   have l10_ := lI0
   have l11_ := lI92
   have l12_ := lI32
   have l13_ := lI60
   have l14_ := lI62
   have l15_ := lI34
   omega
  ·
   exfalso
   have q1_ := ltI g17
   have q2_ := nltI g18
   have q3_ := eqI g19
   have q4_ := ltI g410
   have q5_ := neI g411
   have q6_ := neI g412
   have q7_ := neI g413
   have q8_ := eqI g414
   have l9_ := rng32 i0
   have l10_ := lI128
   have l11_ := lI0
   have l12_ := lI92
   have l13_ := lI32
   have l14_ := lI60
   have l15_ := lI62
   have l16_ := lI34
   have l17_ := lI123
   omega
  ·
   exfalso
   have q1_ := ltI g17
   have q2_ := nltI g18
   have q3_ := eqI g19
   have q4_ := ltI g415
   have q5_ := neI g416
   have q6_ := neI g417
   have q7_ := neI g418
   have q8_ := neI g419
   have q9_ := eqI g420
   have l10_ := rng32 i0
   have l11_ := lI128
   have l12_ := lI0
   have l13_ := lI92
   have l14_ := lI32
   have l15_ := lI60
   have l16_ := lI62
   have l17_ := lI34
   have l18_ := lI123
   have l19_ := lI125
   omega
  ·
   exfalso
   have q1_ := ltI g17
   have q2_ := nltI g18
   have q3_ := eqI g19
   have q4_ := ltI g421
   have q5_ := neI g422
   have q6_ := neI g423
   have q7_ := neI g424
   have q8_ := neI g425
   have q9_ := neI g426
   have q10_ := eqI g427
   have l11_ := rng32 i0
   have l12_ := lI128
   have l13_ := lI0
   have l14_ := lI92
   have l15_ := lI32
   have l16_ := lI60
   have l17_ := lI62
   have l18_ := lI34
   have l19_ := lI123
   have l20_ := lI125
   have l21_ := lI124
   omega
  ·
   exfalso
   have q1_ := ltI g17
   have q2_ := nltI g18
   have q3_ := eqI g19
   have q4_ := ltI g428
   have q5_ := neI g429
   have q6_ := neI g430
   have q7_ := neI g431
   have q8_ := neI g432
   have q9_ := neI g433
   have q10_ := neI g434
   have q11_ := eqI g435
   have l12_ := rng32 i0
   have l13_ := lI128
   have l14_ := lI0
   have l15_ := lI92
   have l16_ := lI32
   have l17_ := lI60
   have l18_ := lI62
   have l19_ := lI34
   have l20_ := lI123
   have l21_ := lI125
   have l22_ := lI124
   have l23_ := lI94
   omega
  ·
   exfalso
   have q1_ := ltI g17
   have q2_ := nltI g18
   have q3_ := eqI g19
   have q4_ := ltI g436
   have q5_ := neI g437
   have q6_ := neI g438
   have q7_ := neI g439
   have q8_ := neI g440
   have q9_ := neI g441
   have q10_ := neI g442
   have q11_ := neI g443
   have q12_ := eqI g444
   have l13_ := rng32 i0
   have l14_ := lI128
   have l15_ := lI0
   have l16_ := lI92
   have l17_ := lI32
   have l18_ := lI60
   have l19_ := lI62
   have l20_ := lI34
   have l21_ := lI123
   have l22_ := lI125
   have l23_ := lI124
   have l24_ := lI94
   have l25_ := lI96
   omega
  ·
   have p466 : ∀ t, St p e below Tc400 (mkF m 8 #[.val (.int i0)] [(.int (1 : Int32)), (.int (1 : Int32))]) t → S0 t := fun t k => p399 t (stc400 t k)
   have p467 : ∀ t, St p e below Tc400 (mkF m 16 #[.val (.int i0)] [(.int (1 : Int32))]) t → S0 t := fun t k => p466 t (by
     show St p e below Tc400 (mkF m 8 #[.val (.int i0)] [(.int (1 : Int32)), (.int (1 : Int32))]) t
     refine XS.icmpNo Xc400.here hx rfl (hb hby at_8) rfl (teq (by decide : (1 : Int32) = (1 : Int32))).2 ?_
     show St p e below Tc400 (mkF m 11 #[.val (.int i0)] []) t
     refine XT.iconstV Xc400.here hx rfl (1 : Int32) (hb hby at_11) (by decide) ?_
     show St p e below Tc400 (mkF m 12 #[.val (.int i0)] [(.int (1 : Int32))]) t
     refine XS.goto Xc400.here hx rfl (pc0 := 12) (pc' := 16) rfl (hb hby at_12) (by decide) (by decide) ?_
     exact k)
   obtain ⟨fs, hr, hrun, hended, hW, hsame⟩ := Xc400.leave (v := some (.int (1 : Int32))) (fun h => by rw [Bd.returns] at h; cases h)
   refine ⟨_, _, p467 _ ?_, hrun, hended, _, _, rfl, ?_, ⟨_, rfl⟩, hW, hsame.mono (by decide) (by decide)⟩
   · exact retOut Xc400 hx Bd.returns rfl (Or.inl ⟨rfl, by simp, _, rfl⟩) (hb hby at_16) hr
   · exact ⟨rfl, Nc400⟩
  ·
   exfalso
   have q1_ := ltI g17
   have q2_ := nltI g18
   have q3_ := eqI g19
   have q4_ := ltI g455
   have q5_ := neI g456
   have q6_ := neI g457
   have q7_ := neI g458
   have q8_ := neI g459
   have q9_ := neI g460
   have q10_ := neI g461
   have q11_ := neI g462
   have q12_ := neI g463
   have q13_ := neI g464
   have l14_ := rng32 i0
   have l15_ := lI128
   have l16_ := lI0
   have l17_ := lI92
   have l18_ := lI32
   have l19_ := lI60
   have l20_ := lI62
   have l21_ := lI34
   have l22_ := lI123
   have l23_ := lI125
   have l24_ := lI124
   have l25_ := lI94
   have l26_ := lI96
   omega
  ·
   exfalso
   have q1_ := ltI g17
   have q2_ := nltI g18
   have q3_ := eqI g19
   have q4_ := nltI g465
   have l5_ := rng32 i0
   have l6_ := lI128
   have l7_ := lI0
   have l8_ := lI92
   have l9_ := lI32
   omega
 ·
  have p468 : ∀ t, St p e below Tc2 (mkF m 4 #[.val (.int i0)] [(.int (1 : Int32))]) t → S0 t := fun t k => p1 t (stc2 t k)
  have p469 : ∀ t, St p e below Tc2 (mkF m 5 #[.val (.int i0)] [(.int i0), (.int (1 : Int32))]) t → S0 t := fun t k => p468 t (by
    show St p e below Tc2 (mkF m 4 #[.val (.int i0)] [(.int (1 : Int32))]) t
    refine XS.iloadN Xc2.here hx rfl (hb hby at_4) rfl ?_
    exact k)
  obtain ⟨_, _, ⟨Tc470, Lc470, kc470, nc470⟩, -, Xc470, ⟨Lcc470, hQc470, lc470, yc470, zc470⟩, stc470⟩ := Jvm.LawKit.callS Xc2 hx (y := M1) hown (mvT hZ (ww hw 6 rfl)) (mvT hZ (ww hw 7 rfl)) (mvT hZ (ww hw 8 rfl)) (mvT hZ (ww hw 9 rfl)) (by decide) (backOf (W := 1) (rm2_1 l Z a0 hw [] a_ASCII_NOT_ALLOWED clA i0 h0 n0 O0 HE' ) hZ (ww hw 9 rfl) (ww hw 8 rfl) (by decide) (by decide)) (g := (mkF m 5 #[.val (.int i0)] [(.int i0), (.int (1 : Int32))])) rfl (by rw [hml]; rfl) (argsL := [(.int i0)]) (rest := [(.int (1 : Int32))]) (lenOf pd0 rfl) rfl (by show 2 * 0 + _ ≤ _; exact Nat.le_of_eq rfl) (hb hby at_5) (fun _ _ => ⟨rfl, ec2, (by decide : 0 + 0 ≤ _), (by decide : 0 + 0 ≤ _)⟩)
  dsimp only [Pt.U, Pt.locs, Pt.cells, Pt.slots] at Xc470 lc470 yc470 zc470 stc470 hQc470
  subst lc470 yc470 zc470
  obtain ⟨Nqc470, ec470, hAc470⟩ := hQc470
  have Nc470 := Fr.app Nc2 Nqc470
  rcases hAc470 with ⟨rfl, g471, g472⟩ | ⟨rfl, g473, g474, g475⟩ | ⟨rfl, g476, g477, g478, g479⟩ | ⟨rfl, g480, g481, g482, g483, g484⟩ | ⟨rfl, g485, g486, g487, g488, g489, g490⟩ | ⟨rfl, g491, g492, g493, g494, g495, g496, g497⟩ | ⟨rfl, g498, g499, g500, g501, g502, g503, g504, g505⟩ | ⟨rfl, g506, g507, g508, g509, g510, g511, g512, g513, g514⟩ | ⟨rfl, g515, g516, g517, g518, g519, g520, g521, g522, g523, g524⟩ | ⟨rfl, g525, g526, g527, g528, g529, g530, g531, g532, g533, g534⟩ | ⟨rfl, g535⟩
  ·
   exfalso
   have q1_ := ltI g20
   have q2_ := nltI g21
   have q3_ := eqI g22
   have q4_ := ltI g471
   have q5_ := eqI g472
   have l6_ := rng32 i0
   have l7_ := lI128
   have l8_ := lI0
   have l9_ := lI94
   have l10_ := lI32
   have l11_ := lI60
   omega
  ·
   exfalso
   have q1_ := ltI g20
   have q2_ := nltI g21
   have q3_ := eqI g22
   have q4_ := ltI g473
   have q5_ := neI g474
   have q6_ := eqI g475
   have l7_ := rng32 i0
   have l8_ := lI128
   have l9_ := lI0
   have l10_ := lI94
   have l11_ := lI32
   have l12_ := lI60
   have l13_ := lI62
   omega
  ·
   exfalso
   have q1_ := ltI g20
   have q2_ := nltI g21
   have q3_ := eqI g22
   have q4_ := ltI g476
   have q5_ := neI g477
   have q6_ := neI g478
   have q7_ := eqI g479
   have l8_ := rng32 i0
   have l9_ := lI128
   have l10_ := lI0
   have l11_ := lI94
   have l12_ := lI32
   have l13_ := lI60
   have l14_ := lI62
   have l15_ := lI34
   omega
  ·
   exfalso
   have q1_ := ltI g20
   have q2_ := nltI g21
   have q3_ := eqI g22
   have q4_ := ltI g480
   have q5_ := neI g481
   have q6_ := neI g482
   have q7_ := neI g483
   have q8_ := eqI g484
   have l9_ := rng32 i0
   have l10_ := lI128
   have l11_ := lI0
   have l12_ := lI94
   have l13_ := lI32
   have l14_ := lI60
   have l15_ := lI62
   have l16_ := lI34
   have l17_ := lI123
   omega
  ·
   exfalso
   have q1_ := ltI g20
   have q2_ := nltI g21
   have q3_ := eqI g22
   have q4_ := ltI g485
   have q5_ := neI g486
   have q6_ := neI g487
   have q7_ := neI g488
   have q8_ := neI g489
   have q9_ := eqI g490
   have l10_ := rng32 i0
   have l11_ := lI128
   have l12_ := lI0
   have l13_ := lI94
   have l14_ := lI32
   have l15_ := lI60
   have l16_ := lI62
   have l17_ := lI34
   have l18_ := lI123
   have l19_ := lI125
   omega
  ·
   exfalso
   have q1_ := ltI g20
   have q2_ := nltI g21
   have q3_ := eqI g22
   have q4_ := ltI g491
   have q5_ := neI g492
   have q6_ := neI g493
   have q7_ := neI g494
   have q8_ := neI g495
   have q9_ := neI g496
   have q10_ := eqI g497
   have l11_ := rng32 i0
   have l12_ := lI128
   have l13_ := lI0
   have l14_ := lI94
   have l15_ := lI32
   have l16_ := lI60
   have l17_ := lI62
   have l18_ := lI34
   have l19_ := lI123
   have l20_ := lI125
   have l21_ := lI124
   omega
  ·
   have p536 : ∀ t, St p e below Tc470 (mkF m 8 #[.val (.int i0)] [(.int (1 : Int32)), (.int (1 : Int32))]) t → S0 t := fun t k => p469 t (stc470 t k)
   have p537 : ∀ t, St p e below Tc470 (mkF m 16 #[.val (.int i0)] [(.int (1 : Int32))]) t → S0 t := fun t k => p536 t (by
     show St p e below Tc470 (mkF m 8 #[.val (.int i0)] [(.int (1 : Int32)), (.int (1 : Int32))]) t
     refine XS.icmpNo Xc470.here hx rfl (hb hby at_8) rfl (teq (by decide : (1 : Int32) = (1 : Int32))).2 ?_
     show St p e below Tc470 (mkF m 11 #[.val (.int i0)] []) t
     refine XT.iconstV Xc470.here hx rfl (1 : Int32) (hb hby at_11) (by decide) ?_
     show St p e below Tc470 (mkF m 12 #[.val (.int i0)] [(.int (1 : Int32))]) t
     refine XS.goto Xc470.here hx rfl (pc0 := 12) (pc' := 16) rfl (hb hby at_12) (by decide) (by decide) ?_
     exact k)
   obtain ⟨fs, hr, hrun, hended, hW, hsame⟩ := Xc470.leave (v := some (.int (1 : Int32))) (fun h => by rw [Bd.returns] at h; cases h)
   refine ⟨_, _, p537 _ ?_, hrun, hended, _, _, rfl, ?_, ⟨_, rfl⟩, hW, hsame.mono (by decide) (by decide)⟩
   · exact retOut Xc470 hx Bd.returns rfl (Or.inl ⟨rfl, by simp, _, rfl⟩) (hb hby at_16) hr
   · exact ⟨rfl, Nc470⟩
  ·
   exfalso
   have q1_ := ltI g20
   have q2_ := nltI g21
   have q3_ := eqI g22
   have q4_ := ltI g506
   have q5_ := neI g507
   have q6_ := neI g508
   have q7_ := neI g509
   have q8_ := neI g510
   have q9_ := neI g511
   have q10_ := neI g512
   have q11_ := neI g513
   have q12_ := eqI g514
   have l13_ := rng32 i0
   have l14_ := lI128
   have l15_ := lI0
   have l16_ := lI94
   have l17_ := lI32
   have l18_ := lI60
   have l19_ := lI62
   have l20_ := lI34
   have l21_ := lI123
   have l22_ := lI125
   have l23_ := lI124
   have l24_ := lI96
   omega
  ·
   exfalso
   have q1_ := ltI g20
   have q2_ := nltI g21
   have q3_ := eqI g22
   have q4_ := ltI g515
   have q5_ := neI g516
   have q6_ := neI g517
   have q7_ := neI g518
   have q8_ := neI g519
   have q9_ := neI g520
   have q10_ := neI g521
   have q11_ := neI g522
   have q12_ := neI g523
   have q13_ := eqI g524
   have l14_ := rng32 i0
   have l15_ := lI128
   have l16_ := lI0
   have l17_ := lI94
   have l18_ := lI32
   have l19_ := lI60
   have l20_ := lI62
   have l21_ := lI34
   have l22_ := lI123
   have l23_ := lI125
   have l24_ := lI124
   have l25_ := lI96
   have l26_ := lI92
   omega
  ·
   exfalso
   have q1_ := ltI g20
   have q2_ := nltI g21
   have q3_ := eqI g22
   have q4_ := ltI g525
   have q5_ := neI g526
   have q6_ := neI g527
   have q7_ := neI g528
   have q8_ := neI g529
   have q9_ := neI g530
   have q10_ := neI g531
   have q11_ := neI g532
   have q12_ := neI g533
   have q13_ := neI g534
   have l14_ := rng32 i0
   have l15_ := lI128
   have l16_ := lI0
   have l17_ := lI94
   have l18_ := lI32
   have l19_ := lI60
   have l20_ := lI62
   have l21_ := lI34
   have l22_ := lI123
   have l23_ := lI125
   have l24_ := lI124
   have l25_ := lI96
   have l26_ := lI92
   omega
  ·
   exfalso
   have q1_ := ltI g20
   have q2_ := nltI g21
   have q3_ := eqI g22
   have q4_ := nltI g535
   have l5_ := rng32 i0
   have l6_ := lI128
   have l7_ := lI0
   have l8_ := lI94
   have l9_ := lI32
   omega
 ·
  have p538 : ∀ t, St p e below Tc2 (mkF m 4 #[.val (.int i0)] [(.int (1 : Int32))]) t → S0 t := fun t k => p1 t (stc2 t k)
  have p539 : ∀ t, St p e below Tc2 (mkF m 5 #[.val (.int i0)] [(.int i0), (.int (1 : Int32))]) t → S0 t := fun t k => p538 t (by
    show St p e below Tc2 (mkF m 4 #[.val (.int i0)] [(.int (1 : Int32))]) t
    refine XS.iloadN Xc2.here hx rfl (hb hby at_4) rfl ?_
    exact k)
  obtain ⟨_, _, ⟨Tc540, Lc540, kc540, nc540⟩, -, Xc540, ⟨Lcc540, hQc540, lc540, yc540, zc540⟩, stc540⟩ := Jvm.LawKit.callS Xc2 hx (y := M1) hown (mvT hZ (ww hw 6 rfl)) (mvT hZ (ww hw 7 rfl)) (mvT hZ (ww hw 8 rfl)) (mvT hZ (ww hw 9 rfl)) (by decide) (backOf (W := 1) (rm2_1 l Z a0 hw [] a_ASCII_NOT_ALLOWED clA i0 h0 n0 O0 HE' ) hZ (ww hw 9 rfl) (ww hw 8 rfl) (by decide) (by decide)) (g := (mkF m 5 #[.val (.int i0)] [(.int i0), (.int (1 : Int32))])) rfl (by rw [hml]; rfl) (argsL := [(.int i0)]) (rest := [(.int (1 : Int32))]) (lenOf pd0 rfl) rfl (by show 2 * 0 + _ ≤ _; exact Nat.le_of_eq rfl) (hb hby at_5) (fun _ _ => ⟨rfl, ec2, (by decide : 0 + 0 ≤ _), (by decide : 0 + 0 ≤ _)⟩)
  dsimp only [Pt.U, Pt.locs, Pt.cells, Pt.slots] at Xc540 lc540 yc540 zc540 stc540 hQc540
  subst lc540 yc540 zc540
  obtain ⟨Nqc540, ec540, hAc540⟩ := hQc540
  have Nc540 := Fr.app Nc2 Nqc540
  rcases hAc540 with ⟨rfl, g541, g542⟩ | ⟨rfl, g543, g544, g545⟩ | ⟨rfl, g546, g547, g548, g549⟩ | ⟨rfl, g550, g551, g552, g553, g554⟩ | ⟨rfl, g555, g556, g557, g558, g559, g560⟩ | ⟨rfl, g561, g562, g563, g564, g565, g566, g567⟩ | ⟨rfl, g568, g569, g570, g571, g572, g573, g574, g575⟩ | ⟨rfl, g576, g577, g578, g579, g580, g581, g582, g583, g584⟩ | ⟨rfl, g585, g586, g587, g588, g589, g590, g591, g592, g593, g594⟩ | ⟨rfl, g595, g596, g597, g598, g599, g600, g601, g602, g603, g604⟩ | ⟨rfl, g605⟩
  ·
   exfalso
   have q1_ := ltI g23
   have q2_ := nltI g24
   have q3_ := eqI g25
   have q4_ := ltI g541
   have q5_ := eqI g542
   have l6_ := rng32 i0
   have l7_ := lI128
   have l8_ := lI0
   have l9_ := lI96
   have l10_ := lI32
   have l11_ := lI60
   omega
  ·
   exfalso
   have q1_ := ltI g23
   have q2_ := nltI g24
   have q3_ := eqI g25
   have q4_ := ltI g543
   have q5_ := neI g544
   have q6_ := eqI g545
   have l7_ := rng32 i0
   have l8_ := lI128
   have l9_ := lI0
   have l10_ := lI96
   have l11_ := lI32
   have l12_ := lI60
   have l13_ := lI62
   omega
  ·
   exfalso
   have q1_ := ltI g23
   have q2_ := nltI g24
   have q3_ := eqI g25
   have q4_ := ltI g546
   have q5_ := neI g547
   have q6_ := neI g548
   have q7_ := eqI g549
   have l8_ := rng32 i0
   have l9_ := lI128
   have l10_ := lI0
   have l11_ := lI96
   have l12_ := lI32
   have l13_ := lI60
   have l14_ := lI62
   have l15_ := lI34
   omega
  ·
   exfalso
   have q1_ := ltI g23
   have q2_ := nltI g24
   have q3_ := eqI g25
   have q4_ := ltI g550
   have q5_ := neI g551
   have q6_ := neI g552
   have q7_ := neI g553
   have q8_ := eqI g554
   have l9_ := rng32 i0
   have l10_ := lI128
   have l11_ := lI0
   have l12_ := lI96
   have l13_ := lI32
   have l14_ := lI60
   have l15_ := lI62
   have l16_ := lI34
   have l17_ := lI123
   omega
  ·
   exfalso
   have q1_ := ltI g23
   have q2_ := nltI g24
   have q3_ := eqI g25
   have q4_ := ltI g555
   have q5_ := neI g556
   have q6_ := neI g557
   have q7_ := neI g558
   have q8_ := neI g559
   have q9_ := eqI g560
   have l10_ := rng32 i0
   have l11_ := lI128
   have l12_ := lI0
   have l13_ := lI96
   have l14_ := lI32
   have l15_ := lI60
   have l16_ := lI62
   have l17_ := lI34
   have l18_ := lI123
   have l19_ := lI125
   omega
  ·
   exfalso
   have q1_ := ltI g23
   have q2_ := nltI g24
   have q3_ := eqI g25
   have q4_ := ltI g561
   have q5_ := neI g562
   have q6_ := neI g563
   have q7_ := neI g564
   have q8_ := neI g565
   have q9_ := neI g566
   have q10_ := eqI g567
   have l11_ := rng32 i0
   have l12_ := lI128
   have l13_ := lI0
   have l14_ := lI96
   have l15_ := lI32
   have l16_ := lI60
   have l17_ := lI62
   have l18_ := lI34
   have l19_ := lI123
   have l20_ := lI125
   have l21_ := lI124
   omega
  ·
   exfalso
   have q1_ := ltI g23
   have q2_ := nltI g24
   have q3_ := eqI g25
   have q4_ := ltI g568
   have q5_ := neI g569
   have q6_ := neI g570
   have q7_ := neI g571
   have q8_ := neI g572
   have q9_ := neI g573
   have q10_ := neI g574
   have q11_ := eqI g575
   have l12_ := rng32 i0
   have l13_ := lI128
   have l14_ := lI0
   have l15_ := lI96
   have l16_ := lI32
   have l17_ := lI60
   have l18_ := lI62
   have l19_ := lI34
   have l20_ := lI123
   have l21_ := lI125
   have l22_ := lI124
   have l23_ := lI94
   omega
  ·
   have p606 : ∀ t, St p e below Tc540 (mkF m 8 #[.val (.int i0)] [(.int (1 : Int32)), (.int (1 : Int32))]) t → S0 t := fun t k => p539 t (stc540 t k)
   have p607 : ∀ t, St p e below Tc540 (mkF m 16 #[.val (.int i0)] [(.int (1 : Int32))]) t → S0 t := fun t k => p606 t (by
     show St p e below Tc540 (mkF m 8 #[.val (.int i0)] [(.int (1 : Int32)), (.int (1 : Int32))]) t
     refine XS.icmpNo Xc540.here hx rfl (hb hby at_8) rfl (teq (by decide : (1 : Int32) = (1 : Int32))).2 ?_
     show St p e below Tc540 (mkF m 11 #[.val (.int i0)] []) t
     refine XT.iconstV Xc540.here hx rfl (1 : Int32) (hb hby at_11) (by decide) ?_
     show St p e below Tc540 (mkF m 12 #[.val (.int i0)] [(.int (1 : Int32))]) t
     refine XS.goto Xc540.here hx rfl (pc0 := 12) (pc' := 16) rfl (hb hby at_12) (by decide) (by decide) ?_
     exact k)
   obtain ⟨fs, hr, hrun, hended, hW, hsame⟩ := Xc540.leave (v := some (.int (1 : Int32))) (fun h => by rw [Bd.returns] at h; cases h)
   refine ⟨_, _, p607 _ ?_, hrun, hended, _, _, rfl, ?_, ⟨_, rfl⟩, hW, hsame.mono (by decide) (by decide)⟩
   · exact retOut Xc540 hx Bd.returns rfl (Or.inl ⟨rfl, by simp, _, rfl⟩) (hb hby at_16) hr
   · exact ⟨rfl, Nc540⟩
  ·
   exfalso
   have q1_ := ltI g23
   have q2_ := nltI g24
   have q3_ := eqI g25
   have q4_ := ltI g585
   have q5_ := neI g586
   have q6_ := neI g587
   have q7_ := neI g588
   have q8_ := neI g589
   have q9_ := neI g590
   have q10_ := neI g591
   have q11_ := neI g592
   have q12_ := neI g593
   have q13_ := eqI g594
   have l14_ := rng32 i0
   have l15_ := lI128
   have l16_ := lI0
   have l17_ := lI96
   have l18_ := lI32
   have l19_ := lI60
   have l20_ := lI62
   have l21_ := lI34
   have l22_ := lI123
   have l23_ := lI125
   have l24_ := lI124
   have l25_ := lI94
   have l26_ := lI92
   omega
  ·
   exfalso
   have q1_ := ltI g23
   have q2_ := nltI g24
   have q3_ := eqI g25
   have q4_ := ltI g595
   have q5_ := neI g596
   have q6_ := neI g597
   have q7_ := neI g598
   have q8_ := neI g599
   have q9_ := neI g600
   have q10_ := neI g601
   have q11_ := neI g602
   have q12_ := neI g603
   have q13_ := neI g604
   have l14_ := rng32 i0
   have l15_ := lI128
   have l16_ := lI0
   have l17_ := lI96
   have l18_ := lI32
   have l19_ := lI60
   have l20_ := lI62
   have l21_ := lI34
   have l22_ := lI123
   have l23_ := lI125
   have l24_ := lI124
   have l25_ := lI94
   have l26_ := lI92
   omega
  ·
   exfalso
   have q1_ := ltI g23
   have q2_ := nltI g24
   have q3_ := eqI g25
   have q4_ := nltI g605
   have l5_ := rng32 i0
   have l6_ := lI128
   have l7_ := lI0
   have l8_ := lI96
   have l9_ := lI32
   omega
 ·
  have p608 : ∀ t, St p e below Tc2 (mkF m 4 #[.val (.int i0)] [(.int (1 : Int32))]) t → S0 t := fun t k => p1 t (stc2 t k)
  have p609 : ∀ t, St p e below Tc2 (mkF m 5 #[.val (.int i0)] [(.int i0), (.int (1 : Int32))]) t → S0 t := fun t k => p608 t (by
    show St p e below Tc2 (mkF m 4 #[.val (.int i0)] [(.int (1 : Int32))]) t
    refine XS.iloadN Xc2.here hx rfl (hb hby at_4) rfl ?_
    exact k)
  obtain ⟨_, _, ⟨Tc610, Lc610, kc610, nc610⟩, -, Xc610, ⟨Lcc610, hQc610, lc610, yc610, zc610⟩, stc610⟩ := Jvm.LawKit.callS Xc2 hx (y := M1) hown (mvT hZ (ww hw 6 rfl)) (mvT hZ (ww hw 7 rfl)) (mvT hZ (ww hw 8 rfl)) (mvT hZ (ww hw 9 rfl)) (by decide) (backOf (W := 1) (rm2_1 l Z a0 hw [] a_ASCII_NOT_ALLOWED clA i0 h0 n0 O0 HE' ) hZ (ww hw 9 rfl) (ww hw 8 rfl) (by decide) (by decide)) (g := (mkF m 5 #[.val (.int i0)] [(.int i0), (.int (1 : Int32))])) rfl (by rw [hml]; rfl) (argsL := [(.int i0)]) (rest := [(.int (1 : Int32))]) (lenOf pd0 rfl) rfl (by show 2 * 0 + _ ≤ _; exact Nat.le_of_eq rfl) (hb hby at_5) (fun _ _ => ⟨rfl, ec2, (by decide : 0 + 0 ≤ _), (by decide : 0 + 0 ≤ _)⟩)
  dsimp only [Pt.U, Pt.locs, Pt.cells, Pt.slots] at Xc610 lc610 yc610 zc610 stc610 hQc610
  subst lc610 yc610 zc610
  obtain ⟨Nqc610, ec610, hAc610⟩ := hQc610
  have Nc610 := Fr.app Nc2 Nqc610
  rcases hAc610 with ⟨rfl, g611, g612⟩ | ⟨rfl, g613, g614, g615⟩ | ⟨rfl, g616, g617, g618, g619⟩ | ⟨rfl, g620, g621, g622, g623, g624⟩ | ⟨rfl, g625, g626, g627, g628, g629, g630⟩ | ⟨rfl, g631, g632, g633, g634, g635, g636, g637⟩ | ⟨rfl, g638, g639, g640, g641, g642, g643, g644, g645⟩ | ⟨rfl, g646, g647, g648, g649, g650, g651, g652, g653, g654⟩ | ⟨rfl, g655, g656, g657, g658, g659, g660, g661, g662, g663, g664⟩ | ⟨rfl, g665, g666, g667, g668, g669, g670, g671, g672, g673, g674⟩ | ⟨rfl, g675⟩
  ·
   exfalso
   have q1_ := ltI g26
   have q2_ := nltI g27
   have q3_ := eqI g28
   have q4_ := ltI g611
   have q5_ := eqI g612
   have l6_ := rng32 i0
   have l7_ := lI128
   have l8_ := lI0
   have l9_ := lI123
   have l10_ := lI32
   have l11_ := lI60
   omega
  ·
   exfalso
   have q1_ := ltI g26
   have q2_ := nltI g27
   have q3_ := eqI g28
   have q4_ := ltI g613
   have q5_ := neI g614
   have q6_ := eqI g615
   have l7_ := rng32 i0
   have l8_ := lI128
   have l9_ := lI0
   have l10_ := lI123
   have l11_ := lI32
   have l12_ := lI60
   have l13_ := lI62
   omega
  ·
   exfalso
   have q1_ := ltI g26
   have q2_ := nltI g27
   have q3_ := eqI g28
   have q4_ := ltI g616
   have q5_ := neI g617
   have q6_ := neI g618
   have q7_ := eqI g619
   have l8_ := rng32 i0
   have l9_ := lI128
   have l10_ := lI0
   have l11_ := lI123
   have l12_ := lI32
   have l13_ := lI60
   have l14_ := lI62
   have l15_ := lI34
   omega
  ·
   have p676 : ∀ t, St p e below Tc610 (mkF m 8 #[.val (.int i0)] [(.int (1 : Int32)), (.int (1 : Int32))]) t → S0 t := fun t k => p609 t (stc610 t k)
   have p677 : ∀ t, St p e below Tc610 (mkF m 16 #[.val (.int i0)] [(.int (1 : Int32))]) t → S0 t := fun t k => p676 t (by
     show St p e below Tc610 (mkF m 8 #[.val (.int i0)] [(.int (1 : Int32)), (.int (1 : Int32))]) t
     refine XS.icmpNo Xc610.here hx rfl (hb hby at_8) rfl (teq (by decide : (1 : Int32) = (1 : Int32))).2 ?_
     show St p e below Tc610 (mkF m 11 #[.val (.int i0)] []) t
     refine XT.iconstV Xc610.here hx rfl (1 : Int32) (hb hby at_11) (by decide) ?_
     show St p e below Tc610 (mkF m 12 #[.val (.int i0)] [(.int (1 : Int32))]) t
     refine XS.goto Xc610.here hx rfl (pc0 := 12) (pc' := 16) rfl (hb hby at_12) (by decide) (by decide) ?_
     exact k)
   obtain ⟨fs, hr, hrun, hended, hW, hsame⟩ := Xc610.leave (v := some (.int (1 : Int32))) (fun h => by rw [Bd.returns] at h; cases h)
   refine ⟨_, _, p677 _ ?_, hrun, hended, _, _, rfl, ?_, ⟨_, rfl⟩, hW, hsame.mono (by decide) (by decide)⟩
   · exact retOut Xc610 hx Bd.returns rfl (Or.inl ⟨rfl, by simp, _, rfl⟩) (hb hby at_16) hr
   · exact ⟨rfl, Nc610⟩
  ·
   exfalso
   have q1_ := ltI g26
   have q2_ := nltI g27
   have q3_ := eqI g28
   have q4_ := ltI g625
   have q5_ := neI g626
   have q6_ := neI g627
   have q7_ := neI g628
   have q8_ := neI g629
   have q9_ := eqI g630
   have l10_ := rng32 i0
   have l11_ := lI128
   have l12_ := lI0
   have l13_ := lI123
   have l14_ := lI32
   have l15_ := lI60
   have l16_ := lI62
   have l17_ := lI34
   have l18_ := lI125
   omega
  ·
   exfalso
   have q1_ := ltI g26
   have q2_ := nltI g27
   have q3_ := eqI g28
   have q4_ := ltI g631
   have q5_ := neI g632
   have q6_ := neI g633
   have q7_ := neI g634
   have q8_ := neI g635
   have q9_ := neI g636
   have q10_ := eqI g637
   have l11_ := rng32 i0
   have l12_ := lI128
   have l13_ := lI0
   have l14_ := lI123
   have l15_ := lI32
   have l16_ := lI60
   have l17_ := lI62
   have l18_ := lI34
   have l19_ := lI125
   have l20_ := lI124
   omega
  ·
   exfalso
   have q1_ := ltI g26
   have q2_ := nltI g27
   have q3_ := eqI g28
   have q4_ := ltI g638
   have q5_ := neI g639
   have q6_ := neI g640
   have q7_ := neI g641
   have q8_ := neI g642
   have q9_ := neI g643
   have q10_ := neI g644
   have q11_ := eqI g645
   have l12_ := rng32 i0
   have l13_ := lI128
   have l14_ := lI0
   have l15_ := lI123
   have l16_ := lI32
   have l17_ := lI60
   have l18_ := lI62
   have l19_ := lI34
   have l20_ := lI125
   have l21_ := lI124
   have l22_ := lI94
   omega
  ·
   exfalso
   have q1_ := ltI g26
   have q2_ := nltI g27
   have q3_ := eqI g28
   have q4_ := ltI g646
   have q5_ := neI g647
   have q6_ := neI g648
   have q7_ := neI g649
   have q8_ := neI g650
   have q9_ := neI g651
   have q10_ := neI g652
   have q11_ := neI g653
   have q12_ := eqI g654
   have l13_ := rng32 i0
   have l14_ := lI128
   have l15_ := lI0
   have l16_ := lI123
   have l17_ := lI32
   have l18_ := lI60
   have l19_ := lI62
   have l20_ := lI34
   have l21_ := lI125
   have l22_ := lI124
   have l23_ := lI94
   have l24_ := lI96
   omega
  ·
   exfalso
   have q1_ := ltI g26
   have q2_ := nltI g27
   have q3_ := eqI g28
   have q4_ := ltI g655
   have q5_ := neI g656
   have q6_ := neI g657
   have q7_ := neI g658
   have q8_ := neI g659
   have q9_ := neI g660
   have q10_ := neI g661
   have q11_ := neI g662
   have q12_ := neI g663
   have q13_ := eqI g664
   have l14_ := rng32 i0
   have l15_ := lI128
   have l16_ := lI0
   have l17_ := lI123
   have l18_ := lI32
   have l19_ := lI60
   have l20_ := lI62
   have l21_ := lI34
   have l22_ := lI125
   have l23_ := lI124
   have l24_ := lI94
   have l25_ := lI96
   have l26_ := lI92
   omega
  ·
   exfalso
   have q1_ := ltI g26
   have q2_ := nltI g27
   have q3_ := eqI g28
   have q4_ := ltI g665
   have q5_ := neI g666
   have q6_ := neI g667
   have q7_ := neI g668
   have q8_ := neI g669
   have q9_ := neI g670
   have q10_ := neI g671
   have q11_ := neI g672
   have q12_ := neI g673
   have q13_ := neI g674
   have l14_ := rng32 i0
   have l15_ := lI128
   have l16_ := lI0
   have l17_ := lI123
   have l18_ := lI32
   have l19_ := lI60
   have l20_ := lI62
   have l21_ := lI34
   have l22_ := lI125
   have l23_ := lI124
   have l24_ := lI94
   have l25_ := lI96
   have l26_ := lI92
   omega
  ·
   exfalso
   have q1_ := ltI g26
   have q2_ := nltI g27
   have q3_ := eqI g28
   have q4_ := nltI g675
   have l5_ := rng32 i0
   have l6_ := lI128
   have l7_ := lI0
   have l8_ := lI123
   have l9_ := lI32
   omega
 ·
  have p678 : ∀ t, St p e below Tc2 (mkF m 4 #[.val (.int i0)] [(.int (1 : Int32))]) t → S0 t := fun t k => p1 t (stc2 t k)
  have p679 : ∀ t, St p e below Tc2 (mkF m 5 #[.val (.int i0)] [(.int i0), (.int (1 : Int32))]) t → S0 t := fun t k => p678 t (by
    show St p e below Tc2 (mkF m 4 #[.val (.int i0)] [(.int (1 : Int32))]) t
    refine XS.iloadN Xc2.here hx rfl (hb hby at_4) rfl ?_
    exact k)
  obtain ⟨_, _, ⟨Tc680, Lc680, kc680, nc680⟩, -, Xc680, ⟨Lcc680, hQc680, lc680, yc680, zc680⟩, stc680⟩ := Jvm.LawKit.callS Xc2 hx (y := M1) hown (mvT hZ (ww hw 6 rfl)) (mvT hZ (ww hw 7 rfl)) (mvT hZ (ww hw 8 rfl)) (mvT hZ (ww hw 9 rfl)) (by decide) (backOf (W := 1) (rm2_1 l Z a0 hw [] a_ASCII_NOT_ALLOWED clA i0 h0 n0 O0 HE' ) hZ (ww hw 9 rfl) (ww hw 8 rfl) (by decide) (by decide)) (g := (mkF m 5 #[.val (.int i0)] [(.int i0), (.int (1 : Int32))])) rfl (by rw [hml]; rfl) (argsL := [(.int i0)]) (rest := [(.int (1 : Int32))]) (lenOf pd0 rfl) rfl (by show 2 * 0 + _ ≤ _; exact Nat.le_of_eq rfl) (hb hby at_5) (fun _ _ => ⟨rfl, ec2, (by decide : 0 + 0 ≤ _), (by decide : 0 + 0 ≤ _)⟩)
  dsimp only [Pt.U, Pt.locs, Pt.cells, Pt.slots] at Xc680 lc680 yc680 zc680 stc680 hQc680
  subst lc680 yc680 zc680
  obtain ⟨Nqc680, ec680, hAc680⟩ := hQc680
  have Nc680 := Fr.app Nc2 Nqc680
  rcases hAc680 with ⟨rfl, g681, g682⟩ | ⟨rfl, g683, g684, g685⟩ | ⟨rfl, g686, g687, g688, g689⟩ | ⟨rfl, g690, g691, g692, g693, g694⟩ | ⟨rfl, g695, g696, g697, g698, g699, g700⟩ | ⟨rfl, g701, g702, g703, g704, g705, g706, g707⟩ | ⟨rfl, g708, g709, g710, g711, g712, g713, g714, g715⟩ | ⟨rfl, g716, g717, g718, g719, g720, g721, g722, g723, g724⟩ | ⟨rfl, g725, g726, g727, g728, g729, g730, g731, g732, g733, g734⟩ | ⟨rfl, g735, g736, g737, g738, g739, g740, g741, g742, g743, g744⟩ | ⟨rfl, g745⟩
  ·
   exfalso
   have q1_ := ltI g29
   have q2_ := nltI g30
   have q3_ := eqI g31
   have q4_ := ltI g681
   have q5_ := eqI g682
   have l6_ := rng32 i0
   have l7_ := lI128
   have l8_ := lI0
   have l9_ := lI124
   have l10_ := lI32
   have l11_ := lI60
   omega
  ·
   exfalso
   have q1_ := ltI g29
   have q2_ := nltI g30
   have q3_ := eqI g31
   have q4_ := ltI g683
   have q5_ := neI g684
   have q6_ := eqI g685
   have l7_ := rng32 i0
   have l8_ := lI128
   have l9_ := lI0
   have l10_ := lI124
   have l11_ := lI32
   have l12_ := lI60
   have l13_ := lI62
   omega
  ·
   exfalso
   have q1_ := ltI g29
   have q2_ := nltI g30
   have q3_ := eqI g31
   have q4_ := ltI g686
   have q5_ := neI g687
   have q6_ := neI g688
   have q7_ := eqI g689
   have l8_ := rng32 i0
   have l9_ := lI128
   have l10_ := lI0
   have l11_ := lI124
   have l12_ := lI32
   have l13_ := lI60
   have l14_ := lI62
   have l15_ := lI34
   omega
  ·
   exfalso
   have q1_ := ltI g29
   have q2_ := nltI g30
   have q3_ := eqI g31
   have q4_ := ltI g690
   have q5_ := neI g691
   have q6_ := neI g692
   have q7_ := neI g693
   have q8_ := eqI g694
   have l9_ := rng32 i0
   have l10_ := lI128
   have l11_ := lI0
   have l12_ := lI124
   have l13_ := lI32
   have l14_ := lI60
   have l15_ := lI62
   have l16_ := lI34
   have l17_ := lI123
   omega
  ·
   exfalso
   have q1_ := ltI g29
   have q2_ := nltI g30
   have q3_ := eqI g31
   have q4_ := ltI g695
   have q5_ := neI g696
   have q6_ := neI g697
   have q7_ := neI g698
   have q8_ := neI g699
   have q9_ := eqI g700
   have l10_ := rng32 i0
   have l11_ := lI128
   have l12_ := lI0
   have l13_ := lI124
   have l14_ := lI32
   have l15_ := lI60
   have l16_ := lI62
   have l17_ := lI34
   have l18_ := lI123
   have l19_ := lI125
   omega
  ·
   have p746 : ∀ t, St p e below Tc680 (mkF m 8 #[.val (.int i0)] [(.int (1 : Int32)), (.int (1 : Int32))]) t → S0 t := fun t k => p679 t (stc680 t k)
   have p747 : ∀ t, St p e below Tc680 (mkF m 16 #[.val (.int i0)] [(.int (1 : Int32))]) t → S0 t := fun t k => p746 t (by
     show St p e below Tc680 (mkF m 8 #[.val (.int i0)] [(.int (1 : Int32)), (.int (1 : Int32))]) t
     refine XS.icmpNo Xc680.here hx rfl (hb hby at_8) rfl (teq (by decide : (1 : Int32) = (1 : Int32))).2 ?_
     show St p e below Tc680 (mkF m 11 #[.val (.int i0)] []) t
     refine XT.iconstV Xc680.here hx rfl (1 : Int32) (hb hby at_11) (by decide) ?_
     show St p e below Tc680 (mkF m 12 #[.val (.int i0)] [(.int (1 : Int32))]) t
     refine XS.goto Xc680.here hx rfl (pc0 := 12) (pc' := 16) rfl (hb hby at_12) (by decide) (by decide) ?_
     exact k)
   obtain ⟨fs, hr, hrun, hended, hW, hsame⟩ := Xc680.leave (v := some (.int (1 : Int32))) (fun h => by rw [Bd.returns] at h; cases h)
   refine ⟨_, _, p747 _ ?_, hrun, hended, _, _, rfl, ?_, ⟨_, rfl⟩, hW, hsame.mono (by decide) (by decide)⟩
   · exact retOut Xc680 hx Bd.returns rfl (Or.inl ⟨rfl, by simp, _, rfl⟩) (hb hby at_16) hr
   · exact ⟨rfl, Nc680⟩
  ·
   exfalso
   have q1_ := ltI g29
   have q2_ := nltI g30
   have q3_ := eqI g31
   have q4_ := ltI g708
   have q5_ := neI g709
   have q6_ := neI g710
   have q7_ := neI g711
   have q8_ := neI g712
   have q9_ := neI g713
   have q10_ := neI g714
   have q11_ := eqI g715
   have l12_ := rng32 i0
   have l13_ := lI128
   have l14_ := lI0
   have l15_ := lI124
   have l16_ := lI32
   have l17_ := lI60
   have l18_ := lI62
   have l19_ := lI34
   have l20_ := lI123
   have l21_ := lI125
   have l22_ := lI94
   omega
  ·
   exfalso
   have q1_ := ltI g29
   have q2_ := nltI g30
   have q3_ := eqI g31
   have q4_ := ltI g716
   have q5_ := neI g717
   have q6_ := neI g718
   have q7_ := neI g719
   have q8_ := neI g720
   have q9_ := neI g721
   have q10_ := neI g722
   have q11_ := neI g723
   have q12_ := eqI g724
   have l13_ := rng32 i0
   have l14_ := lI128
   have l15_ := lI0
   have l16_ := lI124
   have l17_ := lI32
   have l18_ := lI60
   have l19_ := lI62
   have l20_ := lI34
   have l21_ := lI123
   have l22_ := lI125
   have l23_ := lI94
   have l24_ := lI96
   omega
  ·
   exfalso
   have q1_ := ltI g29
   have q2_ := nltI g30
   have q3_ := eqI g31
   have q4_ := ltI g725
   have q5_ := neI g726
   have q6_ := neI g727
   have q7_ := neI g728
   have q8_ := neI g729
   have q9_ := neI g730
   have q10_ := neI g731
   have q11_ := neI g732
   have q12_ := neI g733
   have q13_ := eqI g734
   have l14_ := rng32 i0
   have l15_ := lI128
   have l16_ := lI0
   have l17_ := lI124
   have l18_ := lI32
   have l19_ := lI60
   have l20_ := lI62
   have l21_ := lI34
   have l22_ := lI123
   have l23_ := lI125
   have l24_ := lI94
   have l25_ := lI96
   have l26_ := lI92
   omega
  ·
   exfalso
   have q1_ := ltI g29
   have q2_ := nltI g30
   have q3_ := eqI g31
   have q4_ := ltI g735
   have q5_ := neI g736
   have q6_ := neI g737
   have q7_ := neI g738
   have q8_ := neI g739
   have q9_ := neI g740
   have q10_ := neI g741
   have q11_ := neI g742
   have q12_ := neI g743
   have q13_ := neI g744
   have l14_ := rng32 i0
   have l15_ := lI128
   have l16_ := lI0
   have l17_ := lI124
   have l18_ := lI32
   have l19_ := lI60
   have l20_ := lI62
   have l21_ := lI34
   have l22_ := lI123
   have l23_ := lI125
   have l24_ := lI94
   have l25_ := lI96
   have l26_ := lI92
   omega
  ·
   exfalso
   have q1_ := ltI g29
   have q2_ := nltI g30
   have q3_ := eqI g31
   have q4_ := nltI g745
   have l5_ := rng32 i0
   have l6_ := lI128
   have l7_ := lI0
   have l8_ := lI124
   have l9_ := lI32
   omega
 ·
  have p748 : ∀ t, St p e below Tc2 (mkF m 4 #[.val (.int i0)] [(.int (1 : Int32))]) t → S0 t := fun t k => p1 t (stc2 t k)
  have p749 : ∀ t, St p e below Tc2 (mkF m 5 #[.val (.int i0)] [(.int i0), (.int (1 : Int32))]) t → S0 t := fun t k => p748 t (by
    show St p e below Tc2 (mkF m 4 #[.val (.int i0)] [(.int (1 : Int32))]) t
    refine XS.iloadN Xc2.here hx rfl (hb hby at_4) rfl ?_
    exact k)
  obtain ⟨_, _, ⟨Tc750, Lc750, kc750, nc750⟩, -, Xc750, ⟨Lcc750, hQc750, lc750, yc750, zc750⟩, stc750⟩ := Jvm.LawKit.callS Xc2 hx (y := M1) hown (mvT hZ (ww hw 6 rfl)) (mvT hZ (ww hw 7 rfl)) (mvT hZ (ww hw 8 rfl)) (mvT hZ (ww hw 9 rfl)) (by decide) (backOf (W := 1) (rm2_1 l Z a0 hw [] a_ASCII_NOT_ALLOWED clA i0 h0 n0 O0 HE' ) hZ (ww hw 9 rfl) (ww hw 8 rfl) (by decide) (by decide)) (g := (mkF m 5 #[.val (.int i0)] [(.int i0), (.int (1 : Int32))])) rfl (by rw [hml]; rfl) (argsL := [(.int i0)]) (rest := [(.int (1 : Int32))]) (lenOf pd0 rfl) rfl (by show 2 * 0 + _ ≤ _; exact Nat.le_of_eq rfl) (hb hby at_5) (fun _ _ => ⟨rfl, ec2, (by decide : 0 + 0 ≤ _), (by decide : 0 + 0 ≤ _)⟩)
  dsimp only [Pt.U, Pt.locs, Pt.cells, Pt.slots] at Xc750 lc750 yc750 zc750 stc750 hQc750
  subst lc750 yc750 zc750
  obtain ⟨Nqc750, ec750, hAc750⟩ := hQc750
  have Nc750 := Fr.app Nc2 Nqc750
  rcases hAc750 with ⟨rfl, g751, g752⟩ | ⟨rfl, g753, g754, g755⟩ | ⟨rfl, g756, g757, g758, g759⟩ | ⟨rfl, g760, g761, g762, g763, g764⟩ | ⟨rfl, g765, g766, g767, g768, g769, g770⟩ | ⟨rfl, g771, g772, g773, g774, g775, g776, g777⟩ | ⟨rfl, g778, g779, g780, g781, g782, g783, g784, g785⟩ | ⟨rfl, g786, g787, g788, g789, g790, g791, g792, g793, g794⟩ | ⟨rfl, g795, g796, g797, g798, g799, g800, g801, g802, g803, g804⟩ | ⟨rfl, g805, g806, g807, g808, g809, g810, g811, g812, g813, g814⟩ | ⟨rfl, g815⟩
  ·
   exfalso
   have q1_ := ltI g32
   have q2_ := nltI g33
   have q3_ := eqI g34
   have q4_ := ltI g751
   have q5_ := eqI g752
   have l6_ := rng32 i0
   have l7_ := lI128
   have l8_ := lI0
   have l9_ := lI125
   have l10_ := lI32
   have l11_ := lI60
   omega
  ·
   exfalso
   have q1_ := ltI g32
   have q2_ := nltI g33
   have q3_ := eqI g34
   have q4_ := ltI g753
   have q5_ := neI g754
   have q6_ := eqI g755
   have l7_ := rng32 i0
   have l8_ := lI128
   have l9_ := lI0
   have l10_ := lI125
   have l11_ := lI32
   have l12_ := lI60
   have l13_ := lI62
   omega
  ·
   exfalso
   have q1_ := ltI g32
   have q2_ := nltI g33
   have q3_ := eqI g34
   have q4_ := ltI g756
   have q5_ := neI g757
   have q6_ := neI g758
   have q7_ := eqI g759
   have l8_ := rng32 i0
   have l9_ := lI128
   have l10_ := lI0
   have l11_ := lI125
   have l12_ := lI32
   have l13_ := lI60
   have l14_ := lI62
   have l15_ := lI34
   omega
  ·
   exfalso
   have q1_ := ltI g32
   have q2_ := nltI g33
   have q3_ := eqI g34
   have q4_ := ltI g760
   have q5_ := neI g761
   have q6_ := neI g762
   have q7_ := neI g763
   have q8_ := eqI g764
   have l9_ := rng32 i0
   have l10_ := lI128
   have l11_ := lI0
   have l12_ := lI125
   have l13_ := lI32
   have l14_ := lI60
   have l15_ := lI62
   have l16_ := lI34
   have l17_ := lI123
   omega
  ·
   have p816 : ∀ t, St p e below Tc750 (mkF m 8 #[.val (.int i0)] [(.int (1 : Int32)), (.int (1 : Int32))]) t → S0 t := fun t k => p749 t (stc750 t k)
   have p817 : ∀ t, St p e below Tc750 (mkF m 16 #[.val (.int i0)] [(.int (1 : Int32))]) t → S0 t := fun t k => p816 t (by
     show St p e below Tc750 (mkF m 8 #[.val (.int i0)] [(.int (1 : Int32)), (.int (1 : Int32))]) t
     refine XS.icmpNo Xc750.here hx rfl (hb hby at_8) rfl (teq (by decide : (1 : Int32) = (1 : Int32))).2 ?_
     show St p e below Tc750 (mkF m 11 #[.val (.int i0)] []) t
     refine XT.iconstV Xc750.here hx rfl (1 : Int32) (hb hby at_11) (by decide) ?_
     show St p e below Tc750 (mkF m 12 #[.val (.int i0)] [(.int (1 : Int32))]) t
     refine XS.goto Xc750.here hx rfl (pc0 := 12) (pc' := 16) rfl (hb hby at_12) (by decide) (by decide) ?_
     exact k)
   obtain ⟨fs, hr, hrun, hended, hW, hsame⟩ := Xc750.leave (v := some (.int (1 : Int32))) (fun h => by rw [Bd.returns] at h; cases h)
   refine ⟨_, _, p817 _ ?_, hrun, hended, _, _, rfl, ?_, ⟨_, rfl⟩, hW, hsame.mono (by decide) (by decide)⟩
   · exact retOut Xc750 hx Bd.returns rfl (Or.inl ⟨rfl, by simp, _, rfl⟩) (hb hby at_16) hr
   · exact ⟨rfl, Nc750⟩
  ·
   exfalso
   have q1_ := ltI g32
   have q2_ := nltI g33
   have q3_ := eqI g34
   have q4_ := ltI g771
   have q5_ := neI g772
   have q6_ := neI g773
   have q7_ := neI g774
   have q8_ := neI g775
   have q9_ := neI g776
   have q10_ := eqI g777
   have l11_ := rng32 i0
   have l12_ := lI128
   have l13_ := lI0
   have l14_ := lI125
   have l15_ := lI32
   have l16_ := lI60
   have l17_ := lI62
   have l18_ := lI34
   have l19_ := lI123
   have l20_ := lI124
   omega
  ·
   exfalso
   have q1_ := ltI g32
   have q2_ := nltI g33
   have q3_ := eqI g34
   have q4_ := ltI g778
   have q5_ := neI g779
   have q6_ := neI g780
   have q7_ := neI g781
   have q8_ := neI g782
   have q9_ := neI g783
   have q10_ := neI g784
   have q11_ := eqI g785
   have l12_ := rng32 i0
   have l13_ := lI128
   have l14_ := lI0
   have l15_ := lI125
   have l16_ := lI32
   have l17_ := lI60
   have l18_ := lI62
   have l19_ := lI34
   have l20_ := lI123
   have l21_ := lI124
   have l22_ := lI94
   omega
  ·
   exfalso
   have q1_ := ltI g32
   have q2_ := nltI g33
   have q3_ := eqI g34
   have q4_ := ltI g786
   have q5_ := neI g787
   have q6_ := neI g788
   have q7_ := neI g789
   have q8_ := neI g790
   have q9_ := neI g791
   have q10_ := neI g792
   have q11_ := neI g793
   have q12_ := eqI g794
   have l13_ := rng32 i0
   have l14_ := lI128
   have l15_ := lI0
   have l16_ := lI125
   have l17_ := lI32
   have l18_ := lI60
   have l19_ := lI62
   have l20_ := lI34
   have l21_ := lI123
   have l22_ := lI124
   have l23_ := lI94
   have l24_ := lI96
   omega
  ·
   exfalso
   have q1_ := ltI g32
   have q2_ := nltI g33
   have q3_ := eqI g34
   have q4_ := ltI g795
   have q5_ := neI g796
   have q6_ := neI g797
   have q7_ := neI g798
   have q8_ := neI g799
   have q9_ := neI g800
   have q10_ := neI g801
   have q11_ := neI g802
   have q12_ := neI g803
   have q13_ := eqI g804
   have l14_ := rng32 i0
   have l15_ := lI128
   have l16_ := lI0
   have l17_ := lI125
   have l18_ := lI32
   have l19_ := lI60
   have l20_ := lI62
   have l21_ := lI34
   have l22_ := lI123
   have l23_ := lI124
   have l24_ := lI94
   have l25_ := lI96
   have l26_ := lI92
   omega
  ·
   exfalso
   have q1_ := ltI g32
   have q2_ := nltI g33
   have q3_ := eqI g34
   have q4_ := ltI g805
   have q5_ := neI g806
   have q6_ := neI g807
   have q7_ := neI g808
   have q8_ := neI g809
   have q9_ := neI g810
   have q10_ := neI g811
   have q11_ := neI g812
   have q12_ := neI g813
   have q13_ := neI g814
   have l14_ := rng32 i0
   have l15_ := lI128
   have l16_ := lI0
   have l17_ := lI125
   have l18_ := lI32
   have l19_ := lI60
   have l20_ := lI62
   have l21_ := lI34
   have l22_ := lI123
   have l23_ := lI124
   have l24_ := lI94
   have l25_ := lI96
   have l26_ := lI92
   omega
  ·
   exfalso
   have q1_ := ltI g32
   have q2_ := nltI g33
   have q3_ := eqI g34
   have q4_ := nltI g815
   have l5_ := rng32 i0
   have l6_ := lI128
   have l7_ := lI0
   have l8_ := lI125
   have l9_ := lI32
   omega
 ·
  have p818 : ∀ t, St p e below Tc2 (mkF m 4 #[.val (.int i0)] [(.int (0 : Int32))]) t → S0 t := fun t k => p1 t (stc2 t k)
  have p819 : ∀ t, St p e below Tc2 (mkF m 5 #[.val (.int i0)] [(.int i0), (.int (0 : Int32))]) t → S0 t := fun t k => p818 t (by
    show St p e below Tc2 (mkF m 4 #[.val (.int i0)] [(.int (0 : Int32))]) t
    refine XS.iloadN Xc2.here hx rfl (hb hby at_4) rfl ?_
    exact k)
  obtain ⟨_, _, ⟨Tc820, Lc820, kc820, nc820⟩, -, Xc820, ⟨Lcc820, hQc820, lc820, yc820, zc820⟩, stc820⟩ := Jvm.LawKit.callS Xc2 hx (y := M1) hown (mvT hZ (ww hw 6 rfl)) (mvT hZ (ww hw 7 rfl)) (mvT hZ (ww hw 8 rfl)) (mvT hZ (ww hw 9 rfl)) (by decide) (backOf (W := 1) (rm2_1 l Z a0 hw [] a_ASCII_NOT_ALLOWED clA i0 h0 n0 O0 HE' ) hZ (ww hw 9 rfl) (ww hw 8 rfl) (by decide) (by decide)) (g := (mkF m 5 #[.val (.int i0)] [(.int i0), (.int (0 : Int32))])) rfl (by rw [hml]; rfl) (argsL := [(.int i0)]) (rest := [(.int (0 : Int32))]) (lenOf pd0 rfl) rfl (by show 2 * 0 + _ ≤ _; exact Nat.le_of_eq rfl) (hb hby at_5) (fun _ _ => ⟨rfl, ec2, (by decide : 0 + 0 ≤ _), (by decide : 0 + 0 ≤ _)⟩)
  dsimp only [Pt.U, Pt.locs, Pt.cells, Pt.slots] at Xc820 lc820 yc820 zc820 stc820 hQc820
  subst lc820 yc820 zc820
  obtain ⟨Nqc820, ec820, hAc820⟩ := hQc820
  have Nc820 := Fr.app Nc2 Nqc820
  rcases hAc820 with ⟨rfl, g821, g822⟩ | ⟨rfl, g823, g824, g825⟩ | ⟨rfl, g826, g827, g828, g829⟩ | ⟨rfl, g830, g831, g832, g833, g834⟩ | ⟨rfl, g835, g836, g837, g838, g839, g840⟩ | ⟨rfl, g841, g842, g843, g844, g845, g846, g847⟩ | ⟨rfl, g848, g849, g850, g851, g852, g853, g854, g855⟩ | ⟨rfl, g856, g857, g858, g859, g860, g861, g862, g863, g864⟩ | ⟨rfl, g865, g866, g867, g868, g869, g870, g871, g872, g873, g874⟩ | ⟨rfl, g875, g876, g877, g878, g879, g880, g881, g882, g883, g884⟩ | ⟨rfl, g885⟩
  ·
   exfalso
   have q1_ := ltI g35
   have q2_ := nltI g36
   have q3_ := nltI g37
   have q4_ := neI g38
   have q5_ := neI g39
   have q6_ := neI g40
   have q7_ := neI g41
   have q8_ := neI g42
   have q9_ := neI g43
   have q10_ := neI g44
   have q11_ := neI g45
   have q12_ := neI g46
   have q13_ := ltI g821
   have q14_ := eqI g822
   have l15_ := rng32 i0
   have l16_ := lI128
   have l17_ := lI0
   have l18_ := lI33
   have l19_ := lI34
   have l20_ := lI60
   have l21_ := lI62
   have l22_ := lI92
   have l23_ := lI94
   have l24_ := lI96
   have l25_ := lI123
   have l26_ := lI124
   have l27_ := lI125
   have l28_ := lI32
   omega
  ·
   exfalso
   have q1_ := ltI g35
   have q2_ := nltI g36
   have q3_ := nltI g37
   have q4_ := neI g38
   have q5_ := neI g39
   have q6_ := neI g40
   have q7_ := neI g41
   have q8_ := neI g42
   have q9_ := neI g43
   have q10_ := neI g44
   have q11_ := neI g45
   have q12_ := neI g46
   have q13_ := ltI g823
   have q14_ := neI g824
   have q15_ := eqI g825
   have l16_ := rng32 i0
   have l17_ := lI128
   have l18_ := lI0
   have l19_ := lI33
   have l20_ := lI34
   have l21_ := lI60
   have l22_ := lI62
   have l23_ := lI92
   have l24_ := lI94
   have l25_ := lI96
   have l26_ := lI123
   have l27_ := lI124
   have l28_ := lI125
   have l29_ := lI32
   omega
  ·
   exfalso
   have q1_ := ltI g35
   have q2_ := nltI g36
   have q3_ := nltI g37
   have q4_ := neI g38
   have q5_ := neI g39
   have q6_ := neI g40
   have q7_ := neI g41
   have q8_ := neI g42
   have q9_ := neI g43
   have q10_ := neI g44
   have q11_ := neI g45
   have q12_ := neI g46
   have q13_ := ltI g826
   have q14_ := neI g827
   have q15_ := neI g828
   have q16_ := eqI g829
   have l17_ := rng32 i0
   have l18_ := lI128
   have l19_ := lI0
   have l20_ := lI33
   have l21_ := lI34
   have l22_ := lI60
   have l23_ := lI62
   have l24_ := lI92
   have l25_ := lI94
   have l26_ := lI96
   have l27_ := lI123
   have l28_ := lI124
   have l29_ := lI125
   have l30_ := lI32
   omega
  ·
   exfalso
   have q1_ := ltI g35
   have q2_ := nltI g36
   have q3_ := nltI g37
   have q4_ := neI g38
   have q5_ := neI g39
   have q6_ := neI g40
   have q7_ := neI g41
   have q8_ := neI g42
   have q9_ := neI g43
   have q10_ := neI g44
   have q11_ := neI g45
   have q12_ := neI g46
   have q13_ := ltI g830
   have q14_ := neI g831
   have q15_ := neI g832
   have q16_ := neI g833
   have q17_ := eqI g834
   have l18_ := rng32 i0
   have l19_ := lI128
   have l20_ := lI0
   have l21_ := lI33
   have l22_ := lI34
   have l23_ := lI60
   have l24_ := lI62
   have l25_ := lI92
   have l26_ := lI94
   have l27_ := lI96
   have l28_ := lI123
   have l29_ := lI124
   have l30_ := lI125
   have l31_ := lI32
   omega
  ·
   exfalso
   have q1_ := ltI g35
   have q2_ := nltI g36
   have q3_ := nltI g37
   have q4_ := neI g38
   have q5_ := neI g39
   have q6_ := neI g40
   have q7_ := neI g41
   have q8_ := neI g42
   have q9_ := neI g43
   have q10_ := neI g44
   have q11_ := neI g45
   have q12_ := neI g46
   have q13_ := ltI g835
   have q14_ := neI g836
   have q15_ := neI g837
   have q16_ := neI g838
   have q17_ := neI g839
   have q18_ := eqI g840
   have l19_ := rng32 i0
   have l20_ := lI128
   have l21_ := lI0
   have l22_ := lI33
   have l23_ := lI34
   have l24_ := lI60
   have l25_ := lI62
   have l26_ := lI92
   have l27_ := lI94
   have l28_ := lI96
   have l29_ := lI123
   have l30_ := lI124
   have l31_ := lI125
   have l32_ := lI32
   omega
  ·
   exfalso
   have q1_ := ltI g35
   have q2_ := nltI g36
   have q3_ := nltI g37
   have q4_ := neI g38
   have q5_ := neI g39
   have q6_ := neI g40
   have q7_ := neI g41
   have q8_ := neI g42
   have q9_ := neI g43
   have q10_ := neI g44
   have q11_ := neI g45
   have q12_ := neI g46
   have q13_ := ltI g841
   have q14_ := neI g842
   have q15_ := neI g843
   have q16_ := neI g844
   have q17_ := neI g845
   have q18_ := neI g846
   have q19_ := eqI g847
   have l20_ := rng32 i0
   have l21_ := lI128
   have l22_ := lI0
   have l23_ := lI33
   have l24_ := lI34
   have l25_ := lI60
   have l26_ := lI62
   have l27_ := lI92
   have l28_ := lI94
   have l29_ := lI96
   have l30_ := lI123
   have l31_ := lI124
   have l32_ := lI125
   have l33_ := lI32
   omega
  ·
   exfalso
   have q1_ := ltI g35
   have q2_ := nltI g36
   have q3_ := nltI g37
   have q4_ := neI g38
   have q5_ := neI g39
   have q6_ := neI g40
   have q7_ := neI g41
   have q8_ := neI g42
   have q9_ := neI g43
   have q10_ := neI g44
   have q11_ := neI g45
   have q12_ := neI g46
   have q13_ := ltI g848
   have q14_ := neI g849
   have q15_ := neI g850
   have q16_ := neI g851
   have q17_ := neI g852
   have q18_ := neI g853
   have q19_ := neI g854
   have q20_ := eqI g855
   have l21_ := rng32 i0
   have l22_ := lI128
   have l23_ := lI0
   have l24_ := lI33
   have l25_ := lI34
   have l26_ := lI60
   have l27_ := lI62
   have l28_ := lI92
   have l29_ := lI94
   have l30_ := lI96
   have l31_ := lI123
   have l32_ := lI124
   have l33_ := lI125
   have l34_ := lI32
   omega
  ·
   exfalso
   have q1_ := ltI g35
   have q2_ := nltI g36
   have q3_ := nltI g37
   have q4_ := neI g38
   have q5_ := neI g39
   have q6_ := neI g40
   have q7_ := neI g41
   have q8_ := neI g42
   have q9_ := neI g43
   have q10_ := neI g44
   have q11_ := neI g45
   have q12_ := neI g46
   have q13_ := ltI g856
   have q14_ := neI g857
   have q15_ := neI g858
   have q16_ := neI g859
   have q17_ := neI g860
   have q18_ := neI g861
   have q19_ := neI g862
   have q20_ := neI g863
   have q21_ := eqI g864
   have l22_ := rng32 i0
   have l23_ := lI128
   have l24_ := lI0
   have l25_ := lI33
   have l26_ := lI34
   have l27_ := lI60
   have l28_ := lI62
   have l29_ := lI92
   have l30_ := lI94
   have l31_ := lI96
   have l32_ := lI123
   have l33_ := lI124
   have l34_ := lI125
   have l35_ := lI32
   omega
  ·
   exfalso
   have q1_ := ltI g35
   have q2_ := nltI g36
   have q3_ := nltI g37
   have q4_ := neI g38
   have q5_ := neI g39
   have q6_ := neI g40
   have q7_ := neI g41
   have q8_ := neI g42
   have q9_ := neI g43
   have q10_ := neI g44
   have q11_ := neI g45
   have q12_ := neI g46
   have q13_ := ltI g865
   have q14_ := neI g866
   have q15_ := neI g867
   have q16_ := neI g868
   have q17_ := neI g869
   have q18_ := neI g870
   have q19_ := neI g871
   have q20_ := neI g872
   have q21_ := neI g873
   have q22_ := eqI g874
   have l23_ := rng32 i0
   have l24_ := lI128
   have l25_ := lI0
   have l26_ := lI33
   have l27_ := lI34
   have l28_ := lI60
   have l29_ := lI62
   have l30_ := lI92
   have l31_ := lI94
   have l32_ := lI96
   have l33_ := lI123
   have l34_ := lI124
   have l35_ := lI125
   have l36_ := lI32
   omega
  ·
   have p886 : ∀ t, St p e below Tc820 (mkF m 8 #[.val (.int i0)] [(.int (0 : Int32)), (.int (0 : Int32))]) t → S0 t := fun t k => p819 t (stc820 t k)
   have p887 : ∀ t, St p e below Tc820 (mkF m 16 #[.val (.int i0)] [(.int (1 : Int32))]) t → S0 t := fun t k => p886 t (by
     show St p e below Tc820 (mkF m 8 #[.val (.int i0)] [(.int (0 : Int32)), (.int (0 : Int32))]) t
     refine XS.icmpNo Xc820.here hx rfl (hb hby at_8) rfl (teq (by decide : (0 : Int32) = (0 : Int32))).2 ?_
     show St p e below Tc820 (mkF m 11 #[.val (.int i0)] []) t
     refine XT.iconstV Xc820.here hx rfl (1 : Int32) (hb hby at_11) (by decide) ?_
     show St p e below Tc820 (mkF m 12 #[.val (.int i0)] [(.int (1 : Int32))]) t
     refine XS.goto Xc820.here hx rfl (pc0 := 12) (pc' := 16) rfl (hb hby at_12) (by decide) (by decide) ?_
     exact k)
   obtain ⟨fs, hr, hrun, hended, hW, hsame⟩ := Xc820.leave (v := some (.int (1 : Int32))) (fun h => by rw [Bd.returns] at h; cases h)
   refine ⟨_, _, p887 _ ?_, hrun, hended, _, _, rfl, ?_, ⟨_, rfl⟩, hW, hsame.mono (by decide) (by decide)⟩
   · exact retOut Xc820 hx Bd.returns rfl (Or.inl ⟨rfl, by simp, _, rfl⟩) (hb hby at_16) hr
   · exact ⟨rfl, Nc820⟩
  ·
   exfalso
   have q1_ := ltI g35
   have q2_ := nltI g36
   have q3_ := nltI g37
   have q4_ := neI g38
   have q5_ := neI g39
   have q6_ := neI g40
   have q7_ := neI g41
   have q8_ := neI g42
   have q9_ := neI g43
   have q10_ := neI g44
   have q11_ := neI g45
   have q12_ := neI g46
   have q13_ := nltI g885
   have l14_ := rng32 i0
   have l15_ := lI128
   have l16_ := lI0
   have l17_ := lI33
   have l18_ := lI34
   have l19_ := lI60
   have l20_ := lI62
   have l21_ := lI92
   have l22_ := lI94
   have l23_ := lI96
   have l24_ := lI123
   have l25_ := lI124
   have l26_ := lI125
   have l27_ := lI32
   omega
 ·
  have p888 : ∀ t, St p e below Tc2 (mkF m 4 #[.val (.int i0)] [(.int (0 : Int32))]) t → S0 t := fun t k => p1 t (stc2 t k)
  have p889 : ∀ t, St p e below Tc2 (mkF m 5 #[.val (.int i0)] [(.int i0), (.int (0 : Int32))]) t → S0 t := fun t k => p888 t (by
    show St p e below Tc2 (mkF m 4 #[.val (.int i0)] [(.int (0 : Int32))]) t
    refine XS.iloadN Xc2.here hx rfl (hb hby at_4) rfl ?_
    exact k)
  obtain ⟨_, _, ⟨Tc890, Lc890, kc890, nc890⟩, -, Xc890, ⟨Lcc890, hQc890, lc890, yc890, zc890⟩, stc890⟩ := Jvm.LawKit.callS Xc2 hx (y := M1) hown (mvT hZ (ww hw 6 rfl)) (mvT hZ (ww hw 7 rfl)) (mvT hZ (ww hw 8 rfl)) (mvT hZ (ww hw 9 rfl)) (by decide) (backOf (W := 1) (rm2_1 l Z a0 hw [] a_ASCII_NOT_ALLOWED clA i0 h0 n0 O0 HE' ) hZ (ww hw 9 rfl) (ww hw 8 rfl) (by decide) (by decide)) (g := (mkF m 5 #[.val (.int i0)] [(.int i0), (.int (0 : Int32))])) rfl (by rw [hml]; rfl) (argsL := [(.int i0)]) (rest := [(.int (0 : Int32))]) (lenOf pd0 rfl) rfl (by show 2 * 0 + _ ≤ _; exact Nat.le_of_eq rfl) (hb hby at_5) (fun _ _ => ⟨rfl, ec2, (by decide : 0 + 0 ≤ _), (by decide : 0 + 0 ≤ _)⟩)
  dsimp only [Pt.U, Pt.locs, Pt.cells, Pt.slots] at Xc890 lc890 yc890 zc890 stc890 hQc890
  subst lc890 yc890 zc890
  obtain ⟨Nqc890, ec890, hAc890⟩ := hQc890
  have Nc890 := Fr.app Nc2 Nqc890
  rcases hAc890 with ⟨rfl, g891, g892⟩ | ⟨rfl, g893, g894, g895⟩ | ⟨rfl, g896, g897, g898, g899⟩ | ⟨rfl, g900, g901, g902, g903, g904⟩ | ⟨rfl, g905, g906, g907, g908, g909, g910⟩ | ⟨rfl, g911, g912, g913, g914, g915, g916, g917⟩ | ⟨rfl, g918, g919, g920, g921, g922, g923, g924, g925⟩ | ⟨rfl, g926, g927, g928, g929, g930, g931, g932, g933, g934⟩ | ⟨rfl, g935, g936, g937, g938, g939, g940, g941, g942, g943, g944⟩ | ⟨rfl, g945, g946, g947, g948, g949, g950, g951, g952, g953, g954⟩ | ⟨rfl, g955⟩
  ·
   exfalso
   have q1_ := nltI g47
   have q2_ := ltI g891
   have q3_ := eqI g892
   have l4_ := rng32 i0
   have l5_ := lI128
   have l6_ := lI32
   have l7_ := lI60
   omega
  ·
   exfalso
   have q1_ := nltI g47
   have q2_ := ltI g893
   have q3_ := neI g894
   have q4_ := eqI g895
   have l5_ := rng32 i0
   have l6_ := lI128
   have l7_ := lI32
   have l8_ := lI60
   have l9_ := lI62
   omega
  ·
   exfalso
   have q1_ := nltI g47
   have q2_ := ltI g896
   have q3_ := neI g897
   have q4_ := neI g898
   have q5_ := eqI g899
   have l6_ := rng32 i0
   have l7_ := lI128
   have l8_ := lI32
   have l9_ := lI60
   have l10_ := lI62
   have l11_ := lI34
   omega
  ·
   exfalso
   have q1_ := nltI g47
   have q2_ := ltI g900
   have q3_ := neI g901
   have q4_ := neI g902
   have q5_ := neI g903
   have q6_ := eqI g904
   have l7_ := rng32 i0
   have l8_ := lI128
   have l9_ := lI32
   have l10_ := lI60
   have l11_ := lI62
   have l12_ := lI34
   have l13_ := lI123
   omega
  ·
   exfalso
   have q1_ := nltI g47
   have q2_ := ltI g905
   have q3_ := neI g906
   have q4_ := neI g907
   have q5_ := neI g908
   have q6_ := neI g909
   have q7_ := eqI g910
   have l8_ := rng32 i0
   have l9_ := lI128
   have l10_ := lI32
   have l11_ := lI60
   have l12_ := lI62
   have l13_ := lI34
   have l14_ := lI123
   have l15_ := lI125
   omega
  ·
   exfalso
   have q1_ := nltI g47
   have q2_ := ltI g911
   have q3_ := neI g912
   have q4_ := neI g913
   have q5_ := neI g914
   have q6_ := neI g915
   have q7_ := neI g916
   have q8_ := eqI g917
   have l9_ := rng32 i0
   have l10_ := lI128
   have l11_ := lI32
   have l12_ := lI60
   have l13_ := lI62
   have l14_ := lI34
   have l15_ := lI123
   have l16_ := lI125
   have l17_ := lI124
   omega
  ·
   exfalso
   have q1_ := nltI g47
   have q2_ := ltI g918
   have q3_ := neI g919
   have q4_ := neI g920
   have q5_ := neI g921
   have q6_ := neI g922
   have q7_ := neI g923
   have q8_ := neI g924
   have q9_ := eqI g925
   have l10_ := rng32 i0
   have l11_ := lI128
   have l12_ := lI32
   have l13_ := lI60
   have l14_ := lI62
   have l15_ := lI34
   have l16_ := lI123
   have l17_ := lI125
   have l18_ := lI124
   have l19_ := lI94
   omega
  ·
   exfalso
   have q1_ := nltI g47
   have q2_ := ltI g926
   have q3_ := neI g927
   have q4_ := neI g928
   have q5_ := neI g929
   have q6_ := neI g930
   have q7_ := neI g931
   have q8_ := neI g932
   have q9_ := neI g933
   have q10_ := eqI g934
   have l11_ := rng32 i0
   have l12_ := lI128
   have l13_ := lI32
   have l14_ := lI60
   have l15_ := lI62
   have l16_ := lI34
   have l17_ := lI123
   have l18_ := lI125
   have l19_ := lI124
   have l20_ := lI94
   have l21_ := lI96
   omega
  ·
   exfalso
   have q1_ := nltI g47
   have q2_ := ltI g935
   have q3_ := neI g936
   have q4_ := neI g937
   have q5_ := neI g938
   have q6_ := neI g939
   have q7_ := neI g940
   have q8_ := neI g941
   have q9_ := neI g942
   have q10_ := neI g943
   have q11_ := eqI g944
   have l12_ := rng32 i0
   have l13_ := lI128
   have l14_ := lI32
   have l15_ := lI60
   have l16_ := lI62
   have l17_ := lI34
   have l18_ := lI123
   have l19_ := lI125
   have l20_ := lI124
   have l21_ := lI94
   have l22_ := lI96
   have l23_ := lI92
   omega
  ·
   have p956 : ∀ t, St p e below Tc890 (mkF m 8 #[.val (.int i0)] [(.int (0 : Int32)), (.int (0 : Int32))]) t → S0 t := fun t k => p889 t (stc890 t k)
   have p957 : ∀ t, St p e below Tc890 (mkF m 16 #[.val (.int i0)] [(.int (1 : Int32))]) t → S0 t := fun t k => p956 t (by
     show St p e below Tc890 (mkF m 8 #[.val (.int i0)] [(.int (0 : Int32)), (.int (0 : Int32))]) t
     refine XS.icmpNo Xc890.here hx rfl (hb hby at_8) rfl (teq (by decide : (0 : Int32) = (0 : Int32))).2 ?_
     show St p e below Tc890 (mkF m 11 #[.val (.int i0)] []) t
     refine XT.iconstV Xc890.here hx rfl (1 : Int32) (hb hby at_11) (by decide) ?_
     show St p e below Tc890 (mkF m 12 #[.val (.int i0)] [(.int (1 : Int32))]) t
     refine XS.goto Xc890.here hx rfl (pc0 := 12) (pc' := 16) rfl (hb hby at_12) (by decide) (by decide) ?_
     exact k)
   obtain ⟨fs, hr, hrun, hended, hW, hsame⟩ := Xc890.leave (v := some (.int (1 : Int32))) (fun h => by rw [Bd.returns] at h; cases h)
   refine ⟨_, _, p957 _ ?_, hrun, hended, _, _, rfl, ?_, ⟨_, rfl⟩, hW, hsame.mono (by decide) (by decide)⟩
   · exact retOut Xc890 hx Bd.returns rfl (Or.inl ⟨rfl, by simp, _, rfl⟩) (hb hby at_16) hr
   · exact ⟨rfl, Nc890⟩
  ·
   exfalso
   have q1_ := nltI g47
   have q2_ := nltI g955
   have l3_ := rng32 i0
   have l4_ := lI128
   have l5_ := lI32
   omega
set_option maxRecDepth 65536 in
set_option maxHeartbeats 40000000 in
theorem comes_1 {Post : Tables → Env → Array Value → State → Outcome → State → Prop} (hpost : ∀ tb e args s v u, (limb_1_1.after args s (.returned v) u = true ∧ limb_1_2.after args s (.returned v) u = true ∧ True) → FrameEnd s (.returned v) u (Jvm.fieldLocs frame_1_writes args s ++ Jvm.arrayLocs frame_1_arrays args s ++ Jvm.staticLocs frame_1_statics s) 0 0 → Post tb e args s (.returned v) u) :
    ArmFor flags0 classFile x code maxLocals ret World_1 tables_1 room_1 Calls_1 rest_1 Pre_1 Post := by
  intro l hfl _ _ p e ha hc hk s m args below hf hA hF happ hP
  obtain ⟨hcalls, hrest, hpre⟩ := hP
  obtain ⟨-, -, -, hnamed, -, -, -, hat⟩ := (Spec.applies_iff hf).mp happ
  obtain ⟨hg, hn⟩ := and_e (Cond.before_iff.mp (show (Jvm.Cond.and given_1 narrow_1).before args s = true from hpre))
  obtain ⟨hj1a, hj1b⟩ := and_e hg
  obtain ⟨w0, rfl⟩ : ∃ w0 : Value, args = #[w0] := by
    have hs : args.size = 1 := by simpa [Cond.value, given_1] using hj1a
    obtain ⟨L⟩ := args
    match L, hs with
    | [w0], _ => exact ⟨w0, rfl⟩
  have hw := fun d (hd : d ∈ tables_1) => atoms_spec (ws := Jvm.Cond.code x code maxLocals ret :: tables_1) hat d (List.mem_cons_of_mem _ hd)
  have hfit : Fit s := fun {y c} hc i hi => by
    obtain ⟨ha, rfl⟩ := Array.getElem?_eq_some_iff.mp hc
    have q := List.all_eq_true.mp ((Array.all_eq_true_iff_forall_mem.mp hF) _ (Array.getElem_mem ha)) i (List.mem_range.mpr hi)
    simpa [Array.getElem?_eq_getElem hi] using q
  obtain ⟨i0, ei0⟩ := is_v hj1b
  obtain rfl : w0 = (.int i0) := Option.some.inj ei0
  obtain ⟨hj2a, hj2b⟩ := and_e hn
  obtain ⟨hj3a, hj3b⟩ := and_e hj2b
  obtain ⟨hj4a, hj4b⟩ := and_e hj3b
  obtain ⟨hj5a, hj5b⟩ := and_e hj4b
  obtain ⟨hj6a, hj6b⟩ := and_e hj5b
  obtain ⟨hj7a, hj7b⟩ := and_e hj6b
  obtain ⟨hj8a, hj8b⟩ := and_e hj7b
  obtain ⟨hj9a, hj9b⟩ := and_e hj8b
  obtain ⟨hj10a, hj10b⟩ := and_e hj9b
  obtain ⟨hj11a, hj11b⟩ := and_e hj10b
  obtain ⟨hj12a, hj12b⟩ := and_e hj11b
  obtain ⟨hj13a, hj13b⟩ := and_e hj12b
  obtain ⟨hj14a, hj14b⟩ := and_e hj13b
  obtain ⟨hj15a, hj15b⟩ := and_e hj14b
  obtain ⟨hj16a, hj16b⟩ := and_e hj15b
  obtain ⟨hj17a, hj17b⟩ := and_e hj16b
  obtain ⟨hj18a, hj18b⟩ := and_e hj17b
  obtain ⟨hj19a, hj19b⟩ := and_e hj18b
  obtain ⟨hj20a, hj20b⟩ := and_e hj19b
  obtain ⟨hj21a, hj21b⟩ := and_e hj20b
  have hn0 := hj2a
  have hn1 := hj3a
  have hn2 := hj4a
  have hn3 := hj5a
  have hn4 := hj6a
  have hn5 := hj7a
  have hn6 := hj8a
  have hn7 := hj9a
  have hn8 := hj10a
  have hn9 := hj11a
  have hn10 := hj12a
  have hn11 := hj13a
  have hn12 := hj14a
  have hn13 := hj15a
  have hn14 := hj16a
  have hn15 := hj17a
  have hn16 := hj18a
  have hn17 := hj19a
  have hn18 := hj20a
  have hn19 := hj21a
  have hn20 := hj21b
  obtain ⟨a_ASCII_NOT_ALLOWED, eva_ASCII_NOT_ALLOWED⟩ := arr_v hn0
  obtain ⟨cla_ASCII_NOT_ALLOWED, Ara_ASCII_NOT_ALLOWED⟩ := Arr.start eva_ASCII_NOT_ALLOWED hn0
  obtain ⟨k_ASCII_NOT_ALLOWED, hka_ASCII_NOT_ALLOWED⟩ : ∃ z, z = cla_ASCII_NOT_ALLOWED.cls := ⟨_, rfl⟩
  obtain ⟨hq31, hlen⟩ := own_len eva_ASCII_NOT_ALLOWED Ara_ASCII_NOT_ALLOWED (own_eqI hn1)
  have hT0 := Tab.start hfit Ara_ASCII_NOT_ALLOWED (Or.inr (Or.inl rfl)) hq31 hlen (by decide)
  have hsz : cla_ASCII_NOT_ALLOWED.slots.size = (128 : Int32).toNatClampNeg := hT0.2.1
  have hat0 : ∀ j : Int32, ¬ j < 0 → j < 128 → cla_ASCII_NOT_ALLOWED.slots[j.toNatClampNeg]? = some (.int (atv cla_ASCII_NOT_ALLOWED j)) := fun j n q => hT0.2.2.2 j (inb_of hsz ⟨n, q⟩)
  have hev : ∀ idx, (Jvm.Term.static "com/example/quadrille/quadrille/rdf/Iri" "ASCII_NOT_ALLOWED" "[Z").eval #[.int i0] s none idx s = some (.ref a_ASCII_NOT_ALLOWED) := fun idx => eva_ASCII_NOT_ALLOWED
  have hel : ∀ j : Int32, ¬ j < 0 → j < 128 → (Jvm.Term.elem (Jvm.Term.static "com/example/quadrille/quadrille/rdf/Iri" "ASCII_NOT_ALLOWED" "[Z") (Jvm.Term.index 0)).eval #[.int i0] s none [j.toNatClampNeg] s = some (.int (atv cla_ASCII_NOT_ALLOWED j)) := fun j n q => (elem_f (hev _) (idx_at n) (Ara_ASCII_NOT_ALLOWED.fin (Vm.Alike.refl _)) n).trans (hat0 j n q)
  have hbd : ∀ j : Int32, ¬ j < 0 → j < 128 → j.toNatClampNeg < cla_ASCII_NOT_ALLOWED.slots.size := fun j n q => Nat.lt_of_not_le fun z => inb_of hsz ⟨n, q⟩ (Or.inr z)
  have A33 : ∀ j : Int32, ¬ j < 0 → j < 128 → j < 33 → atv cla_ASCII_NOT_ALLOWED j = 1 := fun j n q z => by
    rcases or_e2 (Cond.le_ints (Term.int_eval 33) (idx_at n)) (Cond.eq_ints (hel j n q) (Term.int_eval 1)) (Cond.all_elim eva_ASCII_NOT_ALLOWED (Ara_ASCII_NOT_ALLOWED.fin (Vm.Alike.refl _)) hn2 j.toNatClampNeg (hbd j n q)) with h | h
    · exact absurd z (Int32.not_lt.mpr h)
    · exact h
  have B33 : atv cla_ASCII_NOT_ALLOWED 33 = 0 := atv_of (elem_in (own_eqI hn3) eva_ASCII_NOT_ALLOWED (Term.int_eval 33) Ara_ASCII_NOT_ALLOWED.1).2
  have B34 : atv cla_ASCII_NOT_ALLOWED 34 = 1 := atv_of (elem_in (own_eqI hn4) eva_ASCII_NOT_ALLOWED (Term.int_eval 34) Ara_ASCII_NOT_ALLOWED.1).2
  have R35 : ∀ j : Int32, ¬ j < 0 → j < 128 → ¬ j < 35 → j < 60 → atv cla_ASCII_NOT_ALLOWED j = 0 := fun j n q z1 z2 => by
    rcases or3 (Cond.all_elim eva_ASCII_NOT_ALLOWED (Ara_ASCII_NOT_ALLOWED.fin (Vm.Alike.refl _)) hn5 j.toNatClampNeg (hbd j n q)) (Cond.lt_ints (idx_at n) (Term.int_eval 35)) (Cond.le_ints (Term.int_eval 60) (idx_at n)) (Cond.eq_ints (hel j n q) (Term.int_eval 0)) with h | h | h
    · exact absurd h z1
    · exact absurd z2 h
    · exact h
  have B60 : atv cla_ASCII_NOT_ALLOWED 60 = 1 := atv_of (elem_in (own_eqI hn6) eva_ASCII_NOT_ALLOWED (Term.int_eval 60) Ara_ASCII_NOT_ALLOWED.1).2
  have B61 : atv cla_ASCII_NOT_ALLOWED 61 = 0 := atv_of (elem_in (own_eqI hn7) eva_ASCII_NOT_ALLOWED (Term.int_eval 61) Ara_ASCII_NOT_ALLOWED.1).2
  have B62 : atv cla_ASCII_NOT_ALLOWED 62 = 1 := atv_of (elem_in (own_eqI hn8) eva_ASCII_NOT_ALLOWED (Term.int_eval 62) Ara_ASCII_NOT_ALLOWED.1).2
  have R63 : ∀ j : Int32, ¬ j < 0 → j < 128 → ¬ j < 63 → j < 92 → atv cla_ASCII_NOT_ALLOWED j = 0 := fun j n q z1 z2 => by
    rcases or3 (Cond.all_elim eva_ASCII_NOT_ALLOWED (Ara_ASCII_NOT_ALLOWED.fin (Vm.Alike.refl _)) hn9 j.toNatClampNeg (hbd j n q)) (Cond.lt_ints (idx_at n) (Term.int_eval 63)) (Cond.le_ints (Term.int_eval 92) (idx_at n)) (Cond.eq_ints (hel j n q) (Term.int_eval 0)) with h | h | h
    · exact absurd h z1
    · exact absurd z2 h
    · exact h
  have B92 : atv cla_ASCII_NOT_ALLOWED 92 = 1 := atv_of (elem_in (own_eqI hn10) eva_ASCII_NOT_ALLOWED (Term.int_eval 92) Ara_ASCII_NOT_ALLOWED.1).2
  have B93 : atv cla_ASCII_NOT_ALLOWED 93 = 0 := atv_of (elem_in (own_eqI hn11) eva_ASCII_NOT_ALLOWED (Term.int_eval 93) Ara_ASCII_NOT_ALLOWED.1).2
  have B94 : atv cla_ASCII_NOT_ALLOWED 94 = 1 := atv_of (elem_in (own_eqI hn12) eva_ASCII_NOT_ALLOWED (Term.int_eval 94) Ara_ASCII_NOT_ALLOWED.1).2
  have B95 : atv cla_ASCII_NOT_ALLOWED 95 = 0 := atv_of (elem_in (own_eqI hn13) eva_ASCII_NOT_ALLOWED (Term.int_eval 95) Ara_ASCII_NOT_ALLOWED.1).2
  have B96 : atv cla_ASCII_NOT_ALLOWED 96 = 1 := atv_of (elem_in (own_eqI hn14) eva_ASCII_NOT_ALLOWED (Term.int_eval 96) Ara_ASCII_NOT_ALLOWED.1).2
  have R97 : ∀ j : Int32, ¬ j < 0 → j < 128 → ¬ j < 97 → j < 123 → atv cla_ASCII_NOT_ALLOWED j = 0 := fun j n q z1 z2 => by
    rcases or3 (Cond.all_elim eva_ASCII_NOT_ALLOWED (Ara_ASCII_NOT_ALLOWED.fin (Vm.Alike.refl _)) hn15 j.toNatClampNeg (hbd j n q)) (Cond.lt_ints (idx_at n) (Term.int_eval 97)) (Cond.le_ints (Term.int_eval 123) (idx_at n)) (Cond.eq_ints (hel j n q) (Term.int_eval 0)) with h | h | h
    · exact absurd h z1
    · exact absurd z2 h
    · exact h
  have B123 : atv cla_ASCII_NOT_ALLOWED 123 = 1 := atv_of (elem_in (own_eqI hn16) eva_ASCII_NOT_ALLOWED (Term.int_eval 123) Ara_ASCII_NOT_ALLOWED.1).2
  have B124 : atv cla_ASCII_NOT_ALLOWED 124 = 1 := atv_of (elem_in (own_eqI hn17) eva_ASCII_NOT_ALLOWED (Term.int_eval 124) Ara_ASCII_NOT_ALLOWED.1).2
  have B125 : atv cla_ASCII_NOT_ALLOWED 125 = 1 := atv_of (elem_in (own_eqI hn18) eva_ASCII_NOT_ALLOWED (Term.int_eval 125) Ara_ASCII_NOT_ALLOWED.1).2
  have B126 : atv cla_ASCII_NOT_ALLOWED 126 = 0 := atv_of (elem_in (own_eqI hn19) eva_ASCII_NOT_ALLOWED (Term.int_eval 126) Ara_ASCII_NOT_ALLOWED.1).2
  have B127 : atv cla_ASCII_NOT_ALLOWED 127 = 0 := atv_of (elem_in (own_eqI hn20) eva_ASCII_NOT_ALLOWED (Term.int_eval 127) Ara_ASCII_NOT_ALLOWED.1).2
  have hTab : ∀ j : Int32, ¬ (j < (0 : Int32)) → j < (128 : Int32) → own_tab cla_ASCII_NOT_ALLOWED j := fun j n q => own_tab_of (hat0 j n q) n q (A33 j n q) B34 B60 B62 B92 B94 B96 B123 B124 B125 B33 B61 B93 B95 B126 B127 (R35 j n q) (R63 j n q) (R97 j n q)
  obtain ⟨n, o, h1, h2, h3, _, L, rfl, ⟨rfl, N⟩, hq⟩ := rm0 l s _ hw tables_1 a_ASCII_NOT_ALLOWED _ i0 s.heap s.heap.size (Old.start s) ⟨(Sta.start eva_ASCII_NOT_ALLOWED (Or.inr ⟨(ww hw 2 rfl), (ww hw 5 rfl)⟩)), Ara_ASCII_NOT_ALLOWED, hsz, hTab⟩ p e ha hc hk s m _ below hf ((Spec.applies_iff_loose hf).mp happ).1 ⟨rfl, State.Warmed39.refl s, rfl⟩ trivial
  refine ⟨n, _, h1, h2, h3, hpost _ _ _ _ _ _ ⟨Cond.after_iff.mpr rfl, Cond.after_iff.mpr (eq_i res_at (Term.int_eval (1)) rfl), trivial⟩ ⟨hq.1, hq.2.1, (hq.2.2.sift fun y hy => Or.inr (N y hy)).mono (by decide) (by decide)⟩⟩
theorem main_1_1 : Claimed_1_1 := comes_1 fun _ _ _ _ _ _ h hF => ⟨h.1, hF⟩
theorem main_1_2 : Claimed_1_2 := comes_1 fun _ _ _ _ _ _ h hF => ⟨h.2.1, hF⟩
end Jvm.Pilot.@@N@@
namespace Jvm.Pilot.@@N@@
open Jvm Jvm.ClassFile Sem Op Lib Jvm.Free Jvm.Stand Jvm.Pilot.@@N@@.Jvm.D
/-! MADE BY PROGRAM (witnessworld.py) out of the Statement's table words and the real class files: 13 classes; the members and pool entries that the words name. The judged class is class 1, her method 1. -/
namespace start1
open Jvm.ClassFile
def u (s : String) : CpInfo := .utf8 (stringToUtf16 s)
/-- a pool by its gaps: so many unusable entries, then the entry; so many at the end -/
def gap : Nat → List CpInfo → List CpInfo
  | 0, r => r
  | n + 1, r => .unusable :: gap n r
def poolList (es : List (Nat × CpInfo)) (last : Nat) : List CpInfo := es.foldr (fun e r => gap e.1 (e.2 :: r)) (gap last [])
def pool (es : List (Nat × CpInfo)) (last : Nat) : Array CpInfo := ⟨poolList es last⟩
def fileOf (pool : Array CpInfo) (this : Nat) (attrs : Array Attribute := #[]) (ms : Array MethodInfo := #[]) (fl : Nat := 33) (sup : Nat := 0) (ifs : Array Nat := #[]) (fds : Array FieldInfo := #[]) : ClassFile where
  minorVersion := 0
  majorVersion := 65
  constantPool := pool
  accessFlags := fl
  thisClass := this
  superClass := sup
  interfaces := ifs
  fields := fds
  methods := ms
  attributes := attrs
def plain (name : String) (sup : Option ClassId) : Class where
  name := name
  kind := .ordinary
  loader := none
  accessFlags := 33
  super := sup
  interfaces := #[]
  cf := none
  fields := #[]
  methods := #[]
  instanceTypes := #[]
  staticTypes := #[]
  resolved := #[]
  callSites := []
  init := .initialized
  statics := none
  mirror := none

def pool0 : Array CpInfo := pool [(5, u "<init>"), (0, u "()V"), (1, .class_ 10), (1, u "java/lang/Object")] 113

def k0m0 : Method := { name := "<init>", desc := "()V", sig := { parameters := [], returnType := none }, accessFlags := 1, code := none }
/-- java/lang/Object -/
def k0 : Class := { plain "java/lang/Object" none with
  accessFlags := 33
  interfaces := #[]
  cf := some (fileOf pool0 8 #[] #[{ accessFlags := 1, nameIndex := 5, descriptorIndex := 6, attributes := #[] }] 33 0 #[] #[])
  fields := #[]
  methods := #[k0m0]
  instanceTypes := #[]
  staticTypes := #[]
  resolved := Array.replicate 124 none
  statics := none }

def pool1 : Array CpInfo := pool [(2, .class_ 4), (1, u "java/lang/Object"), (0, u "<init>"), (0, u "()V"), (0, .methodref 8 9), (0, .class_ 10), (0, .nameAndType 11 12), (0, u "com/example/quadrille/quadrille/rdf/Iri"), (0, u "isNotAllowed"), (0, u "(I)Z"), (0, .methodref 14 15), (0, .class_ 16), (0, .nameAndType 17 12), (0, u "com/example/quadrille/quadrille/rdf/IriIsNotAllowedPinLaw"), (0, u "expected"), (2, u "law")] 3

def k1m0 : Method := { name := "<init>", desc := "()V", sig := { parameters := [], returnType := none }, accessFlags := 2, code := none }
def k1c1 : Code := { maxStack := 2, maxLocals := 1, code := code, exceptionTable := #[], attributes := #[] }
def k1m1 : Method := { name := "law", desc := "(I)Z", sig := { parameters := [.int], returnType := some .boolean }, accessFlags := 9, code := some k1c1 }
def k1c2 : Code := { maxStack := 2, maxLocals := 1, code := method_3_code, exceptionTable := #[], attributes := #[] }
def k1m2 : Method := { name := "expected", desc := "(I)Z", sig := { parameters := [.int], returnType := some .boolean }, accessFlags := 10, code := some k1c2 }
/-- com/example/quadrille/quadrille/rdf/IriIsNotAllowedPinLaw -/
def k1 : Class := { plain "com/example/quadrille/quadrille/rdf/IriIsNotAllowedPinLaw" (some 0) with
  accessFlags := 49
  interfaces := #[]
  cf := some (fileOf pool1 14 #[] #[{ accessFlags := 2, nameIndex := 5, descriptorIndex := 6, attributes := #[] }, { accessFlags := 9, nameIndex := 20, descriptorIndex := 12, attributes := #[] }, { accessFlags := 10, nameIndex := 17, descriptorIndex := 12, attributes := #[] }] 49 2 #[] #[])
  fields := #[]
  methods := #[k1m0, k1m1, k1m2]
  instanceTypes := #[]
  staticTypes := #[]
  resolved := Array.replicate 24 none
  statics := none }

def pool2 : Array CpInfo := pool [(2, .class_ 4), (1, u "java/lang/Object"), (0, u "<init>"), (0, u "()V"), (0, .class_ 8), (0, u "java/lang/Record")] 13

def k2m0 : Method := { name := "<init>", desc := "()V", sig := { parameters := [], returnType := none }, accessFlags := 4, code := none }
/-- java/lang/Record -/
def k2 : Class := { plain "java/lang/Record" (some 0) with
  accessFlags := 1057
  interfaces := #[]
  cf := some (fileOf pool2 7 #[] #[{ accessFlags := 4, nameIndex := 5, descriptorIndex := 6, attributes := #[] }] 1057 2 #[] #[])
  fields := #[]
  methods := #[k2m0]
  instanceTypes := #[]
  staticTypes := #[]
  resolved := Array.replicate 22 none
  statics := none }

def pool3 : Array CpInfo := pool [(1, .class_ 2), (0, u "com/example/quadrille/quadrille/rdf/Term"), (0, .class_ 4), (0, u "java/lang/Object")] 11

/-- com/example/quadrille/quadrille/rdf/Term -/
def k3 : Class := { plain "com/example/quadrille/quadrille/rdf/Term" (some 0) with
  accessFlags := 1537
  interfaces := #[]
  cf := some (fileOf pool3 1 #[] #[] 1537 3 #[] #[])
  fields := #[]
  methods := #[]
  instanceTypes := #[]
  staticTypes := #[]
  resolved := Array.replicate 16 none
  statics := none }

def pool4 : Array CpInfo := pool [(2, .class_ 4), (1, u "java/lang/Record"), (3, u "value"), (7, .class_ 18), (1, u "com/example/quadrille/quadrille/rdf/Iri"), (0, u "Ljava/lang/String;"), (21, u "isNotAllowed"), (0, u "(I)Z"), (48, .fieldref 16 92), (0, .nameAndType 93 94), (0, u "ASCII_NOT_ALLOWED"), (0, u "[Z"), (39, u "COMPONENTS"), (0, u "Ljava/util/regex/Pattern;"), (89, .class_ 226), (0, u "com/example/quadrille/quadrille/rdf/Term"), (0, u "NOT_ALLOWED")] 46

def k4c0 : Code := { maxStack := 2, maxLocals := 1, code := prog_6_method_6_code, exceptionTable := #[], attributes := #[] }
def k4m0 : Method := { name := "isNotAllowed", desc := "(I)Z", sig := { parameters := [.int], returnType := some .boolean }, accessFlags := 8, code := some k4c0 }
/-- com/example/quadrille/quadrille/rdf/Iri -/
def k4 : Class := { plain "com/example/quadrille/quadrille/rdf/Iri" (some 2) with
  accessFlags := 49
  interfaces := #[3]
  cf := some (fileOf pool4 16 #[] #[{ accessFlags := 8, nameIndex := 41, descriptorIndex := 42, attributes := #[] }] 49 2 #[225] #[{ accessFlags := 18, nameIndex := 8, descriptorIndex := 19, attributes := #[] }, { accessFlags := 26, nameIndex := 227, descriptorIndex := 19, attributes := #[] }, { accessFlags := 26, nameIndex := 93, descriptorIndex := 94, attributes := #[] }, { accessFlags := 26, nameIndex := 134, descriptorIndex := 135, attributes := #[] }])
  fields := #[{ name := "value", type := (.object "java/lang/String"), accessFlags := 18, slot := 0, constantValue := 0 }, { name := "NOT_ALLOWED", type := (.object "java/lang/String"), accessFlags := 26, slot := 0, constantValue := 0 }, { name := "ASCII_NOT_ALLOWED", type := (.array .boolean), accessFlags := 26, slot := 1, constantValue := 0 }, { name := "COMPONENTS", type := (.object "java/util/regex/Pattern"), accessFlags := 26, slot := 2, constantValue := 0 }]
  methods := #[k4m0]
  instanceTypes := #[(.object "java/lang/String")]
  staticTypes := #[(.object "java/lang/String"), (.array .boolean), (.object "java/util/regex/Pattern")]
  resolved := Array.replicate 274 none
  statics := some 0 }

def pool5 : Array CpInfo := pool [(1, u "java/lang/Cloneable"), (0, .class_ 1), (0, u "java/lang/Object"), (0, .class_ 3)] 3

/-- java/lang/Cloneable -/
def k5 : Class := { plain "java/lang/Cloneable" (some 0) with
  accessFlags := 1537
  interfaces := #[]
  cf := some (fileOf pool5 2 #[] #[] 1537 4 #[] #[])
  fields := #[]
  methods := #[]
  instanceTypes := #[]
  staticTypes := #[]
  resolved := Array.replicate 8 none
  statics := none }

def pool6 : Array CpInfo := pool [(1, u "java/io/Serializable"), (0, .class_ 1), (0, u "java/lang/Object"), (0, .class_ 3)] 3

/-- java/io/Serializable -/
def k6 : Class := { plain "java/io/Serializable" (some 0) with
  accessFlags := 1537
  interfaces := #[]
  cf := some (fileOf pool6 2 #[] #[] 1537 4 #[] #[])
  fields := #[]
  methods := #[]
  instanceTypes := #[]
  staticTypes := #[]
  resolved := Array.replicate 8 none
  statics := none }

/-- the primitive boolean -/
def k7 : Class := { plain "boolean" none with kind := .primitive 'Z', accessFlags := 0x411 }
/-- [Z -/
def k8 : Class := { plain "[Z" (some 0) with kind := .array 7 .boolean, interfaces := #[5, 6], accessFlags := 1041 }

/-- the primitive byte -/
def k9 : Class := { plain "byte" none with kind := .primitive 'B', accessFlags := 0x411 }
/-- [B -/
def k10 : Class := { plain "[B" (some 0) with kind := .array 9 .byte, interfaces := #[5, 6], accessFlags := 1041 }

/-- the primitive int -/
def k11 : Class := { plain "int" none with kind := .primitive 'I', accessFlags := 0x411 }
/-- [I -/
def k12 : Class := { plain "[I" (some 0) with kind := .array 11 .int, interfaces := #[5, 6], accessFlags := 1041 }

def heap : Heap := #[{ cls := 4, slots := #[.null, .ref 1, .null], vm := .statics 4 },
  { cls := 8, slots := #[.int 1, .int 1, .int 1, .int 1, .int 1, .int 1, .int 1, .int 1, .int 1, .int 1, .int 1, .int 1, .int 1, .int 1, .int 1, .int 1, .int 1, .int 1, .int 1, .int 1, .int 1, .int 1, .int 1, .int 1, .int 1, .int 1, .int 1, .int 1, .int 1, .int 1, .int 1, .int 1, .int 1, .int 0, .int 1, .int 0, .int 0, .int 0, .int 0, .int 0, .int 0, .int 0, .int 0, .int 0, .int 0, .int 0, .int 0, .int 0, .int 0, .int 0, .int 0, .int 0, .int 0, .int 0, .int 0, .int 0, .int 0, .int 0, .int 0, .int 0, .int 1, .int 0, .int 1, .int 0, .int 0, .int 0, .int 0, .int 0, .int 0, .int 0, .int 0, .int 0, .int 0, .int 0, .int 0, .int 0, .int 0, .int 0, .int 0, .int 0, .int 0, .int 0, .int 0, .int 0, .int 0, .int 0, .int 0, .int 0, .int 0, .int 0, .int 0, .int 0, .int 1, .int 0, .int 1, .int 0, .int 1, .int 0, .int 0, .int 0, .int 0, .int 0, .int 0, .int 0, .int 0, .int 0, .int 0, .int 0, .int 0, .int 0, .int 0, .int 0, .int 0, .int 0, .int 0, .int 0, .int 0, .int 0, .int 0, .int 0, .int 0, .int 0, .int 0, .int 1, .int 1, .int 1, .int 0, .int 0], vm := .none }]
def classes : Array Class := #[k0, k1, k2, k3, k4, k5, k6, k7, k8, k9, k10, k11, k12]
def interned : List (Array UInt16 × Addr) := []
def slotsUsed : Nat := 131
def theMethod : MethodId := ⟨1, 1⟩
def args0 : Array Value := #[.int 5]
def aboutOver (below : List Frame) : State where
  vm := { classes := classes, interned := interned.toArray }
  heap := heap
  slotsUsed := slotsUsed
  threads := #[{ frames := .invoking theMethod args0 :: below }]
def below0 : List Frame := [.native { method := ⟨0, 0⟩, args := #[] }]
def about1 : State := aboutOver below0
def p0 : Program := .bare "" "" ""
def e0 : Env := launch0.env 0 0 0
theorem w_frames : about1.frames = Frame.invoking theMethod args0 :: below0 := rfl
set_option maxRecDepth 65536 in
theorem w_args : argsFit about1.vm theMethod args0 = true := by decide +kernel
set_option maxRecDepth 65536 in
theorem w_heap : heapFits about1 = true := by decide +kernel
set_option maxRecDepth 65536 in
theorem w_runnable : about1.curStatus? = some .runnable := by decide +kernel
set_option maxRecDepth 65536 in
theorem w_alone : about1.alone = true := by decide +kernel
set_option maxRecDepth 65536 in
theorem w_named : about1.methodNamed? x = some theMethod := by decide +kernel
set_option maxRecDepth 65536 in
theorem w_hears : about1.hears theMethod below0 = true := by decide +kernel
set_option maxRecDepth 65536 in
theorem w_ripe : about1.ripe theMethod args0 below0 = true := by decide +kernel
theorem w_running : about1.status = .running := rfl
set_option maxRecDepth 65536 in
theorem w_room : about1.hasRoom e0.platform room_1 = true :=
  launch0.hasRoom_least _ room_1 (by decide +kernel) (by decide +kernel) (by decide +kernel) (by decide +kernel) (by decide +kernel) (by decide +kernel)
theorem allAtoms_all (ts : List Jvm.Cond) (a : Array Jvm.Value) (st : Jvm.State) : (allAtoms ts).before a st = ts.all (fun c => c.before a st) := by
  induction ts with
  | nil => rfl
  | cons c t ih =>
    show (Jvm.Cond.and c (allAtoms t)).before a st = _
    rw [Jvm.Cond.before_and, ih, List.all_cons]
def words1 : List Jvm.Cond := Jvm.Cond.code x code maxLocals ret :: tables_1
/-- a 'code' word, met by the world's own term for the bytes: nothing is compared byte by byte -/
theorem code_word {y : MethodName} {bytes : ByteArray} {mx : Nat} {rt : Option FieldType} {a : Array Value} {s : State} {m : MethodId} {meth : Method} {c : Code} (h1 : s.methodNamed? y = some m) (h2 : s.vm.method? m = some meth) (h3 : meth.code = some c) (h4 : c.code = bytes)
    (h5 : (c.maxLocals == mx && c.exceptionTable.isEmpty && decide (c.maxStack ≤ mostOperands) && decide (meth.sig.returnType = rt) && !meth.locks && decide (parseMethodDescriptor y.desc = some meth.sig)) = true) : (Jvm.Cond.code y bytes mx rt).before a s = true := by
  simp only [Bool.and_eq_true, beq_iff_eq, Bool.not_eq_true', decide_eq_true_eq] at h5
  obtain ⟨⟨⟨⟨⟨g1, g2⟩, g3⟩, g4⟩, g5⟩, g6⟩ := h5
  simp [Cond.before, Cond.holds, Cond.value, h1, h2, h3, h4, g1, g2, g3, g4, g5, g6]
def isCode : Jvm.Cond → Bool
  | .code _ _ _ _ => true
  | _ => false
theorem all_split {L : List Jvm.Cond} {P : Jvm.Cond → Bool} (h1 : L.all (fun c => isCode c || P c) = true) (h2 : ∀ c ∈ L.filter isCode, P c = true) : L.all P = true := by
  refine List.all_eq_true.mpr fun c hc => ?_
  have h := List.all_eq_true.mp h1 c hc
  rcases Bool.eq_false_or_eq_true (isCode c) with hi | hi
  · exact h2 c (List.mem_filter.mpr ⟨hc, hi⟩)
  · simpa [hi] using h
set_option maxRecDepth 65536 in
theorem w_c0 : (Jvm.Cond.code x code maxLocals ret).before args0 about1 = true := code_word (m := ⟨1, 1⟩) (meth := k1m1) (c := k1c1) (by decide +kernel) rfl rfl rfl (by decide +kernel)
set_option maxRecDepth 65536 in
theorem w_c1 : (Jvm.Cond.code ({ cls := "com/example/quadrille/quadrille/rdf/Iri", name := "isNotAllowed", desc := "(I)Z" } : Jvm.MethodName) prog_6_method_6_code (1 : Nat) (Option.some Jvm.ClassFile.FieldType.boolean)).before args0 about1 = true := code_word (m := ⟨4, 0⟩) (meth := k4m0) (c := k4c0) (by decide +kernel) rfl rfl rfl (by decide +kernel)
set_option maxRecDepth 65536 in
theorem w_c2 : (Jvm.Cond.code ({ cls := "com/example/quadrille/quadrille/rdf/IriIsNotAllowedPinLaw", name := "expected", desc := "(I)Z" } : Jvm.MethodName) method_3_code (1 : Nat) (Option.some Jvm.ClassFile.FieldType.boolean)).before args0 about1 = true := code_word (m := ⟨1, 2⟩) (meth := k1m2) (c := k1c2) (by decide +kernel) rfl rfl rfl (by decide +kernel)
def codes1 : List Jvm.Cond := [Jvm.Cond.code x code maxLocals ret, Jvm.Cond.code ({ cls := "com/example/quadrille/quadrille/rdf/Iri", name := "isNotAllowed", desc := "(I)Z" } : Jvm.MethodName) prog_6_method_6_code (1 : Nat) (Option.some Jvm.ClassFile.FieldType.boolean), Jvm.Cond.code ({ cls := "com/example/quadrille/quadrille/rdf/IriIsNotAllowedPinLaw", name := "expected", desc := "(I)Z" } : Jvm.MethodName) method_3_code (1 : Nat) (Option.some Jvm.ClassFile.FieldType.boolean)]
set_option maxRecDepth 65536 in
theorem codes_eq : words1.filter isCode = codes1 := rfl
theorem w_codes : ∀ c ∈ words1.filter isCode, c.before args0 about1 = true := by
  rw [codes_eq]
  intro c hc
  simp only [codes1, List.mem_cons, List.not_mem_nil, or_false] at hc
  rcases hc with rfl | rfl | rfl
  · exact w_c0
  · exact w_c1
  · exact w_c2
set_option maxRecDepth 65536 in
theorem w_t1 : words1.all (fun c => isCode c || c.before args0 about1) = true := by decide +kernel
theorem w_tables : (allAtoms (Jvm.Cond.code x code maxLocals ret :: tables_1)).before args0 about1 = true := by
  rw [allAtoms_all]
  show words1.all (fun c => c.before args0 about1) = true
  refine all_split ?_ w_codes
  rw [w_t1]
set_option maxRecDepth 65536 in
theorem w_case : (Jvm.Cond.and given_1 narrow_1).before args0 about1 = true := by decide +kernel
theorem w_applies : (headSpec (Jvm.Cond.code x code maxLocals ret :: tables_1) room_1).applies x e0.platform about1 = true :=
  (Spec.applies_iff w_frames).mpr ⟨w_running, w_runnable, w_alone, w_named, w_hears, w_ripe, w_room, w_tables⟩
theorem atStart : AtStart classFile x code maxLocals ret World_1 tables_1 room_1 Calls_1 rest_1 Pre_1 launch0 p0 e0 about1 theMethod args0 below0 :=
  ⟨lists_1, trivial, launch0.admits_env _ _ _, launch0.least_env, fairChoices_fair.cas, fairChoices_fair.clock, w_frames, w_args, w_heap, w_applies, trivial, trivial, w_case⟩
end start1
theorem witness_1 : WitnessClaimed_1 := ⟨start1.p0, start1.e0, start1.about1, start1.theMethod, start1.args0, start1.below0, start1.atStart⟩
end Jvm.Pilot.@@N@@
