import JvmDerived
import JvmDerived.Pilot.@@N@@Statement
import JvmDerived.Pilot.@@N@@Code
set_option linter.unusedVariables false
set_option linter.unusedSimpArgs false
namespace Jvm.Pilot.@@N@@
open Jvm Jvm.ClassFile Sem Op Lib Jvm.Free Jvm.Stand Jvm.LawKit Jvm.RoadKit Bundle Jvm.Pilot.@@N@@.Jvm.D
abbrev St (p : Program) (e : Env) (below : List Frame) (T : State) (g : JFrame) (t : State) : Prop := Steps p.tables e below (T.setTop g) t
theorem ww {Z : State} {a0 : Array Value} (hw : ∀ d ∈ tables_1, d.before a0 Z = true) {d : Jvm.Cond} (i : Nat) (h : tables_1[i]? = some d) : d.before a0 Z = true := hw _ (List.mem_of_getElem? h)
theorem ltI {a b : Int32} (h : a < b) : a.toInt < b.toInt := Int32.lt_iff_toInt_lt.mp h
theorem nltI {a b : Int32} (h : ¬ a < b) : ¬ a.toInt < b.toInt := mt Int32.lt_iff_toInt_lt.mpr h
theorem eqI {a b : Int32} (h : a = b) : a.toInt = b.toInt := congrArg Int32.toInt h
theorem neI {a b : Int32} (h : ¬ a = b) : ¬ a.toInt = b.toInt := mt Int32.toInt_inj.mp h
theorem ltJ {a b : Int64} (h : a < b) : a.toInt < b.toInt := Int64.lt_iff_toInt_lt.mp h
theorem nltJ {a b : Int64} (h : ¬ a < b) : ¬ a.toInt < b.toInt := mt Int64.lt_iff_toInt_lt.mpr h
theorem eqJ {a b : Int64} (h : a = b) : a.toInt = b.toInt := congrArg Int64.toInt h
theorem neJ {a b : Int64} (h : ¬ a = b) : ¬ a.toInt = b.toInt := mt Int64.toInt_inj.mp h
theorem own_eqI {args : Array Value} {s : State} {t : Term} {k : Int32} (h : (Jvm.Cond.eq t (.int k)).value args s none s [] = some true) : t.eval args s none [] s = some (.int k) := by
  obtain ⟨x, y, ex, ey, k1, k2⟩ := cmp_v (Or.inl h)
  obtain rfl : y = .int k := Option.some.inj (ey.symm.trans (Term.int_eval k))
  obtain ⟨z, rfl⟩ := k2
  rw [ex, gotT (Cond.eq_ints ex ey) h]
theorem own_eqJ {args : Array Value} {s : State} {t : Term} {k : Int64} (h : (Jvm.Cond.eq t (.long k)).value args s none s [] = some true) : t.eval args s none [] s = some (.long k) := by
  obtain ⟨x, y, ex, ey, k1, k2⟩ := cmp_v (Or.inl h)
  obtain rfl : y = .long k := Option.some.inj (ey.symm.trans (long_at k))
  obtain ⟨z, rfl⟩ := k2
  rw [ex, gotT (eq_L ex ey) h]
theorem own_eqR {args : Array Value} {s : State} {t u : Term} {b : Addr} (h : (Jvm.Cond.eq t u).value args s none s [] = some true) (hu : u.eval args s none [] s = some (.ref b)) : t.eval args s none [] s = some (.ref b) := by
  obtain ⟨x, y, ex, ey, k1, k2⟩ := cmp_v (Or.inl h)
  obtain rfl : y = .ref b := Option.some.inj (ey.symm.trans hu)
  have hx : x.isRef = true := k2.2
  rw [ex, gotT (eq_R ex ey hx rfl) h]
theorem own_len {args : Array Value} {s : State} {t : Term} {a : Addr} {cl : Cell} {ty : FieldType} {k : Int32} (ev : t.eval args s none [] s = some (.ref a)) (A : Arr s s.heap a cl ty) (h : (Term.length t).eval args s none [] s = some (.int k)) : cl.slots.size < 2 ^ 31 ∧ cl.slots.size.toInt32 = k := by
  have ha := A.fin (Vm.Alike.refl _)
  by_cases hl : cl.slots.size < 2 ^ 31
  · exact ⟨hl, Value.int.inj (Option.some.inj ((len_f ev ha hl).symm.trans h))⟩
  · exfalso; simp [Term.eval, ev, ha, hl] at h
theorem own_sel {Z : State} {a0 : Array Value} {y : MethodName} {n : Nat} (wi : (Jvm.Cond.instantiable y.cls n).before a0 Z = true) (wp : (Jvm.Cond.privateMethod y).before a0 Z = true) (wm : (Jvm.Cond.instanceMethod y).before a0 Z = true) (hy : y.cls ≠ "java/lang/invoke/MethodHandle" ∧ y.cls ≠ "java/lang/invoke/VarHandle") : (Jvm.Cond.selects y.cls y y).before a0 Z = true := by
  obtain ⟨c, k, h1, h2, h3, h4, -⟩ := Cond.instantiable_spec wi
  exact selects_self_of_private h1 h2 (by simp only [Bool.or_eq_false_iff] at h4; exact h4.1) (Cond.privateMethod_at wp) wm hy
def own_nz (x : Int64) : Int32 := if x = 0 then 0 else 1
theorem own_c_nz (x : Int64) : (x.toInt = 0 → (own_nz x).toInt = 0) ∧ (x.toInt ≠ 0 → (own_nz x).toInt = 1) := by
  unfold own_nz
  by_cases h : x = 0
  · subst h; exact ⟨fun _ => by decide, fun q => absurd (by decide) q⟩
  · rw [if_neg h]; exact ⟨fun q => absurd (Int64.toInt_inj.mp (q.trans (by decide : (0 : Int) = (0 : Int64).toInt))) h, fun _ => by decide⟩
theorem own_old_le {Z : State} {n0 : Nat} {h : Heap} (O : Old Z n0 h) : n0 ≤ h.size := O.1 ▸ O.2.1
abbrev M0 : MethodName := ⟨"com/example/quadrille/quadrille/sparql/FunctionTakesPinLaw", "pick", "(I)Lcom/example/quadrille/quadrille/sparql/Operators$Function;"⟩
abbrev M1 : MethodName := ⟨"com/example/quadrille/quadrille/sparql/Operators$Function", "takes", "(I)Z"⟩
abbrev M2 : MethodName := ⟨"com/example/quadrille/quadrille/sparql/FunctionTakesPinLaw", "expected", "(II)Z"⟩
theorem lI1 : (1 : Int32).toInt = 1 := by decide
theorem lI7 : (7 : Int32).toInt = 7 := by decide
theorem lI2 : (2 : Int32).toInt = 2 := by decide
theorem lI2147483647 : (2147483647 : Int32).toInt = 2147483647 := by decide
theorem lI5 : (5 : Int32).toInt = 5 := by decide
theorem lI0 : (0 : Int32).toInt = 0 := by decide
theorem lI3 : (3 : Int32).toInt = 3 := by decide
theorem lI4 : (4 : Int32).toInt = 4 := by decide
def Env1 (Z : State) (a_IS_IRI : Addr) (a_IS_BLANK : Addr) (a_REGEX : Addr) (a_STR : Addr) (a_IS_LITERAL : Addr) : Prop := Sta Z Z.heap "com/example/quadrille/quadrille/sparql/Operators$Function" "IS_IRI" "Lcom/example/quadrille/quadrille/sparql/Operators$Function;" (.ref a_IS_IRI) ∧
  Exa Z Z.heap a_IS_IRI "com/example/quadrille/quadrille/sparql/Operators$Function" ∧
  Fld Z Z.heap a_IS_IRI "com/example/quadrille/quadrille/sparql/Operators$Function" "minArguments" "I" (.int (1 : Int32)) ∧
  Fld Z Z.heap a_IS_IRI "com/example/quadrille/quadrille/sparql/Operators$Function" "maxArguments" "I" (.int (1 : Int32)) ∧
  Sta Z Z.heap "com/example/quadrille/quadrille/sparql/Operators$Function" "IS_BLANK" "Lcom/example/quadrille/quadrille/sparql/Operators$Function;" (.ref a_IS_BLANK) ∧
  Exa Z Z.heap a_IS_BLANK "com/example/quadrille/quadrille/sparql/Operators$Function" ∧
  Fld Z Z.heap a_IS_BLANK "com/example/quadrille/quadrille/sparql/Operators$Function" "minArguments" "I" (.int (1 : Int32)) ∧
  Fld Z Z.heap a_IS_BLANK "com/example/quadrille/quadrille/sparql/Operators$Function" "maxArguments" "I" (.int (1 : Int32)) ∧
  Sta Z Z.heap "com/example/quadrille/quadrille/sparql/Operators$Function" "REGEX" "Lcom/example/quadrille/quadrille/sparql/Operators$Function;" (.ref a_REGEX) ∧
  Exa Z Z.heap a_REGEX "com/example/quadrille/quadrille/sparql/Operators$Function" ∧
  Fld Z Z.heap a_REGEX "com/example/quadrille/quadrille/sparql/Operators$Function" "minArguments" "I" (.int (2 : Int32)) ∧
  Fld Z Z.heap a_REGEX "com/example/quadrille/quadrille/sparql/Operators$Function" "maxArguments" "I" (.int (3 : Int32)) ∧
  Sta Z Z.heap "com/example/quadrille/quadrille/sparql/Operators$Function" "STR" "Lcom/example/quadrille/quadrille/sparql/Operators$Function;" (.ref a_STR) ∧
  Exa Z Z.heap a_STR "com/example/quadrille/quadrille/sparql/Operators$Function" ∧
  Fld Z Z.heap a_STR "com/example/quadrille/quadrille/sparql/Operators$Function" "minArguments" "I" (.int (1 : Int32)) ∧
  Fld Z Z.heap a_STR "com/example/quadrille/quadrille/sparql/Operators$Function" "maxArguments" "I" (.int (1 : Int32)) ∧
  Sta Z Z.heap "com/example/quadrille/quadrille/sparql/Operators$Function" "IS_LITERAL" "Lcom/example/quadrille/quadrille/sparql/Operators$Function;" (.ref a_IS_LITERAL) ∧
  Exa Z Z.heap a_IS_LITERAL "com/example/quadrille/quadrille/sparql/Operators$Function" ∧
  Fld Z Z.heap a_IS_LITERAL "com/example/quadrille/quadrille/sparql/Operators$Function" "minArguments" "I" (.int (1 : Int32)) ∧
  Fld Z Z.heap a_IS_LITERAL "com/example/quadrille/quadrille/sparql/Operators$Function" "maxArguments" "I" (.int (1 : Int32))
theorem ef0 (m : MethodId) (x0 : Int32) (x1 : Int32) (x2 : Int32) : entryFrame m #[(.int x0), (.int x1), (.int x2)] maxLocals = mkF m 0 #[.val (.int x0), .val (.int x1), .val (.int x2), .unset, .unset, .unset, .unset, .unset] [] := by first | (simp [entryFrame, mkF, argsToLocals, Value.category, maxLocals]; done) | rfl
theorem pn0 : plainName "com/example/quadrille/quadrille/sparql/FunctionTakesPinLaw" = true := by first | (simp [plainName, overriddenIn]; done) | decide +kernel
theorem ef1 (m : MethodId) (x0 : Int32) : entryFrame m #[(.int x0)] 1 = mkF m 0 #[.val (.int x0)] [] := by first | (simp [entryFrame, mkF, argsToLocals, Value.category]; done) | rfl
theorem d1_0 : decode method_2_code 0 = .ok (.iload_n 0, 1) := by decide +kernel
theorem d1_1 : decode method_2_code 1 = .ok (.ifCond .ne 7, 3) := by decide +kernel
theorem d1_4 : decode method_2_code 4 = .ok (.getstatic 7, 3) := by decide +kernel
theorem d1_7 : decode method_2_code 7 = .ok (.areturn, 1) := by decide +kernel
theorem d1_8 : decode method_2_code 8 = .ok (.iload_n 0, 1) := by decide +kernel
theorem d1_9 : decode method_2_code 9 = .ok (.iconst 1, 1) := by decide +kernel
theorem d1_10 : decode method_2_code 10 = .ok (.if_icmp .ne 7, 3) := by decide +kernel
theorem d1_13 : decode method_2_code 13 = .ok (.getstatic 13, 3) := by decide +kernel
theorem d1_16 : decode method_2_code 16 = .ok (.areturn, 1) := by decide +kernel
theorem d1_17 : decode method_2_code 17 = .ok (.iload_n 0, 1) := by decide +kernel
theorem d1_18 : decode method_2_code 18 = .ok (.iconst 2, 1) := by decide +kernel
theorem d1_19 : decode method_2_code 19 = .ok (.if_icmp .ne 7, 3) := by decide +kernel
theorem d1_22 : decode method_2_code 22 = .ok (.getstatic 16, 3) := by decide +kernel
theorem d1_25 : decode method_2_code 25 = .ok (.areturn, 1) := by decide +kernel
theorem d1_26 : decode method_2_code 26 = .ok (.iload_n 0, 1) := by decide +kernel
theorem d1_27 : decode method_2_code 27 = .ok (.iconst 3, 1) := by decide +kernel
theorem d1_28 : decode method_2_code 28 = .ok (.if_icmp .ne 7, 3) := by decide +kernel
theorem d1_31 : decode method_2_code 31 = .ok (.getstatic 19, 3) := by decide +kernel
theorem d1_34 : decode method_2_code 34 = .ok (.areturn, 1) := by decide +kernel
theorem d1_35 : decode method_2_code 35 = .ok (.getstatic 22, 3) := by decide +kernel
theorem d1_38 : decode method_2_code 38 = .ok (.areturn, 1) := by decide +kernel
def Q1_0 (Z : State) (a_IS_IRI : Addr) (a_IS_BLANK : Addr) (a_REGEX : Addr) (a_STR : Addr) (a_IS_LITERAL : Addr) (i0 : Int32) (h0 : Heap) (n0 : Nat) (v : Option Value) (h : Heap) (L : List Loc) : Prop := Fr n0 L ∧ h = h0 ∧ ((v = some (.ref a_IS_IRI) ∧ i0 = (0 : Int32)) ∨ (v = some (.ref a_IS_BLANK) ∧ ¬ (i0 = (0 : Int32)) ∧ i0 = (1 : Int32)) ∨ (v = some (.ref a_IS_LITERAL) ∧ ¬ (i0 = (0 : Int32)) ∧ ¬ (i0 = (1 : Int32)) ∧ i0 = (2 : Int32)) ∨ (v = some (.ref a_STR) ∧ ¬ (i0 = (0 : Int32)) ∧ ¬ (i0 = (1 : Int32)) ∧ ¬ (i0 = (2 : Int32)) ∧ i0 = (3 : Int32)) ∨ (v = some (.ref a_REGEX) ∧ ¬ (i0 = (0 : Int32)) ∧ ¬ (i0 = (1 : Int32)) ∧ ¬ (i0 = (2 : Int32)) ∧ ¬ (i0 = (3 : Int32))))
set_option maxRecDepth 65536 in
set_option maxHeartbeats 40000000 in
theorem rm1_0 (l : Launch) (Z : State) (a0 : Array Value) (hw : ∀ d ∈ tables_1, d.before a0 Z = true) (ws : List Jvm.Cond) (a_IS_IRI : Addr) (a_IS_BLANK : Addr) (a_REGEX : Addr) (a_STR : Addr) (a_IS_LITERAL : Addr) (i0 : Int32) (h0 : Heap) (n0 : Nat) (O0 : Old Z n0 h0) (HE : Env1 Z a_IS_IRI a_IS_BLANK a_REGEX a_STR a_IS_LITERAL)  :
    MetFree l M0 (head1 (Jvm.Cond.code M0 method_2_code 1 (some (.object "com/example/quadrille/quadrille/sparql/Operators$Function")) :: ws) ({ frames := 0, cells := 0, slots := 0, locals := 0 } : Room)) (fun a U => a = #[(.int i0)] ∧ Z.Warmed39 U.vm ∧ U.heap = h0) (fun _ _ _ _ _ => True) (fun _ U o U' => ∃ v L, o = .returned v ∧ Q1_0 Z a_IS_IRI a_IS_BLANK a_REGEX a_STR a_IS_LITERAL i0 h0 n0 v U'.heap L ∧ FrameEnd U o U' L ({ frames := 0, cells := 0, slots := 0, locals := 0 } : Room).cells ({ frames := 0, cells := 0, slots := 0, locals := 0 } : Room).slots) := by
 refine MetFree.of_bodySF (plainFor_of_name pn0) hisR ?_
 intro p e s m args below meth c s₁ Bd hml0 hP hK
 obtain ⟨rfl, hZ, hh⟩ := hP
 have hx := Bd.exec
 have hby := Bd.bytes
 have hml : c.maxLocals = 1 := hml0
 have hown : s.vm.findClass "com/example/quadrille/quadrille/sparql/FunctionTakesPinLaw" = some m.cls := findClass_of_methodNamed Bd.named
 have hnm := (name_of_methodNamed Bd.named Bd.method).1
 have X0 : Stand p l e ({ frames := 0, cells := 0, slots := 0, locals := 0 } : Room) s m #[(.int i0)] below meth c s₁ [] 0 0 := Stand.of_body Bd
 have e0 : s₁.heap = h0 := by rw [← hh, Bd.state]; rfl
 have N0 := Fr.nil n0
 let S0 : State → Prop := fun t => Steps p.tables e below (s₁.setTop (entryFrame m #[(.int i0)] 1)) t
 have p0 : ∀ t, St p e below s₁ (mkF m 0 #[.val (.int i0)] []) t → S0 t := fun t k => castTop (ef1 m i0) k
 have HE' := HE
 obtain ⟨Sa_IS_IRI, Ea_IS_IRI, Fa_IS_IRI_minArguments, Fa_IS_IRI_maxArguments, Sa_IS_BLANK, Ea_IS_BLANK, Fa_IS_BLANK_minArguments, Fa_IS_BLANK_maxArguments, Sa_REGEX, Ea_REGEX, Fa_REGEX_minArguments, Fa_REGEX_maxArguments, Sa_STR, Ea_STR, Fa_STR_minArguments, Fa_STR_maxArguments, Sa_IS_LITERAL, Ea_IS_LITERAL, Fa_IS_LITERAL_minArguments, Fa_IS_LITERAL_maxArguments⟩ := HE
 have p1 : ∀ t, St p e below s₁ (mkF m 1 #[.val (.int i0)] [(.int i0)]) t → S0 t := fun t k => p0 t (by
   show St p e below s₁ (mkF m 0 #[.val (.int i0)] []) t
   refine XS.iloadN X0.here hx rfl (hb hby d1_0) rfl ?_
   exact k)
 by_cases g2 : i0 = (0 : Int32)
 ·
  have p3 : ∀ t, St p e below s₁ (mkF m 4 #[.val (.int i0)] []) t → S0 t := fun t k => p1 t (by
    show St p e below s₁ (mkF m 1 #[.val (.int i0)] [(.int i0)]) t
    refine XS.ifNo X0.here hx rfl (hb hby d1_1) rfl ((if0 _ _).trans (teq g2).2) ?_
    exact k)
  obtain ⟨T4, X4, e4, st4⟩ := getS2 X0 hx hZ hown (host := "") (Or.inl (ww hw 5 rfl)) Via.refl e0 (Sa_IS_IRI.ext O0.2) (g := (mkF m 4 #[.val (.int i0)] [])) rfl (hb hby d1_4)
  have p5 : ∀ t, St p e below T4 (mkF m 7 #[.val (.int i0)] [(.ref a_IS_IRI)]) t → S0 t := fun t k => p3 t (st4 t k)
  obtain ⟨fs, hr, hrun, hended, hW, hsame⟩ := X4.leave (v := some (.ref a_IS_IRI)) (fun h => by rw [Bd.returns] at h; cases h)
  refine ⟨_, _, p5 _ ?_, hrun, hended, _, _, rfl, ?_, ⟨_, rfl⟩, hW, hsame.mono (by decide) (by decide)⟩
  · exact retOut X4 hx Bd.returns rfl (Or.inr (Or.inr (Or.inr (Or.inr ⟨rfl, rfl, rfl⟩)))) (hb hby d1_7) hr
  · show Q1_0 Z a_IS_IRI a_IS_BLANK a_REGEX a_STR a_IS_LITERAL i0 h0 n0 _ T4.heap _
    exact ⟨N0, e4, (Or.inl ⟨rfl, g2⟩)⟩
 ·
  have p6 : ∀ t, St p e below s₁ (mkF m 10 #[.val (.int i0)] [(.int (1 : Int32)), (.int i0)]) t → S0 t := fun t k => p1 t (by
    show St p e below s₁ (mkF m 1 #[.val (.int i0)] [(.int i0)]) t
    refine XS.ifYes X0.here hx rfl (pc0 := 1) (pc' := 8) rfl (hb hby d1_1) rfl ((if0 _ _).trans (feq g2).2) (by decide) (by decide) ?_
    show St p e below s₁ (mkF m 8 #[.val (.int i0)] []) t
    refine XS.iloadN X0.here hx rfl (hb hby d1_8) rfl ?_
    show St p e below s₁ (mkF m 9 #[.val (.int i0)] [(.int i0)]) t
    refine XT.iconstV X0.here hx rfl (1 : Int32) (hb hby d1_9) (by decide) ?_
    exact k)
  by_cases g7 : i0 = (1 : Int32)
  ·
   have p8 : ∀ t, St p e below s₁ (mkF m 13 #[.val (.int i0)] []) t → S0 t := fun t k => p6 t (by
     show St p e below s₁ (mkF m 10 #[.val (.int i0)] [(.int (1 : Int32)), (.int i0)]) t
     refine XS.icmpNo X0.here hx rfl (hb hby d1_10) rfl (teq g7).2 ?_
     exact k)
   obtain ⟨T9, X9, e9, st9⟩ := getS2 X0 hx hZ hown (host := "") (Or.inl (ww hw 20 rfl)) Via.refl e0 (Sa_IS_BLANK.ext O0.2) (g := (mkF m 13 #[.val (.int i0)] [])) rfl (hb hby d1_13)
   have p10 : ∀ t, St p e below T9 (mkF m 16 #[.val (.int i0)] [(.ref a_IS_BLANK)]) t → S0 t := fun t k => p8 t (st9 t k)
   obtain ⟨fs, hr, hrun, hended, hW, hsame⟩ := X9.leave (v := some (.ref a_IS_BLANK)) (fun h => by rw [Bd.returns] at h; cases h)
   refine ⟨_, _, p10 _ ?_, hrun, hended, _, _, rfl, ?_, ⟨_, rfl⟩, hW, hsame.mono (by decide) (by decide)⟩
   · exact retOut X9 hx Bd.returns rfl (Or.inr (Or.inr (Or.inr (Or.inr ⟨rfl, rfl, rfl⟩)))) (hb hby d1_16) hr
   · show Q1_0 Z a_IS_IRI a_IS_BLANK a_REGEX a_STR a_IS_LITERAL i0 h0 n0 _ T9.heap _
     exact ⟨N0, e9, (Or.inr (Or.inl ⟨rfl, g2, g7⟩))⟩
  ·
   have p11 : ∀ t, St p e below s₁ (mkF m 19 #[.val (.int i0)] [(.int (2 : Int32)), (.int i0)]) t → S0 t := fun t k => p6 t (by
     show St p e below s₁ (mkF m 10 #[.val (.int i0)] [(.int (1 : Int32)), (.int i0)]) t
     refine XS.icmpYes X0.here hx rfl (pc0 := 10) (pc' := 17) rfl (hb hby d1_10) rfl (feq g7).2 (by decide) (by decide) ?_
     show St p e below s₁ (mkF m 17 #[.val (.int i0)] []) t
     refine XS.iloadN X0.here hx rfl (hb hby d1_17) rfl ?_
     show St p e below s₁ (mkF m 18 #[.val (.int i0)] [(.int i0)]) t
     refine XT.iconstV X0.here hx rfl (2 : Int32) (hb hby d1_18) (by decide) ?_
     exact k)
   by_cases g12 : i0 = (2 : Int32)
   ·
    have p13 : ∀ t, St p e below s₁ (mkF m 22 #[.val (.int i0)] []) t → S0 t := fun t k => p11 t (by
      show St p e below s₁ (mkF m 19 #[.val (.int i0)] [(.int (2 : Int32)), (.int i0)]) t
      refine XS.icmpNo X0.here hx rfl (hb hby d1_19) rfl (teq g12).2 ?_
      exact k)
    obtain ⟨T14, X14, e14, st14⟩ := getS2 X0 hx hZ hown (host := "") (Or.inl (ww hw 26 rfl)) Via.refl e0 (Sa_IS_LITERAL.ext O0.2) (g := (mkF m 22 #[.val (.int i0)] [])) rfl (hb hby d1_22)
    have p15 : ∀ t, St p e below T14 (mkF m 25 #[.val (.int i0)] [(.ref a_IS_LITERAL)]) t → S0 t := fun t k => p13 t (st14 t k)
    obtain ⟨fs, hr, hrun, hended, hW, hsame⟩ := X14.leave (v := some (.ref a_IS_LITERAL)) (fun h => by rw [Bd.returns] at h; cases h)
    refine ⟨_, _, p15 _ ?_, hrun, hended, _, _, rfl, ?_, ⟨_, rfl⟩, hW, hsame.mono (by decide) (by decide)⟩
    · exact retOut X14 hx Bd.returns rfl (Or.inr (Or.inr (Or.inr (Or.inr ⟨rfl, rfl, rfl⟩)))) (hb hby d1_25) hr
    · show Q1_0 Z a_IS_IRI a_IS_BLANK a_REGEX a_STR a_IS_LITERAL i0 h0 n0 _ T14.heap _
      exact ⟨N0, e14, (Or.inr (Or.inr (Or.inl ⟨rfl, g2, g7, g12⟩)))⟩
   ·
    have p16 : ∀ t, St p e below s₁ (mkF m 28 #[.val (.int i0)] [(.int (3 : Int32)), (.int i0)]) t → S0 t := fun t k => p11 t (by
      show St p e below s₁ (mkF m 19 #[.val (.int i0)] [(.int (2 : Int32)), (.int i0)]) t
      refine XS.icmpYes X0.here hx rfl (pc0 := 19) (pc' := 26) rfl (hb hby d1_19) rfl (feq g12).2 (by decide) (by decide) ?_
      show St p e below s₁ (mkF m 26 #[.val (.int i0)] []) t
      refine XS.iloadN X0.here hx rfl (hb hby d1_26) rfl ?_
      show St p e below s₁ (mkF m 27 #[.val (.int i0)] [(.int i0)]) t
      refine XT.iconstV X0.here hx rfl (3 : Int32) (hb hby d1_27) (by decide) ?_
      exact k)
    by_cases g17 : i0 = (3 : Int32)
    ·
     have p18 : ∀ t, St p e below s₁ (mkF m 31 #[.val (.int i0)] []) t → S0 t := fun t k => p16 t (by
       show St p e below s₁ (mkF m 28 #[.val (.int i0)] [(.int (3 : Int32)), (.int i0)]) t
       refine XS.icmpNo X0.here hx rfl (hb hby d1_28) rfl (teq g17).2 ?_
       exact k)
     obtain ⟨T19, X19, e19, st19⟩ := getS2 X0 hx hZ hown (host := "") (Or.inl (ww hw 24 rfl)) Via.refl e0 (Sa_STR.ext O0.2) (g := (mkF m 31 #[.val (.int i0)] [])) rfl (hb hby d1_31)
     have p20 : ∀ t, St p e below T19 (mkF m 34 #[.val (.int i0)] [(.ref a_STR)]) t → S0 t := fun t k => p18 t (st19 t k)
     obtain ⟨fs, hr, hrun, hended, hW, hsame⟩ := X19.leave (v := some (.ref a_STR)) (fun h => by rw [Bd.returns] at h; cases h)
     refine ⟨_, _, p20 _ ?_, hrun, hended, _, _, rfl, ?_, ⟨_, rfl⟩, hW, hsame.mono (by decide) (by decide)⟩
     · exact retOut X19 hx Bd.returns rfl (Or.inr (Or.inr (Or.inr (Or.inr ⟨rfl, rfl, rfl⟩)))) (hb hby d1_34) hr
     · show Q1_0 Z a_IS_IRI a_IS_BLANK a_REGEX a_STR a_IS_LITERAL i0 h0 n0 _ T19.heap _
       exact ⟨N0, e19, (Or.inr (Or.inr (Or.inr (Or.inl ⟨rfl, g2, g7, g12, g17⟩))))⟩
    ·
     have p21 : ∀ t, St p e below s₁ (mkF m 35 #[.val (.int i0)] []) t → S0 t := fun t k => p16 t (by
       show St p e below s₁ (mkF m 28 #[.val (.int i0)] [(.int (3 : Int32)), (.int i0)]) t
       refine XS.icmpYes X0.here hx rfl (pc0 := 28) (pc' := 35) rfl (hb hby d1_28) rfl (feq g17).2 (by decide) (by decide) ?_
       exact k)
     obtain ⟨T22, X22, e22, st22⟩ := getS2 X0 hx hZ hown (host := "") (Or.inl (ww hw 22 rfl)) Via.refl e0 (Sa_REGEX.ext O0.2) (g := (mkF m 35 #[.val (.int i0)] [])) rfl (hb hby d1_35)
     have p23 : ∀ t, St p e below T22 (mkF m 38 #[.val (.int i0)] [(.ref a_REGEX)]) t → S0 t := fun t k => p21 t (st22 t k)
     obtain ⟨fs, hr, hrun, hended, hW, hsame⟩ := X22.leave (v := some (.ref a_REGEX)) (fun h => by rw [Bd.returns] at h; cases h)
     refine ⟨_, _, p23 _ ?_, hrun, hended, _, _, rfl, ?_, ⟨_, rfl⟩, hW, hsame.mono (by decide) (by decide)⟩
     · exact retOut X22 hx Bd.returns rfl (Or.inr (Or.inr (Or.inr (Or.inr ⟨rfl, rfl, rfl⟩)))) (hb hby d1_38) hr
     · show Q1_0 Z a_IS_IRI a_IS_BLANK a_REGEX a_STR a_IS_LITERAL i0 h0 n0 _ T22.heap _
       exact ⟨N0, e22, (Or.inr (Or.inr (Or.inr (Or.inr (⟨rfl, g2, g7, g12, g17⟩)))))⟩
theorem pd0 : parseMethodDescriptor "(I)Lcom/example/quadrille/quadrille/sparql/Operators$Function;" = some ⟨[.int], some (.object "com/example/quadrille/quadrille/sparql/Operators$Function")⟩ := by decide +kernel
theorem ef2 (m : MethodId) (x0 : Addr) (x1 : Int32) : entryFrame m #[(.ref x0), (.int x1)] 2 = mkF m 0 #[.val (.ref x0), .val (.int x1)] [] := by first | (simp [entryFrame, mkF, argsToLocals, Value.category]; done) | rfl
theorem pn1 : plainName "com/example/quadrille/quadrille/sparql/Operators$Function" = true := by first | (simp [plainName, overriddenIn]; done) | decide +kernel
theorem d2_0 : decode prog_87_method_6_code 0 = .ok (.iload_n 1, 1) := by decide +kernel
theorem d2_1 : decode prog_87_method_6_code 1 = .ok (.aload_n 0, 1) := by decide +kernel
theorem d2_2 : decode prog_87_method_6_code 2 = .ok (.getfield 42, 3) := by decide +kernel
theorem d2_5 : decode prog_87_method_6_code 5 = .ok (.if_icmp .lt 15, 3) := by decide +kernel
theorem d2_20 : decode prog_87_method_6_code 20 = .ok (.iconst 0, 1) := by decide +kernel
theorem d2_21 : decode prog_87_method_6_code 21 = .ok (.ireturn, 1) := by decide +kernel
theorem d2_8 : decode prog_87_method_6_code 8 = .ok (.iload_n 1, 1) := by decide +kernel
theorem d2_9 : decode prog_87_method_6_code 9 = .ok (.aload_n 0, 1) := by decide +kernel
theorem d2_10 : decode prog_87_method_6_code 10 = .ok (.getfield 46, 3) := by decide +kernel
theorem d2_13 : decode prog_87_method_6_code 13 = .ok (.if_icmp .gt 7, 3) := by decide +kernel
theorem d2_16 : decode prog_87_method_6_code 16 = .ok (.iconst 1, 1) := by decide +kernel
theorem d2_17 : decode prog_87_method_6_code 17 = .ok (.goto 4, 3) := by decide +kernel
def Q2_1 (Z : State) (a_IS_IRI : Addr) (a_IS_BLANK : Addr) (a_REGEX : Addr) (a_STR : Addr) (a_IS_LITERAL : Addr) (i0 : Int32) (h0 : Heap) (n0 : Nat) (v : Option Value) (h : Heap) (L : List Loc) : Prop := Fr n0 L ∧ h = h0 ∧ ((v = some (.int (0 : Int32)) ∧ i0 < (1 : Int32)) ∨ (v = some (.int (0 : Int32)) ∧ ¬ (i0 < (1 : Int32)) ∧ (1 : Int32) < i0) ∨ (v = some (.int (1 : Int32)) ∧ ¬ (i0 < (1 : Int32)) ∧ ¬ ((1 : Int32) < i0)))
set_option maxRecDepth 65536 in
set_option maxHeartbeats 40000000 in
theorem rm2_1 (l : Launch) (Z : State) (a0 : Array Value) (hw : ∀ d ∈ tables_1, d.before a0 Z = true) (ws : List Jvm.Cond) (a_IS_IRI : Addr) (a_IS_BLANK : Addr) (a_REGEX : Addr) (a_STR : Addr) (a_IS_LITERAL : Addr) (i0 : Int32) (h0 : Heap) (n0 : Nat) (O0 : Old Z n0 h0) (HE : Env1 Z a_IS_IRI a_IS_BLANK a_REGEX a_STR a_IS_LITERAL)  :
    MetFree l M1 (head1 (Jvm.Cond.code M1 prog_87_method_6_code 2 (some .boolean) :: ws) ({ frames := 0, cells := 0, slots := 0, locals := 0 } : Room)) (fun a U => a = #[(.ref a_IS_IRI), (.int i0)] ∧ Z.Warmed39 U.vm ∧ U.heap = h0) (fun _ _ _ _ _ => True) (fun _ U o U' => ∃ v L, o = .returned v ∧ Q2_1 Z a_IS_IRI a_IS_BLANK a_REGEX a_STR a_IS_LITERAL i0 h0 n0 v U'.heap L ∧ FrameEnd U o U' L ({ frames := 0, cells := 0, slots := 0, locals := 0 } : Room).cells ({ frames := 0, cells := 0, slots := 0, locals := 0 } : Room).slots) := by
 refine MetFree.of_bodySF (plainFor_of_name pn1) hisR ?_
 intro p e s m args below meth c s₁ Bd hml0 hP hK
 obtain ⟨rfl, hZ, hh⟩ := hP
 have hx := Bd.exec
 have hby := Bd.bytes
 have hml : c.maxLocals = 2 := hml0
 have hown : s.vm.findClass "com/example/quadrille/quadrille/sparql/Operators$Function" = some m.cls := findClass_of_methodNamed Bd.named
 have hnm := (name_of_methodNamed Bd.named Bd.method).1
 have X0 : Stand p l e ({ frames := 0, cells := 0, slots := 0, locals := 0 } : Room) s m #[(.ref a_IS_IRI), (.int i0)] below meth c s₁ [] 0 0 := Stand.of_body Bd
 have e0 : s₁.heap = h0 := by rw [← hh, Bd.state]; rfl
 have N0 := Fr.nil n0
 let S0 : State → Prop := fun t => Steps p.tables e below (s₁.setTop (entryFrame m #[(.ref a_IS_IRI), (.int i0)] 2)) t
 have p0 : ∀ t, St p e below s₁ (mkF m 0 #[.val (.ref a_IS_IRI), .val (.int i0)] []) t → S0 t := fun t k => castTop (ef2 m a_IS_IRI i0) k
 have HE' := HE
 obtain ⟨Sa_IS_IRI, Ea_IS_IRI, Fa_IS_IRI_minArguments, Fa_IS_IRI_maxArguments, Sa_IS_BLANK, Ea_IS_BLANK, Fa_IS_BLANK_minArguments, Fa_IS_BLANK_maxArguments, Sa_REGEX, Ea_REGEX, Fa_REGEX_minArguments, Fa_REGEX_maxArguments, Sa_STR, Ea_STR, Fa_STR_minArguments, Fa_STR_maxArguments, Sa_IS_LITERAL, Ea_IS_LITERAL, Fa_IS_LITERAL_minArguments, Fa_IS_LITERAL_maxArguments⟩ := HE
 have p1 : ∀ t, St p e below s₁ (mkF m 2 #[.val (.ref a_IS_IRI), .val (.int i0)] [(.ref a_IS_IRI), (.int i0)]) t → S0 t := fun t k => p0 t (by
   show St p e below s₁ (mkF m 0 #[.val (.ref a_IS_IRI), .val (.int i0)] []) t
   refine XS.iloadN X0.here hx rfl (hb hby d2_0) rfl ?_
   show St p e below s₁ (mkF m 1 #[.val (.ref a_IS_IRI), .val (.int i0)] [(.int i0)]) t
   refine XS.aloadN X0.here hx rfl (hb hby d2_1) rfl rfl ?_
   exact k)
 obtain ⟨T2, X2, e2, st2⟩ := getF X0 hx hZ hown (host := "") (Or.inl (ww hw 13 rfl)) Via.refl e0 (Fa_IS_IRI_minArguments.ext O0.2) (g := (mkF m 2 #[.val (.ref a_IS_IRI), .val (.int i0)] [(.ref a_IS_IRI), (.int i0)])) rfl rfl (hb hby d2_2)
 have p3 : ∀ t, St p e below T2 (mkF m 5 #[.val (.ref a_IS_IRI), .val (.int i0)] [(.int (1 : Int32)), (.int i0)]) t → S0 t := fun t k => p1 t (st2 t k)
 by_cases g4 : i0 < (1 : Int32)
 ·
  have p5 : ∀ t, St p e below T2 (mkF m 21 #[.val (.ref a_IS_IRI), .val (.int i0)] [(.int (0 : Int32))]) t → S0 t := fun t k => p3 t (by
    show St p e below T2 (mkF m 5 #[.val (.ref a_IS_IRI), .val (.int i0)] [(.int (1 : Int32)), (.int i0)]) t
    refine XS.icmpYes X2.here hx rfl (pc0 := 5) (pc' := 20) rfl (hb hby d2_5) rfl (tlt g4).1 (by decide) (by decide) ?_
    show St p e below T2 (mkF m 20 #[.val (.ref a_IS_IRI), .val (.int i0)] []) t
    refine XT.iconstV X2.here hx rfl (0 : Int32) (hb hby d2_20) (by decide) ?_
    exact k)
  obtain ⟨fs, hr, hrun, hended, hW, hsame⟩ := X2.leave (v := some (.int (0 : Int32))) (fun h => by rw [Bd.returns] at h; cases h)
  refine ⟨_, _, p5 _ ?_, hrun, hended, _, _, rfl, ?_, ⟨_, rfl⟩, hW, hsame.mono (by decide) (by decide)⟩
  · exact retOut X2 hx Bd.returns rfl (Or.inl ⟨rfl, by simp, _, rfl⟩) (hb hby d2_21) hr
  · show Q2_1 Z a_IS_IRI a_IS_BLANK a_REGEX a_STR a_IS_LITERAL i0 h0 n0 _ T2.heap _
    exact ⟨N0, e2, (Or.inl ⟨rfl, g4⟩)⟩
 ·
  have p6 : ∀ t, St p e below T2 (mkF m 10 #[.val (.ref a_IS_IRI), .val (.int i0)] [(.ref a_IS_IRI), (.int i0)]) t → S0 t := fun t k => p3 t (by
    show St p e below T2 (mkF m 5 #[.val (.ref a_IS_IRI), .val (.int i0)] [(.int (1 : Int32)), (.int i0)]) t
    refine XS.icmpNo X2.here hx rfl (hb hby d2_5) rfl (flt g4).1 ?_
    show St p e below T2 (mkF m 8 #[.val (.ref a_IS_IRI), .val (.int i0)] []) t
    refine XS.iloadN X2.here hx rfl (hb hby d2_8) rfl ?_
    show St p e below T2 (mkF m 9 #[.val (.ref a_IS_IRI), .val (.int i0)] [(.int i0)]) t
    refine XS.aloadN X2.here hx rfl (hb hby d2_9) rfl rfl ?_
    exact k)
  obtain ⟨T7, X7, e7, st7⟩ := getF X2 hx hZ hown (host := "") (Or.inl (ww hw 15 rfl)) Via.refl e2 (Fa_IS_IRI_maxArguments.ext O0.2) (g := (mkF m 10 #[.val (.ref a_IS_IRI), .val (.int i0)] [(.ref a_IS_IRI), (.int i0)])) rfl rfl (hb hby d2_10)
  have p8 : ∀ t, St p e below T7 (mkF m 13 #[.val (.ref a_IS_IRI), .val (.int i0)] [(.int (1 : Int32)), (.int i0)]) t → S0 t := fun t k => p6 t (st7 t k)
  by_cases g9 : (1 : Int32) < i0
  ·
   have p10 : ∀ t, St p e below T7 (mkF m 21 #[.val (.ref a_IS_IRI), .val (.int i0)] [(.int (0 : Int32))]) t → S0 t := fun t k => p8 t (by
     show St p e below T7 (mkF m 13 #[.val (.ref a_IS_IRI), .val (.int i0)] [(.int (1 : Int32)), (.int i0)]) t
     refine XS.icmpYes X7.here hx rfl (pc0 := 13) (pc' := 20) rfl (hb hby d2_13) rfl (tlt g9).2.2.1 (by decide) (by decide) ?_
     show St p e below T7 (mkF m 20 #[.val (.ref a_IS_IRI), .val (.int i0)] []) t
     refine XT.iconstV X7.here hx rfl (0 : Int32) (hb hby d2_20) (by decide) ?_
     exact k)
   obtain ⟨fs, hr, hrun, hended, hW, hsame⟩ := X7.leave (v := some (.int (0 : Int32))) (fun h => by rw [Bd.returns] at h; cases h)
   refine ⟨_, _, p10 _ ?_, hrun, hended, _, _, rfl, ?_, ⟨_, rfl⟩, hW, hsame.mono (by decide) (by decide)⟩
   · exact retOut X7 hx Bd.returns rfl (Or.inl ⟨rfl, by simp, _, rfl⟩) (hb hby d2_21) hr
   · show Q2_1 Z a_IS_IRI a_IS_BLANK a_REGEX a_STR a_IS_LITERAL i0 h0 n0 _ T7.heap _
     exact ⟨N0, e7, (Or.inr (Or.inl ⟨rfl, g4, g9⟩))⟩
  ·
   have p11 : ∀ t, St p e below T7 (mkF m 21 #[.val (.ref a_IS_IRI), .val (.int i0)] [(.int (1 : Int32))]) t → S0 t := fun t k => p8 t (by
     show St p e below T7 (mkF m 13 #[.val (.ref a_IS_IRI), .val (.int i0)] [(.int (1 : Int32)), (.int i0)]) t
     refine XS.icmpNo X7.here hx rfl (hb hby d2_13) rfl (flt g9).2.2.1 ?_
     show St p e below T7 (mkF m 16 #[.val (.ref a_IS_IRI), .val (.int i0)] []) t
     refine XT.iconstV X7.here hx rfl (1 : Int32) (hb hby d2_16) (by decide) ?_
     show St p e below T7 (mkF m 17 #[.val (.ref a_IS_IRI), .val (.int i0)] [(.int (1 : Int32))]) t
     refine XS.goto X7.here hx rfl (pc0 := 17) (pc' := 21) rfl (hb hby d2_17) (by decide) (by decide) ?_
     exact k)
   obtain ⟨fs, hr, hrun, hended, hW, hsame⟩ := X7.leave (v := some (.int (1 : Int32))) (fun h => by rw [Bd.returns] at h; cases h)
   refine ⟨_, _, p11 _ ?_, hrun, hended, _, _, rfl, ?_, ⟨_, rfl⟩, hW, hsame.mono (by decide) (by decide)⟩
   · exact retOut X7 hx Bd.returns rfl (Or.inl ⟨rfl, by simp, _, rfl⟩) (hb hby d2_21) hr
   · show Q2_1 Z a_IS_IRI a_IS_BLANK a_REGEX a_STR a_IS_LITERAL i0 h0 n0 _ T7.heap _
     exact ⟨N0, e7, (Or.inr (Or.inr (⟨rfl, g4, g9⟩)))⟩
theorem pd1 : parseMethodDescriptor "(I)Z" = some ⟨[.int], some .boolean⟩ := by decide +kernel
theorem ef3 (m : MethodId) (x0 : Int32) (x1 : Int32) : entryFrame m #[(.int x0), (.int x1)] 2 = mkF m 0 #[.val (.int x0), .val (.int x1)] [] := by first | (simp [entryFrame, mkF, argsToLocals, Value.category]; done) | rfl
theorem d3_0 : decode method_3_code 0 = .ok (.iload_n 0, 1) := by decide +kernel
theorem d3_1 : decode method_3_code 1 = .ok (.iconst 4, 1) := by decide +kernel
theorem d3_2 : decode method_3_code 2 = .ok (.if_icmp .ne 19, 3) := by decide +kernel
theorem d3_21 : decode method_3_code 21 = .ok (.iload_n 1, 1) := by decide +kernel
theorem d3_22 : decode method_3_code 22 = .ok (.iconst 1, 1) := by decide +kernel
theorem d3_23 : decode method_3_code 23 = .ok (.if_icmp .ne 7, 3) := by decide +kernel
theorem d3_26 : decode method_3_code 26 = .ok (.iconst 1, 1) := by decide +kernel
theorem d3_27 : decode method_3_code 27 = .ok (.goto 4, 3) := by decide +kernel
theorem d3_31 : decode method_3_code 31 = .ok (.ireturn, 1) := by decide +kernel
theorem d3_30 : decode method_3_code 30 = .ok (.iconst 0, 1) := by decide +kernel
def Q3_2 (Z : State) (a_IS_IRI : Addr) (a_IS_BLANK : Addr) (a_REGEX : Addr) (a_STR : Addr) (a_IS_LITERAL : Addr) (i0 : Int32) (h0 : Heap) (n0 : Nat) (v : Option Value) (h : Heap) (L : List Loc) : Prop := Fr n0 L ∧ h = h0 ∧ ((v = some (.int (1 : Int32)) ∧ i0 = (1 : Int32)) ∨ (v = some (.int (0 : Int32)) ∧ ¬ (i0 = (1 : Int32))))
set_option maxRecDepth 65536 in
set_option maxHeartbeats 40000000 in
theorem rm3_2 (l : Launch) (Z : State) (a0 : Array Value) (hw : ∀ d ∈ tables_1, d.before a0 Z = true) (ws : List Jvm.Cond) (a_IS_IRI : Addr) (a_IS_BLANK : Addr) (a_REGEX : Addr) (a_STR : Addr) (a_IS_LITERAL : Addr) (i0 : Int32) (h0 : Heap) (n0 : Nat) (O0 : Old Z n0 h0) (HE : Env1 Z a_IS_IRI a_IS_BLANK a_REGEX a_STR a_IS_LITERAL)  :
    MetFree l M2 (head1 (Jvm.Cond.code M2 method_3_code 2 (some .boolean) :: ws) ({ frames := 0, cells := 0, slots := 0, locals := 0 } : Room)) (fun a U => a = #[(.int (0 : Int32)), (.int i0)] ∧ Z.Warmed39 U.vm ∧ U.heap = h0) (fun _ _ _ _ _ => True) (fun _ U o U' => ∃ v L, o = .returned v ∧ Q3_2 Z a_IS_IRI a_IS_BLANK a_REGEX a_STR a_IS_LITERAL i0 h0 n0 v U'.heap L ∧ FrameEnd U o U' L ({ frames := 0, cells := 0, slots := 0, locals := 0 } : Room).cells ({ frames := 0, cells := 0, slots := 0, locals := 0 } : Room).slots) := by
 refine MetFree.of_bodySF (plainFor_of_name pn0) hisR ?_
 intro p e s m args below meth c s₁ Bd hml0 hP hK
 obtain ⟨rfl, hZ, hh⟩ := hP
 have hx := Bd.exec
 have hby := Bd.bytes
 have hml : c.maxLocals = 2 := hml0
 have hown : s.vm.findClass "com/example/quadrille/quadrille/sparql/FunctionTakesPinLaw" = some m.cls := findClass_of_methodNamed Bd.named
 have hnm := (name_of_methodNamed Bd.named Bd.method).1
 have X0 : Stand p l e ({ frames := 0, cells := 0, slots := 0, locals := 0 } : Room) s m #[(.int (0 : Int32)), (.int i0)] below meth c s₁ [] 0 0 := Stand.of_body Bd
 have e0 : s₁.heap = h0 := by rw [← hh, Bd.state]; rfl
 have N0 := Fr.nil n0
 let S0 : State → Prop := fun t => Steps p.tables e below (s₁.setTop (entryFrame m #[(.int (0 : Int32)), (.int i0)] 2)) t
 have p0 : ∀ t, St p e below s₁ (mkF m 0 #[.val (.int (0 : Int32)), .val (.int i0)] []) t → S0 t := fun t k => castTop (ef3 m (0 : Int32) i0) k
 have HE' := HE
 obtain ⟨Sa_IS_IRI, Ea_IS_IRI, Fa_IS_IRI_minArguments, Fa_IS_IRI_maxArguments, Sa_IS_BLANK, Ea_IS_BLANK, Fa_IS_BLANK_minArguments, Fa_IS_BLANK_maxArguments, Sa_REGEX, Ea_REGEX, Fa_REGEX_minArguments, Fa_REGEX_maxArguments, Sa_STR, Ea_STR, Fa_STR_minArguments, Fa_STR_maxArguments, Sa_IS_LITERAL, Ea_IS_LITERAL, Fa_IS_LITERAL_minArguments, Fa_IS_LITERAL_maxArguments⟩ := HE
 have p1 : ∀ t, St p e below s₁ (mkF m 23 #[.val (.int (0 : Int32)), .val (.int i0)] [(.int (1 : Int32)), (.int i0)]) t → S0 t := fun t k => p0 t (by
   show St p e below s₁ (mkF m 0 #[.val (.int (0 : Int32)), .val (.int i0)] []) t
   refine XS.iloadN X0.here hx rfl (hb hby d3_0) rfl ?_
   show St p e below s₁ (mkF m 1 #[.val (.int (0 : Int32)), .val (.int i0)] [(.int (0 : Int32))]) t
   refine XT.iconstV X0.here hx rfl (4 : Int32) (hb hby d3_1) (by decide) ?_
   show St p e below s₁ (mkF m 2 #[.val (.int (0 : Int32)), .val (.int i0)] [(.int (4 : Int32)), (.int (0 : Int32))]) t
   refine XS.icmpYes X0.here hx rfl (pc0 := 2) (pc' := 21) rfl (hb hby d3_2) rfl (feq (by decide : ¬ ((0 : Int32) = (4 : Int32)))).2 (by decide) (by decide) ?_
   show St p e below s₁ (mkF m 21 #[.val (.int (0 : Int32)), .val (.int i0)] []) t
   refine XS.iloadN X0.here hx rfl (hb hby d3_21) rfl ?_
   show St p e below s₁ (mkF m 22 #[.val (.int (0 : Int32)), .val (.int i0)] [(.int i0)]) t
   refine XT.iconstV X0.here hx rfl (1 : Int32) (hb hby d3_22) (by decide) ?_
   exact k)
 by_cases g2 : i0 = (1 : Int32)
 ·
  have p3 : ∀ t, St p e below s₁ (mkF m 31 #[.val (.int (0 : Int32)), .val (.int i0)] [(.int (1 : Int32))]) t → S0 t := fun t k => p1 t (by
    show St p e below s₁ (mkF m 23 #[.val (.int (0 : Int32)), .val (.int i0)] [(.int (1 : Int32)), (.int i0)]) t
    refine XS.icmpNo X0.here hx rfl (hb hby d3_23) rfl (teq g2).2 ?_
    show St p e below s₁ (mkF m 26 #[.val (.int (0 : Int32)), .val (.int i0)] []) t
    refine XT.iconstV X0.here hx rfl (1 : Int32) (hb hby d3_26) (by decide) ?_
    show St p e below s₁ (mkF m 27 #[.val (.int (0 : Int32)), .val (.int i0)] [(.int (1 : Int32))]) t
    refine XS.goto X0.here hx rfl (pc0 := 27) (pc' := 31) rfl (hb hby d3_27) (by decide) (by decide) ?_
    exact k)
  obtain ⟨fs, hr, hrun, hended, hW, hsame⟩ := X0.leave (v := some (.int (1 : Int32))) (fun h => by rw [Bd.returns] at h; cases h)
  refine ⟨_, _, p3 _ ?_, hrun, hended, _, _, rfl, ?_, ⟨_, rfl⟩, hW, hsame.mono (by decide) (by decide)⟩
  · exact retOut X0 hx Bd.returns rfl (Or.inl ⟨rfl, by simp, _, rfl⟩) (hb hby d3_31) hr
  · show Q3_2 Z a_IS_IRI a_IS_BLANK a_REGEX a_STR a_IS_LITERAL i0 h0 n0 _ s₁.heap _
    exact ⟨N0, e0, (Or.inl ⟨rfl, g2⟩)⟩
 ·
  have p4 : ∀ t, St p e below s₁ (mkF m 31 #[.val (.int (0 : Int32)), .val (.int i0)] [(.int (0 : Int32))]) t → S0 t := fun t k => p1 t (by
    show St p e below s₁ (mkF m 23 #[.val (.int (0 : Int32)), .val (.int i0)] [(.int (1 : Int32)), (.int i0)]) t
    refine XS.icmpYes X0.here hx rfl (pc0 := 23) (pc' := 30) rfl (hb hby d3_23) rfl (feq g2).2 (by decide) (by decide) ?_
    show St p e below s₁ (mkF m 30 #[.val (.int (0 : Int32)), .val (.int i0)] []) t
    refine XT.iconstV X0.here hx rfl (0 : Int32) (hb hby d3_30) (by decide) ?_
    exact k)
  obtain ⟨fs, hr, hrun, hended, hW, hsame⟩ := X0.leave (v := some (.int (0 : Int32))) (fun h => by rw [Bd.returns] at h; cases h)
  refine ⟨_, _, p4 _ ?_, hrun, hended, _, _, rfl, ?_, ⟨_, rfl⟩, hW, hsame.mono (by decide) (by decide)⟩
  · exact retOut X0 hx Bd.returns rfl (Or.inl ⟨rfl, by simp, _, rfl⟩) (hb hby d3_31) hr
  · show Q3_2 Z a_IS_IRI a_IS_BLANK a_REGEX a_STR a_IS_LITERAL i0 h0 n0 _ s₁.heap _
    exact ⟨N0, e0, (Or.inr (⟨rfl, g2⟩))⟩
theorem pd2 : parseMethodDescriptor "(II)Z" = some ⟨[.int, .int], some .boolean⟩ := by decide +kernel
def Q2_3 (Z : State) (a_IS_IRI : Addr) (a_IS_BLANK : Addr) (a_REGEX : Addr) (a_STR : Addr) (a_IS_LITERAL : Addr) (i0 : Int32) (h0 : Heap) (n0 : Nat) (v : Option Value) (h : Heap) (L : List Loc) : Prop := Fr n0 L ∧ h = h0 ∧ ((v = some (.int (0 : Int32)) ∧ i0 < (1 : Int32)) ∨ (v = some (.int (0 : Int32)) ∧ ¬ (i0 < (1 : Int32)) ∧ (1 : Int32) < i0) ∨ (v = some (.int (1 : Int32)) ∧ ¬ (i0 < (1 : Int32)) ∧ ¬ ((1 : Int32) < i0)))
set_option maxRecDepth 65536 in
set_option maxHeartbeats 40000000 in
theorem rm2_3 (l : Launch) (Z : State) (a0 : Array Value) (hw : ∀ d ∈ tables_1, d.before a0 Z = true) (ws : List Jvm.Cond) (a_IS_IRI : Addr) (a_IS_BLANK : Addr) (a_REGEX : Addr) (a_STR : Addr) (a_IS_LITERAL : Addr) (i0 : Int32) (h0 : Heap) (n0 : Nat) (O0 : Old Z n0 h0) (HE : Env1 Z a_IS_IRI a_IS_BLANK a_REGEX a_STR a_IS_LITERAL)  :
    MetFree l M1 (head1 (Jvm.Cond.code M1 prog_87_method_6_code 2 (some .boolean) :: ws) ({ frames := 0, cells := 0, slots := 0, locals := 0 } : Room)) (fun a U => a = #[(.ref a_IS_BLANK), (.int i0)] ∧ Z.Warmed39 U.vm ∧ U.heap = h0) (fun _ _ _ _ _ => True) (fun _ U o U' => ∃ v L, o = .returned v ∧ Q2_3 Z a_IS_IRI a_IS_BLANK a_REGEX a_STR a_IS_LITERAL i0 h0 n0 v U'.heap L ∧ FrameEnd U o U' L ({ frames := 0, cells := 0, slots := 0, locals := 0 } : Room).cells ({ frames := 0, cells := 0, slots := 0, locals := 0 } : Room).slots) := by
 refine MetFree.of_bodySF (plainFor_of_name pn1) hisR ?_
 intro p e s m args below meth c s₁ Bd hml0 hP hK
 obtain ⟨rfl, hZ, hh⟩ := hP
 have hx := Bd.exec
 have hby := Bd.bytes
 have hml : c.maxLocals = 2 := hml0
 have hown : s.vm.findClass "com/example/quadrille/quadrille/sparql/Operators$Function" = some m.cls := findClass_of_methodNamed Bd.named
 have hnm := (name_of_methodNamed Bd.named Bd.method).1
 have X0 : Stand p l e ({ frames := 0, cells := 0, slots := 0, locals := 0 } : Room) s m #[(.ref a_IS_BLANK), (.int i0)] below meth c s₁ [] 0 0 := Stand.of_body Bd
 have e0 : s₁.heap = h0 := by rw [← hh, Bd.state]; rfl
 have N0 := Fr.nil n0
 let S0 : State → Prop := fun t => Steps p.tables e below (s₁.setTop (entryFrame m #[(.ref a_IS_BLANK), (.int i0)] 2)) t
 have p0 : ∀ t, St p e below s₁ (mkF m 0 #[.val (.ref a_IS_BLANK), .val (.int i0)] []) t → S0 t := fun t k => castTop (ef2 m a_IS_BLANK i0) k
 have HE' := HE
 obtain ⟨Sa_IS_IRI, Ea_IS_IRI, Fa_IS_IRI_minArguments, Fa_IS_IRI_maxArguments, Sa_IS_BLANK, Ea_IS_BLANK, Fa_IS_BLANK_minArguments, Fa_IS_BLANK_maxArguments, Sa_REGEX, Ea_REGEX, Fa_REGEX_minArguments, Fa_REGEX_maxArguments, Sa_STR, Ea_STR, Fa_STR_minArguments, Fa_STR_maxArguments, Sa_IS_LITERAL, Ea_IS_LITERAL, Fa_IS_LITERAL_minArguments, Fa_IS_LITERAL_maxArguments⟩ := HE
 have p1 : ∀ t, St p e below s₁ (mkF m 2 #[.val (.ref a_IS_BLANK), .val (.int i0)] [(.ref a_IS_BLANK), (.int i0)]) t → S0 t := fun t k => p0 t (by
   show St p e below s₁ (mkF m 0 #[.val (.ref a_IS_BLANK), .val (.int i0)] []) t
   refine XS.iloadN X0.here hx rfl (hb hby d2_0) rfl ?_
   show St p e below s₁ (mkF m 1 #[.val (.ref a_IS_BLANK), .val (.int i0)] [(.int i0)]) t
   refine XS.aloadN X0.here hx rfl (hb hby d2_1) rfl rfl ?_
   exact k)
 obtain ⟨T2, X2, e2, st2⟩ := getF X0 hx hZ hown (host := "") (Or.inl (ww hw 13 rfl)) Via.refl e0 (Fa_IS_BLANK_minArguments.ext O0.2) (g := (mkF m 2 #[.val (.ref a_IS_BLANK), .val (.int i0)] [(.ref a_IS_BLANK), (.int i0)])) rfl rfl (hb hby d2_2)
 have p3 : ∀ t, St p e below T2 (mkF m 5 #[.val (.ref a_IS_BLANK), .val (.int i0)] [(.int (1 : Int32)), (.int i0)]) t → S0 t := fun t k => p1 t (st2 t k)
 by_cases g4 : i0 < (1 : Int32)
 ·
  have p5 : ∀ t, St p e below T2 (mkF m 21 #[.val (.ref a_IS_BLANK), .val (.int i0)] [(.int (0 : Int32))]) t → S0 t := fun t k => p3 t (by
    show St p e below T2 (mkF m 5 #[.val (.ref a_IS_BLANK), .val (.int i0)] [(.int (1 : Int32)), (.int i0)]) t
    refine XS.icmpYes X2.here hx rfl (pc0 := 5) (pc' := 20) rfl (hb hby d2_5) rfl (tlt g4).1 (by decide) (by decide) ?_
    show St p e below T2 (mkF m 20 #[.val (.ref a_IS_BLANK), .val (.int i0)] []) t
    refine XT.iconstV X2.here hx rfl (0 : Int32) (hb hby d2_20) (by decide) ?_
    exact k)
  obtain ⟨fs, hr, hrun, hended, hW, hsame⟩ := X2.leave (v := some (.int (0 : Int32))) (fun h => by rw [Bd.returns] at h; cases h)
  refine ⟨_, _, p5 _ ?_, hrun, hended, _, _, rfl, ?_, ⟨_, rfl⟩, hW, hsame.mono (by decide) (by decide)⟩
  · exact retOut X2 hx Bd.returns rfl (Or.inl ⟨rfl, by simp, _, rfl⟩) (hb hby d2_21) hr
  · show Q2_3 Z a_IS_IRI a_IS_BLANK a_REGEX a_STR a_IS_LITERAL i0 h0 n0 _ T2.heap _
    exact ⟨N0, e2, (Or.inl ⟨rfl, g4⟩)⟩
 ·
  have p6 : ∀ t, St p e below T2 (mkF m 10 #[.val (.ref a_IS_BLANK), .val (.int i0)] [(.ref a_IS_BLANK), (.int i0)]) t → S0 t := fun t k => p3 t (by
    show St p e below T2 (mkF m 5 #[.val (.ref a_IS_BLANK), .val (.int i0)] [(.int (1 : Int32)), (.int i0)]) t
    refine XS.icmpNo X2.here hx rfl (hb hby d2_5) rfl (flt g4).1 ?_
    show St p e below T2 (mkF m 8 #[.val (.ref a_IS_BLANK), .val (.int i0)] []) t
    refine XS.iloadN X2.here hx rfl (hb hby d2_8) rfl ?_
    show St p e below T2 (mkF m 9 #[.val (.ref a_IS_BLANK), .val (.int i0)] [(.int i0)]) t
    refine XS.aloadN X2.here hx rfl (hb hby d2_9) rfl rfl ?_
    exact k)
  obtain ⟨T7, X7, e7, st7⟩ := getF X2 hx hZ hown (host := "") (Or.inl (ww hw 15 rfl)) Via.refl e2 (Fa_IS_BLANK_maxArguments.ext O0.2) (g := (mkF m 10 #[.val (.ref a_IS_BLANK), .val (.int i0)] [(.ref a_IS_BLANK), (.int i0)])) rfl rfl (hb hby d2_10)
  have p8 : ∀ t, St p e below T7 (mkF m 13 #[.val (.ref a_IS_BLANK), .val (.int i0)] [(.int (1 : Int32)), (.int i0)]) t → S0 t := fun t k => p6 t (st7 t k)
  by_cases g9 : (1 : Int32) < i0
  ·
   have p10 : ∀ t, St p e below T7 (mkF m 21 #[.val (.ref a_IS_BLANK), .val (.int i0)] [(.int (0 : Int32))]) t → S0 t := fun t k => p8 t (by
     show St p e below T7 (mkF m 13 #[.val (.ref a_IS_BLANK), .val (.int i0)] [(.int (1 : Int32)), (.int i0)]) t
     refine XS.icmpYes X7.here hx rfl (pc0 := 13) (pc' := 20) rfl (hb hby d2_13) rfl (tlt g9).2.2.1 (by decide) (by decide) ?_
     show St p e below T7 (mkF m 20 #[.val (.ref a_IS_BLANK), .val (.int i0)] []) t
     refine XT.iconstV X7.here hx rfl (0 : Int32) (hb hby d2_20) (by decide) ?_
     exact k)
   obtain ⟨fs, hr, hrun, hended, hW, hsame⟩ := X7.leave (v := some (.int (0 : Int32))) (fun h => by rw [Bd.returns] at h; cases h)
   refine ⟨_, _, p10 _ ?_, hrun, hended, _, _, rfl, ?_, ⟨_, rfl⟩, hW, hsame.mono (by decide) (by decide)⟩
   · exact retOut X7 hx Bd.returns rfl (Or.inl ⟨rfl, by simp, _, rfl⟩) (hb hby d2_21) hr
   · show Q2_3 Z a_IS_IRI a_IS_BLANK a_REGEX a_STR a_IS_LITERAL i0 h0 n0 _ T7.heap _
     exact ⟨N0, e7, (Or.inr (Or.inl ⟨rfl, g4, g9⟩))⟩
  ·
   have p11 : ∀ t, St p e below T7 (mkF m 21 #[.val (.ref a_IS_BLANK), .val (.int i0)] [(.int (1 : Int32))]) t → S0 t := fun t k => p8 t (by
     show St p e below T7 (mkF m 13 #[.val (.ref a_IS_BLANK), .val (.int i0)] [(.int (1 : Int32)), (.int i0)]) t
     refine XS.icmpNo X7.here hx rfl (hb hby d2_13) rfl (flt g9).2.2.1 ?_
     show St p e below T7 (mkF m 16 #[.val (.ref a_IS_BLANK), .val (.int i0)] []) t
     refine XT.iconstV X7.here hx rfl (1 : Int32) (hb hby d2_16) (by decide) ?_
     show St p e below T7 (mkF m 17 #[.val (.ref a_IS_BLANK), .val (.int i0)] [(.int (1 : Int32))]) t
     refine XS.goto X7.here hx rfl (pc0 := 17) (pc' := 21) rfl (hb hby d2_17) (by decide) (by decide) ?_
     exact k)
   obtain ⟨fs, hr, hrun, hended, hW, hsame⟩ := X7.leave (v := some (.int (1 : Int32))) (fun h => by rw [Bd.returns] at h; cases h)
   refine ⟨_, _, p11 _ ?_, hrun, hended, _, _, rfl, ?_, ⟨_, rfl⟩, hW, hsame.mono (by decide) (by decide)⟩
   · exact retOut X7 hx Bd.returns rfl (Or.inl ⟨rfl, by simp, _, rfl⟩) (hb hby d2_21) hr
   · show Q2_3 Z a_IS_IRI a_IS_BLANK a_REGEX a_STR a_IS_LITERAL i0 h0 n0 _ T7.heap _
     exact ⟨N0, e7, (Or.inr (Or.inr (⟨rfl, g4, g9⟩)))⟩
def Q3_4 (Z : State) (a_IS_IRI : Addr) (a_IS_BLANK : Addr) (a_REGEX : Addr) (a_STR : Addr) (a_IS_LITERAL : Addr) (i0 : Int32) (h0 : Heap) (n0 : Nat) (v : Option Value) (h : Heap) (L : List Loc) : Prop := Fr n0 L ∧ h = h0 ∧ ((v = some (.int (1 : Int32)) ∧ i0 = (1 : Int32)) ∨ (v = some (.int (0 : Int32)) ∧ ¬ (i0 = (1 : Int32))))
set_option maxRecDepth 65536 in
set_option maxHeartbeats 40000000 in
theorem rm3_4 (l : Launch) (Z : State) (a0 : Array Value) (hw : ∀ d ∈ tables_1, d.before a0 Z = true) (ws : List Jvm.Cond) (a_IS_IRI : Addr) (a_IS_BLANK : Addr) (a_REGEX : Addr) (a_STR : Addr) (a_IS_LITERAL : Addr) (i0 : Int32) (h0 : Heap) (n0 : Nat) (O0 : Old Z n0 h0) (HE : Env1 Z a_IS_IRI a_IS_BLANK a_REGEX a_STR a_IS_LITERAL)  :
    MetFree l M2 (head1 (Jvm.Cond.code M2 method_3_code 2 (some .boolean) :: ws) ({ frames := 0, cells := 0, slots := 0, locals := 0 } : Room)) (fun a U => a = #[(.int (1 : Int32)), (.int i0)] ∧ Z.Warmed39 U.vm ∧ U.heap = h0) (fun _ _ _ _ _ => True) (fun _ U o U' => ∃ v L, o = .returned v ∧ Q3_4 Z a_IS_IRI a_IS_BLANK a_REGEX a_STR a_IS_LITERAL i0 h0 n0 v U'.heap L ∧ FrameEnd U o U' L ({ frames := 0, cells := 0, slots := 0, locals := 0 } : Room).cells ({ frames := 0, cells := 0, slots := 0, locals := 0 } : Room).slots) := by
 refine MetFree.of_bodySF (plainFor_of_name pn0) hisR ?_
 intro p e s m args below meth c s₁ Bd hml0 hP hK
 obtain ⟨rfl, hZ, hh⟩ := hP
 have hx := Bd.exec
 have hby := Bd.bytes
 have hml : c.maxLocals = 2 := hml0
 have hown : s.vm.findClass "com/example/quadrille/quadrille/sparql/FunctionTakesPinLaw" = some m.cls := findClass_of_methodNamed Bd.named
 have hnm := (name_of_methodNamed Bd.named Bd.method).1
 have X0 : Stand p l e ({ frames := 0, cells := 0, slots := 0, locals := 0 } : Room) s m #[(.int (1 : Int32)), (.int i0)] below meth c s₁ [] 0 0 := Stand.of_body Bd
 have e0 : s₁.heap = h0 := by rw [← hh, Bd.state]; rfl
 have N0 := Fr.nil n0
 let S0 : State → Prop := fun t => Steps p.tables e below (s₁.setTop (entryFrame m #[(.int (1 : Int32)), (.int i0)] 2)) t
 have p0 : ∀ t, St p e below s₁ (mkF m 0 #[.val (.int (1 : Int32)), .val (.int i0)] []) t → S0 t := fun t k => castTop (ef3 m (1 : Int32) i0) k
 have HE' := HE
 obtain ⟨Sa_IS_IRI, Ea_IS_IRI, Fa_IS_IRI_minArguments, Fa_IS_IRI_maxArguments, Sa_IS_BLANK, Ea_IS_BLANK, Fa_IS_BLANK_minArguments, Fa_IS_BLANK_maxArguments, Sa_REGEX, Ea_REGEX, Fa_REGEX_minArguments, Fa_REGEX_maxArguments, Sa_STR, Ea_STR, Fa_STR_minArguments, Fa_STR_maxArguments, Sa_IS_LITERAL, Ea_IS_LITERAL, Fa_IS_LITERAL_minArguments, Fa_IS_LITERAL_maxArguments⟩ := HE
 have p1 : ∀ t, St p e below s₁ (mkF m 23 #[.val (.int (1 : Int32)), .val (.int i0)] [(.int (1 : Int32)), (.int i0)]) t → S0 t := fun t k => p0 t (by
   show St p e below s₁ (mkF m 0 #[.val (.int (1 : Int32)), .val (.int i0)] []) t
   refine XS.iloadN X0.here hx rfl (hb hby d3_0) rfl ?_
   show St p e below s₁ (mkF m 1 #[.val (.int (1 : Int32)), .val (.int i0)] [(.int (1 : Int32))]) t
   refine XT.iconstV X0.here hx rfl (4 : Int32) (hb hby d3_1) (by decide) ?_
   show St p e below s₁ (mkF m 2 #[.val (.int (1 : Int32)), .val (.int i0)] [(.int (4 : Int32)), (.int (1 : Int32))]) t
   refine XS.icmpYes X0.here hx rfl (pc0 := 2) (pc' := 21) rfl (hb hby d3_2) rfl (feq (by decide : ¬ ((1 : Int32) = (4 : Int32)))).2 (by decide) (by decide) ?_
   show St p e below s₁ (mkF m 21 #[.val (.int (1 : Int32)), .val (.int i0)] []) t
   refine XS.iloadN X0.here hx rfl (hb hby d3_21) rfl ?_
   show St p e below s₁ (mkF m 22 #[.val (.int (1 : Int32)), .val (.int i0)] [(.int i0)]) t
   refine XT.iconstV X0.here hx rfl (1 : Int32) (hb hby d3_22) (by decide) ?_
   exact k)
 by_cases g2 : i0 = (1 : Int32)
 ·
  have p3 : ∀ t, St p e below s₁ (mkF m 31 #[.val (.int (1 : Int32)), .val (.int i0)] [(.int (1 : Int32))]) t → S0 t := fun t k => p1 t (by
    show St p e below s₁ (mkF m 23 #[.val (.int (1 : Int32)), .val (.int i0)] [(.int (1 : Int32)), (.int i0)]) t
    refine XS.icmpNo X0.here hx rfl (hb hby d3_23) rfl (teq g2).2 ?_
    show St p e below s₁ (mkF m 26 #[.val (.int (1 : Int32)), .val (.int i0)] []) t
    refine XT.iconstV X0.here hx rfl (1 : Int32) (hb hby d3_26) (by decide) ?_
    show St p e below s₁ (mkF m 27 #[.val (.int (1 : Int32)), .val (.int i0)] [(.int (1 : Int32))]) t
    refine XS.goto X0.here hx rfl (pc0 := 27) (pc' := 31) rfl (hb hby d3_27) (by decide) (by decide) ?_
    exact k)
  obtain ⟨fs, hr, hrun, hended, hW, hsame⟩ := X0.leave (v := some (.int (1 : Int32))) (fun h => by rw [Bd.returns] at h; cases h)
  refine ⟨_, _, p3 _ ?_, hrun, hended, _, _, rfl, ?_, ⟨_, rfl⟩, hW, hsame.mono (by decide) (by decide)⟩
  · exact retOut X0 hx Bd.returns rfl (Or.inl ⟨rfl, by simp, _, rfl⟩) (hb hby d3_31) hr
  · show Q3_4 Z a_IS_IRI a_IS_BLANK a_REGEX a_STR a_IS_LITERAL i0 h0 n0 _ s₁.heap _
    exact ⟨N0, e0, (Or.inl ⟨rfl, g2⟩)⟩
 ·
  have p4 : ∀ t, St p e below s₁ (mkF m 31 #[.val (.int (1 : Int32)), .val (.int i0)] [(.int (0 : Int32))]) t → S0 t := fun t k => p1 t (by
    show St p e below s₁ (mkF m 23 #[.val (.int (1 : Int32)), .val (.int i0)] [(.int (1 : Int32)), (.int i0)]) t
    refine XS.icmpYes X0.here hx rfl (pc0 := 23) (pc' := 30) rfl (hb hby d3_23) rfl (feq g2).2 (by decide) (by decide) ?_
    show St p e below s₁ (mkF m 30 #[.val (.int (1 : Int32)), .val (.int i0)] []) t
    refine XT.iconstV X0.here hx rfl (0 : Int32) (hb hby d3_30) (by decide) ?_
    exact k)
  obtain ⟨fs, hr, hrun, hended, hW, hsame⟩ := X0.leave (v := some (.int (0 : Int32))) (fun h => by rw [Bd.returns] at h; cases h)
  refine ⟨_, _, p4 _ ?_, hrun, hended, _, _, rfl, ?_, ⟨_, rfl⟩, hW, hsame.mono (by decide) (by decide)⟩
  · exact retOut X0 hx Bd.returns rfl (Or.inl ⟨rfl, by simp, _, rfl⟩) (hb hby d3_31) hr
  · show Q3_4 Z a_IS_IRI a_IS_BLANK a_REGEX a_STR a_IS_LITERAL i0 h0 n0 _ s₁.heap _
    exact ⟨N0, e0, (Or.inr (⟨rfl, g2⟩))⟩
def Q2_5 (Z : State) (a_IS_IRI : Addr) (a_IS_BLANK : Addr) (a_REGEX : Addr) (a_STR : Addr) (a_IS_LITERAL : Addr) (i0 : Int32) (h0 : Heap) (n0 : Nat) (v : Option Value) (h : Heap) (L : List Loc) : Prop := Fr n0 L ∧ h = h0 ∧ ((v = some (.int (0 : Int32)) ∧ i0 < (1 : Int32)) ∨ (v = some (.int (0 : Int32)) ∧ ¬ (i0 < (1 : Int32)) ∧ (1 : Int32) < i0) ∨ (v = some (.int (1 : Int32)) ∧ ¬ (i0 < (1 : Int32)) ∧ ¬ ((1 : Int32) < i0)))
set_option maxRecDepth 65536 in
set_option maxHeartbeats 40000000 in
theorem rm2_5 (l : Launch) (Z : State) (a0 : Array Value) (hw : ∀ d ∈ tables_1, d.before a0 Z = true) (ws : List Jvm.Cond) (a_IS_IRI : Addr) (a_IS_BLANK : Addr) (a_REGEX : Addr) (a_STR : Addr) (a_IS_LITERAL : Addr) (i0 : Int32) (h0 : Heap) (n0 : Nat) (O0 : Old Z n0 h0) (HE : Env1 Z a_IS_IRI a_IS_BLANK a_REGEX a_STR a_IS_LITERAL)  :
    MetFree l M1 (head1 (Jvm.Cond.code M1 prog_87_method_6_code 2 (some .boolean) :: ws) ({ frames := 0, cells := 0, slots := 0, locals := 0 } : Room)) (fun a U => a = #[(.ref a_IS_LITERAL), (.int i0)] ∧ Z.Warmed39 U.vm ∧ U.heap = h0) (fun _ _ _ _ _ => True) (fun _ U o U' => ∃ v L, o = .returned v ∧ Q2_5 Z a_IS_IRI a_IS_BLANK a_REGEX a_STR a_IS_LITERAL i0 h0 n0 v U'.heap L ∧ FrameEnd U o U' L ({ frames := 0, cells := 0, slots := 0, locals := 0 } : Room).cells ({ frames := 0, cells := 0, slots := 0, locals := 0 } : Room).slots) := by
 refine MetFree.of_bodySF (plainFor_of_name pn1) hisR ?_
 intro p e s m args below meth c s₁ Bd hml0 hP hK
 obtain ⟨rfl, hZ, hh⟩ := hP
 have hx := Bd.exec
 have hby := Bd.bytes
 have hml : c.maxLocals = 2 := hml0
 have hown : s.vm.findClass "com/example/quadrille/quadrille/sparql/Operators$Function" = some m.cls := findClass_of_methodNamed Bd.named
 have hnm := (name_of_methodNamed Bd.named Bd.method).1
 have X0 : Stand p l e ({ frames := 0, cells := 0, slots := 0, locals := 0 } : Room) s m #[(.ref a_IS_LITERAL), (.int i0)] below meth c s₁ [] 0 0 := Stand.of_body Bd
 have e0 : s₁.heap = h0 := by rw [← hh, Bd.state]; rfl
 have N0 := Fr.nil n0
 let S0 : State → Prop := fun t => Steps p.tables e below (s₁.setTop (entryFrame m #[(.ref a_IS_LITERAL), (.int i0)] 2)) t
 have p0 : ∀ t, St p e below s₁ (mkF m 0 #[.val (.ref a_IS_LITERAL), .val (.int i0)] []) t → S0 t := fun t k => castTop (ef2 m a_IS_LITERAL i0) k
 have HE' := HE
 obtain ⟨Sa_IS_IRI, Ea_IS_IRI, Fa_IS_IRI_minArguments, Fa_IS_IRI_maxArguments, Sa_IS_BLANK, Ea_IS_BLANK, Fa_IS_BLANK_minArguments, Fa_IS_BLANK_maxArguments, Sa_REGEX, Ea_REGEX, Fa_REGEX_minArguments, Fa_REGEX_maxArguments, Sa_STR, Ea_STR, Fa_STR_minArguments, Fa_STR_maxArguments, Sa_IS_LITERAL, Ea_IS_LITERAL, Fa_IS_LITERAL_minArguments, Fa_IS_LITERAL_maxArguments⟩ := HE
 have p1 : ∀ t, St p e below s₁ (mkF m 2 #[.val (.ref a_IS_LITERAL), .val (.int i0)] [(.ref a_IS_LITERAL), (.int i0)]) t → S0 t := fun t k => p0 t (by
   show St p e below s₁ (mkF m 0 #[.val (.ref a_IS_LITERAL), .val (.int i0)] []) t
   refine XS.iloadN X0.here hx rfl (hb hby d2_0) rfl ?_
   show St p e below s₁ (mkF m 1 #[.val (.ref a_IS_LITERAL), .val (.int i0)] [(.int i0)]) t
   refine XS.aloadN X0.here hx rfl (hb hby d2_1) rfl rfl ?_
   exact k)
 obtain ⟨T2, X2, e2, st2⟩ := getF X0 hx hZ hown (host := "") (Or.inl (ww hw 13 rfl)) Via.refl e0 (Fa_IS_LITERAL_minArguments.ext O0.2) (g := (mkF m 2 #[.val (.ref a_IS_LITERAL), .val (.int i0)] [(.ref a_IS_LITERAL), (.int i0)])) rfl rfl (hb hby d2_2)
 have p3 : ∀ t, St p e below T2 (mkF m 5 #[.val (.ref a_IS_LITERAL), .val (.int i0)] [(.int (1 : Int32)), (.int i0)]) t → S0 t := fun t k => p1 t (st2 t k)
 by_cases g4 : i0 < (1 : Int32)
 ·
  have p5 : ∀ t, St p e below T2 (mkF m 21 #[.val (.ref a_IS_LITERAL), .val (.int i0)] [(.int (0 : Int32))]) t → S0 t := fun t k => p3 t (by
    show St p e below T2 (mkF m 5 #[.val (.ref a_IS_LITERAL), .val (.int i0)] [(.int (1 : Int32)), (.int i0)]) t
    refine XS.icmpYes X2.here hx rfl (pc0 := 5) (pc' := 20) rfl (hb hby d2_5) rfl (tlt g4).1 (by decide) (by decide) ?_
    show St p e below T2 (mkF m 20 #[.val (.ref a_IS_LITERAL), .val (.int i0)] []) t
    refine XT.iconstV X2.here hx rfl (0 : Int32) (hb hby d2_20) (by decide) ?_
    exact k)
  obtain ⟨fs, hr, hrun, hended, hW, hsame⟩ := X2.leave (v := some (.int (0 : Int32))) (fun h => by rw [Bd.returns] at h; cases h)
  refine ⟨_, _, p5 _ ?_, hrun, hended, _, _, rfl, ?_, ⟨_, rfl⟩, hW, hsame.mono (by decide) (by decide)⟩
  · exact retOut X2 hx Bd.returns rfl (Or.inl ⟨rfl, by simp, _, rfl⟩) (hb hby d2_21) hr
  · show Q2_5 Z a_IS_IRI a_IS_BLANK a_REGEX a_STR a_IS_LITERAL i0 h0 n0 _ T2.heap _
    exact ⟨N0, e2, (Or.inl ⟨rfl, g4⟩)⟩
 ·
  have p6 : ∀ t, St p e below T2 (mkF m 10 #[.val (.ref a_IS_LITERAL), .val (.int i0)] [(.ref a_IS_LITERAL), (.int i0)]) t → S0 t := fun t k => p3 t (by
    show St p e below T2 (mkF m 5 #[.val (.ref a_IS_LITERAL), .val (.int i0)] [(.int (1 : Int32)), (.int i0)]) t
    refine XS.icmpNo X2.here hx rfl (hb hby d2_5) rfl (flt g4).1 ?_
    show St p e below T2 (mkF m 8 #[.val (.ref a_IS_LITERAL), .val (.int i0)] []) t
    refine XS.iloadN X2.here hx rfl (hb hby d2_8) rfl ?_
    show St p e below T2 (mkF m 9 #[.val (.ref a_IS_LITERAL), .val (.int i0)] [(.int i0)]) t
    refine XS.aloadN X2.here hx rfl (hb hby d2_9) rfl rfl ?_
    exact k)
  obtain ⟨T7, X7, e7, st7⟩ := getF X2 hx hZ hown (host := "") (Or.inl (ww hw 15 rfl)) Via.refl e2 (Fa_IS_LITERAL_maxArguments.ext O0.2) (g := (mkF m 10 #[.val (.ref a_IS_LITERAL), .val (.int i0)] [(.ref a_IS_LITERAL), (.int i0)])) rfl rfl (hb hby d2_10)
  have p8 : ∀ t, St p e below T7 (mkF m 13 #[.val (.ref a_IS_LITERAL), .val (.int i0)] [(.int (1 : Int32)), (.int i0)]) t → S0 t := fun t k => p6 t (st7 t k)
  by_cases g9 : (1 : Int32) < i0
  ·
   have p10 : ∀ t, St p e below T7 (mkF m 21 #[.val (.ref a_IS_LITERAL), .val (.int i0)] [(.int (0 : Int32))]) t → S0 t := fun t k => p8 t (by
     show St p e below T7 (mkF m 13 #[.val (.ref a_IS_LITERAL), .val (.int i0)] [(.int (1 : Int32)), (.int i0)]) t
     refine XS.icmpYes X7.here hx rfl (pc0 := 13) (pc' := 20) rfl (hb hby d2_13) rfl (tlt g9).2.2.1 (by decide) (by decide) ?_
     show St p e below T7 (mkF m 20 #[.val (.ref a_IS_LITERAL), .val (.int i0)] []) t
     refine XT.iconstV X7.here hx rfl (0 : Int32) (hb hby d2_20) (by decide) ?_
     exact k)
   obtain ⟨fs, hr, hrun, hended, hW, hsame⟩ := X7.leave (v := some (.int (0 : Int32))) (fun h => by rw [Bd.returns] at h; cases h)
   refine ⟨_, _, p10 _ ?_, hrun, hended, _, _, rfl, ?_, ⟨_, rfl⟩, hW, hsame.mono (by decide) (by decide)⟩
   · exact retOut X7 hx Bd.returns rfl (Or.inl ⟨rfl, by simp, _, rfl⟩) (hb hby d2_21) hr
   · show Q2_5 Z a_IS_IRI a_IS_BLANK a_REGEX a_STR a_IS_LITERAL i0 h0 n0 _ T7.heap _
     exact ⟨N0, e7, (Or.inr (Or.inl ⟨rfl, g4, g9⟩))⟩
  ·
   have p11 : ∀ t, St p e below T7 (mkF m 21 #[.val (.ref a_IS_LITERAL), .val (.int i0)] [(.int (1 : Int32))]) t → S0 t := fun t k => p8 t (by
     show St p e below T7 (mkF m 13 #[.val (.ref a_IS_LITERAL), .val (.int i0)] [(.int (1 : Int32)), (.int i0)]) t
     refine XS.icmpNo X7.here hx rfl (hb hby d2_13) rfl (flt g9).2.2.1 ?_
     show St p e below T7 (mkF m 16 #[.val (.ref a_IS_LITERAL), .val (.int i0)] []) t
     refine XT.iconstV X7.here hx rfl (1 : Int32) (hb hby d2_16) (by decide) ?_
     show St p e below T7 (mkF m 17 #[.val (.ref a_IS_LITERAL), .val (.int i0)] [(.int (1 : Int32))]) t
     refine XS.goto X7.here hx rfl (pc0 := 17) (pc' := 21) rfl (hb hby d2_17) (by decide) (by decide) ?_
     exact k)
   obtain ⟨fs, hr, hrun, hended, hW, hsame⟩ := X7.leave (v := some (.int (1 : Int32))) (fun h => by rw [Bd.returns] at h; cases h)
   refine ⟨_, _, p11 _ ?_, hrun, hended, _, _, rfl, ?_, ⟨_, rfl⟩, hW, hsame.mono (by decide) (by decide)⟩
   · exact retOut X7 hx Bd.returns rfl (Or.inl ⟨rfl, by simp, _, rfl⟩) (hb hby d2_21) hr
   · show Q2_5 Z a_IS_IRI a_IS_BLANK a_REGEX a_STR a_IS_LITERAL i0 h0 n0 _ T7.heap _
     exact ⟨N0, e7, (Or.inr (Or.inr (⟨rfl, g4, g9⟩)))⟩
def Q3_6 (Z : State) (a_IS_IRI : Addr) (a_IS_BLANK : Addr) (a_REGEX : Addr) (a_STR : Addr) (a_IS_LITERAL : Addr) (i0 : Int32) (h0 : Heap) (n0 : Nat) (v : Option Value) (h : Heap) (L : List Loc) : Prop := Fr n0 L ∧ h = h0 ∧ ((v = some (.int (1 : Int32)) ∧ i0 = (1 : Int32)) ∨ (v = some (.int (0 : Int32)) ∧ ¬ (i0 = (1 : Int32))))
set_option maxRecDepth 65536 in
set_option maxHeartbeats 40000000 in
theorem rm3_6 (l : Launch) (Z : State) (a0 : Array Value) (hw : ∀ d ∈ tables_1, d.before a0 Z = true) (ws : List Jvm.Cond) (a_IS_IRI : Addr) (a_IS_BLANK : Addr) (a_REGEX : Addr) (a_STR : Addr) (a_IS_LITERAL : Addr) (i0 : Int32) (h0 : Heap) (n0 : Nat) (O0 : Old Z n0 h0) (HE : Env1 Z a_IS_IRI a_IS_BLANK a_REGEX a_STR a_IS_LITERAL)  :
    MetFree l M2 (head1 (Jvm.Cond.code M2 method_3_code 2 (some .boolean) :: ws) ({ frames := 0, cells := 0, slots := 0, locals := 0 } : Room)) (fun a U => a = #[(.int (2 : Int32)), (.int i0)] ∧ Z.Warmed39 U.vm ∧ U.heap = h0) (fun _ _ _ _ _ => True) (fun _ U o U' => ∃ v L, o = .returned v ∧ Q3_6 Z a_IS_IRI a_IS_BLANK a_REGEX a_STR a_IS_LITERAL i0 h0 n0 v U'.heap L ∧ FrameEnd U o U' L ({ frames := 0, cells := 0, slots := 0, locals := 0 } : Room).cells ({ frames := 0, cells := 0, slots := 0, locals := 0 } : Room).slots) := by
 refine MetFree.of_bodySF (plainFor_of_name pn0) hisR ?_
 intro p e s m args below meth c s₁ Bd hml0 hP hK
 obtain ⟨rfl, hZ, hh⟩ := hP
 have hx := Bd.exec
 have hby := Bd.bytes
 have hml : c.maxLocals = 2 := hml0
 have hown : s.vm.findClass "com/example/quadrille/quadrille/sparql/FunctionTakesPinLaw" = some m.cls := findClass_of_methodNamed Bd.named
 have hnm := (name_of_methodNamed Bd.named Bd.method).1
 have X0 : Stand p l e ({ frames := 0, cells := 0, slots := 0, locals := 0 } : Room) s m #[(.int (2 : Int32)), (.int i0)] below meth c s₁ [] 0 0 := Stand.of_body Bd
 have e0 : s₁.heap = h0 := by rw [← hh, Bd.state]; rfl
 have N0 := Fr.nil n0
 let S0 : State → Prop := fun t => Steps p.tables e below (s₁.setTop (entryFrame m #[(.int (2 : Int32)), (.int i0)] 2)) t
 have p0 : ∀ t, St p e below s₁ (mkF m 0 #[.val (.int (2 : Int32)), .val (.int i0)] []) t → S0 t := fun t k => castTop (ef3 m (2 : Int32) i0) k
 have HE' := HE
 obtain ⟨Sa_IS_IRI, Ea_IS_IRI, Fa_IS_IRI_minArguments, Fa_IS_IRI_maxArguments, Sa_IS_BLANK, Ea_IS_BLANK, Fa_IS_BLANK_minArguments, Fa_IS_BLANK_maxArguments, Sa_REGEX, Ea_REGEX, Fa_REGEX_minArguments, Fa_REGEX_maxArguments, Sa_STR, Ea_STR, Fa_STR_minArguments, Fa_STR_maxArguments, Sa_IS_LITERAL, Ea_IS_LITERAL, Fa_IS_LITERAL_minArguments, Fa_IS_LITERAL_maxArguments⟩ := HE
 have p1 : ∀ t, St p e below s₁ (mkF m 23 #[.val (.int (2 : Int32)), .val (.int i0)] [(.int (1 : Int32)), (.int i0)]) t → S0 t := fun t k => p0 t (by
   show St p e below s₁ (mkF m 0 #[.val (.int (2 : Int32)), .val (.int i0)] []) t
   refine XS.iloadN X0.here hx rfl (hb hby d3_0) rfl ?_
   show St p e below s₁ (mkF m 1 #[.val (.int (2 : Int32)), .val (.int i0)] [(.int (2 : Int32))]) t
   refine XT.iconstV X0.here hx rfl (4 : Int32) (hb hby d3_1) (by decide) ?_
   show St p e below s₁ (mkF m 2 #[.val (.int (2 : Int32)), .val (.int i0)] [(.int (4 : Int32)), (.int (2 : Int32))]) t
   refine XS.icmpYes X0.here hx rfl (pc0 := 2) (pc' := 21) rfl (hb hby d3_2) rfl (feq (by decide : ¬ ((2 : Int32) = (4 : Int32)))).2 (by decide) (by decide) ?_
   show St p e below s₁ (mkF m 21 #[.val (.int (2 : Int32)), .val (.int i0)] []) t
   refine XS.iloadN X0.here hx rfl (hb hby d3_21) rfl ?_
   show St p e below s₁ (mkF m 22 #[.val (.int (2 : Int32)), .val (.int i0)] [(.int i0)]) t
   refine XT.iconstV X0.here hx rfl (1 : Int32) (hb hby d3_22) (by decide) ?_
   exact k)
 by_cases g2 : i0 = (1 : Int32)
 ·
  have p3 : ∀ t, St p e below s₁ (mkF m 31 #[.val (.int (2 : Int32)), .val (.int i0)] [(.int (1 : Int32))]) t → S0 t := fun t k => p1 t (by
    show St p e below s₁ (mkF m 23 #[.val (.int (2 : Int32)), .val (.int i0)] [(.int (1 : Int32)), (.int i0)]) t
    refine XS.icmpNo X0.here hx rfl (hb hby d3_23) rfl (teq g2).2 ?_
    show St p e below s₁ (mkF m 26 #[.val (.int (2 : Int32)), .val (.int i0)] []) t
    refine XT.iconstV X0.here hx rfl (1 : Int32) (hb hby d3_26) (by decide) ?_
    show St p e below s₁ (mkF m 27 #[.val (.int (2 : Int32)), .val (.int i0)] [(.int (1 : Int32))]) t
    refine XS.goto X0.here hx rfl (pc0 := 27) (pc' := 31) rfl (hb hby d3_27) (by decide) (by decide) ?_
    exact k)
  obtain ⟨fs, hr, hrun, hended, hW, hsame⟩ := X0.leave (v := some (.int (1 : Int32))) (fun h => by rw [Bd.returns] at h; cases h)
  refine ⟨_, _, p3 _ ?_, hrun, hended, _, _, rfl, ?_, ⟨_, rfl⟩, hW, hsame.mono (by decide) (by decide)⟩
  · exact retOut X0 hx Bd.returns rfl (Or.inl ⟨rfl, by simp, _, rfl⟩) (hb hby d3_31) hr
  · show Q3_6 Z a_IS_IRI a_IS_BLANK a_REGEX a_STR a_IS_LITERAL i0 h0 n0 _ s₁.heap _
    exact ⟨N0, e0, (Or.inl ⟨rfl, g2⟩)⟩
 ·
  have p4 : ∀ t, St p e below s₁ (mkF m 31 #[.val (.int (2 : Int32)), .val (.int i0)] [(.int (0 : Int32))]) t → S0 t := fun t k => p1 t (by
    show St p e below s₁ (mkF m 23 #[.val (.int (2 : Int32)), .val (.int i0)] [(.int (1 : Int32)), (.int i0)]) t
    refine XS.icmpYes X0.here hx rfl (pc0 := 23) (pc' := 30) rfl (hb hby d3_23) rfl (feq g2).2 (by decide) (by decide) ?_
    show St p e below s₁ (mkF m 30 #[.val (.int (2 : Int32)), .val (.int i0)] []) t
    refine XT.iconstV X0.here hx rfl (0 : Int32) (hb hby d3_30) (by decide) ?_
    exact k)
  obtain ⟨fs, hr, hrun, hended, hW, hsame⟩ := X0.leave (v := some (.int (0 : Int32))) (fun h => by rw [Bd.returns] at h; cases h)
  refine ⟨_, _, p4 _ ?_, hrun, hended, _, _, rfl, ?_, ⟨_, rfl⟩, hW, hsame.mono (by decide) (by decide)⟩
  · exact retOut X0 hx Bd.returns rfl (Or.inl ⟨rfl, by simp, _, rfl⟩) (hb hby d3_31) hr
  · show Q3_6 Z a_IS_IRI a_IS_BLANK a_REGEX a_STR a_IS_LITERAL i0 h0 n0 _ s₁.heap _
    exact ⟨N0, e0, (Or.inr (⟨rfl, g2⟩))⟩
def Q2_7 (Z : State) (a_IS_IRI : Addr) (a_IS_BLANK : Addr) (a_REGEX : Addr) (a_STR : Addr) (a_IS_LITERAL : Addr) (i0 : Int32) (h0 : Heap) (n0 : Nat) (v : Option Value) (h : Heap) (L : List Loc) : Prop := Fr n0 L ∧ h = h0 ∧ ((v = some (.int (0 : Int32)) ∧ i0 < (1 : Int32)) ∨ (v = some (.int (0 : Int32)) ∧ ¬ (i0 < (1 : Int32)) ∧ (1 : Int32) < i0) ∨ (v = some (.int (1 : Int32)) ∧ ¬ (i0 < (1 : Int32)) ∧ ¬ ((1 : Int32) < i0)))
set_option maxRecDepth 65536 in
set_option maxHeartbeats 40000000 in
theorem rm2_7 (l : Launch) (Z : State) (a0 : Array Value) (hw : ∀ d ∈ tables_1, d.before a0 Z = true) (ws : List Jvm.Cond) (a_IS_IRI : Addr) (a_IS_BLANK : Addr) (a_REGEX : Addr) (a_STR : Addr) (a_IS_LITERAL : Addr) (i0 : Int32) (h0 : Heap) (n0 : Nat) (O0 : Old Z n0 h0) (HE : Env1 Z a_IS_IRI a_IS_BLANK a_REGEX a_STR a_IS_LITERAL)  :
    MetFree l M1 (head1 (Jvm.Cond.code M1 prog_87_method_6_code 2 (some .boolean) :: ws) ({ frames := 0, cells := 0, slots := 0, locals := 0 } : Room)) (fun a U => a = #[(.ref a_STR), (.int i0)] ∧ Z.Warmed39 U.vm ∧ U.heap = h0) (fun _ _ _ _ _ => True) (fun _ U o U' => ∃ v L, o = .returned v ∧ Q2_7 Z a_IS_IRI a_IS_BLANK a_REGEX a_STR a_IS_LITERAL i0 h0 n0 v U'.heap L ∧ FrameEnd U o U' L ({ frames := 0, cells := 0, slots := 0, locals := 0 } : Room).cells ({ frames := 0, cells := 0, slots := 0, locals := 0 } : Room).slots) := by
 refine MetFree.of_bodySF (plainFor_of_name pn1) hisR ?_
 intro p e s m args below meth c s₁ Bd hml0 hP hK
 obtain ⟨rfl, hZ, hh⟩ := hP
 have hx := Bd.exec
 have hby := Bd.bytes
 have hml : c.maxLocals = 2 := hml0
 have hown : s.vm.findClass "com/example/quadrille/quadrille/sparql/Operators$Function" = some m.cls := findClass_of_methodNamed Bd.named
 have hnm := (name_of_methodNamed Bd.named Bd.method).1
 have X0 : Stand p l e ({ frames := 0, cells := 0, slots := 0, locals := 0 } : Room) s m #[(.ref a_STR), (.int i0)] below meth c s₁ [] 0 0 := Stand.of_body Bd
 have e0 : s₁.heap = h0 := by rw [← hh, Bd.state]; rfl
 have N0 := Fr.nil n0
 let S0 : State → Prop := fun t => Steps p.tables e below (s₁.setTop (entryFrame m #[(.ref a_STR), (.int i0)] 2)) t
 have p0 : ∀ t, St p e below s₁ (mkF m 0 #[.val (.ref a_STR), .val (.int i0)] []) t → S0 t := fun t k => castTop (ef2 m a_STR i0) k
 have HE' := HE
 obtain ⟨Sa_IS_IRI, Ea_IS_IRI, Fa_IS_IRI_minArguments, Fa_IS_IRI_maxArguments, Sa_IS_BLANK, Ea_IS_BLANK, Fa_IS_BLANK_minArguments, Fa_IS_BLANK_maxArguments, Sa_REGEX, Ea_REGEX, Fa_REGEX_minArguments, Fa_REGEX_maxArguments, Sa_STR, Ea_STR, Fa_STR_minArguments, Fa_STR_maxArguments, Sa_IS_LITERAL, Ea_IS_LITERAL, Fa_IS_LITERAL_minArguments, Fa_IS_LITERAL_maxArguments⟩ := HE
 have p1 : ∀ t, St p e below s₁ (mkF m 2 #[.val (.ref a_STR), .val (.int i0)] [(.ref a_STR), (.int i0)]) t → S0 t := fun t k => p0 t (by
   show St p e below s₁ (mkF m 0 #[.val (.ref a_STR), .val (.int i0)] []) t
   refine XS.iloadN X0.here hx rfl (hb hby d2_0) rfl ?_
   show St p e below s₁ (mkF m 1 #[.val (.ref a_STR), .val (.int i0)] [(.int i0)]) t
   refine XS.aloadN X0.here hx rfl (hb hby d2_1) rfl rfl ?_
   exact k)
 obtain ⟨T2, X2, e2, st2⟩ := getF X0 hx hZ hown (host := "") (Or.inl (ww hw 13 rfl)) Via.refl e0 (Fa_STR_minArguments.ext O0.2) (g := (mkF m 2 #[.val (.ref a_STR), .val (.int i0)] [(.ref a_STR), (.int i0)])) rfl rfl (hb hby d2_2)
 have p3 : ∀ t, St p e below T2 (mkF m 5 #[.val (.ref a_STR), .val (.int i0)] [(.int (1 : Int32)), (.int i0)]) t → S0 t := fun t k => p1 t (st2 t k)
 by_cases g4 : i0 < (1 : Int32)
 ·
  have p5 : ∀ t, St p e below T2 (mkF m 21 #[.val (.ref a_STR), .val (.int i0)] [(.int (0 : Int32))]) t → S0 t := fun t k => p3 t (by
    show St p e below T2 (mkF m 5 #[.val (.ref a_STR), .val (.int i0)] [(.int (1 : Int32)), (.int i0)]) t
    refine XS.icmpYes X2.here hx rfl (pc0 := 5) (pc' := 20) rfl (hb hby d2_5) rfl (tlt g4).1 (by decide) (by decide) ?_
    show St p e below T2 (mkF m 20 #[.val (.ref a_STR), .val (.int i0)] []) t
    refine XT.iconstV X2.here hx rfl (0 : Int32) (hb hby d2_20) (by decide) ?_
    exact k)
  obtain ⟨fs, hr, hrun, hended, hW, hsame⟩ := X2.leave (v := some (.int (0 : Int32))) (fun h => by rw [Bd.returns] at h; cases h)
  refine ⟨_, _, p5 _ ?_, hrun, hended, _, _, rfl, ?_, ⟨_, rfl⟩, hW, hsame.mono (by decide) (by decide)⟩
  · exact retOut X2 hx Bd.returns rfl (Or.inl ⟨rfl, by simp, _, rfl⟩) (hb hby d2_21) hr
  · show Q2_7 Z a_IS_IRI a_IS_BLANK a_REGEX a_STR a_IS_LITERAL i0 h0 n0 _ T2.heap _
    exact ⟨N0, e2, (Or.inl ⟨rfl, g4⟩)⟩
 ·
  have p6 : ∀ t, St p e below T2 (mkF m 10 #[.val (.ref a_STR), .val (.int i0)] [(.ref a_STR), (.int i0)]) t → S0 t := fun t k => p3 t (by
    show St p e below T2 (mkF m 5 #[.val (.ref a_STR), .val (.int i0)] [(.int (1 : Int32)), (.int i0)]) t
    refine XS.icmpNo X2.here hx rfl (hb hby d2_5) rfl (flt g4).1 ?_
    show St p e below T2 (mkF m 8 #[.val (.ref a_STR), .val (.int i0)] []) t
    refine XS.iloadN X2.here hx rfl (hb hby d2_8) rfl ?_
    show St p e below T2 (mkF m 9 #[.val (.ref a_STR), .val (.int i0)] [(.int i0)]) t
    refine XS.aloadN X2.here hx rfl (hb hby d2_9) rfl rfl ?_
    exact k)
  obtain ⟨T7, X7, e7, st7⟩ := getF X2 hx hZ hown (host := "") (Or.inl (ww hw 15 rfl)) Via.refl e2 (Fa_STR_maxArguments.ext O0.2) (g := (mkF m 10 #[.val (.ref a_STR), .val (.int i0)] [(.ref a_STR), (.int i0)])) rfl rfl (hb hby d2_10)
  have p8 : ∀ t, St p e below T7 (mkF m 13 #[.val (.ref a_STR), .val (.int i0)] [(.int (1 : Int32)), (.int i0)]) t → S0 t := fun t k => p6 t (st7 t k)
  by_cases g9 : (1 : Int32) < i0
  ·
   have p10 : ∀ t, St p e below T7 (mkF m 21 #[.val (.ref a_STR), .val (.int i0)] [(.int (0 : Int32))]) t → S0 t := fun t k => p8 t (by
     show St p e below T7 (mkF m 13 #[.val (.ref a_STR), .val (.int i0)] [(.int (1 : Int32)), (.int i0)]) t
     refine XS.icmpYes X7.here hx rfl (pc0 := 13) (pc' := 20) rfl (hb hby d2_13) rfl (tlt g9).2.2.1 (by decide) (by decide) ?_
     show St p e below T7 (mkF m 20 #[.val (.ref a_STR), .val (.int i0)] []) t
     refine XT.iconstV X7.here hx rfl (0 : Int32) (hb hby d2_20) (by decide) ?_
     exact k)
   obtain ⟨fs, hr, hrun, hended, hW, hsame⟩ := X7.leave (v := some (.int (0 : Int32))) (fun h => by rw [Bd.returns] at h; cases h)
   refine ⟨_, _, p10 _ ?_, hrun, hended, _, _, rfl, ?_, ⟨_, rfl⟩, hW, hsame.mono (by decide) (by decide)⟩
   · exact retOut X7 hx Bd.returns rfl (Or.inl ⟨rfl, by simp, _, rfl⟩) (hb hby d2_21) hr
   · show Q2_7 Z a_IS_IRI a_IS_BLANK a_REGEX a_STR a_IS_LITERAL i0 h0 n0 _ T7.heap _
     exact ⟨N0, e7, (Or.inr (Or.inl ⟨rfl, g4, g9⟩))⟩
  ·
   have p11 : ∀ t, St p e below T7 (mkF m 21 #[.val (.ref a_STR), .val (.int i0)] [(.int (1 : Int32))]) t → S0 t := fun t k => p8 t (by
     show St p e below T7 (mkF m 13 #[.val (.ref a_STR), .val (.int i0)] [(.int (1 : Int32)), (.int i0)]) t
     refine XS.icmpNo X7.here hx rfl (hb hby d2_13) rfl (flt g9).2.2.1 ?_
     show St p e below T7 (mkF m 16 #[.val (.ref a_STR), .val (.int i0)] []) t
     refine XT.iconstV X7.here hx rfl (1 : Int32) (hb hby d2_16) (by decide) ?_
     show St p e below T7 (mkF m 17 #[.val (.ref a_STR), .val (.int i0)] [(.int (1 : Int32))]) t
     refine XS.goto X7.here hx rfl (pc0 := 17) (pc' := 21) rfl (hb hby d2_17) (by decide) (by decide) ?_
     exact k)
   obtain ⟨fs, hr, hrun, hended, hW, hsame⟩ := X7.leave (v := some (.int (1 : Int32))) (fun h => by rw [Bd.returns] at h; cases h)
   refine ⟨_, _, p11 _ ?_, hrun, hended, _, _, rfl, ?_, ⟨_, rfl⟩, hW, hsame.mono (by decide) (by decide)⟩
   · exact retOut X7 hx Bd.returns rfl (Or.inl ⟨rfl, by simp, _, rfl⟩) (hb hby d2_21) hr
   · show Q2_7 Z a_IS_IRI a_IS_BLANK a_REGEX a_STR a_IS_LITERAL i0 h0 n0 _ T7.heap _
     exact ⟨N0, e7, (Or.inr (Or.inr (⟨rfl, g4, g9⟩)))⟩
def Q3_8 (Z : State) (a_IS_IRI : Addr) (a_IS_BLANK : Addr) (a_REGEX : Addr) (a_STR : Addr) (a_IS_LITERAL : Addr) (i0 : Int32) (h0 : Heap) (n0 : Nat) (v : Option Value) (h : Heap) (L : List Loc) : Prop := Fr n0 L ∧ h = h0 ∧ ((v = some (.int (1 : Int32)) ∧ i0 = (1 : Int32)) ∨ (v = some (.int (0 : Int32)) ∧ ¬ (i0 = (1 : Int32))))
set_option maxRecDepth 65536 in
set_option maxHeartbeats 40000000 in
theorem rm3_8 (l : Launch) (Z : State) (a0 : Array Value) (hw : ∀ d ∈ tables_1, d.before a0 Z = true) (ws : List Jvm.Cond) (a_IS_IRI : Addr) (a_IS_BLANK : Addr) (a_REGEX : Addr) (a_STR : Addr) (a_IS_LITERAL : Addr) (i0 : Int32) (h0 : Heap) (n0 : Nat) (O0 : Old Z n0 h0) (HE : Env1 Z a_IS_IRI a_IS_BLANK a_REGEX a_STR a_IS_LITERAL)  :
    MetFree l M2 (head1 (Jvm.Cond.code M2 method_3_code 2 (some .boolean) :: ws) ({ frames := 0, cells := 0, slots := 0, locals := 0 } : Room)) (fun a U => a = #[(.int (3 : Int32)), (.int i0)] ∧ Z.Warmed39 U.vm ∧ U.heap = h0) (fun _ _ _ _ _ => True) (fun _ U o U' => ∃ v L, o = .returned v ∧ Q3_8 Z a_IS_IRI a_IS_BLANK a_REGEX a_STR a_IS_LITERAL i0 h0 n0 v U'.heap L ∧ FrameEnd U o U' L ({ frames := 0, cells := 0, slots := 0, locals := 0 } : Room).cells ({ frames := 0, cells := 0, slots := 0, locals := 0 } : Room).slots) := by
 refine MetFree.of_bodySF (plainFor_of_name pn0) hisR ?_
 intro p e s m args below meth c s₁ Bd hml0 hP hK
 obtain ⟨rfl, hZ, hh⟩ := hP
 have hx := Bd.exec
 have hby := Bd.bytes
 have hml : c.maxLocals = 2 := hml0
 have hown : s.vm.findClass "com/example/quadrille/quadrille/sparql/FunctionTakesPinLaw" = some m.cls := findClass_of_methodNamed Bd.named
 have hnm := (name_of_methodNamed Bd.named Bd.method).1
 have X0 : Stand p l e ({ frames := 0, cells := 0, slots := 0, locals := 0 } : Room) s m #[(.int (3 : Int32)), (.int i0)] below meth c s₁ [] 0 0 := Stand.of_body Bd
 have e0 : s₁.heap = h0 := by rw [← hh, Bd.state]; rfl
 have N0 := Fr.nil n0
 let S0 : State → Prop := fun t => Steps p.tables e below (s₁.setTop (entryFrame m #[(.int (3 : Int32)), (.int i0)] 2)) t
 have p0 : ∀ t, St p e below s₁ (mkF m 0 #[.val (.int (3 : Int32)), .val (.int i0)] []) t → S0 t := fun t k => castTop (ef3 m (3 : Int32) i0) k
 have HE' := HE
 obtain ⟨Sa_IS_IRI, Ea_IS_IRI, Fa_IS_IRI_minArguments, Fa_IS_IRI_maxArguments, Sa_IS_BLANK, Ea_IS_BLANK, Fa_IS_BLANK_minArguments, Fa_IS_BLANK_maxArguments, Sa_REGEX, Ea_REGEX, Fa_REGEX_minArguments, Fa_REGEX_maxArguments, Sa_STR, Ea_STR, Fa_STR_minArguments, Fa_STR_maxArguments, Sa_IS_LITERAL, Ea_IS_LITERAL, Fa_IS_LITERAL_minArguments, Fa_IS_LITERAL_maxArguments⟩ := HE
 have p1 : ∀ t, St p e below s₁ (mkF m 23 #[.val (.int (3 : Int32)), .val (.int i0)] [(.int (1 : Int32)), (.int i0)]) t → S0 t := fun t k => p0 t (by
   show St p e below s₁ (mkF m 0 #[.val (.int (3 : Int32)), .val (.int i0)] []) t
   refine XS.iloadN X0.here hx rfl (hb hby d3_0) rfl ?_
   show St p e below s₁ (mkF m 1 #[.val (.int (3 : Int32)), .val (.int i0)] [(.int (3 : Int32))]) t
   refine XT.iconstV X0.here hx rfl (4 : Int32) (hb hby d3_1) (by decide) ?_
   show St p e below s₁ (mkF m 2 #[.val (.int (3 : Int32)), .val (.int i0)] [(.int (4 : Int32)), (.int (3 : Int32))]) t
   refine XS.icmpYes X0.here hx rfl (pc0 := 2) (pc' := 21) rfl (hb hby d3_2) rfl (feq (by decide : ¬ ((3 : Int32) = (4 : Int32)))).2 (by decide) (by decide) ?_
   show St p e below s₁ (mkF m 21 #[.val (.int (3 : Int32)), .val (.int i0)] []) t
   refine XS.iloadN X0.here hx rfl (hb hby d3_21) rfl ?_
   show St p e below s₁ (mkF m 22 #[.val (.int (3 : Int32)), .val (.int i0)] [(.int i0)]) t
   refine XT.iconstV X0.here hx rfl (1 : Int32) (hb hby d3_22) (by decide) ?_
   exact k)
 by_cases g2 : i0 = (1 : Int32)
 ·
  have p3 : ∀ t, St p e below s₁ (mkF m 31 #[.val (.int (3 : Int32)), .val (.int i0)] [(.int (1 : Int32))]) t → S0 t := fun t k => p1 t (by
    show St p e below s₁ (mkF m 23 #[.val (.int (3 : Int32)), .val (.int i0)] [(.int (1 : Int32)), (.int i0)]) t
    refine XS.icmpNo X0.here hx rfl (hb hby d3_23) rfl (teq g2).2 ?_
    show St p e below s₁ (mkF m 26 #[.val (.int (3 : Int32)), .val (.int i0)] []) t
    refine XT.iconstV X0.here hx rfl (1 : Int32) (hb hby d3_26) (by decide) ?_
    show St p e below s₁ (mkF m 27 #[.val (.int (3 : Int32)), .val (.int i0)] [(.int (1 : Int32))]) t
    refine XS.goto X0.here hx rfl (pc0 := 27) (pc' := 31) rfl (hb hby d3_27) (by decide) (by decide) ?_
    exact k)
  obtain ⟨fs, hr, hrun, hended, hW, hsame⟩ := X0.leave (v := some (.int (1 : Int32))) (fun h => by rw [Bd.returns] at h; cases h)
  refine ⟨_, _, p3 _ ?_, hrun, hended, _, _, rfl, ?_, ⟨_, rfl⟩, hW, hsame.mono (by decide) (by decide)⟩
  · exact retOut X0 hx Bd.returns rfl (Or.inl ⟨rfl, by simp, _, rfl⟩) (hb hby d3_31) hr
  · show Q3_8 Z a_IS_IRI a_IS_BLANK a_REGEX a_STR a_IS_LITERAL i0 h0 n0 _ s₁.heap _
    exact ⟨N0, e0, (Or.inl ⟨rfl, g2⟩)⟩
 ·
  have p4 : ∀ t, St p e below s₁ (mkF m 31 #[.val (.int (3 : Int32)), .val (.int i0)] [(.int (0 : Int32))]) t → S0 t := fun t k => p1 t (by
    show St p e below s₁ (mkF m 23 #[.val (.int (3 : Int32)), .val (.int i0)] [(.int (1 : Int32)), (.int i0)]) t
    refine XS.icmpYes X0.here hx rfl (pc0 := 23) (pc' := 30) rfl (hb hby d3_23) rfl (feq g2).2 (by decide) (by decide) ?_
    show St p e below s₁ (mkF m 30 #[.val (.int (3 : Int32)), .val (.int i0)] []) t
    refine XT.iconstV X0.here hx rfl (0 : Int32) (hb hby d3_30) (by decide) ?_
    exact k)
  obtain ⟨fs, hr, hrun, hended, hW, hsame⟩ := X0.leave (v := some (.int (0 : Int32))) (fun h => by rw [Bd.returns] at h; cases h)
  refine ⟨_, _, p4 _ ?_, hrun, hended, _, _, rfl, ?_, ⟨_, rfl⟩, hW, hsame.mono (by decide) (by decide)⟩
  · exact retOut X0 hx Bd.returns rfl (Or.inl ⟨rfl, by simp, _, rfl⟩) (hb hby d3_31) hr
  · show Q3_8 Z a_IS_IRI a_IS_BLANK a_REGEX a_STR a_IS_LITERAL i0 h0 n0 _ s₁.heap _
    exact ⟨N0, e0, (Or.inr (⟨rfl, g2⟩))⟩
def Q2_9 (Z : State) (a_IS_IRI : Addr) (a_IS_BLANK : Addr) (a_REGEX : Addr) (a_STR : Addr) (a_IS_LITERAL : Addr) (i0 : Int32) (h0 : Heap) (n0 : Nat) (v : Option Value) (h : Heap) (L : List Loc) : Prop := Fr n0 L ∧ h = h0 ∧ ((v = some (.int (0 : Int32)) ∧ i0 < (2 : Int32)) ∨ (v = some (.int (0 : Int32)) ∧ ¬ (i0 < (2 : Int32)) ∧ (3 : Int32) < i0) ∨ (v = some (.int (1 : Int32)) ∧ ¬ (i0 < (2 : Int32)) ∧ ¬ ((3 : Int32) < i0)))
set_option maxRecDepth 65536 in
set_option maxHeartbeats 40000000 in
theorem rm2_9 (l : Launch) (Z : State) (a0 : Array Value) (hw : ∀ d ∈ tables_1, d.before a0 Z = true) (ws : List Jvm.Cond) (a_IS_IRI : Addr) (a_IS_BLANK : Addr) (a_REGEX : Addr) (a_STR : Addr) (a_IS_LITERAL : Addr) (i0 : Int32) (h0 : Heap) (n0 : Nat) (O0 : Old Z n0 h0) (HE : Env1 Z a_IS_IRI a_IS_BLANK a_REGEX a_STR a_IS_LITERAL)  :
    MetFree l M1 (head1 (Jvm.Cond.code M1 prog_87_method_6_code 2 (some .boolean) :: ws) ({ frames := 0, cells := 0, slots := 0, locals := 0 } : Room)) (fun a U => a = #[(.ref a_REGEX), (.int i0)] ∧ Z.Warmed39 U.vm ∧ U.heap = h0) (fun _ _ _ _ _ => True) (fun _ U o U' => ∃ v L, o = .returned v ∧ Q2_9 Z a_IS_IRI a_IS_BLANK a_REGEX a_STR a_IS_LITERAL i0 h0 n0 v U'.heap L ∧ FrameEnd U o U' L ({ frames := 0, cells := 0, slots := 0, locals := 0 } : Room).cells ({ frames := 0, cells := 0, slots := 0, locals := 0 } : Room).slots) := by
 refine MetFree.of_bodySF (plainFor_of_name pn1) hisR ?_
 intro p e s m args below meth c s₁ Bd hml0 hP hK
 obtain ⟨rfl, hZ, hh⟩ := hP
 have hx := Bd.exec
 have hby := Bd.bytes
 have hml : c.maxLocals = 2 := hml0
 have hown : s.vm.findClass "com/example/quadrille/quadrille/sparql/Operators$Function" = some m.cls := findClass_of_methodNamed Bd.named
 have hnm := (name_of_methodNamed Bd.named Bd.method).1
 have X0 : Stand p l e ({ frames := 0, cells := 0, slots := 0, locals := 0 } : Room) s m #[(.ref a_REGEX), (.int i0)] below meth c s₁ [] 0 0 := Stand.of_body Bd
 have e0 : s₁.heap = h0 := by rw [← hh, Bd.state]; rfl
 have N0 := Fr.nil n0
 let S0 : State → Prop := fun t => Steps p.tables e below (s₁.setTop (entryFrame m #[(.ref a_REGEX), (.int i0)] 2)) t
 have p0 : ∀ t, St p e below s₁ (mkF m 0 #[.val (.ref a_REGEX), .val (.int i0)] []) t → S0 t := fun t k => castTop (ef2 m a_REGEX i0) k
 have HE' := HE
 obtain ⟨Sa_IS_IRI, Ea_IS_IRI, Fa_IS_IRI_minArguments, Fa_IS_IRI_maxArguments, Sa_IS_BLANK, Ea_IS_BLANK, Fa_IS_BLANK_minArguments, Fa_IS_BLANK_maxArguments, Sa_REGEX, Ea_REGEX, Fa_REGEX_minArguments, Fa_REGEX_maxArguments, Sa_STR, Ea_STR, Fa_STR_minArguments, Fa_STR_maxArguments, Sa_IS_LITERAL, Ea_IS_LITERAL, Fa_IS_LITERAL_minArguments, Fa_IS_LITERAL_maxArguments⟩ := HE
 have p1 : ∀ t, St p e below s₁ (mkF m 2 #[.val (.ref a_REGEX), .val (.int i0)] [(.ref a_REGEX), (.int i0)]) t → S0 t := fun t k => p0 t (by
   show St p e below s₁ (mkF m 0 #[.val (.ref a_REGEX), .val (.int i0)] []) t
   refine XS.iloadN X0.here hx rfl (hb hby d2_0) rfl ?_
   show St p e below s₁ (mkF m 1 #[.val (.ref a_REGEX), .val (.int i0)] [(.int i0)]) t
   refine XS.aloadN X0.here hx rfl (hb hby d2_1) rfl rfl ?_
   exact k)
 obtain ⟨T2, X2, e2, st2⟩ := getF X0 hx hZ hown (host := "") (Or.inl (ww hw 13 rfl)) Via.refl e0 (Fa_REGEX_minArguments.ext O0.2) (g := (mkF m 2 #[.val (.ref a_REGEX), .val (.int i0)] [(.ref a_REGEX), (.int i0)])) rfl rfl (hb hby d2_2)
 have p3 : ∀ t, St p e below T2 (mkF m 5 #[.val (.ref a_REGEX), .val (.int i0)] [(.int (2 : Int32)), (.int i0)]) t → S0 t := fun t k => p1 t (st2 t k)
 by_cases g4 : i0 < (2 : Int32)
 ·
  have p5 : ∀ t, St p e below T2 (mkF m 21 #[.val (.ref a_REGEX), .val (.int i0)] [(.int (0 : Int32))]) t → S0 t := fun t k => p3 t (by
    show St p e below T2 (mkF m 5 #[.val (.ref a_REGEX), .val (.int i0)] [(.int (2 : Int32)), (.int i0)]) t
    refine XS.icmpYes X2.here hx rfl (pc0 := 5) (pc' := 20) rfl (hb hby d2_5) rfl (tlt g4).1 (by decide) (by decide) ?_
    show St p e below T2 (mkF m 20 #[.val (.ref a_REGEX), .val (.int i0)] []) t
    refine XT.iconstV X2.here hx rfl (0 : Int32) (hb hby d2_20) (by decide) ?_
    exact k)
  obtain ⟨fs, hr, hrun, hended, hW, hsame⟩ := X2.leave (v := some (.int (0 : Int32))) (fun h => by rw [Bd.returns] at h; cases h)
  refine ⟨_, _, p5 _ ?_, hrun, hended, _, _, rfl, ?_, ⟨_, rfl⟩, hW, hsame.mono (by decide) (by decide)⟩
  · exact retOut X2 hx Bd.returns rfl (Or.inl ⟨rfl, by simp, _, rfl⟩) (hb hby d2_21) hr
  · show Q2_9 Z a_IS_IRI a_IS_BLANK a_REGEX a_STR a_IS_LITERAL i0 h0 n0 _ T2.heap _
    exact ⟨N0, e2, (Or.inl ⟨rfl, g4⟩)⟩
 ·
  have p6 : ∀ t, St p e below T2 (mkF m 10 #[.val (.ref a_REGEX), .val (.int i0)] [(.ref a_REGEX), (.int i0)]) t → S0 t := fun t k => p3 t (by
    show St p e below T2 (mkF m 5 #[.val (.ref a_REGEX), .val (.int i0)] [(.int (2 : Int32)), (.int i0)]) t
    refine XS.icmpNo X2.here hx rfl (hb hby d2_5) rfl (flt g4).1 ?_
    show St p e below T2 (mkF m 8 #[.val (.ref a_REGEX), .val (.int i0)] []) t
    refine XS.iloadN X2.here hx rfl (hb hby d2_8) rfl ?_
    show St p e below T2 (mkF m 9 #[.val (.ref a_REGEX), .val (.int i0)] [(.int i0)]) t
    refine XS.aloadN X2.here hx rfl (hb hby d2_9) rfl rfl ?_
    exact k)
  obtain ⟨T7, X7, e7, st7⟩ := getF X2 hx hZ hown (host := "") (Or.inl (ww hw 15 rfl)) Via.refl e2 (Fa_REGEX_maxArguments.ext O0.2) (g := (mkF m 10 #[.val (.ref a_REGEX), .val (.int i0)] [(.ref a_REGEX), (.int i0)])) rfl rfl (hb hby d2_10)
  have p8 : ∀ t, St p e below T7 (mkF m 13 #[.val (.ref a_REGEX), .val (.int i0)] [(.int (3 : Int32)), (.int i0)]) t → S0 t := fun t k => p6 t (st7 t k)
  by_cases g9 : (3 : Int32) < i0
  ·
   have p10 : ∀ t, St p e below T7 (mkF m 21 #[.val (.ref a_REGEX), .val (.int i0)] [(.int (0 : Int32))]) t → S0 t := fun t k => p8 t (by
     show St p e below T7 (mkF m 13 #[.val (.ref a_REGEX), .val (.int i0)] [(.int (3 : Int32)), (.int i0)]) t
     refine XS.icmpYes X7.here hx rfl (pc0 := 13) (pc' := 20) rfl (hb hby d2_13) rfl (tlt g9).2.2.1 (by decide) (by decide) ?_
     show St p e below T7 (mkF m 20 #[.val (.ref a_REGEX), .val (.int i0)] []) t
     refine XT.iconstV X7.here hx rfl (0 : Int32) (hb hby d2_20) (by decide) ?_
     exact k)
   obtain ⟨fs, hr, hrun, hended, hW, hsame⟩ := X7.leave (v := some (.int (0 : Int32))) (fun h => by rw [Bd.returns] at h; cases h)
   refine ⟨_, _, p10 _ ?_, hrun, hended, _, _, rfl, ?_, ⟨_, rfl⟩, hW, hsame.mono (by decide) (by decide)⟩
   · exact retOut X7 hx Bd.returns rfl (Or.inl ⟨rfl, by simp, _, rfl⟩) (hb hby d2_21) hr
   · show Q2_9 Z a_IS_IRI a_IS_BLANK a_REGEX a_STR a_IS_LITERAL i0 h0 n0 _ T7.heap _
     exact ⟨N0, e7, (Or.inr (Or.inl ⟨rfl, g4, g9⟩))⟩
  ·
   have p11 : ∀ t, St p e below T7 (mkF m 21 #[.val (.ref a_REGEX), .val (.int i0)] [(.int (1 : Int32))]) t → S0 t := fun t k => p8 t (by
     show St p e below T7 (mkF m 13 #[.val (.ref a_REGEX), .val (.int i0)] [(.int (3 : Int32)), (.int i0)]) t
     refine XS.icmpNo X7.here hx rfl (hb hby d2_13) rfl (flt g9).2.2.1 ?_
     show St p e below T7 (mkF m 16 #[.val (.ref a_REGEX), .val (.int i0)] []) t
     refine XT.iconstV X7.here hx rfl (1 : Int32) (hb hby d2_16) (by decide) ?_
     show St p e below T7 (mkF m 17 #[.val (.ref a_REGEX), .val (.int i0)] [(.int (1 : Int32))]) t
     refine XS.goto X7.here hx rfl (pc0 := 17) (pc' := 21) rfl (hb hby d2_17) (by decide) (by decide) ?_
     exact k)
   obtain ⟨fs, hr, hrun, hended, hW, hsame⟩ := X7.leave (v := some (.int (1 : Int32))) (fun h => by rw [Bd.returns] at h; cases h)
   refine ⟨_, _, p11 _ ?_, hrun, hended, _, _, rfl, ?_, ⟨_, rfl⟩, hW, hsame.mono (by decide) (by decide)⟩
   · exact retOut X7 hx Bd.returns rfl (Or.inl ⟨rfl, by simp, _, rfl⟩) (hb hby d2_21) hr
   · show Q2_9 Z a_IS_IRI a_IS_BLANK a_REGEX a_STR a_IS_LITERAL i0 h0 n0 _ T7.heap _
     exact ⟨N0, e7, (Or.inr (Or.inr (⟨rfl, g4, g9⟩)))⟩
theorem d3_5 : decode method_3_code 5 = .ok (.iload_n 1, 1) := by decide +kernel
theorem d3_6 : decode method_3_code 6 = .ok (.iconst 2, 1) := by decide +kernel
theorem d3_7 : decode method_3_code 7 = .ok (.if_icmp .eq 8, 3) := by decide +kernel
theorem d3_15 : decode method_3_code 15 = .ok (.iconst 1, 1) := by decide +kernel
theorem d3_16 : decode method_3_code 16 = .ok (.goto 4, 3) := by decide +kernel
theorem d3_20 : decode method_3_code 20 = .ok (.ireturn, 1) := by decide +kernel
theorem d3_10 : decode method_3_code 10 = .ok (.iload_n 1, 1) := by decide +kernel
theorem d3_11 : decode method_3_code 11 = .ok (.iconst 3, 1) := by decide +kernel
theorem d3_12 : decode method_3_code 12 = .ok (.if_icmp .ne 7, 3) := by decide +kernel
theorem d3_19 : decode method_3_code 19 = .ok (.iconst 0, 1) := by decide +kernel
def Q3_10 (Z : State) (a_IS_IRI : Addr) (a_IS_BLANK : Addr) (a_REGEX : Addr) (a_STR : Addr) (a_IS_LITERAL : Addr) (i0 : Int32) (i1 : Int32) (h0 : Heap) (n0 : Nat) (v : Option Value) (h : Heap) (L : List Loc) : Prop := Fr n0 L ∧ h = h0 ∧ ((v = some (.int (1 : Int32)) ∧ i0 = (4 : Int32) ∧ i1 = (2 : Int32)) ∨ (v = some (.int (1 : Int32)) ∧ i0 = (4 : Int32) ∧ ¬ (i1 = (2 : Int32)) ∧ i1 = (3 : Int32)) ∨ (v = some (.int (0 : Int32)) ∧ i0 = (4 : Int32) ∧ ¬ (i1 = (2 : Int32)) ∧ ¬ (i1 = (3 : Int32))) ∨ (v = some (.int (1 : Int32)) ∧ ¬ (i0 = (4 : Int32)) ∧ i1 = (1 : Int32)) ∨ (v = some (.int (0 : Int32)) ∧ ¬ (i0 = (4 : Int32)) ∧ ¬ (i1 = (1 : Int32))))
set_option maxRecDepth 65536 in
set_option maxHeartbeats 40000000 in
theorem rm3_10 (l : Launch) (Z : State) (a0 : Array Value) (hw : ∀ d ∈ tables_1, d.before a0 Z = true) (ws : List Jvm.Cond) (a_IS_IRI : Addr) (a_IS_BLANK : Addr) (a_REGEX : Addr) (a_STR : Addr) (a_IS_LITERAL : Addr) (i0 : Int32) (i1 : Int32) (h0 : Heap) (n0 : Nat) (O0 : Old Z n0 h0) (HE : Env1 Z a_IS_IRI a_IS_BLANK a_REGEX a_STR a_IS_LITERAL)  :
    MetFree l M2 (head1 (Jvm.Cond.code M2 method_3_code 2 (some .boolean) :: ws) ({ frames := 0, cells := 0, slots := 0, locals := 0 } : Room)) (fun a U => a = #[(.int i0), (.int i1)] ∧ Z.Warmed39 U.vm ∧ U.heap = h0) (fun _ _ _ _ _ => True) (fun _ U o U' => ∃ v L, o = .returned v ∧ Q3_10 Z a_IS_IRI a_IS_BLANK a_REGEX a_STR a_IS_LITERAL i0 i1 h0 n0 v U'.heap L ∧ FrameEnd U o U' L ({ frames := 0, cells := 0, slots := 0, locals := 0 } : Room).cells ({ frames := 0, cells := 0, slots := 0, locals := 0 } : Room).slots) := by
 refine MetFree.of_bodySF (plainFor_of_name pn0) hisR ?_
 intro p e s m args below meth c s₁ Bd hml0 hP hK
 obtain ⟨rfl, hZ, hh⟩ := hP
 have hx := Bd.exec
 have hby := Bd.bytes
 have hml : c.maxLocals = 2 := hml0
 have hown : s.vm.findClass "com/example/quadrille/quadrille/sparql/FunctionTakesPinLaw" = some m.cls := findClass_of_methodNamed Bd.named
 have hnm := (name_of_methodNamed Bd.named Bd.method).1
 have X0 : Stand p l e ({ frames := 0, cells := 0, slots := 0, locals := 0 } : Room) s m #[(.int i0), (.int i1)] below meth c s₁ [] 0 0 := Stand.of_body Bd
 have e0 : s₁.heap = h0 := by rw [← hh, Bd.state]; rfl
 have N0 := Fr.nil n0
 let S0 : State → Prop := fun t => Steps p.tables e below (s₁.setTop (entryFrame m #[(.int i0), (.int i1)] 2)) t
 have p0 : ∀ t, St p e below s₁ (mkF m 0 #[.val (.int i0), .val (.int i1)] []) t → S0 t := fun t k => castTop (ef3 m i0 i1) k
 have HE' := HE
 obtain ⟨Sa_IS_IRI, Ea_IS_IRI, Fa_IS_IRI_minArguments, Fa_IS_IRI_maxArguments, Sa_IS_BLANK, Ea_IS_BLANK, Fa_IS_BLANK_minArguments, Fa_IS_BLANK_maxArguments, Sa_REGEX, Ea_REGEX, Fa_REGEX_minArguments, Fa_REGEX_maxArguments, Sa_STR, Ea_STR, Fa_STR_minArguments, Fa_STR_maxArguments, Sa_IS_LITERAL, Ea_IS_LITERAL, Fa_IS_LITERAL_minArguments, Fa_IS_LITERAL_maxArguments⟩ := HE
 have p1 : ∀ t, St p e below s₁ (mkF m 2 #[.val (.int i0), .val (.int i1)] [(.int (4 : Int32)), (.int i0)]) t → S0 t := fun t k => p0 t (by
   show St p e below s₁ (mkF m 0 #[.val (.int i0), .val (.int i1)] []) t
   refine XS.iloadN X0.here hx rfl (hb hby d3_0) rfl ?_
   show St p e below s₁ (mkF m 1 #[.val (.int i0), .val (.int i1)] [(.int i0)]) t
   refine XT.iconstV X0.here hx rfl (4 : Int32) (hb hby d3_1) (by decide) ?_
   exact k)
 by_cases g2 : i0 = (4 : Int32)
 ·
  have p3 : ∀ t, St p e below s₁ (mkF m 7 #[.val (.int i0), .val (.int i1)] [(.int (2 : Int32)), (.int i1)]) t → S0 t := fun t k => p1 t (by
    show St p e below s₁ (mkF m 2 #[.val (.int i0), .val (.int i1)] [(.int (4 : Int32)), (.int i0)]) t
    refine XS.icmpNo X0.here hx rfl (hb hby d3_2) rfl (teq g2).2 ?_
    show St p e below s₁ (mkF m 5 #[.val (.int i0), .val (.int i1)] []) t
    refine XS.iloadN X0.here hx rfl (hb hby d3_5) rfl ?_
    show St p e below s₁ (mkF m 6 #[.val (.int i0), .val (.int i1)] [(.int i1)]) t
    refine XT.iconstV X0.here hx rfl (2 : Int32) (hb hby d3_6) (by decide) ?_
    exact k)
  by_cases g4 : i1 = (2 : Int32)
  ·
   have p5 : ∀ t, St p e below s₁ (mkF m 20 #[.val (.int i0), .val (.int i1)] [(.int (1 : Int32))]) t → S0 t := fun t k => p3 t (by
     show St p e below s₁ (mkF m 7 #[.val (.int i0), .val (.int i1)] [(.int (2 : Int32)), (.int i1)]) t
     refine XS.icmpYes X0.here hx rfl (pc0 := 7) (pc' := 15) rfl (hb hby d3_7) rfl (teq g4).1 (by decide) (by decide) ?_
     show St p e below s₁ (mkF m 15 #[.val (.int i0), .val (.int i1)] []) t
     refine XT.iconstV X0.here hx rfl (1 : Int32) (hb hby d3_15) (by decide) ?_
     show St p e below s₁ (mkF m 16 #[.val (.int i0), .val (.int i1)] [(.int (1 : Int32))]) t
     refine XS.goto X0.here hx rfl (pc0 := 16) (pc' := 20) rfl (hb hby d3_16) (by decide) (by decide) ?_
     exact k)
   obtain ⟨fs, hr, hrun, hended, hW, hsame⟩ := X0.leave (v := some (.int (1 : Int32))) (fun h => by rw [Bd.returns] at h; cases h)
   refine ⟨_, _, p5 _ ?_, hrun, hended, _, _, rfl, ?_, ⟨_, rfl⟩, hW, hsame.mono (by decide) (by decide)⟩
   · exact retOut X0 hx Bd.returns rfl (Or.inl ⟨rfl, by simp, _, rfl⟩) (hb hby d3_20) hr
   · show Q3_10 Z a_IS_IRI a_IS_BLANK a_REGEX a_STR a_IS_LITERAL i0 i1 h0 n0 _ s₁.heap _
     exact ⟨N0, e0, (Or.inl ⟨rfl, g2, g4⟩)⟩
  ·
   have p6 : ∀ t, St p e below s₁ (mkF m 12 #[.val (.int i0), .val (.int i1)] [(.int (3 : Int32)), (.int i1)]) t → S0 t := fun t k => p3 t (by
     show St p e below s₁ (mkF m 7 #[.val (.int i0), .val (.int i1)] [(.int (2 : Int32)), (.int i1)]) t
     refine XS.icmpNo X0.here hx rfl (hb hby d3_7) rfl (feq g4).1 ?_
     show St p e below s₁ (mkF m 10 #[.val (.int i0), .val (.int i1)] []) t
     refine XS.iloadN X0.here hx rfl (hb hby d3_10) rfl ?_
     show St p e below s₁ (mkF m 11 #[.val (.int i0), .val (.int i1)] [(.int i1)]) t
     refine XT.iconstV X0.here hx rfl (3 : Int32) (hb hby d3_11) (by decide) ?_
     exact k)
   by_cases g7 : i1 = (3 : Int32)
   ·
    have p8 : ∀ t, St p e below s₁ (mkF m 20 #[.val (.int i0), .val (.int i1)] [(.int (1 : Int32))]) t → S0 t := fun t k => p6 t (by
      show St p e below s₁ (mkF m 12 #[.val (.int i0), .val (.int i1)] [(.int (3 : Int32)), (.int i1)]) t
      refine XS.icmpNo X0.here hx rfl (hb hby d3_12) rfl (teq g7).2 ?_
      show St p e below s₁ (mkF m 15 #[.val (.int i0), .val (.int i1)] []) t
      refine XT.iconstV X0.here hx rfl (1 : Int32) (hb hby d3_15) (by decide) ?_
      show St p e below s₁ (mkF m 16 #[.val (.int i0), .val (.int i1)] [(.int (1 : Int32))]) t
      refine XS.goto X0.here hx rfl (pc0 := 16) (pc' := 20) rfl (hb hby d3_16) (by decide) (by decide) ?_
      exact k)
    obtain ⟨fs, hr, hrun, hended, hW, hsame⟩ := X0.leave (v := some (.int (1 : Int32))) (fun h => by rw [Bd.returns] at h; cases h)
    refine ⟨_, _, p8 _ ?_, hrun, hended, _, _, rfl, ?_, ⟨_, rfl⟩, hW, hsame.mono (by decide) (by decide)⟩
    · exact retOut X0 hx Bd.returns rfl (Or.inl ⟨rfl, by simp, _, rfl⟩) (hb hby d3_20) hr
    · show Q3_10 Z a_IS_IRI a_IS_BLANK a_REGEX a_STR a_IS_LITERAL i0 i1 h0 n0 _ s₁.heap _
      exact ⟨N0, e0, (Or.inr (Or.inl ⟨rfl, g2, g4, g7⟩))⟩
   ·
    have p9 : ∀ t, St p e below s₁ (mkF m 20 #[.val (.int i0), .val (.int i1)] [(.int (0 : Int32))]) t → S0 t := fun t k => p6 t (by
      show St p e below s₁ (mkF m 12 #[.val (.int i0), .val (.int i1)] [(.int (3 : Int32)), (.int i1)]) t
      refine XS.icmpYes X0.here hx rfl (pc0 := 12) (pc' := 19) rfl (hb hby d3_12) rfl (feq g7).2 (by decide) (by decide) ?_
      show St p e below s₁ (mkF m 19 #[.val (.int i0), .val (.int i1)] []) t
      refine XT.iconstV X0.here hx rfl (0 : Int32) (hb hby d3_19) (by decide) ?_
      exact k)
    obtain ⟨fs, hr, hrun, hended, hW, hsame⟩ := X0.leave (v := some (.int (0 : Int32))) (fun h => by rw [Bd.returns] at h; cases h)
    refine ⟨_, _, p9 _ ?_, hrun, hended, _, _, rfl, ?_, ⟨_, rfl⟩, hW, hsame.mono (by decide) (by decide)⟩
    · exact retOut X0 hx Bd.returns rfl (Or.inl ⟨rfl, by simp, _, rfl⟩) (hb hby d3_20) hr
    · show Q3_10 Z a_IS_IRI a_IS_BLANK a_REGEX a_STR a_IS_LITERAL i0 i1 h0 n0 _ s₁.heap _
      exact ⟨N0, e0, (Or.inr (Or.inr (Or.inl ⟨rfl, g2, g4, g7⟩)))⟩
 ·
  have p10 : ∀ t, St p e below s₁ (mkF m 23 #[.val (.int i0), .val (.int i1)] [(.int (1 : Int32)), (.int i1)]) t → S0 t := fun t k => p1 t (by
    show St p e below s₁ (mkF m 2 #[.val (.int i0), .val (.int i1)] [(.int (4 : Int32)), (.int i0)]) t
    refine XS.icmpYes X0.here hx rfl (pc0 := 2) (pc' := 21) rfl (hb hby d3_2) rfl (feq g2).2 (by decide) (by decide) ?_
    show St p e below s₁ (mkF m 21 #[.val (.int i0), .val (.int i1)] []) t
    refine XS.iloadN X0.here hx rfl (hb hby d3_21) rfl ?_
    show St p e below s₁ (mkF m 22 #[.val (.int i0), .val (.int i1)] [(.int i1)]) t
    refine XT.iconstV X0.here hx rfl (1 : Int32) (hb hby d3_22) (by decide) ?_
    exact k)
  by_cases g11 : i1 = (1 : Int32)
  ·
   have p12 : ∀ t, St p e below s₁ (mkF m 31 #[.val (.int i0), .val (.int i1)] [(.int (1 : Int32))]) t → S0 t := fun t k => p10 t (by
     show St p e below s₁ (mkF m 23 #[.val (.int i0), .val (.int i1)] [(.int (1 : Int32)), (.int i1)]) t
     refine XS.icmpNo X0.here hx rfl (hb hby d3_23) rfl (teq g11).2 ?_
     show St p e below s₁ (mkF m 26 #[.val (.int i0), .val (.int i1)] []) t
     refine XT.iconstV X0.here hx rfl (1 : Int32) (hb hby d3_26) (by decide) ?_
     show St p e below s₁ (mkF m 27 #[.val (.int i0), .val (.int i1)] [(.int (1 : Int32))]) t
     refine XS.goto X0.here hx rfl (pc0 := 27) (pc' := 31) rfl (hb hby d3_27) (by decide) (by decide) ?_
     exact k)
   obtain ⟨fs, hr, hrun, hended, hW, hsame⟩ := X0.leave (v := some (.int (1 : Int32))) (fun h => by rw [Bd.returns] at h; cases h)
   refine ⟨_, _, p12 _ ?_, hrun, hended, _, _, rfl, ?_, ⟨_, rfl⟩, hW, hsame.mono (by decide) (by decide)⟩
   · exact retOut X0 hx Bd.returns rfl (Or.inl ⟨rfl, by simp, _, rfl⟩) (hb hby d3_31) hr
   · show Q3_10 Z a_IS_IRI a_IS_BLANK a_REGEX a_STR a_IS_LITERAL i0 i1 h0 n0 _ s₁.heap _
     exact ⟨N0, e0, (Or.inr (Or.inr (Or.inr (Or.inl ⟨rfl, g2, g11⟩))))⟩
  ·
   have p13 : ∀ t, St p e below s₁ (mkF m 31 #[.val (.int i0), .val (.int i1)] [(.int (0 : Int32))]) t → S0 t := fun t k => p10 t (by
     show St p e below s₁ (mkF m 23 #[.val (.int i0), .val (.int i1)] [(.int (1 : Int32)), (.int i1)]) t
     refine XS.icmpYes X0.here hx rfl (pc0 := 23) (pc' := 30) rfl (hb hby d3_23) rfl (feq g11).2 (by decide) (by decide) ?_
     show St p e below s₁ (mkF m 30 #[.val (.int i0), .val (.int i1)] []) t
     refine XT.iconstV X0.here hx rfl (0 : Int32) (hb hby d3_30) (by decide) ?_
     exact k)
   obtain ⟨fs, hr, hrun, hended, hW, hsame⟩ := X0.leave (v := some (.int (0 : Int32))) (fun h => by rw [Bd.returns] at h; cases h)
   refine ⟨_, _, p13 _ ?_, hrun, hended, _, _, rfl, ?_, ⟨_, rfl⟩, hW, hsame.mono (by decide) (by decide)⟩
   · exact retOut X0 hx Bd.returns rfl (Or.inl ⟨rfl, by simp, _, rfl⟩) (hb hby d3_31) hr
   · show Q3_10 Z a_IS_IRI a_IS_BLANK a_REGEX a_STR a_IS_LITERAL i0 i1 h0 n0 _ s₁.heap _
     exact ⟨N0, e0, (Or.inr (Or.inr (Or.inr (Or.inr (⟨rfl, g2, g11⟩)))))⟩
def Q0 (Z : State) (a_IS_IRI : Addr) (a_IS_BLANK : Addr) (a_REGEX : Addr) (a_STR : Addr) (a_IS_LITERAL : Addr) (i0 : Int32) (i1 : Int32) (i2 : Int32) (h0 : Heap) (n0 : Nat) (v : Option Value) (h : Heap) (L : List Loc) : Prop := v = some (.int 1) ∧ Fr n0 L
set_option maxRecDepth 65536 in
set_option maxHeartbeats 40000000 in
theorem rm0 (l : Launch) (Z : State) (a0 : Array Value) (hw : ∀ d ∈ tables_1, d.before a0 Z = true) (ws : List Jvm.Cond) (a_IS_IRI : Addr) (a_IS_BLANK : Addr) (a_REGEX : Addr) (a_STR : Addr) (a_IS_LITERAL : Addr) (i0 : Int32) (i1 : Int32) (i2 : Int32) (h0 : Heap) (n0 : Nat) (O0 : Old Z n0 h0) (HE : Env1 Z a_IS_IRI a_IS_BLANK a_REGEX a_STR a_IS_LITERAL)  :
    MetFree l x (head1 (Jvm.Cond.code x code maxLocals ret :: ws) room_1) (fun a U => a = #[(.int i0), (.int i1), (.int i2)] ∧ Z.Warmed39 U.vm ∧ U.heap = h0) (fun _ _ _ _ _ => True) (fun _ U o U' => ∃ v L, o = .returned v ∧ Q0 Z a_IS_IRI a_IS_BLANK a_REGEX a_STR a_IS_LITERAL i0 i1 i2 h0 n0 v U'.heap L ∧ FrameEnd U o U' L 0 0) := by
 refine MetFree.of_bodySF (plainFor_of_name pn0) hisR ?_
 intro p e s m args below meth c s₁ Bd hml0 hP hK
 obtain ⟨rfl, hZ, hh⟩ := hP
 have hx := Bd.exec
 have hby := Bd.bytes
 have hml : c.maxLocals = 8 := hml0
 have hown : s.vm.findClass "com/example/quadrille/quadrille/sparql/FunctionTakesPinLaw" = some m.cls := findClass_of_methodNamed Bd.named
 have hnm := (name_of_methodNamed Bd.named Bd.method).1
 have X0 : Stand p l e room_1 s m #[(.int i0), (.int i1), (.int i2)] below meth c s₁ [] 0 0 := Stand.of_body Bd
 have e0 : s₁.heap = h0 := by rw [← hh, Bd.state]; rfl
 have N0 := Fr.nil n0
 let S0 : State → Prop := fun t => Steps p.tables e below (s₁.setTop (entryFrame m #[(.int i0), (.int i1), (.int i2)] maxLocals)) t
 let Ls1 : Array Slot := #[.val (.int i0), .val (.int i1), .val (.int i2), .unset, .unset, .unset, .unset, .unset]
 have p0 : ∀ t, St p e below s₁ (mkF m 0 Ls1 []) t → S0 t := fun t k => castTop (ef0 m i0 i1 i2) k
 have HE' := HE
 obtain ⟨Sa_IS_IRI, Ea_IS_IRI, Fa_IS_IRI_minArguments, Fa_IS_IRI_maxArguments, Sa_IS_BLANK, Ea_IS_BLANK, Fa_IS_BLANK_minArguments, Fa_IS_BLANK_maxArguments, Sa_REGEX, Ea_REGEX, Fa_REGEX_minArguments, Fa_REGEX_maxArguments, Sa_STR, Ea_STR, Fa_STR_minArguments, Fa_STR_maxArguments, Sa_IS_LITERAL, Ea_IS_LITERAL, Fa_IS_LITERAL_minArguments, Fa_IS_LITERAL_maxArguments⟩ := HE
 let Ls2 : Array Slot := #[.val (.int i0), .val (.int i1), .val (.int i2), .val (.int ((i0 &&& (2147483647 : Int32)) % (5 : Int32))), .unset, .unset, .unset, .unset]
 have p3 : ∀ t, St p e below s₁ (mkF m 8 Ls2 [(.int ((i0 &&& (2147483647 : Int32)) % (5 : Int32)))]) t → S0 t := fun t k => p0 t (by
   show St p e below s₁ (mkF m 0 Ls1 []) t
   refine XS.iloadN X0.here hx rfl (hb hby at_0) rfl ?_
   show St p e below s₁ (mkF m 1 Ls1 [(.int i0)]) t
   refine X0.ldcI hx hown (mvT hZ (ww hw 0 rfl)) rfl (hb hby at_1) ?_
   show St p e below s₁ (mkF m 3 Ls1 [(.int (2147483647 : Int32)), (.int i0)]) t
   refine XS.iand X0.here hx rfl (hb hby at_3) rfl ?_
   show St p e below s₁ (mkF m 4 Ls1 [(.int (i0 &&& (2147483647 : Int32)))]) t
   refine XT.iconstV X0.here hx rfl (5 : Int32) (hb hby at_4) (by decide) ?_
   show St p e below s₁ (mkF m 5 Ls1 [(.int (5 : Int32)), (.int (i0 &&& (2147483647 : Int32)))]) t
   refine iremM X0 hx rfl (hb hby at_5) rfl (by decide : ¬ ((5 : Int32) = (0 : Int32))) ?_
   show St p e below s₁ (mkF m 6 Ls1 [(.int ((i0 &&& (2147483647 : Int32)) % (5 : Int32)))]) t
   refine XS.istoreN X0.here hx rfl (hb hby at_6) rfl (l' := Ls2) rfl ?_
   show St p e below s₁ (mkF m 7 Ls2 []) t
   refine XS.iloadN X0.here hx rfl (hb hby at_7) rfl ?_
   exact k)
 obtain ⟨_, _, ⟨Tc4, Lc4, kc4, nc4⟩, -, Xc4, ⟨Lcc4, hQc4, lc4, yc4, zc4⟩, stc4⟩ := Jvm.LawKit.callS X0 hx (y := M0) hown (mvT hZ (ww hw 1 rfl)) (mvT hZ (ww hw 2 rfl)) (mvT hZ (ww hw 3 rfl)) (mvT hZ (ww hw 4 rfl)) (by decide) (backOf (W := 0) (rm1_0 l Z a0 hw [] a_IS_IRI a_IS_BLANK a_REGEX a_STR a_IS_LITERAL ((i0 &&& (2147483647 : Int32)) % (5 : Int32)) h0 n0 O0 HE' ) hZ (ww hw 4 rfl) (ww hw 3 rfl) (by decide) (by decide)) (g := (mkF m 8 Ls2 [(.int ((i0 &&& (2147483647 : Int32)) % (5 : Int32)))])) rfl (by rw [hml]; rfl) (argsL := [(.int ((i0 &&& (2147483647 : Int32)) % (5 : Int32)))]) (rest := []) (lenOf pd0 rfl) rfl (by show 2 * 0 + _ ≤ _; exact Nat.le_of_eq rfl) (hb hby at_8) (fun _ _ => ⟨rfl, e0, (by decide : 0 + 0 ≤ _), (by decide : 0 + 0 ≤ _)⟩)
 dsimp only [Pt.U, Pt.locs, Pt.cells, Pt.slots] at Xc4 lc4 yc4 zc4 stc4 hQc4
 subst lc4 yc4 zc4
 obtain ⟨Nqc4, ec4, hAc4⟩ := hQc4
 have Nc4 := Fr.app N0 Nqc4
 rcases hAc4 with ⟨rfl, g5⟩ | ⟨rfl, g6, g7⟩ | ⟨rfl, g8, g9, g10⟩ | ⟨rfl, g11, g12, g13, g14⟩ | ⟨rfl, g15, g16, g17, g18⟩
 ·
  have p19 : ∀ t, St p e below Tc4 (mkF m 11 Ls2 [(.ref a_IS_IRI)]) t → S0 t := fun t k => p3 t (stc4 t k)
  let Ls20 : Array Slot := #[.val (.int i0), .val (.int i1), .val (.int i2), .val (.int ((i0 &&& (2147483647 : Int32)) % (5 : Int32))), .val (.ref a_IS_IRI), .unset, .unset, .unset]
  let Ls21 : Array Slot := #[.val (.int i0), .val (.int i1), .val (.int i2), .val (.int ((i0 &&& (2147483647 : Int32)) % (5 : Int32))), .val (.ref a_IS_IRI), .val (.int ((i2 &&& (7 : Int32)) - (2 : Int32))), .unset, .unset]
  have p22 : ∀ t, St p e below Tc4 (mkF m 21 Ls21 []) t → S0 t := fun t k => p19 t (by
    show St p e below Tc4 (mkF m 11 Ls2 [(.ref a_IS_IRI)]) t
    refine XS.astore Xc4.here hx rfl (hb hby at_11) rfl rfl (l' := Ls20) rfl ?_
    show St p e below Tc4 (mkF m 13 Ls20 []) t
    refine XS.iloadN Xc4.here hx rfl (hb hby at_13) rfl ?_
    show St p e below Tc4 (mkF m 14 Ls20 [(.int i2)]) t
    refine XT.bipushV Xc4.here hx rfl (7 : Int32) (hb hby at_14) (by decide) ?_
    show St p e below Tc4 (mkF m 16 Ls20 [(.int (7 : Int32)), (.int i2)]) t
    refine XS.iand Xc4.here hx rfl (hb hby at_16) rfl ?_
    show St p e below Tc4 (mkF m 17 Ls20 [(.int (i2 &&& (7 : Int32)))]) t
    refine XT.iconstV Xc4.here hx rfl (2 : Int32) (hb hby at_17) (by decide) ?_
    show St p e below Tc4 (mkF m 18 Ls20 [(.int (2 : Int32)), (.int (i2 &&& (7 : Int32)))]) t
    refine XS.isub Xc4.here hx rfl (hb hby at_18) rfl ?_
    show St p e below Tc4 (mkF m 19 Ls20 [(.int ((i2 &&& (7 : Int32)) - (2 : Int32)))]) t
    refine XS.istore Xc4.here hx rfl (hb hby at_19) rfl (l' := Ls21) rfl ?_
    exact k)
  obtain ⟨Tj23, Lj23, Xj23, ej23, Nj23, pj23⟩ : ∃  (Tj23 : State) (Lj23 : List Loc), Stand p l e room_1 s m #[(.int i0), (.int i1), (.int i2)] below meth c Tj23 Lj23 0 0 ∧ Tj23.heap = h0 ∧ Fr n0 Lj23 ∧ ∀ t, St p e below Tj23 (mkF m 40 #[.val (.int i0), .val (.int i1), .val (.int i2), .val (.int (0 : Int32)), .val (.ref a_IS_IRI), .val (.int ((i2 &&& (7 : Int32)) - (2 : Int32))), .unset, .unset] [(.int (1 : Int32))]) t → S0 t := by
   have p24 : ∀ t, St p e below Tc4 (mkF m 24 Ls21 [(.int i1), (.ref a_IS_IRI)]) t → S0 t := fun t k => p22 t (by
     show St p e below Tc4 (mkF m 21 Ls21 []) t
     refine XS.aload Xc4.here hx rfl (hb hby at_21) rfl rfl ?_
     show St p e below Tc4 (mkF m 23 Ls21 [(.ref a_IS_IRI)]) t
     refine XS.iloadN Xc4.here hx rfl (hb hby at_23) rfl ?_
     exact k)
   obtain ⟨cqc25, kqc25, qc25a, qc25b, qc25c⟩ := isOf hZ ec4 (Ea_IS_IRI.ext O0.2)
   obtain ⟨_, _, ⟨Tc25, Lc25, kc25, nc25⟩, -, Xc25, ⟨Lcc25, hQc25, lc25, yc25, zc25⟩, stc25⟩ := Xc4.virtualBack hx (y := M1) (z := M1) hown (mvT hZ (ww hw 8 rfl)) (mvT hZ (ww hw 9 rfl)) (notFace_of_selects (args := #[]) (mvT hZ (ww hw 11 rfl))) (mvT hZ (ww hw 11 rfl)) (mvT hZ (ww hw 10 rfl)) (by decide) (backOf (W := 0) (rm2_1 l Z a0 hw [] a_IS_IRI a_IS_BLANK a_REGEX a_STR a_IS_LITERAL i1 h0 n0 O0 HE' ) hZ (ww hw 12 rfl) (ww hw 6 rfl) (by decide) (by decide)) qc25a qc25c (g := (mkF m 24 Ls21 [(.int i1), (.ref a_IS_IRI)])) rfl (by rw [hml]; rfl) (Steps.refl _) (argsL := [(.int i1)]) (rest := []) (lenOf pd1 rfl) rfl (by show 2 * 0 + _ ≤ _; exact Nat.le_of_eq rfl) (hb hby at_24) (fun _ _ => ⟨rfl, ec4, (by decide : 0 + 0 ≤ _), (by decide : 0 + 0 ≤ _)⟩)
   dsimp only [Pt.U, Pt.locs, Pt.cells, Pt.slots] at Xc25 lc25 yc25 zc25 stc25 hQc25
   subst lc25 yc25 zc25
   obtain ⟨Nqc25, ec25, hAc25⟩ := hQc25
   have Nc25 := Fr.app Nc4 Nqc25
   rcases hAc25 with ⟨rfl, g26⟩ | ⟨rfl, g27, g28⟩ | ⟨rfl, g29, g30⟩
   ·
    have p31 : ∀ t, St p e below Tc25 (mkF m 27 Ls21 [(.int (0 : Int32))]) t → S0 t := fun t k => p24 t (stc25.trans k)
    have p32 : ∀ t, St p e below Tc25 (mkF m 28 Ls21 [(.int ((i0 &&& (2147483647 : Int32)) % (5 : Int32))), (.int (0 : Int32))]) t → S0 t := fun t k => p31 t (by
      show St p e below Tc25 (mkF m 27 Ls21 [(.int (0 : Int32))]) t
      refine XS.iloadN Xc25.here hx rfl (hb hby at_27) rfl ?_
      exact k)
    let Ls34 : Array Slot := #[.val (.int i0), .val (.int i1), .val (.int i2), .val (.int (0 : Int32)), .val (.ref a_IS_IRI), .val (.int ((i2 &&& (7 : Int32)) - (2 : Int32))), .unset, .unset]
    have p33 : ∀ t, St p e below Tc25 (mkF m 28 Ls34 [(.int (0 : Int32)), (.int (0 : Int32))]) t → S0 t := fun t k => p32 t (by show St p e below Tc25 (mkF m 28 #[.val (.int i0), .val (.int i1), .val (.int i2), .val (.int ((i0 &&& (2147483647 : Int32)) % (5 : Int32))), .val (.ref a_IS_IRI), .val (.int ((i2 &&& (7 : Int32)) - (2 : Int32))), .unset, .unset] [(.int ((i0 &&& (2147483647 : Int32)) % (5 : Int32))), (.int (0 : Int32))]) t; rw [g5]; exact k)
    have p35 : ∀ t, St p e below Tc25 (mkF m 29 Ls34 [(.int i1), (.int (0 : Int32)), (.int (0 : Int32))]) t → S0 t := fun t k => p33 t (by
      show St p e below Tc25 (mkF m 28 Ls34 [(.int (0 : Int32)), (.int (0 : Int32))]) t
      refine XS.iloadN Xc25.here hx rfl (hb hby at_28) rfl ?_
      exact k)
    obtain ⟨_, _, ⟨Tc36, Lc36, kc36, nc36⟩, -, Xc36, ⟨Lcc36, hQc36, lc36, yc36, zc36⟩, stc36⟩ := Jvm.LawKit.callS Xc25 hx (y := M2) hown (mvT hZ (ww hw 17 rfl)) (mvT hZ (ww hw 18 rfl)) (mvT hZ (ww hw 3 rfl)) (mvT hZ (ww hw 19 rfl)) (by decide) (backOf (W := 1) (rm3_2 l Z a0 hw [] a_IS_IRI a_IS_BLANK a_REGEX a_STR a_IS_LITERAL i1 h0 n0 O0 HE' ) hZ (ww hw 19 rfl) (ww hw 3 rfl) (by decide) (by decide)) (g := (mkF m 29 Ls34 [(.int i1), (.int (0 : Int32)), (.int (0 : Int32))])) rfl (by rw [hml]; rfl) (argsL := [(.int (0 : Int32)), (.int i1)]) (rest := [(.int (0 : Int32))]) (lenOf pd2 rfl) rfl (by show 2 * 0 + _ ≤ _; exact Nat.le_of_eq rfl) (hb hby at_29) (fun _ _ => ⟨rfl, ec25, (by decide : 0 + 0 ≤ _), (by decide : 0 + 0 ≤ _)⟩)
    dsimp only [Pt.U, Pt.locs, Pt.cells, Pt.slots] at Xc36 lc36 yc36 zc36 stc36 hQc36
    subst lc36 yc36 zc36
    obtain ⟨Nqc36, ec36, hAc36⟩ := hQc36
    have Nc36 := Fr.app Nc25 Nqc36
    rcases hAc36 with ⟨rfl, g37⟩ | ⟨rfl, g38⟩
    ·
     exfalso
     have q1_ := ltI g26
     have q2_ := eqI g37
     have l3_ := rng32 i1
     have l4_ := lI1
     omega
    ·
     have p39 : ∀ t, St p e below Tc36 (mkF m 32 Ls34 [(.int (0 : Int32)), (.int (0 : Int32))]) t → S0 t := fun t k => p35 t (stc36 t k)
     have p40 : ∀ t, St p e below Tc36 (mkF m 40 Ls34 [(.int (1 : Int32))]) t → S0 t := fun t k => p39 t (by
       show St p e below Tc36 (mkF m 32 Ls34 [(.int (0 : Int32)), (.int (0 : Int32))]) t
       refine XS.icmpNo Xc36.here hx rfl (hb hby at_32) rfl (teq (by decide : (0 : Int32) = (0 : Int32))).2 ?_
       show St p e below Tc36 (mkF m 35 Ls34 []) t
       refine XT.iconstV Xc36.here hx rfl (1 : Int32) (hb hby at_35) (by decide) ?_
       show St p e below Tc36 (mkF m 36 Ls34 [(.int (1 : Int32))]) t
       refine XS.goto Xc36.here hx rfl (pc0 := 36) (pc' := 40) rfl (hb hby at_36) (by decide) (by decide) ?_
       exact k)
     exact ⟨_, _, Xc36, ec36, Nc36, p40⟩
   ·
    have p41 : ∀ t, St p e below Tc25 (mkF m 27 Ls21 [(.int (0 : Int32))]) t → S0 t := fun t k => p24 t (stc25.trans k)
    have p42 : ∀ t, St p e below Tc25 (mkF m 28 Ls21 [(.int ((i0 &&& (2147483647 : Int32)) % (5 : Int32))), (.int (0 : Int32))]) t → S0 t := fun t k => p41 t (by
      show St p e below Tc25 (mkF m 27 Ls21 [(.int (0 : Int32))]) t
      refine XS.iloadN Xc25.here hx rfl (hb hby at_27) rfl ?_
      exact k)
    let Ls44 : Array Slot := #[.val (.int i0), .val (.int i1), .val (.int i2), .val (.int (0 : Int32)), .val (.ref a_IS_IRI), .val (.int ((i2 &&& (7 : Int32)) - (2 : Int32))), .unset, .unset]
    have p43 : ∀ t, St p e below Tc25 (mkF m 28 Ls44 [(.int (0 : Int32)), (.int (0 : Int32))]) t → S0 t := fun t k => p42 t (by show St p e below Tc25 (mkF m 28 #[.val (.int i0), .val (.int i1), .val (.int i2), .val (.int ((i0 &&& (2147483647 : Int32)) % (5 : Int32))), .val (.ref a_IS_IRI), .val (.int ((i2 &&& (7 : Int32)) - (2 : Int32))), .unset, .unset] [(.int ((i0 &&& (2147483647 : Int32)) % (5 : Int32))), (.int (0 : Int32))]) t; rw [g5]; exact k)
    have p45 : ∀ t, St p e below Tc25 (mkF m 29 Ls44 [(.int i1), (.int (0 : Int32)), (.int (0 : Int32))]) t → S0 t := fun t k => p43 t (by
      show St p e below Tc25 (mkF m 28 Ls44 [(.int (0 : Int32)), (.int (0 : Int32))]) t
      refine XS.iloadN Xc25.here hx rfl (hb hby at_28) rfl ?_
      exact k)
    obtain ⟨_, _, ⟨Tc46, Lc46, kc46, nc46⟩, -, Xc46, ⟨Lcc46, hQc46, lc46, yc46, zc46⟩, stc46⟩ := Jvm.LawKit.callS Xc25 hx (y := M2) hown (mvT hZ (ww hw 17 rfl)) (mvT hZ (ww hw 18 rfl)) (mvT hZ (ww hw 3 rfl)) (mvT hZ (ww hw 19 rfl)) (by decide) (backOf (W := 1) (rm3_2 l Z a0 hw [] a_IS_IRI a_IS_BLANK a_REGEX a_STR a_IS_LITERAL i1 h0 n0 O0 HE' ) hZ (ww hw 19 rfl) (ww hw 3 rfl) (by decide) (by decide)) (g := (mkF m 29 Ls44 [(.int i1), (.int (0 : Int32)), (.int (0 : Int32))])) rfl (by rw [hml]; rfl) (argsL := [(.int (0 : Int32)), (.int i1)]) (rest := [(.int (0 : Int32))]) (lenOf pd2 rfl) rfl (by show 2 * 0 + _ ≤ _; exact Nat.le_of_eq rfl) (hb hby at_29) (fun _ _ => ⟨rfl, ec25, (by decide : 0 + 0 ≤ _), (by decide : 0 + 0 ≤ _)⟩)
    dsimp only [Pt.U, Pt.locs, Pt.cells, Pt.slots] at Xc46 lc46 yc46 zc46 stc46 hQc46
    subst lc46 yc46 zc46
    obtain ⟨Nqc46, ec46, hAc46⟩ := hQc46
    have Nc46 := Fr.app Nc25 Nqc46
    rcases hAc46 with ⟨rfl, g47⟩ | ⟨rfl, g48⟩
    ·
     exfalso
     have q1_ := nltI g27
     have q2_ := ltI g28
     have q3_ := eqI g47
     have l4_ := rng32 i1
     have l5_ := lI1
     omega
    ·
     have p49 : ∀ t, St p e below Tc46 (mkF m 32 Ls44 [(.int (0 : Int32)), (.int (0 : Int32))]) t → S0 t := fun t k => p45 t (stc46 t k)
     have p50 : ∀ t, St p e below Tc46 (mkF m 40 Ls44 [(.int (1 : Int32))]) t → S0 t := fun t k => p49 t (by
       show St p e below Tc46 (mkF m 32 Ls44 [(.int (0 : Int32)), (.int (0 : Int32))]) t
       refine XS.icmpNo Xc46.here hx rfl (hb hby at_32) rfl (teq (by decide : (0 : Int32) = (0 : Int32))).2 ?_
       show St p e below Tc46 (mkF m 35 Ls44 []) t
       refine XT.iconstV Xc46.here hx rfl (1 : Int32) (hb hby at_35) (by decide) ?_
       show St p e below Tc46 (mkF m 36 Ls44 [(.int (1 : Int32))]) t
       refine XS.goto Xc46.here hx rfl (pc0 := 36) (pc' := 40) rfl (hb hby at_36) (by decide) (by decide) ?_
       exact k)
     exact ⟨_, _, Xc46, ec46, Nc46, p50⟩
   ·
    have p51 : ∀ t, St p e below Tc25 (mkF m 27 Ls21 [(.int (1 : Int32))]) t → S0 t := fun t k => p24 t (stc25.trans k)
    have p52 : ∀ t, St p e below Tc25 (mkF m 28 Ls21 [(.int ((i0 &&& (2147483647 : Int32)) % (5 : Int32))), (.int (1 : Int32))]) t → S0 t := fun t k => p51 t (by
      show St p e below Tc25 (mkF m 27 Ls21 [(.int (1 : Int32))]) t
      refine XS.iloadN Xc25.here hx rfl (hb hby at_27) rfl ?_
      exact k)
    let Ls54 : Array Slot := #[.val (.int i0), .val (.int i1), .val (.int i2), .val (.int (0 : Int32)), .val (.ref a_IS_IRI), .val (.int ((i2 &&& (7 : Int32)) - (2 : Int32))), .unset, .unset]
    have p53 : ∀ t, St p e below Tc25 (mkF m 28 Ls54 [(.int (0 : Int32)), (.int (1 : Int32))]) t → S0 t := fun t k => p52 t (by show St p e below Tc25 (mkF m 28 #[.val (.int i0), .val (.int i1), .val (.int i2), .val (.int ((i0 &&& (2147483647 : Int32)) % (5 : Int32))), .val (.ref a_IS_IRI), .val (.int ((i2 &&& (7 : Int32)) - (2 : Int32))), .unset, .unset] [(.int ((i0 &&& (2147483647 : Int32)) % (5 : Int32))), (.int (1 : Int32))]) t; rw [g5]; exact k)
    have p55 : ∀ t, St p e below Tc25 (mkF m 29 Ls54 [(.int i1), (.int (0 : Int32)), (.int (1 : Int32))]) t → S0 t := fun t k => p53 t (by
      show St p e below Tc25 (mkF m 28 Ls54 [(.int (0 : Int32)), (.int (1 : Int32))]) t
      refine XS.iloadN Xc25.here hx rfl (hb hby at_28) rfl ?_
      exact k)
    obtain ⟨_, _, ⟨Tc56, Lc56, kc56, nc56⟩, -, Xc56, ⟨Lcc56, hQc56, lc56, yc56, zc56⟩, stc56⟩ := Jvm.LawKit.callS Xc25 hx (y := M2) hown (mvT hZ (ww hw 17 rfl)) (mvT hZ (ww hw 18 rfl)) (mvT hZ (ww hw 3 rfl)) (mvT hZ (ww hw 19 rfl)) (by decide) (backOf (W := 1) (rm3_2 l Z a0 hw [] a_IS_IRI a_IS_BLANK a_REGEX a_STR a_IS_LITERAL i1 h0 n0 O0 HE' ) hZ (ww hw 19 rfl) (ww hw 3 rfl) (by decide) (by decide)) (g := (mkF m 29 Ls54 [(.int i1), (.int (0 : Int32)), (.int (1 : Int32))])) rfl (by rw [hml]; rfl) (argsL := [(.int (0 : Int32)), (.int i1)]) (rest := [(.int (1 : Int32))]) (lenOf pd2 rfl) rfl (by show 2 * 0 + _ ≤ _; exact Nat.le_of_eq rfl) (hb hby at_29) (fun _ _ => ⟨rfl, ec25, (by decide : 0 + 0 ≤ _), (by decide : 0 + 0 ≤ _)⟩)
    dsimp only [Pt.U, Pt.locs, Pt.cells, Pt.slots] at Xc56 lc56 yc56 zc56 stc56 hQc56
    subst lc56 yc56 zc56
    obtain ⟨Nqc56, ec56, hAc56⟩ := hQc56
    have Nc56 := Fr.app Nc25 Nqc56
    rcases hAc56 with ⟨rfl, g57⟩ | ⟨rfl, g58⟩
    ·
     have p59 : ∀ t, St p e below Tc56 (mkF m 32 Ls54 [(.int (1 : Int32)), (.int (1 : Int32))]) t → S0 t := fun t k => p55 t (stc56 t k)
     have p60 : ∀ t, St p e below Tc56 (mkF m 40 Ls54 [(.int (1 : Int32))]) t → S0 t := fun t k => p59 t (by
       show St p e below Tc56 (mkF m 32 Ls54 [(.int (1 : Int32)), (.int (1 : Int32))]) t
       refine XS.icmpNo Xc56.here hx rfl (hb hby at_32) rfl (teq (by decide : (1 : Int32) = (1 : Int32))).2 ?_
       show St p e below Tc56 (mkF m 35 Ls54 []) t
       refine XT.iconstV Xc56.here hx rfl (1 : Int32) (hb hby at_35) (by decide) ?_
       show St p e below Tc56 (mkF m 36 Ls54 [(.int (1 : Int32))]) t
       refine XS.goto Xc56.here hx rfl (pc0 := 36) (pc' := 40) rfl (hb hby at_36) (by decide) (by decide) ?_
       exact k)
     exact ⟨_, _, Xc56, ec56, Nc56, p60⟩
    ·
     exfalso
     have q1_ := nltI g29
     have q2_ := nltI g30
     have q3_ := neI g58
     have l4_ := rng32 i1
     have l5_ := lI1
     omega
  let Ls61 : Array Slot := #[.val (.int i0), .val (.int i1), .val (.int i2), .val (.int (0 : Int32)), .val (.ref a_IS_IRI), .val (.int ((i2 &&& (7 : Int32)) - (2 : Int32))), .unset, .unset]
  let Ls62 : Array Slot := #[.val (.int i0), .val (.int i1), .val (.int i2), .val (.int (0 : Int32)), .val (.ref a_IS_IRI), .val (.int ((i2 &&& (7 : Int32)) - (2 : Int32))), .val (.int (1 : Int32)), .unset]
  have p63 : ∀ t, St p e below Tj23 (mkF m 42 Ls62 []) t → S0 t := fun t k => pj23 t (by
    show St p e below Tj23 (mkF m 40 Ls61 [(.int (1 : Int32))]) t
    refine XS.istore Xj23.here hx rfl (hb hby at_40) rfl (l' := Ls62) rfl ?_
    exact k)
  obtain ⟨Tj64, Lj64, Xj64, ej64, Nj64, pj64⟩ : ∃  (Tj64 : State) (Lj64 : List Loc), Stand p l e room_1 s m #[(.int i0), (.int i1), (.int i2)] below meth c Tj64 Lj64 0 0 ∧ Tj64.heap = h0 ∧ Fr n0 Lj64 ∧ ∀ t, St p e below Tj64 (mkF m 63 #[.val (.int i0), .val (.int i1), .val (.int i2), .val (.int (0 : Int32)), .val (.ref a_IS_IRI), .val (.int ((i2 &&& (7 : Int32)) - (2 : Int32))), .val (.int (1 : Int32)), .unset] [(.int (1 : Int32))]) t → S0 t := by
   have p65 : ∀ t, St p e below Tj23 (mkF m 46 Ls62 [(.int ((i2 &&& (7 : Int32)) - (2 : Int32))), (.ref a_IS_IRI)]) t → S0 t := fun t k => p63 t (by
     show St p e below Tj23 (mkF m 42 Ls62 []) t
     refine XS.aload Xj23.here hx rfl (hb hby at_42) rfl rfl ?_
     show St p e below Tj23 (mkF m 44 Ls62 [(.ref a_IS_IRI)]) t
     refine XS.iload Xj23.here hx rfl (hb hby at_44) rfl ?_
     exact k)
   obtain ⟨cqc66, kqc66, qc66a, qc66b, qc66c⟩ := isOf hZ ej23 (Ea_IS_IRI.ext O0.2)
   obtain ⟨_, _, ⟨Tc66, Lc66, kc66, nc66⟩, -, Xc66, ⟨Lcc66, hQc66, lc66, yc66, zc66⟩, stc66⟩ := Xj23.virtualBack hx (y := M1) (z := M1) hown (mvT hZ (ww hw 8 rfl)) (mvT hZ (ww hw 9 rfl)) (notFace_of_selects (args := #[]) (mvT hZ (ww hw 11 rfl))) (mvT hZ (ww hw 11 rfl)) (mvT hZ (ww hw 10 rfl)) (by decide) (backOf (W := 0) (rm2_1 l Z a0 hw [] a_IS_IRI a_IS_BLANK a_REGEX a_STR a_IS_LITERAL ((i2 &&& (7 : Int32)) - (2 : Int32)) h0 n0 O0 HE' ) hZ (ww hw 12 rfl) (ww hw 6 rfl) (by decide) (by decide)) qc66a qc66c (g := (mkF m 46 Ls62 [(.int ((i2 &&& (7 : Int32)) - (2 : Int32))), (.ref a_IS_IRI)])) rfl (by rw [hml]; rfl) (Steps.refl _) (argsL := [(.int ((i2 &&& (7 : Int32)) - (2 : Int32)))]) (rest := []) (lenOf pd1 rfl) rfl (by show 2 * 0 + _ ≤ _; exact Nat.le_of_eq rfl) (hb hby at_46) (fun _ _ => ⟨rfl, ej23, (by decide : 0 + 0 ≤ _), (by decide : 0 + 0 ≤ _)⟩)
   dsimp only [Pt.U, Pt.locs, Pt.cells, Pt.slots] at Xc66 lc66 yc66 zc66 stc66 hQc66
   subst lc66 yc66 zc66
   obtain ⟨Nqc66, ec66, hAc66⟩ := hQc66
   have Nc66 := Fr.app Nj23 Nqc66
   rcases hAc66 with ⟨rfl, g67⟩ | ⟨rfl, g68, g69⟩ | ⟨rfl, g70, g71⟩
   ·
    have p72 : ∀ t, St p e below Tc66 (mkF m 49 Ls62 [(.int (0 : Int32))]) t → S0 t := fun t k => p65 t (stc66.trans k)
    have p73 : ∀ t, St p e below Tc66 (mkF m 52 Ls62 [(.int ((i2 &&& (7 : Int32)) - (2 : Int32))), (.int (0 : Int32)), (.int (0 : Int32))]) t → S0 t := fun t k => p72 t (by
      show St p e below Tc66 (mkF m 49 Ls62 [(.int (0 : Int32))]) t
      refine XS.iloadN Xc66.here hx rfl (hb hby at_49) rfl ?_
      show St p e below Tc66 (mkF m 50 Ls62 [(.int (0 : Int32)), (.int (0 : Int32))]) t
      refine XS.iload Xc66.here hx rfl (hb hby at_50) rfl ?_
      exact k)
    obtain ⟨_, _, ⟨Tc74, Lc74, kc74, nc74⟩, -, Xc74, ⟨Lcc74, hQc74, lc74, yc74, zc74⟩, stc74⟩ := Jvm.LawKit.callS Xc66 hx (y := M2) hown (mvT hZ (ww hw 17 rfl)) (mvT hZ (ww hw 18 rfl)) (mvT hZ (ww hw 3 rfl)) (mvT hZ (ww hw 19 rfl)) (by decide) (backOf (W := 1) (rm3_2 l Z a0 hw [] a_IS_IRI a_IS_BLANK a_REGEX a_STR a_IS_LITERAL ((i2 &&& (7 : Int32)) - (2 : Int32)) h0 n0 O0 HE' ) hZ (ww hw 19 rfl) (ww hw 3 rfl) (by decide) (by decide)) (g := (mkF m 52 Ls62 [(.int ((i2 &&& (7 : Int32)) - (2 : Int32))), (.int (0 : Int32)), (.int (0 : Int32))])) rfl (by rw [hml]; rfl) (argsL := [(.int (0 : Int32)), (.int ((i2 &&& (7 : Int32)) - (2 : Int32)))]) (rest := [(.int (0 : Int32))]) (lenOf pd2 rfl) rfl (by show 2 * 0 + _ ≤ _; exact Nat.le_of_eq rfl) (hb hby at_52) (fun _ _ => ⟨rfl, ec66, (by decide : 0 + 0 ≤ _), (by decide : 0 + 0 ≤ _)⟩)
    dsimp only [Pt.U, Pt.locs, Pt.cells, Pt.slots] at Xc74 lc74 yc74 zc74 stc74 hQc74
    subst lc74 yc74 zc74
    obtain ⟨Nqc74, ec74, hAc74⟩ := hQc74
    have Nc74 := Fr.app Nc66 Nqc74
    rcases hAc74 with ⟨rfl, g75⟩ | ⟨rfl, g76⟩
    ·
     exfalso
     have q1_ := ltI g67
     have q2_ := eqI g75
     have l3_ := rng32 i2
     have l4_ := lI7
     have l5_ : (i2 &&& (7 : Int32)).toInt = i2.toInt % 8 := c_mask i2 (7 : Int32) 3 (by decide) (by decide)
     have l6_ := lI2
     have l7_ := c_isub (i2 &&& (7 : Int32)) (2 : Int32)
     have l7b_ := rng32 ((i2 &&& (7 : Int32)) - (2 : Int32))
     have l8_ := lI1
     omega
    ·
     have p77 : ∀ t, St p e below Tc74 (mkF m 55 Ls62 [(.int (0 : Int32)), (.int (0 : Int32))]) t → S0 t := fun t k => p73 t (stc74 t k)
     have p78 : ∀ t, St p e below Tc74 (mkF m 63 Ls62 [(.int (1 : Int32))]) t → S0 t := fun t k => p77 t (by
       show St p e below Tc74 (mkF m 55 Ls62 [(.int (0 : Int32)), (.int (0 : Int32))]) t
       refine XS.icmpNo Xc74.here hx rfl (hb hby at_55) rfl (teq (by decide : (0 : Int32) = (0 : Int32))).2 ?_
       show St p e below Tc74 (mkF m 58 Ls62 []) t
       refine XT.iconstV Xc74.here hx rfl (1 : Int32) (hb hby at_58) (by decide) ?_
       show St p e below Tc74 (mkF m 59 Ls62 [(.int (1 : Int32))]) t
       refine XS.goto Xc74.here hx rfl (pc0 := 59) (pc' := 63) rfl (hb hby at_59) (by decide) (by decide) ?_
       exact k)
     exact ⟨_, _, Xc74, ec74, Nc74, p78⟩
   ·
    have p79 : ∀ t, St p e below Tc66 (mkF m 49 Ls62 [(.int (0 : Int32))]) t → S0 t := fun t k => p65 t (stc66.trans k)
    have p80 : ∀ t, St p e below Tc66 (mkF m 52 Ls62 [(.int ((i2 &&& (7 : Int32)) - (2 : Int32))), (.int (0 : Int32)), (.int (0 : Int32))]) t → S0 t := fun t k => p79 t (by
      show St p e below Tc66 (mkF m 49 Ls62 [(.int (0 : Int32))]) t
      refine XS.iloadN Xc66.here hx rfl (hb hby at_49) rfl ?_
      show St p e below Tc66 (mkF m 50 Ls62 [(.int (0 : Int32)), (.int (0 : Int32))]) t
      refine XS.iload Xc66.here hx rfl (hb hby at_50) rfl ?_
      exact k)
    obtain ⟨_, _, ⟨Tc81, Lc81, kc81, nc81⟩, -, Xc81, ⟨Lcc81, hQc81, lc81, yc81, zc81⟩, stc81⟩ := Jvm.LawKit.callS Xc66 hx (y := M2) hown (mvT hZ (ww hw 17 rfl)) (mvT hZ (ww hw 18 rfl)) (mvT hZ (ww hw 3 rfl)) (mvT hZ (ww hw 19 rfl)) (by decide) (backOf (W := 1) (rm3_2 l Z a0 hw [] a_IS_IRI a_IS_BLANK a_REGEX a_STR a_IS_LITERAL ((i2 &&& (7 : Int32)) - (2 : Int32)) h0 n0 O0 HE' ) hZ (ww hw 19 rfl) (ww hw 3 rfl) (by decide) (by decide)) (g := (mkF m 52 Ls62 [(.int ((i2 &&& (7 : Int32)) - (2 : Int32))), (.int (0 : Int32)), (.int (0 : Int32))])) rfl (by rw [hml]; rfl) (argsL := [(.int (0 : Int32)), (.int ((i2 &&& (7 : Int32)) - (2 : Int32)))]) (rest := [(.int (0 : Int32))]) (lenOf pd2 rfl) rfl (by show 2 * 0 + _ ≤ _; exact Nat.le_of_eq rfl) (hb hby at_52) (fun _ _ => ⟨rfl, ec66, (by decide : 0 + 0 ≤ _), (by decide : 0 + 0 ≤ _)⟩)
    dsimp only [Pt.U, Pt.locs, Pt.cells, Pt.slots] at Xc81 lc81 yc81 zc81 stc81 hQc81
    subst lc81 yc81 zc81
    obtain ⟨Nqc81, ec81, hAc81⟩ := hQc81
    have Nc81 := Fr.app Nc66 Nqc81
    rcases hAc81 with ⟨rfl, g82⟩ | ⟨rfl, g83⟩
    ·
     exfalso
     have q1_ := nltI g68
     have q2_ := ltI g69
     have q3_ := eqI g82
     have l4_ := rng32 i2
     have l5_ := lI7
     have l6_ : (i2 &&& (7 : Int32)).toInt = i2.toInt % 8 := c_mask i2 (7 : Int32) 3 (by decide) (by decide)
     have l7_ := lI2
     have l8_ := c_isub (i2 &&& (7 : Int32)) (2 : Int32)
     have l8b_ := rng32 ((i2 &&& (7 : Int32)) - (2 : Int32))
     have l9_ := lI1
     omega
    ·
     have p84 : ∀ t, St p e below Tc81 (mkF m 55 Ls62 [(.int (0 : Int32)), (.int (0 : Int32))]) t → S0 t := fun t k => p80 t (stc81 t k)
     have p85 : ∀ t, St p e below Tc81 (mkF m 63 Ls62 [(.int (1 : Int32))]) t → S0 t := fun t k => p84 t (by
       show St p e below Tc81 (mkF m 55 Ls62 [(.int (0 : Int32)), (.int (0 : Int32))]) t
       refine XS.icmpNo Xc81.here hx rfl (hb hby at_55) rfl (teq (by decide : (0 : Int32) = (0 : Int32))).2 ?_
       show St p e below Tc81 (mkF m 58 Ls62 []) t
       refine XT.iconstV Xc81.here hx rfl (1 : Int32) (hb hby at_58) (by decide) ?_
       show St p e below Tc81 (mkF m 59 Ls62 [(.int (1 : Int32))]) t
       refine XS.goto Xc81.here hx rfl (pc0 := 59) (pc' := 63) rfl (hb hby at_59) (by decide) (by decide) ?_
       exact k)
     exact ⟨_, _, Xc81, ec81, Nc81, p85⟩
   ·
    have p86 : ∀ t, St p e below Tc66 (mkF m 49 Ls62 [(.int (1 : Int32))]) t → S0 t := fun t k => p65 t (stc66.trans k)
    have p87 : ∀ t, St p e below Tc66 (mkF m 52 Ls62 [(.int ((i2 &&& (7 : Int32)) - (2 : Int32))), (.int (0 : Int32)), (.int (1 : Int32))]) t → S0 t := fun t k => p86 t (by
      show St p e below Tc66 (mkF m 49 Ls62 [(.int (1 : Int32))]) t
      refine XS.iloadN Xc66.here hx rfl (hb hby at_49) rfl ?_
      show St p e below Tc66 (mkF m 50 Ls62 [(.int (0 : Int32)), (.int (1 : Int32))]) t
      refine XS.iload Xc66.here hx rfl (hb hby at_50) rfl ?_
      exact k)
    obtain ⟨_, _, ⟨Tc88, Lc88, kc88, nc88⟩, -, Xc88, ⟨Lcc88, hQc88, lc88, yc88, zc88⟩, stc88⟩ := Jvm.LawKit.callS Xc66 hx (y := M2) hown (mvT hZ (ww hw 17 rfl)) (mvT hZ (ww hw 18 rfl)) (mvT hZ (ww hw 3 rfl)) (mvT hZ (ww hw 19 rfl)) (by decide) (backOf (W := 1) (rm3_2 l Z a0 hw [] a_IS_IRI a_IS_BLANK a_REGEX a_STR a_IS_LITERAL ((i2 &&& (7 : Int32)) - (2 : Int32)) h0 n0 O0 HE' ) hZ (ww hw 19 rfl) (ww hw 3 rfl) (by decide) (by decide)) (g := (mkF m 52 Ls62 [(.int ((i2 &&& (7 : Int32)) - (2 : Int32))), (.int (0 : Int32)), (.int (1 : Int32))])) rfl (by rw [hml]; rfl) (argsL := [(.int (0 : Int32)), (.int ((i2 &&& (7 : Int32)) - (2 : Int32)))]) (rest := [(.int (1 : Int32))]) (lenOf pd2 rfl) rfl (by show 2 * 0 + _ ≤ _; exact Nat.le_of_eq rfl) (hb hby at_52) (fun _ _ => ⟨rfl, ec66, (by decide : 0 + 0 ≤ _), (by decide : 0 + 0 ≤ _)⟩)
    dsimp only [Pt.U, Pt.locs, Pt.cells, Pt.slots] at Xc88 lc88 yc88 zc88 stc88 hQc88
    subst lc88 yc88 zc88
    obtain ⟨Nqc88, ec88, hAc88⟩ := hQc88
    have Nc88 := Fr.app Nc66 Nqc88
    rcases hAc88 with ⟨rfl, g89⟩ | ⟨rfl, g90⟩
    ·
     have p91 : ∀ t, St p e below Tc88 (mkF m 55 Ls62 [(.int (1 : Int32)), (.int (1 : Int32))]) t → S0 t := fun t k => p87 t (stc88 t k)
     have p92 : ∀ t, St p e below Tc88 (mkF m 63 Ls62 [(.int (1 : Int32))]) t → S0 t := fun t k => p91 t (by
       show St p e below Tc88 (mkF m 55 Ls62 [(.int (1 : Int32)), (.int (1 : Int32))]) t
       refine XS.icmpNo Xc88.here hx rfl (hb hby at_55) rfl (teq (by decide : (1 : Int32) = (1 : Int32))).2 ?_
       show St p e below Tc88 (mkF m 58 Ls62 []) t
       refine XT.iconstV Xc88.here hx rfl (1 : Int32) (hb hby at_58) (by decide) ?_
       show St p e below Tc88 (mkF m 59 Ls62 [(.int (1 : Int32))]) t
       refine XS.goto Xc88.here hx rfl (pc0 := 59) (pc' := 63) rfl (hb hby at_59) (by decide) (by decide) ?_
       exact k)
     exact ⟨_, _, Xc88, ec88, Nc88, p92⟩
    ·
     exfalso
     have q1_ := nltI g70
     have q2_ := nltI g71
     have q3_ := neI g90
     have l4_ := rng32 i2
     have l5_ := lI7
     have l6_ : (i2 &&& (7 : Int32)).toInt = i2.toInt % 8 := c_mask i2 (7 : Int32) 3 (by decide) (by decide)
     have l7_ := lI2
     have l8_ := c_isub (i2 &&& (7 : Int32)) (2 : Int32)
     have l8b_ := rng32 ((i2 &&& (7 : Int32)) - (2 : Int32))
     have l9_ := lI1
     omega
  let Ls93 : Array Slot := #[.val (.int i0), .val (.int i1), .val (.int i2), .val (.int (0 : Int32)), .val (.ref a_IS_IRI), .val (.int ((i2 &&& (7 : Int32)) - (2 : Int32))), .val (.int (1 : Int32)), .unset]
  let Ls94 : Array Slot := #[.val (.int i0), .val (.int i1), .val (.int i2), .val (.int (0 : Int32)), .val (.ref a_IS_IRI), .val (.int ((i2 &&& (7 : Int32)) - (2 : Int32))), .val (.int (1 : Int32)), .val (.int (1 : Int32))]
  have p95 : ∀ t, St p e below Tj64 (mkF m 80 Ls94 [(.int (1 : Int32))]) t → S0 t := fun t k => pj64 t (by
    show St p e below Tj64 (mkF m 63 Ls93 [(.int (1 : Int32))]) t
    refine XS.istore Xj64.here hx rfl (hb hby at_63) rfl (l' := Ls94) rfl ?_
    show St p e below Tj64 (mkF m 65 Ls94 []) t
    refine XS.iload Xj64.here hx rfl (hb hby at_65) rfl ?_
    show St p e below Tj64 (mkF m 67 Ls94 [(.int (1 : Int32))]) t
    refine XS.ifNo Xj64.here hx rfl (hb hby at_67) rfl ((if0 _ _).trans (feq (by decide : ¬ ((1 : Int32) = (0 : Int32)))).1) ?_
    show St p e below Tj64 (mkF m 70 Ls94 []) t
    refine XS.iload Xj64.here hx rfl (hb hby at_70) rfl ?_
    show St p e below Tj64 (mkF m 72 Ls94 [(.int (1 : Int32))]) t
    refine XS.ifNo Xj64.here hx rfl (hb hby at_72) rfl ((if0 _ _).trans (feq (by decide : ¬ ((1 : Int32) = (0 : Int32)))).1) ?_
    show St p e below Tj64 (mkF m 75 Ls94 []) t
    refine XT.iconstV Xj64.here hx rfl (1 : Int32) (hb hby at_75) (by decide) ?_
    show St p e below Tj64 (mkF m 76 Ls94 [(.int (1 : Int32))]) t
    refine XS.goto Xj64.here hx rfl (pc0 := 76) (pc' := 80) rfl (hb hby at_76) (by decide) (by decide) ?_
    exact k)
  obtain ⟨fs, hr, hrun, hended, hW, hsame⟩ := Xj64.leave (v := some (.int (1 : Int32))) (fun h => by rw [Bd.returns] at h; cases h)
  refine ⟨_, _, p95 _ ?_, hrun, hended, _, _, rfl, ?_, ⟨_, rfl⟩, hW, hsame.mono (by decide) (by decide)⟩
  · exact retOut Xj64 hx Bd.returns rfl (Or.inl ⟨rfl, by simp, _, rfl⟩) (hb hby at_80) hr
  · exact ⟨rfl, Nj64⟩
 ·
  have p96 : ∀ t, St p e below Tc4 (mkF m 11 Ls2 [(.ref a_IS_BLANK)]) t → S0 t := fun t k => p3 t (stc4 t k)
  let Ls97 : Array Slot := #[.val (.int i0), .val (.int i1), .val (.int i2), .val (.int ((i0 &&& (2147483647 : Int32)) % (5 : Int32))), .val (.ref a_IS_BLANK), .unset, .unset, .unset]
  let Ls98 : Array Slot := #[.val (.int i0), .val (.int i1), .val (.int i2), .val (.int ((i0 &&& (2147483647 : Int32)) % (5 : Int32))), .val (.ref a_IS_BLANK), .val (.int ((i2 &&& (7 : Int32)) - (2 : Int32))), .unset, .unset]
  have p99 : ∀ t, St p e below Tc4 (mkF m 21 Ls98 []) t → S0 t := fun t k => p96 t (by
    show St p e below Tc4 (mkF m 11 Ls2 [(.ref a_IS_BLANK)]) t
    refine XS.astore Xc4.here hx rfl (hb hby at_11) rfl rfl (l' := Ls97) rfl ?_
    show St p e below Tc4 (mkF m 13 Ls97 []) t
    refine XS.iloadN Xc4.here hx rfl (hb hby at_13) rfl ?_
    show St p e below Tc4 (mkF m 14 Ls97 [(.int i2)]) t
    refine XT.bipushV Xc4.here hx rfl (7 : Int32) (hb hby at_14) (by decide) ?_
    show St p e below Tc4 (mkF m 16 Ls97 [(.int (7 : Int32)), (.int i2)]) t
    refine XS.iand Xc4.here hx rfl (hb hby at_16) rfl ?_
    show St p e below Tc4 (mkF m 17 Ls97 [(.int (i2 &&& (7 : Int32)))]) t
    refine XT.iconstV Xc4.here hx rfl (2 : Int32) (hb hby at_17) (by decide) ?_
    show St p e below Tc4 (mkF m 18 Ls97 [(.int (2 : Int32)), (.int (i2 &&& (7 : Int32)))]) t
    refine XS.isub Xc4.here hx rfl (hb hby at_18) rfl ?_
    show St p e below Tc4 (mkF m 19 Ls97 [(.int ((i2 &&& (7 : Int32)) - (2 : Int32)))]) t
    refine XS.istore Xc4.here hx rfl (hb hby at_19) rfl (l' := Ls98) rfl ?_
    exact k)
  obtain ⟨Tj100, Lj100, Xj100, ej100, Nj100, pj100⟩ : ∃  (Tj100 : State) (Lj100 : List Loc), Stand p l e room_1 s m #[(.int i0), (.int i1), (.int i2)] below meth c Tj100 Lj100 0 0 ∧ Tj100.heap = h0 ∧ Fr n0 Lj100 ∧ ∀ t, St p e below Tj100 (mkF m 40 #[.val (.int i0), .val (.int i1), .val (.int i2), .val (.int (1 : Int32)), .val (.ref a_IS_BLANK), .val (.int ((i2 &&& (7 : Int32)) - (2 : Int32))), .unset, .unset] [(.int (1 : Int32))]) t → S0 t := by
   have p101 : ∀ t, St p e below Tc4 (mkF m 24 Ls98 [(.int i1), (.ref a_IS_BLANK)]) t → S0 t := fun t k => p99 t (by
     show St p e below Tc4 (mkF m 21 Ls98 []) t
     refine XS.aload Xc4.here hx rfl (hb hby at_21) rfl rfl ?_
     show St p e below Tc4 (mkF m 23 Ls98 [(.ref a_IS_BLANK)]) t
     refine XS.iloadN Xc4.here hx rfl (hb hby at_23) rfl ?_
     exact k)
   obtain ⟨cqc102, kqc102, qc102a, qc102b, qc102c⟩ := isOf hZ ec4 (Ea_IS_BLANK.ext O0.2)
   obtain ⟨_, _, ⟨Tc102, Lc102, kc102, nc102⟩, -, Xc102, ⟨Lcc102, hQc102, lc102, yc102, zc102⟩, stc102⟩ := Xc4.virtualBack hx (y := M1) (z := M1) hown (mvT hZ (ww hw 8 rfl)) (mvT hZ (ww hw 9 rfl)) (notFace_of_selects (args := #[]) (mvT hZ (ww hw 11 rfl))) (mvT hZ (ww hw 11 rfl)) (mvT hZ (ww hw 10 rfl)) (by decide) (backOf (W := 0) (rm2_3 l Z a0 hw [] a_IS_IRI a_IS_BLANK a_REGEX a_STR a_IS_LITERAL i1 h0 n0 O0 HE' ) hZ (ww hw 12 rfl) (ww hw 6 rfl) (by decide) (by decide)) qc102a qc102c (g := (mkF m 24 Ls98 [(.int i1), (.ref a_IS_BLANK)])) rfl (by rw [hml]; rfl) (Steps.refl _) (argsL := [(.int i1)]) (rest := []) (lenOf pd1 rfl) rfl (by show 2 * 0 + _ ≤ _; exact Nat.le_of_eq rfl) (hb hby at_24) (fun _ _ => ⟨rfl, ec4, (by decide : 0 + 0 ≤ _), (by decide : 0 + 0 ≤ _)⟩)
   dsimp only [Pt.U, Pt.locs, Pt.cells, Pt.slots] at Xc102 lc102 yc102 zc102 stc102 hQc102
   subst lc102 yc102 zc102
   obtain ⟨Nqc102, ec102, hAc102⟩ := hQc102
   have Nc102 := Fr.app Nc4 Nqc102
   rcases hAc102 with ⟨rfl, g103⟩ | ⟨rfl, g104, g105⟩ | ⟨rfl, g106, g107⟩
   ·
    have p108 : ∀ t, St p e below Tc102 (mkF m 27 Ls98 [(.int (0 : Int32))]) t → S0 t := fun t k => p101 t (stc102.trans k)
    have p109 : ∀ t, St p e below Tc102 (mkF m 28 Ls98 [(.int ((i0 &&& (2147483647 : Int32)) % (5 : Int32))), (.int (0 : Int32))]) t → S0 t := fun t k => p108 t (by
      show St p e below Tc102 (mkF m 27 Ls98 [(.int (0 : Int32))]) t
      refine XS.iloadN Xc102.here hx rfl (hb hby at_27) rfl ?_
      exact k)
    let Ls111 : Array Slot := #[.val (.int i0), .val (.int i1), .val (.int i2), .val (.int (1 : Int32)), .val (.ref a_IS_BLANK), .val (.int ((i2 &&& (7 : Int32)) - (2 : Int32))), .unset, .unset]
    have p110 : ∀ t, St p e below Tc102 (mkF m 28 Ls111 [(.int (1 : Int32)), (.int (0 : Int32))]) t → S0 t := fun t k => p109 t (by show St p e below Tc102 (mkF m 28 #[.val (.int i0), .val (.int i1), .val (.int i2), .val (.int ((i0 &&& (2147483647 : Int32)) % (5 : Int32))), .val (.ref a_IS_BLANK), .val (.int ((i2 &&& (7 : Int32)) - (2 : Int32))), .unset, .unset] [(.int ((i0 &&& (2147483647 : Int32)) % (5 : Int32))), (.int (0 : Int32))]) t; rw [g7]; exact k)
    have p112 : ∀ t, St p e below Tc102 (mkF m 29 Ls111 [(.int i1), (.int (1 : Int32)), (.int (0 : Int32))]) t → S0 t := fun t k => p110 t (by
      show St p e below Tc102 (mkF m 28 Ls111 [(.int (1 : Int32)), (.int (0 : Int32))]) t
      refine XS.iloadN Xc102.here hx rfl (hb hby at_28) rfl ?_
      exact k)
    obtain ⟨_, _, ⟨Tc113, Lc113, kc113, nc113⟩, -, Xc113, ⟨Lcc113, hQc113, lc113, yc113, zc113⟩, stc113⟩ := Jvm.LawKit.callS Xc102 hx (y := M2) hown (mvT hZ (ww hw 17 rfl)) (mvT hZ (ww hw 18 rfl)) (mvT hZ (ww hw 3 rfl)) (mvT hZ (ww hw 19 rfl)) (by decide) (backOf (W := 1) (rm3_4 l Z a0 hw [] a_IS_IRI a_IS_BLANK a_REGEX a_STR a_IS_LITERAL i1 h0 n0 O0 HE' ) hZ (ww hw 19 rfl) (ww hw 3 rfl) (by decide) (by decide)) (g := (mkF m 29 Ls111 [(.int i1), (.int (1 : Int32)), (.int (0 : Int32))])) rfl (by rw [hml]; rfl) (argsL := [(.int (1 : Int32)), (.int i1)]) (rest := [(.int (0 : Int32))]) (lenOf pd2 rfl) rfl (by show 2 * 0 + _ ≤ _; exact Nat.le_of_eq rfl) (hb hby at_29) (fun _ _ => ⟨rfl, ec102, (by decide : 0 + 0 ≤ _), (by decide : 0 + 0 ≤ _)⟩)
    dsimp only [Pt.U, Pt.locs, Pt.cells, Pt.slots] at Xc113 lc113 yc113 zc113 stc113 hQc113
    subst lc113 yc113 zc113
    obtain ⟨Nqc113, ec113, hAc113⟩ := hQc113
    have Nc113 := Fr.app Nc102 Nqc113
    rcases hAc113 with ⟨rfl, g114⟩ | ⟨rfl, g115⟩
    ·
     exfalso
     have q1_ := ltI g103
     have q2_ := eqI g114
     have l3_ := rng32 i1
     have l4_ := lI1
     omega
    ·
     have p116 : ∀ t, St p e below Tc113 (mkF m 32 Ls111 [(.int (0 : Int32)), (.int (0 : Int32))]) t → S0 t := fun t k => p112 t (stc113 t k)
     have p117 : ∀ t, St p e below Tc113 (mkF m 40 Ls111 [(.int (1 : Int32))]) t → S0 t := fun t k => p116 t (by
       show St p e below Tc113 (mkF m 32 Ls111 [(.int (0 : Int32)), (.int (0 : Int32))]) t
       refine XS.icmpNo Xc113.here hx rfl (hb hby at_32) rfl (teq (by decide : (0 : Int32) = (0 : Int32))).2 ?_
       show St p e below Tc113 (mkF m 35 Ls111 []) t
       refine XT.iconstV Xc113.here hx rfl (1 : Int32) (hb hby at_35) (by decide) ?_
       show St p e below Tc113 (mkF m 36 Ls111 [(.int (1 : Int32))]) t
       refine XS.goto Xc113.here hx rfl (pc0 := 36) (pc' := 40) rfl (hb hby at_36) (by decide) (by decide) ?_
       exact k)
     exact ⟨_, _, Xc113, ec113, Nc113, p117⟩
   ·
    have p118 : ∀ t, St p e below Tc102 (mkF m 27 Ls98 [(.int (0 : Int32))]) t → S0 t := fun t k => p101 t (stc102.trans k)
    have p119 : ∀ t, St p e below Tc102 (mkF m 28 Ls98 [(.int ((i0 &&& (2147483647 : Int32)) % (5 : Int32))), (.int (0 : Int32))]) t → S0 t := fun t k => p118 t (by
      show St p e below Tc102 (mkF m 27 Ls98 [(.int (0 : Int32))]) t
      refine XS.iloadN Xc102.here hx rfl (hb hby at_27) rfl ?_
      exact k)
    let Ls121 : Array Slot := #[.val (.int i0), .val (.int i1), .val (.int i2), .val (.int (1 : Int32)), .val (.ref a_IS_BLANK), .val (.int ((i2 &&& (7 : Int32)) - (2 : Int32))), .unset, .unset]
    have p120 : ∀ t, St p e below Tc102 (mkF m 28 Ls121 [(.int (1 : Int32)), (.int (0 : Int32))]) t → S0 t := fun t k => p119 t (by show St p e below Tc102 (mkF m 28 #[.val (.int i0), .val (.int i1), .val (.int i2), .val (.int ((i0 &&& (2147483647 : Int32)) % (5 : Int32))), .val (.ref a_IS_BLANK), .val (.int ((i2 &&& (7 : Int32)) - (2 : Int32))), .unset, .unset] [(.int ((i0 &&& (2147483647 : Int32)) % (5 : Int32))), (.int (0 : Int32))]) t; rw [g7]; exact k)
    have p122 : ∀ t, St p e below Tc102 (mkF m 29 Ls121 [(.int i1), (.int (1 : Int32)), (.int (0 : Int32))]) t → S0 t := fun t k => p120 t (by
      show St p e below Tc102 (mkF m 28 Ls121 [(.int (1 : Int32)), (.int (0 : Int32))]) t
      refine XS.iloadN Xc102.here hx rfl (hb hby at_28) rfl ?_
      exact k)
    obtain ⟨_, _, ⟨Tc123, Lc123, kc123, nc123⟩, -, Xc123, ⟨Lcc123, hQc123, lc123, yc123, zc123⟩, stc123⟩ := Jvm.LawKit.callS Xc102 hx (y := M2) hown (mvT hZ (ww hw 17 rfl)) (mvT hZ (ww hw 18 rfl)) (mvT hZ (ww hw 3 rfl)) (mvT hZ (ww hw 19 rfl)) (by decide) (backOf (W := 1) (rm3_4 l Z a0 hw [] a_IS_IRI a_IS_BLANK a_REGEX a_STR a_IS_LITERAL i1 h0 n0 O0 HE' ) hZ (ww hw 19 rfl) (ww hw 3 rfl) (by decide) (by decide)) (g := (mkF m 29 Ls121 [(.int i1), (.int (1 : Int32)), (.int (0 : Int32))])) rfl (by rw [hml]; rfl) (argsL := [(.int (1 : Int32)), (.int i1)]) (rest := [(.int (0 : Int32))]) (lenOf pd2 rfl) rfl (by show 2 * 0 + _ ≤ _; exact Nat.le_of_eq rfl) (hb hby at_29) (fun _ _ => ⟨rfl, ec102, (by decide : 0 + 0 ≤ _), (by decide : 0 + 0 ≤ _)⟩)
    dsimp only [Pt.U, Pt.locs, Pt.cells, Pt.slots] at Xc123 lc123 yc123 zc123 stc123 hQc123
    subst lc123 yc123 zc123
    obtain ⟨Nqc123, ec123, hAc123⟩ := hQc123
    have Nc123 := Fr.app Nc102 Nqc123
    rcases hAc123 with ⟨rfl, g124⟩ | ⟨rfl, g125⟩
    ·
     exfalso
     have q1_ := nltI g104
     have q2_ := ltI g105
     have q3_ := eqI g124
     have l4_ := rng32 i1
     have l5_ := lI1
     omega
    ·
     have p126 : ∀ t, St p e below Tc123 (mkF m 32 Ls121 [(.int (0 : Int32)), (.int (0 : Int32))]) t → S0 t := fun t k => p122 t (stc123 t k)
     have p127 : ∀ t, St p e below Tc123 (mkF m 40 Ls121 [(.int (1 : Int32))]) t → S0 t := fun t k => p126 t (by
       show St p e below Tc123 (mkF m 32 Ls121 [(.int (0 : Int32)), (.int (0 : Int32))]) t
       refine XS.icmpNo Xc123.here hx rfl (hb hby at_32) rfl (teq (by decide : (0 : Int32) = (0 : Int32))).2 ?_
       show St p e below Tc123 (mkF m 35 Ls121 []) t
       refine XT.iconstV Xc123.here hx rfl (1 : Int32) (hb hby at_35) (by decide) ?_
       show St p e below Tc123 (mkF m 36 Ls121 [(.int (1 : Int32))]) t
       refine XS.goto Xc123.here hx rfl (pc0 := 36) (pc' := 40) rfl (hb hby at_36) (by decide) (by decide) ?_
       exact k)
     exact ⟨_, _, Xc123, ec123, Nc123, p127⟩
   ·
    have p128 : ∀ t, St p e below Tc102 (mkF m 27 Ls98 [(.int (1 : Int32))]) t → S0 t := fun t k => p101 t (stc102.trans k)
    have p129 : ∀ t, St p e below Tc102 (mkF m 28 Ls98 [(.int ((i0 &&& (2147483647 : Int32)) % (5 : Int32))), (.int (1 : Int32))]) t → S0 t := fun t k => p128 t (by
      show St p e below Tc102 (mkF m 27 Ls98 [(.int (1 : Int32))]) t
      refine XS.iloadN Xc102.here hx rfl (hb hby at_27) rfl ?_
      exact k)
    let Ls131 : Array Slot := #[.val (.int i0), .val (.int i1), .val (.int i2), .val (.int (1 : Int32)), .val (.ref a_IS_BLANK), .val (.int ((i2 &&& (7 : Int32)) - (2 : Int32))), .unset, .unset]
    have p130 : ∀ t, St p e below Tc102 (mkF m 28 Ls131 [(.int (1 : Int32)), (.int (1 : Int32))]) t → S0 t := fun t k => p129 t (by show St p e below Tc102 (mkF m 28 #[.val (.int i0), .val (.int i1), .val (.int i2), .val (.int ((i0 &&& (2147483647 : Int32)) % (5 : Int32))), .val (.ref a_IS_BLANK), .val (.int ((i2 &&& (7 : Int32)) - (2 : Int32))), .unset, .unset] [(.int ((i0 &&& (2147483647 : Int32)) % (5 : Int32))), (.int (1 : Int32))]) t; rw [g7]; exact k)
    have p132 : ∀ t, St p e below Tc102 (mkF m 29 Ls131 [(.int i1), (.int (1 : Int32)), (.int (1 : Int32))]) t → S0 t := fun t k => p130 t (by
      show St p e below Tc102 (mkF m 28 Ls131 [(.int (1 : Int32)), (.int (1 : Int32))]) t
      refine XS.iloadN Xc102.here hx rfl (hb hby at_28) rfl ?_
      exact k)
    obtain ⟨_, _, ⟨Tc133, Lc133, kc133, nc133⟩, -, Xc133, ⟨Lcc133, hQc133, lc133, yc133, zc133⟩, stc133⟩ := Jvm.LawKit.callS Xc102 hx (y := M2) hown (mvT hZ (ww hw 17 rfl)) (mvT hZ (ww hw 18 rfl)) (mvT hZ (ww hw 3 rfl)) (mvT hZ (ww hw 19 rfl)) (by decide) (backOf (W := 1) (rm3_4 l Z a0 hw [] a_IS_IRI a_IS_BLANK a_REGEX a_STR a_IS_LITERAL i1 h0 n0 O0 HE' ) hZ (ww hw 19 rfl) (ww hw 3 rfl) (by decide) (by decide)) (g := (mkF m 29 Ls131 [(.int i1), (.int (1 : Int32)), (.int (1 : Int32))])) rfl (by rw [hml]; rfl) (argsL := [(.int (1 : Int32)), (.int i1)]) (rest := [(.int (1 : Int32))]) (lenOf pd2 rfl) rfl (by show 2 * 0 + _ ≤ _; exact Nat.le_of_eq rfl) (hb hby at_29) (fun _ _ => ⟨rfl, ec102, (by decide : 0 + 0 ≤ _), (by decide : 0 + 0 ≤ _)⟩)
    dsimp only [Pt.U, Pt.locs, Pt.cells, Pt.slots] at Xc133 lc133 yc133 zc133 stc133 hQc133
    subst lc133 yc133 zc133
    obtain ⟨Nqc133, ec133, hAc133⟩ := hQc133
    have Nc133 := Fr.app Nc102 Nqc133
    rcases hAc133 with ⟨rfl, g134⟩ | ⟨rfl, g135⟩
    ·
     have p136 : ∀ t, St p e below Tc133 (mkF m 32 Ls131 [(.int (1 : Int32)), (.int (1 : Int32))]) t → S0 t := fun t k => p132 t (stc133 t k)
     have p137 : ∀ t, St p e below Tc133 (mkF m 40 Ls131 [(.int (1 : Int32))]) t → S0 t := fun t k => p136 t (by
       show St p e below Tc133 (mkF m 32 Ls131 [(.int (1 : Int32)), (.int (1 : Int32))]) t
       refine XS.icmpNo Xc133.here hx rfl (hb hby at_32) rfl (teq (by decide : (1 : Int32) = (1 : Int32))).2 ?_
       show St p e below Tc133 (mkF m 35 Ls131 []) t
       refine XT.iconstV Xc133.here hx rfl (1 : Int32) (hb hby at_35) (by decide) ?_
       show St p e below Tc133 (mkF m 36 Ls131 [(.int (1 : Int32))]) t
       refine XS.goto Xc133.here hx rfl (pc0 := 36) (pc' := 40) rfl (hb hby at_36) (by decide) (by decide) ?_
       exact k)
     exact ⟨_, _, Xc133, ec133, Nc133, p137⟩
    ·
     exfalso
     have q1_ := nltI g106
     have q2_ := nltI g107
     have q3_ := neI g135
     have l4_ := rng32 i1
     have l5_ := lI1
     omega
  let Ls138 : Array Slot := #[.val (.int i0), .val (.int i1), .val (.int i2), .val (.int (1 : Int32)), .val (.ref a_IS_BLANK), .val (.int ((i2 &&& (7 : Int32)) - (2 : Int32))), .unset, .unset]
  let Ls139 : Array Slot := #[.val (.int i0), .val (.int i1), .val (.int i2), .val (.int (1 : Int32)), .val (.ref a_IS_BLANK), .val (.int ((i2 &&& (7 : Int32)) - (2 : Int32))), .val (.int (1 : Int32)), .unset]
  have p140 : ∀ t, St p e below Tj100 (mkF m 42 Ls139 []) t → S0 t := fun t k => pj100 t (by
    show St p e below Tj100 (mkF m 40 Ls138 [(.int (1 : Int32))]) t
    refine XS.istore Xj100.here hx rfl (hb hby at_40) rfl (l' := Ls139) rfl ?_
    exact k)
  obtain ⟨Tj141, Lj141, Xj141, ej141, Nj141, pj141⟩ : ∃  (Tj141 : State) (Lj141 : List Loc), Stand p l e room_1 s m #[(.int i0), (.int i1), (.int i2)] below meth c Tj141 Lj141 0 0 ∧ Tj141.heap = h0 ∧ Fr n0 Lj141 ∧ ∀ t, St p e below Tj141 (mkF m 63 #[.val (.int i0), .val (.int i1), .val (.int i2), .val (.int (1 : Int32)), .val (.ref a_IS_BLANK), .val (.int ((i2 &&& (7 : Int32)) - (2 : Int32))), .val (.int (1 : Int32)), .unset] [(.int (1 : Int32))]) t → S0 t := by
   have p142 : ∀ t, St p e below Tj100 (mkF m 46 Ls139 [(.int ((i2 &&& (7 : Int32)) - (2 : Int32))), (.ref a_IS_BLANK)]) t → S0 t := fun t k => p140 t (by
     show St p e below Tj100 (mkF m 42 Ls139 []) t
     refine XS.aload Xj100.here hx rfl (hb hby at_42) rfl rfl ?_
     show St p e below Tj100 (mkF m 44 Ls139 [(.ref a_IS_BLANK)]) t
     refine XS.iload Xj100.here hx rfl (hb hby at_44) rfl ?_
     exact k)
   obtain ⟨cqc143, kqc143, qc143a, qc143b, qc143c⟩ := isOf hZ ej100 (Ea_IS_BLANK.ext O0.2)
   obtain ⟨_, _, ⟨Tc143, Lc143, kc143, nc143⟩, -, Xc143, ⟨Lcc143, hQc143, lc143, yc143, zc143⟩, stc143⟩ := Xj100.virtualBack hx (y := M1) (z := M1) hown (mvT hZ (ww hw 8 rfl)) (mvT hZ (ww hw 9 rfl)) (notFace_of_selects (args := #[]) (mvT hZ (ww hw 11 rfl))) (mvT hZ (ww hw 11 rfl)) (mvT hZ (ww hw 10 rfl)) (by decide) (backOf (W := 0) (rm2_3 l Z a0 hw [] a_IS_IRI a_IS_BLANK a_REGEX a_STR a_IS_LITERAL ((i2 &&& (7 : Int32)) - (2 : Int32)) h0 n0 O0 HE' ) hZ (ww hw 12 rfl) (ww hw 6 rfl) (by decide) (by decide)) qc143a qc143c (g := (mkF m 46 Ls139 [(.int ((i2 &&& (7 : Int32)) - (2 : Int32))), (.ref a_IS_BLANK)])) rfl (by rw [hml]; rfl) (Steps.refl _) (argsL := [(.int ((i2 &&& (7 : Int32)) - (2 : Int32)))]) (rest := []) (lenOf pd1 rfl) rfl (by show 2 * 0 + _ ≤ _; exact Nat.le_of_eq rfl) (hb hby at_46) (fun _ _ => ⟨rfl, ej100, (by decide : 0 + 0 ≤ _), (by decide : 0 + 0 ≤ _)⟩)
   dsimp only [Pt.U, Pt.locs, Pt.cells, Pt.slots] at Xc143 lc143 yc143 zc143 stc143 hQc143
   subst lc143 yc143 zc143
   obtain ⟨Nqc143, ec143, hAc143⟩ := hQc143
   have Nc143 := Fr.app Nj100 Nqc143
   rcases hAc143 with ⟨rfl, g144⟩ | ⟨rfl, g145, g146⟩ | ⟨rfl, g147, g148⟩
   ·
    have p149 : ∀ t, St p e below Tc143 (mkF m 49 Ls139 [(.int (0 : Int32))]) t → S0 t := fun t k => p142 t (stc143.trans k)
    have p150 : ∀ t, St p e below Tc143 (mkF m 52 Ls139 [(.int ((i2 &&& (7 : Int32)) - (2 : Int32))), (.int (1 : Int32)), (.int (0 : Int32))]) t → S0 t := fun t k => p149 t (by
      show St p e below Tc143 (mkF m 49 Ls139 [(.int (0 : Int32))]) t
      refine XS.iloadN Xc143.here hx rfl (hb hby at_49) rfl ?_
      show St p e below Tc143 (mkF m 50 Ls139 [(.int (1 : Int32)), (.int (0 : Int32))]) t
      refine XS.iload Xc143.here hx rfl (hb hby at_50) rfl ?_
      exact k)
    obtain ⟨_, _, ⟨Tc151, Lc151, kc151, nc151⟩, -, Xc151, ⟨Lcc151, hQc151, lc151, yc151, zc151⟩, stc151⟩ := Jvm.LawKit.callS Xc143 hx (y := M2) hown (mvT hZ (ww hw 17 rfl)) (mvT hZ (ww hw 18 rfl)) (mvT hZ (ww hw 3 rfl)) (mvT hZ (ww hw 19 rfl)) (by decide) (backOf (W := 1) (rm3_4 l Z a0 hw [] a_IS_IRI a_IS_BLANK a_REGEX a_STR a_IS_LITERAL ((i2 &&& (7 : Int32)) - (2 : Int32)) h0 n0 O0 HE' ) hZ (ww hw 19 rfl) (ww hw 3 rfl) (by decide) (by decide)) (g := (mkF m 52 Ls139 [(.int ((i2 &&& (7 : Int32)) - (2 : Int32))), (.int (1 : Int32)), (.int (0 : Int32))])) rfl (by rw [hml]; rfl) (argsL := [(.int (1 : Int32)), (.int ((i2 &&& (7 : Int32)) - (2 : Int32)))]) (rest := [(.int (0 : Int32))]) (lenOf pd2 rfl) rfl (by show 2 * 0 + _ ≤ _; exact Nat.le_of_eq rfl) (hb hby at_52) (fun _ _ => ⟨rfl, ec143, (by decide : 0 + 0 ≤ _), (by decide : 0 + 0 ≤ _)⟩)
    dsimp only [Pt.U, Pt.locs, Pt.cells, Pt.slots] at Xc151 lc151 yc151 zc151 stc151 hQc151
    subst lc151 yc151 zc151
    obtain ⟨Nqc151, ec151, hAc151⟩ := hQc151
    have Nc151 := Fr.app Nc143 Nqc151
    rcases hAc151 with ⟨rfl, g152⟩ | ⟨rfl, g153⟩
    ·
     exfalso
     have q1_ := ltI g144
     have q2_ := eqI g152
     have l3_ := rng32 i2
     have l4_ := lI7
     have l5_ : (i2 &&& (7 : Int32)).toInt = i2.toInt % 8 := c_mask i2 (7 : Int32) 3 (by decide) (by decide)
     have l6_ := lI2
     have l7_ := c_isub (i2 &&& (7 : Int32)) (2 : Int32)
     have l7b_ := rng32 ((i2 &&& (7 : Int32)) - (2 : Int32))
     have l8_ := lI1
     omega
    ·
     have p154 : ∀ t, St p e below Tc151 (mkF m 55 Ls139 [(.int (0 : Int32)), (.int (0 : Int32))]) t → S0 t := fun t k => p150 t (stc151 t k)
     have p155 : ∀ t, St p e below Tc151 (mkF m 63 Ls139 [(.int (1 : Int32))]) t → S0 t := fun t k => p154 t (by
       show St p e below Tc151 (mkF m 55 Ls139 [(.int (0 : Int32)), (.int (0 : Int32))]) t
       refine XS.icmpNo Xc151.here hx rfl (hb hby at_55) rfl (teq (by decide : (0 : Int32) = (0 : Int32))).2 ?_
       show St p e below Tc151 (mkF m 58 Ls139 []) t
       refine XT.iconstV Xc151.here hx rfl (1 : Int32) (hb hby at_58) (by decide) ?_
       show St p e below Tc151 (mkF m 59 Ls139 [(.int (1 : Int32))]) t
       refine XS.goto Xc151.here hx rfl (pc0 := 59) (pc' := 63) rfl (hb hby at_59) (by decide) (by decide) ?_
       exact k)
     exact ⟨_, _, Xc151, ec151, Nc151, p155⟩
   ·
    have p156 : ∀ t, St p e below Tc143 (mkF m 49 Ls139 [(.int (0 : Int32))]) t → S0 t := fun t k => p142 t (stc143.trans k)
    have p157 : ∀ t, St p e below Tc143 (mkF m 52 Ls139 [(.int ((i2 &&& (7 : Int32)) - (2 : Int32))), (.int (1 : Int32)), (.int (0 : Int32))]) t → S0 t := fun t k => p156 t (by
      show St p e below Tc143 (mkF m 49 Ls139 [(.int (0 : Int32))]) t
      refine XS.iloadN Xc143.here hx rfl (hb hby at_49) rfl ?_
      show St p e below Tc143 (mkF m 50 Ls139 [(.int (1 : Int32)), (.int (0 : Int32))]) t
      refine XS.iload Xc143.here hx rfl (hb hby at_50) rfl ?_
      exact k)
    obtain ⟨_, _, ⟨Tc158, Lc158, kc158, nc158⟩, -, Xc158, ⟨Lcc158, hQc158, lc158, yc158, zc158⟩, stc158⟩ := Jvm.LawKit.callS Xc143 hx (y := M2) hown (mvT hZ (ww hw 17 rfl)) (mvT hZ (ww hw 18 rfl)) (mvT hZ (ww hw 3 rfl)) (mvT hZ (ww hw 19 rfl)) (by decide) (backOf (W := 1) (rm3_4 l Z a0 hw [] a_IS_IRI a_IS_BLANK a_REGEX a_STR a_IS_LITERAL ((i2 &&& (7 : Int32)) - (2 : Int32)) h0 n0 O0 HE' ) hZ (ww hw 19 rfl) (ww hw 3 rfl) (by decide) (by decide)) (g := (mkF m 52 Ls139 [(.int ((i2 &&& (7 : Int32)) - (2 : Int32))), (.int (1 : Int32)), (.int (0 : Int32))])) rfl (by rw [hml]; rfl) (argsL := [(.int (1 : Int32)), (.int ((i2 &&& (7 : Int32)) - (2 : Int32)))]) (rest := [(.int (0 : Int32))]) (lenOf pd2 rfl) rfl (by show 2 * 0 + _ ≤ _; exact Nat.le_of_eq rfl) (hb hby at_52) (fun _ _ => ⟨rfl, ec143, (by decide : 0 + 0 ≤ _), (by decide : 0 + 0 ≤ _)⟩)
    dsimp only [Pt.U, Pt.locs, Pt.cells, Pt.slots] at Xc158 lc158 yc158 zc158 stc158 hQc158
    subst lc158 yc158 zc158
    obtain ⟨Nqc158, ec158, hAc158⟩ := hQc158
    have Nc158 := Fr.app Nc143 Nqc158
    rcases hAc158 with ⟨rfl, g159⟩ | ⟨rfl, g160⟩
    ·
     exfalso
     have q1_ := nltI g145
     have q2_ := ltI g146
     have q3_ := eqI g159
     have l4_ := rng32 i2
     have l5_ := lI7
     have l6_ : (i2 &&& (7 : Int32)).toInt = i2.toInt % 8 := c_mask i2 (7 : Int32) 3 (by decide) (by decide)
     have l7_ := lI2
     have l8_ := c_isub (i2 &&& (7 : Int32)) (2 : Int32)
     have l8b_ := rng32 ((i2 &&& (7 : Int32)) - (2 : Int32))
     have l9_ := lI1
     omega
    ·
     have p161 : ∀ t, St p e below Tc158 (mkF m 55 Ls139 [(.int (0 : Int32)), (.int (0 : Int32))]) t → S0 t := fun t k => p157 t (stc158 t k)
     have p162 : ∀ t, St p e below Tc158 (mkF m 63 Ls139 [(.int (1 : Int32))]) t → S0 t := fun t k => p161 t (by
       show St p e below Tc158 (mkF m 55 Ls139 [(.int (0 : Int32)), (.int (0 : Int32))]) t
       refine XS.icmpNo Xc158.here hx rfl (hb hby at_55) rfl (teq (by decide : (0 : Int32) = (0 : Int32))).2 ?_
       show St p e below Tc158 (mkF m 58 Ls139 []) t
       refine XT.iconstV Xc158.here hx rfl (1 : Int32) (hb hby at_58) (by decide) ?_
       show St p e below Tc158 (mkF m 59 Ls139 [(.int (1 : Int32))]) t
       refine XS.goto Xc158.here hx rfl (pc0 := 59) (pc' := 63) rfl (hb hby at_59) (by decide) (by decide) ?_
       exact k)
     exact ⟨_, _, Xc158, ec158, Nc158, p162⟩
   ·
    have p163 : ∀ t, St p e below Tc143 (mkF m 49 Ls139 [(.int (1 : Int32))]) t → S0 t := fun t k => p142 t (stc143.trans k)
    have p164 : ∀ t, St p e below Tc143 (mkF m 52 Ls139 [(.int ((i2 &&& (7 : Int32)) - (2 : Int32))), (.int (1 : Int32)), (.int (1 : Int32))]) t → S0 t := fun t k => p163 t (by
      show St p e below Tc143 (mkF m 49 Ls139 [(.int (1 : Int32))]) t
      refine XS.iloadN Xc143.here hx rfl (hb hby at_49) rfl ?_
      show St p e below Tc143 (mkF m 50 Ls139 [(.int (1 : Int32)), (.int (1 : Int32))]) t
      refine XS.iload Xc143.here hx rfl (hb hby at_50) rfl ?_
      exact k)
    obtain ⟨_, _, ⟨Tc165, Lc165, kc165, nc165⟩, -, Xc165, ⟨Lcc165, hQc165, lc165, yc165, zc165⟩, stc165⟩ := Jvm.LawKit.callS Xc143 hx (y := M2) hown (mvT hZ (ww hw 17 rfl)) (mvT hZ (ww hw 18 rfl)) (mvT hZ (ww hw 3 rfl)) (mvT hZ (ww hw 19 rfl)) (by decide) (backOf (W := 1) (rm3_4 l Z a0 hw [] a_IS_IRI a_IS_BLANK a_REGEX a_STR a_IS_LITERAL ((i2 &&& (7 : Int32)) - (2 : Int32)) h0 n0 O0 HE' ) hZ (ww hw 19 rfl) (ww hw 3 rfl) (by decide) (by decide)) (g := (mkF m 52 Ls139 [(.int ((i2 &&& (7 : Int32)) - (2 : Int32))), (.int (1 : Int32)), (.int (1 : Int32))])) rfl (by rw [hml]; rfl) (argsL := [(.int (1 : Int32)), (.int ((i2 &&& (7 : Int32)) - (2 : Int32)))]) (rest := [(.int (1 : Int32))]) (lenOf pd2 rfl) rfl (by show 2 * 0 + _ ≤ _; exact Nat.le_of_eq rfl) (hb hby at_52) (fun _ _ => ⟨rfl, ec143, (by decide : 0 + 0 ≤ _), (by decide : 0 + 0 ≤ _)⟩)
    dsimp only [Pt.U, Pt.locs, Pt.cells, Pt.slots] at Xc165 lc165 yc165 zc165 stc165 hQc165
    subst lc165 yc165 zc165
    obtain ⟨Nqc165, ec165, hAc165⟩ := hQc165
    have Nc165 := Fr.app Nc143 Nqc165
    rcases hAc165 with ⟨rfl, g166⟩ | ⟨rfl, g167⟩
    ·
     have p168 : ∀ t, St p e below Tc165 (mkF m 55 Ls139 [(.int (1 : Int32)), (.int (1 : Int32))]) t → S0 t := fun t k => p164 t (stc165 t k)
     have p169 : ∀ t, St p e below Tc165 (mkF m 63 Ls139 [(.int (1 : Int32))]) t → S0 t := fun t k => p168 t (by
       show St p e below Tc165 (mkF m 55 Ls139 [(.int (1 : Int32)), (.int (1 : Int32))]) t
       refine XS.icmpNo Xc165.here hx rfl (hb hby at_55) rfl (teq (by decide : (1 : Int32) = (1 : Int32))).2 ?_
       show St p e below Tc165 (mkF m 58 Ls139 []) t
       refine XT.iconstV Xc165.here hx rfl (1 : Int32) (hb hby at_58) (by decide) ?_
       show St p e below Tc165 (mkF m 59 Ls139 [(.int (1 : Int32))]) t
       refine XS.goto Xc165.here hx rfl (pc0 := 59) (pc' := 63) rfl (hb hby at_59) (by decide) (by decide) ?_
       exact k)
     exact ⟨_, _, Xc165, ec165, Nc165, p169⟩
    ·
     exfalso
     have q1_ := nltI g147
     have q2_ := nltI g148
     have q3_ := neI g167
     have l4_ := rng32 i2
     have l5_ := lI7
     have l6_ : (i2 &&& (7 : Int32)).toInt = i2.toInt % 8 := c_mask i2 (7 : Int32) 3 (by decide) (by decide)
     have l7_ := lI2
     have l8_ := c_isub (i2 &&& (7 : Int32)) (2 : Int32)
     have l8b_ := rng32 ((i2 &&& (7 : Int32)) - (2 : Int32))
     have l9_ := lI1
     omega
  let Ls170 : Array Slot := #[.val (.int i0), .val (.int i1), .val (.int i2), .val (.int (1 : Int32)), .val (.ref a_IS_BLANK), .val (.int ((i2 &&& (7 : Int32)) - (2 : Int32))), .val (.int (1 : Int32)), .unset]
  let Ls171 : Array Slot := #[.val (.int i0), .val (.int i1), .val (.int i2), .val (.int (1 : Int32)), .val (.ref a_IS_BLANK), .val (.int ((i2 &&& (7 : Int32)) - (2 : Int32))), .val (.int (1 : Int32)), .val (.int (1 : Int32))]
  have p172 : ∀ t, St p e below Tj141 (mkF m 80 Ls171 [(.int (1 : Int32))]) t → S0 t := fun t k => pj141 t (by
    show St p e below Tj141 (mkF m 63 Ls170 [(.int (1 : Int32))]) t
    refine XS.istore Xj141.here hx rfl (hb hby at_63) rfl (l' := Ls171) rfl ?_
    show St p e below Tj141 (mkF m 65 Ls171 []) t
    refine XS.iload Xj141.here hx rfl (hb hby at_65) rfl ?_
    show St p e below Tj141 (mkF m 67 Ls171 [(.int (1 : Int32))]) t
    refine XS.ifNo Xj141.here hx rfl (hb hby at_67) rfl ((if0 _ _).trans (feq (by decide : ¬ ((1 : Int32) = (0 : Int32)))).1) ?_
    show St p e below Tj141 (mkF m 70 Ls171 []) t
    refine XS.iload Xj141.here hx rfl (hb hby at_70) rfl ?_
    show St p e below Tj141 (mkF m 72 Ls171 [(.int (1 : Int32))]) t
    refine XS.ifNo Xj141.here hx rfl (hb hby at_72) rfl ((if0 _ _).trans (feq (by decide : ¬ ((1 : Int32) = (0 : Int32)))).1) ?_
    show St p e below Tj141 (mkF m 75 Ls171 []) t
    refine XT.iconstV Xj141.here hx rfl (1 : Int32) (hb hby at_75) (by decide) ?_
    show St p e below Tj141 (mkF m 76 Ls171 [(.int (1 : Int32))]) t
    refine XS.goto Xj141.here hx rfl (pc0 := 76) (pc' := 80) rfl (hb hby at_76) (by decide) (by decide) ?_
    exact k)
  obtain ⟨fs, hr, hrun, hended, hW, hsame⟩ := Xj141.leave (v := some (.int (1 : Int32))) (fun h => by rw [Bd.returns] at h; cases h)
  refine ⟨_, _, p172 _ ?_, hrun, hended, _, _, rfl, ?_, ⟨_, rfl⟩, hW, hsame.mono (by decide) (by decide)⟩
  · exact retOut Xj141 hx Bd.returns rfl (Or.inl ⟨rfl, by simp, _, rfl⟩) (hb hby at_80) hr
  · exact ⟨rfl, Nj141⟩
 ·
  have p173 : ∀ t, St p e below Tc4 (mkF m 11 Ls2 [(.ref a_IS_LITERAL)]) t → S0 t := fun t k => p3 t (stc4 t k)
  let Ls174 : Array Slot := #[.val (.int i0), .val (.int i1), .val (.int i2), .val (.int ((i0 &&& (2147483647 : Int32)) % (5 : Int32))), .val (.ref a_IS_LITERAL), .unset, .unset, .unset]
  let Ls175 : Array Slot := #[.val (.int i0), .val (.int i1), .val (.int i2), .val (.int ((i0 &&& (2147483647 : Int32)) % (5 : Int32))), .val (.ref a_IS_LITERAL), .val (.int ((i2 &&& (7 : Int32)) - (2 : Int32))), .unset, .unset]
  have p176 : ∀ t, St p e below Tc4 (mkF m 21 Ls175 []) t → S0 t := fun t k => p173 t (by
    show St p e below Tc4 (mkF m 11 Ls2 [(.ref a_IS_LITERAL)]) t
    refine XS.astore Xc4.here hx rfl (hb hby at_11) rfl rfl (l' := Ls174) rfl ?_
    show St p e below Tc4 (mkF m 13 Ls174 []) t
    refine XS.iloadN Xc4.here hx rfl (hb hby at_13) rfl ?_
    show St p e below Tc4 (mkF m 14 Ls174 [(.int i2)]) t
    refine XT.bipushV Xc4.here hx rfl (7 : Int32) (hb hby at_14) (by decide) ?_
    show St p e below Tc4 (mkF m 16 Ls174 [(.int (7 : Int32)), (.int i2)]) t
    refine XS.iand Xc4.here hx rfl (hb hby at_16) rfl ?_
    show St p e below Tc4 (mkF m 17 Ls174 [(.int (i2 &&& (7 : Int32)))]) t
    refine XT.iconstV Xc4.here hx rfl (2 : Int32) (hb hby at_17) (by decide) ?_
    show St p e below Tc4 (mkF m 18 Ls174 [(.int (2 : Int32)), (.int (i2 &&& (7 : Int32)))]) t
    refine XS.isub Xc4.here hx rfl (hb hby at_18) rfl ?_
    show St p e below Tc4 (mkF m 19 Ls174 [(.int ((i2 &&& (7 : Int32)) - (2 : Int32)))]) t
    refine XS.istore Xc4.here hx rfl (hb hby at_19) rfl (l' := Ls175) rfl ?_
    exact k)
  obtain ⟨Tj177, Lj177, Xj177, ej177, Nj177, pj177⟩ : ∃  (Tj177 : State) (Lj177 : List Loc), Stand p l e room_1 s m #[(.int i0), (.int i1), (.int i2)] below meth c Tj177 Lj177 0 0 ∧ Tj177.heap = h0 ∧ Fr n0 Lj177 ∧ ∀ t, St p e below Tj177 (mkF m 40 #[.val (.int i0), .val (.int i1), .val (.int i2), .val (.int (2 : Int32)), .val (.ref a_IS_LITERAL), .val (.int ((i2 &&& (7 : Int32)) - (2 : Int32))), .unset, .unset] [(.int (1 : Int32))]) t → S0 t := by
   have p178 : ∀ t, St p e below Tc4 (mkF m 24 Ls175 [(.int i1), (.ref a_IS_LITERAL)]) t → S0 t := fun t k => p176 t (by
     show St p e below Tc4 (mkF m 21 Ls175 []) t
     refine XS.aload Xc4.here hx rfl (hb hby at_21) rfl rfl ?_
     show St p e below Tc4 (mkF m 23 Ls175 [(.ref a_IS_LITERAL)]) t
     refine XS.iloadN Xc4.here hx rfl (hb hby at_23) rfl ?_
     exact k)
   obtain ⟨cqc179, kqc179, qc179a, qc179b, qc179c⟩ := isOf hZ ec4 (Ea_IS_LITERAL.ext O0.2)
   obtain ⟨_, _, ⟨Tc179, Lc179, kc179, nc179⟩, -, Xc179, ⟨Lcc179, hQc179, lc179, yc179, zc179⟩, stc179⟩ := Xc4.virtualBack hx (y := M1) (z := M1) hown (mvT hZ (ww hw 8 rfl)) (mvT hZ (ww hw 9 rfl)) (notFace_of_selects (args := #[]) (mvT hZ (ww hw 11 rfl))) (mvT hZ (ww hw 11 rfl)) (mvT hZ (ww hw 10 rfl)) (by decide) (backOf (W := 0) (rm2_5 l Z a0 hw [] a_IS_IRI a_IS_BLANK a_REGEX a_STR a_IS_LITERAL i1 h0 n0 O0 HE' ) hZ (ww hw 12 rfl) (ww hw 6 rfl) (by decide) (by decide)) qc179a qc179c (g := (mkF m 24 Ls175 [(.int i1), (.ref a_IS_LITERAL)])) rfl (by rw [hml]; rfl) (Steps.refl _) (argsL := [(.int i1)]) (rest := []) (lenOf pd1 rfl) rfl (by show 2 * 0 + _ ≤ _; exact Nat.le_of_eq rfl) (hb hby at_24) (fun _ _ => ⟨rfl, ec4, (by decide : 0 + 0 ≤ _), (by decide : 0 + 0 ≤ _)⟩)
   dsimp only [Pt.U, Pt.locs, Pt.cells, Pt.slots] at Xc179 lc179 yc179 zc179 stc179 hQc179
   subst lc179 yc179 zc179
   obtain ⟨Nqc179, ec179, hAc179⟩ := hQc179
   have Nc179 := Fr.app Nc4 Nqc179
   rcases hAc179 with ⟨rfl, g180⟩ | ⟨rfl, g181, g182⟩ | ⟨rfl, g183, g184⟩
   ·
    have p185 : ∀ t, St p e below Tc179 (mkF m 27 Ls175 [(.int (0 : Int32))]) t → S0 t := fun t k => p178 t (stc179.trans k)
    have p186 : ∀ t, St p e below Tc179 (mkF m 28 Ls175 [(.int ((i0 &&& (2147483647 : Int32)) % (5 : Int32))), (.int (0 : Int32))]) t → S0 t := fun t k => p185 t (by
      show St p e below Tc179 (mkF m 27 Ls175 [(.int (0 : Int32))]) t
      refine XS.iloadN Xc179.here hx rfl (hb hby at_27) rfl ?_
      exact k)
    let Ls188 : Array Slot := #[.val (.int i0), .val (.int i1), .val (.int i2), .val (.int (2 : Int32)), .val (.ref a_IS_LITERAL), .val (.int ((i2 &&& (7 : Int32)) - (2 : Int32))), .unset, .unset]
    have p187 : ∀ t, St p e below Tc179 (mkF m 28 Ls188 [(.int (2 : Int32)), (.int (0 : Int32))]) t → S0 t := fun t k => p186 t (by show St p e below Tc179 (mkF m 28 #[.val (.int i0), .val (.int i1), .val (.int i2), .val (.int ((i0 &&& (2147483647 : Int32)) % (5 : Int32))), .val (.ref a_IS_LITERAL), .val (.int ((i2 &&& (7 : Int32)) - (2 : Int32))), .unset, .unset] [(.int ((i0 &&& (2147483647 : Int32)) % (5 : Int32))), (.int (0 : Int32))]) t; rw [g10]; exact k)
    have p189 : ∀ t, St p e below Tc179 (mkF m 29 Ls188 [(.int i1), (.int (2 : Int32)), (.int (0 : Int32))]) t → S0 t := fun t k => p187 t (by
      show St p e below Tc179 (mkF m 28 Ls188 [(.int (2 : Int32)), (.int (0 : Int32))]) t
      refine XS.iloadN Xc179.here hx rfl (hb hby at_28) rfl ?_
      exact k)
    obtain ⟨_, _, ⟨Tc190, Lc190, kc190, nc190⟩, -, Xc190, ⟨Lcc190, hQc190, lc190, yc190, zc190⟩, stc190⟩ := Jvm.LawKit.callS Xc179 hx (y := M2) hown (mvT hZ (ww hw 17 rfl)) (mvT hZ (ww hw 18 rfl)) (mvT hZ (ww hw 3 rfl)) (mvT hZ (ww hw 19 rfl)) (by decide) (backOf (W := 1) (rm3_6 l Z a0 hw [] a_IS_IRI a_IS_BLANK a_REGEX a_STR a_IS_LITERAL i1 h0 n0 O0 HE' ) hZ (ww hw 19 rfl) (ww hw 3 rfl) (by decide) (by decide)) (g := (mkF m 29 Ls188 [(.int i1), (.int (2 : Int32)), (.int (0 : Int32))])) rfl (by rw [hml]; rfl) (argsL := [(.int (2 : Int32)), (.int i1)]) (rest := [(.int (0 : Int32))]) (lenOf pd2 rfl) rfl (by show 2 * 0 + _ ≤ _; exact Nat.le_of_eq rfl) (hb hby at_29) (fun _ _ => ⟨rfl, ec179, (by decide : 0 + 0 ≤ _), (by decide : 0 + 0 ≤ _)⟩)
    dsimp only [Pt.U, Pt.locs, Pt.cells, Pt.slots] at Xc190 lc190 yc190 zc190 stc190 hQc190
    subst lc190 yc190 zc190
    obtain ⟨Nqc190, ec190, hAc190⟩ := hQc190
    have Nc190 := Fr.app Nc179 Nqc190
    rcases hAc190 with ⟨rfl, g191⟩ | ⟨rfl, g192⟩
    ·
     exfalso
     have q1_ := ltI g180
     have q2_ := eqI g191
     have l3_ := rng32 i1
     have l4_ := lI1
     omega
    ·
     have p193 : ∀ t, St p e below Tc190 (mkF m 32 Ls188 [(.int (0 : Int32)), (.int (0 : Int32))]) t → S0 t := fun t k => p189 t (stc190 t k)
     have p194 : ∀ t, St p e below Tc190 (mkF m 40 Ls188 [(.int (1 : Int32))]) t → S0 t := fun t k => p193 t (by
       show St p e below Tc190 (mkF m 32 Ls188 [(.int (0 : Int32)), (.int (0 : Int32))]) t
       refine XS.icmpNo Xc190.here hx rfl (hb hby at_32) rfl (teq (by decide : (0 : Int32) = (0 : Int32))).2 ?_
       show St p e below Tc190 (mkF m 35 Ls188 []) t
       refine XT.iconstV Xc190.here hx rfl (1 : Int32) (hb hby at_35) (by decide) ?_
       show St p e below Tc190 (mkF m 36 Ls188 [(.int (1 : Int32))]) t
       refine XS.goto Xc190.here hx rfl (pc0 := 36) (pc' := 40) rfl (hb hby at_36) (by decide) (by decide) ?_
       exact k)
     exact ⟨_, _, Xc190, ec190, Nc190, p194⟩
   ·
    have p195 : ∀ t, St p e below Tc179 (mkF m 27 Ls175 [(.int (0 : Int32))]) t → S0 t := fun t k => p178 t (stc179.trans k)
    have p196 : ∀ t, St p e below Tc179 (mkF m 28 Ls175 [(.int ((i0 &&& (2147483647 : Int32)) % (5 : Int32))), (.int (0 : Int32))]) t → S0 t := fun t k => p195 t (by
      show St p e below Tc179 (mkF m 27 Ls175 [(.int (0 : Int32))]) t
      refine XS.iloadN Xc179.here hx rfl (hb hby at_27) rfl ?_
      exact k)
    let Ls198 : Array Slot := #[.val (.int i0), .val (.int i1), .val (.int i2), .val (.int (2 : Int32)), .val (.ref a_IS_LITERAL), .val (.int ((i2 &&& (7 : Int32)) - (2 : Int32))), .unset, .unset]
    have p197 : ∀ t, St p e below Tc179 (mkF m 28 Ls198 [(.int (2 : Int32)), (.int (0 : Int32))]) t → S0 t := fun t k => p196 t (by show St p e below Tc179 (mkF m 28 #[.val (.int i0), .val (.int i1), .val (.int i2), .val (.int ((i0 &&& (2147483647 : Int32)) % (5 : Int32))), .val (.ref a_IS_LITERAL), .val (.int ((i2 &&& (7 : Int32)) - (2 : Int32))), .unset, .unset] [(.int ((i0 &&& (2147483647 : Int32)) % (5 : Int32))), (.int (0 : Int32))]) t; rw [g10]; exact k)
    have p199 : ∀ t, St p e below Tc179 (mkF m 29 Ls198 [(.int i1), (.int (2 : Int32)), (.int (0 : Int32))]) t → S0 t := fun t k => p197 t (by
      show St p e below Tc179 (mkF m 28 Ls198 [(.int (2 : Int32)), (.int (0 : Int32))]) t
      refine XS.iloadN Xc179.here hx rfl (hb hby at_28) rfl ?_
      exact k)
    obtain ⟨_, _, ⟨Tc200, Lc200, kc200, nc200⟩, -, Xc200, ⟨Lcc200, hQc200, lc200, yc200, zc200⟩, stc200⟩ := Jvm.LawKit.callS Xc179 hx (y := M2) hown (mvT hZ (ww hw 17 rfl)) (mvT hZ (ww hw 18 rfl)) (mvT hZ (ww hw 3 rfl)) (mvT hZ (ww hw 19 rfl)) (by decide) (backOf (W := 1) (rm3_6 l Z a0 hw [] a_IS_IRI a_IS_BLANK a_REGEX a_STR a_IS_LITERAL i1 h0 n0 O0 HE' ) hZ (ww hw 19 rfl) (ww hw 3 rfl) (by decide) (by decide)) (g := (mkF m 29 Ls198 [(.int i1), (.int (2 : Int32)), (.int (0 : Int32))])) rfl (by rw [hml]; rfl) (argsL := [(.int (2 : Int32)), (.int i1)]) (rest := [(.int (0 : Int32))]) (lenOf pd2 rfl) rfl (by show 2 * 0 + _ ≤ _; exact Nat.le_of_eq rfl) (hb hby at_29) (fun _ _ => ⟨rfl, ec179, (by decide : 0 + 0 ≤ _), (by decide : 0 + 0 ≤ _)⟩)
    dsimp only [Pt.U, Pt.locs, Pt.cells, Pt.slots] at Xc200 lc200 yc200 zc200 stc200 hQc200
    subst lc200 yc200 zc200
    obtain ⟨Nqc200, ec200, hAc200⟩ := hQc200
    have Nc200 := Fr.app Nc179 Nqc200
    rcases hAc200 with ⟨rfl, g201⟩ | ⟨rfl, g202⟩
    ·
     exfalso
     have q1_ := nltI g181
     have q2_ := ltI g182
     have q3_ := eqI g201
     have l4_ := rng32 i1
     have l5_ := lI1
     omega
    ·
     have p203 : ∀ t, St p e below Tc200 (mkF m 32 Ls198 [(.int (0 : Int32)), (.int (0 : Int32))]) t → S0 t := fun t k => p199 t (stc200 t k)
     have p204 : ∀ t, St p e below Tc200 (mkF m 40 Ls198 [(.int (1 : Int32))]) t → S0 t := fun t k => p203 t (by
       show St p e below Tc200 (mkF m 32 Ls198 [(.int (0 : Int32)), (.int (0 : Int32))]) t
       refine XS.icmpNo Xc200.here hx rfl (hb hby at_32) rfl (teq (by decide : (0 : Int32) = (0 : Int32))).2 ?_
       show St p e below Tc200 (mkF m 35 Ls198 []) t
       refine XT.iconstV Xc200.here hx rfl (1 : Int32) (hb hby at_35) (by decide) ?_
       show St p e below Tc200 (mkF m 36 Ls198 [(.int (1 : Int32))]) t
       refine XS.goto Xc200.here hx rfl (pc0 := 36) (pc' := 40) rfl (hb hby at_36) (by decide) (by decide) ?_
       exact k)
     exact ⟨_, _, Xc200, ec200, Nc200, p204⟩
   ·
    have p205 : ∀ t, St p e below Tc179 (mkF m 27 Ls175 [(.int (1 : Int32))]) t → S0 t := fun t k => p178 t (stc179.trans k)
    have p206 : ∀ t, St p e below Tc179 (mkF m 28 Ls175 [(.int ((i0 &&& (2147483647 : Int32)) % (5 : Int32))), (.int (1 : Int32))]) t → S0 t := fun t k => p205 t (by
      show St p e below Tc179 (mkF m 27 Ls175 [(.int (1 : Int32))]) t
      refine XS.iloadN Xc179.here hx rfl (hb hby at_27) rfl ?_
      exact k)
    let Ls208 : Array Slot := #[.val (.int i0), .val (.int i1), .val (.int i2), .val (.int (2 : Int32)), .val (.ref a_IS_LITERAL), .val (.int ((i2 &&& (7 : Int32)) - (2 : Int32))), .unset, .unset]
    have p207 : ∀ t, St p e below Tc179 (mkF m 28 Ls208 [(.int (2 : Int32)), (.int (1 : Int32))]) t → S0 t := fun t k => p206 t (by show St p e below Tc179 (mkF m 28 #[.val (.int i0), .val (.int i1), .val (.int i2), .val (.int ((i0 &&& (2147483647 : Int32)) % (5 : Int32))), .val (.ref a_IS_LITERAL), .val (.int ((i2 &&& (7 : Int32)) - (2 : Int32))), .unset, .unset] [(.int ((i0 &&& (2147483647 : Int32)) % (5 : Int32))), (.int (1 : Int32))]) t; rw [g10]; exact k)
    have p209 : ∀ t, St p e below Tc179 (mkF m 29 Ls208 [(.int i1), (.int (2 : Int32)), (.int (1 : Int32))]) t → S0 t := fun t k => p207 t (by
      show St p e below Tc179 (mkF m 28 Ls208 [(.int (2 : Int32)), (.int (1 : Int32))]) t
      refine XS.iloadN Xc179.here hx rfl (hb hby at_28) rfl ?_
      exact k)
    obtain ⟨_, _, ⟨Tc210, Lc210, kc210, nc210⟩, -, Xc210, ⟨Lcc210, hQc210, lc210, yc210, zc210⟩, stc210⟩ := Jvm.LawKit.callS Xc179 hx (y := M2) hown (mvT hZ (ww hw 17 rfl)) (mvT hZ (ww hw 18 rfl)) (mvT hZ (ww hw 3 rfl)) (mvT hZ (ww hw 19 rfl)) (by decide) (backOf (W := 1) (rm3_6 l Z a0 hw [] a_IS_IRI a_IS_BLANK a_REGEX a_STR a_IS_LITERAL i1 h0 n0 O0 HE' ) hZ (ww hw 19 rfl) (ww hw 3 rfl) (by decide) (by decide)) (g := (mkF m 29 Ls208 [(.int i1), (.int (2 : Int32)), (.int (1 : Int32))])) rfl (by rw [hml]; rfl) (argsL := [(.int (2 : Int32)), (.int i1)]) (rest := [(.int (1 : Int32))]) (lenOf pd2 rfl) rfl (by show 2 * 0 + _ ≤ _; exact Nat.le_of_eq rfl) (hb hby at_29) (fun _ _ => ⟨rfl, ec179, (by decide : 0 + 0 ≤ _), (by decide : 0 + 0 ≤ _)⟩)
    dsimp only [Pt.U, Pt.locs, Pt.cells, Pt.slots] at Xc210 lc210 yc210 zc210 stc210 hQc210
    subst lc210 yc210 zc210
    obtain ⟨Nqc210, ec210, hAc210⟩ := hQc210
    have Nc210 := Fr.app Nc179 Nqc210
    rcases hAc210 with ⟨rfl, g211⟩ | ⟨rfl, g212⟩
    ·
     have p213 : ∀ t, St p e below Tc210 (mkF m 32 Ls208 [(.int (1 : Int32)), (.int (1 : Int32))]) t → S0 t := fun t k => p209 t (stc210 t k)
     have p214 : ∀ t, St p e below Tc210 (mkF m 40 Ls208 [(.int (1 : Int32))]) t → S0 t := fun t k => p213 t (by
       show St p e below Tc210 (mkF m 32 Ls208 [(.int (1 : Int32)), (.int (1 : Int32))]) t
       refine XS.icmpNo Xc210.here hx rfl (hb hby at_32) rfl (teq (by decide : (1 : Int32) = (1 : Int32))).2 ?_
       show St p e below Tc210 (mkF m 35 Ls208 []) t
       refine XT.iconstV Xc210.here hx rfl (1 : Int32) (hb hby at_35) (by decide) ?_
       show St p e below Tc210 (mkF m 36 Ls208 [(.int (1 : Int32))]) t
       refine XS.goto Xc210.here hx rfl (pc0 := 36) (pc' := 40) rfl (hb hby at_36) (by decide) (by decide) ?_
       exact k)
     exact ⟨_, _, Xc210, ec210, Nc210, p214⟩
    ·
     exfalso
     have q1_ := nltI g183
     have q2_ := nltI g184
     have q3_ := neI g212
     have l4_ := rng32 i1
     have l5_ := lI1
     omega
  let Ls215 : Array Slot := #[.val (.int i0), .val (.int i1), .val (.int i2), .val (.int (2 : Int32)), .val (.ref a_IS_LITERAL), .val (.int ((i2 &&& (7 : Int32)) - (2 : Int32))), .unset, .unset]
  let Ls216 : Array Slot := #[.val (.int i0), .val (.int i1), .val (.int i2), .val (.int (2 : Int32)), .val (.ref a_IS_LITERAL), .val (.int ((i2 &&& (7 : Int32)) - (2 : Int32))), .val (.int (1 : Int32)), .unset]
  have p217 : ∀ t, St p e below Tj177 (mkF m 42 Ls216 []) t → S0 t := fun t k => pj177 t (by
    show St p e below Tj177 (mkF m 40 Ls215 [(.int (1 : Int32))]) t
    refine XS.istore Xj177.here hx rfl (hb hby at_40) rfl (l' := Ls216) rfl ?_
    exact k)
  obtain ⟨Tj218, Lj218, Xj218, ej218, Nj218, pj218⟩ : ∃  (Tj218 : State) (Lj218 : List Loc), Stand p l e room_1 s m #[(.int i0), (.int i1), (.int i2)] below meth c Tj218 Lj218 0 0 ∧ Tj218.heap = h0 ∧ Fr n0 Lj218 ∧ ∀ t, St p e below Tj218 (mkF m 63 #[.val (.int i0), .val (.int i1), .val (.int i2), .val (.int (2 : Int32)), .val (.ref a_IS_LITERAL), .val (.int ((i2 &&& (7 : Int32)) - (2 : Int32))), .val (.int (1 : Int32)), .unset] [(.int (1 : Int32))]) t → S0 t := by
   have p219 : ∀ t, St p e below Tj177 (mkF m 46 Ls216 [(.int ((i2 &&& (7 : Int32)) - (2 : Int32))), (.ref a_IS_LITERAL)]) t → S0 t := fun t k => p217 t (by
     show St p e below Tj177 (mkF m 42 Ls216 []) t
     refine XS.aload Xj177.here hx rfl (hb hby at_42) rfl rfl ?_
     show St p e below Tj177 (mkF m 44 Ls216 [(.ref a_IS_LITERAL)]) t
     refine XS.iload Xj177.here hx rfl (hb hby at_44) rfl ?_
     exact k)
   obtain ⟨cqc220, kqc220, qc220a, qc220b, qc220c⟩ := isOf hZ ej177 (Ea_IS_LITERAL.ext O0.2)
   obtain ⟨_, _, ⟨Tc220, Lc220, kc220, nc220⟩, -, Xc220, ⟨Lcc220, hQc220, lc220, yc220, zc220⟩, stc220⟩ := Xj177.virtualBack hx (y := M1) (z := M1) hown (mvT hZ (ww hw 8 rfl)) (mvT hZ (ww hw 9 rfl)) (notFace_of_selects (args := #[]) (mvT hZ (ww hw 11 rfl))) (mvT hZ (ww hw 11 rfl)) (mvT hZ (ww hw 10 rfl)) (by decide) (backOf (W := 0) (rm2_5 l Z a0 hw [] a_IS_IRI a_IS_BLANK a_REGEX a_STR a_IS_LITERAL ((i2 &&& (7 : Int32)) - (2 : Int32)) h0 n0 O0 HE' ) hZ (ww hw 12 rfl) (ww hw 6 rfl) (by decide) (by decide)) qc220a qc220c (g := (mkF m 46 Ls216 [(.int ((i2 &&& (7 : Int32)) - (2 : Int32))), (.ref a_IS_LITERAL)])) rfl (by rw [hml]; rfl) (Steps.refl _) (argsL := [(.int ((i2 &&& (7 : Int32)) - (2 : Int32)))]) (rest := []) (lenOf pd1 rfl) rfl (by show 2 * 0 + _ ≤ _; exact Nat.le_of_eq rfl) (hb hby at_46) (fun _ _ => ⟨rfl, ej177, (by decide : 0 + 0 ≤ _), (by decide : 0 + 0 ≤ _)⟩)
   dsimp only [Pt.U, Pt.locs, Pt.cells, Pt.slots] at Xc220 lc220 yc220 zc220 stc220 hQc220
   subst lc220 yc220 zc220
   obtain ⟨Nqc220, ec220, hAc220⟩ := hQc220
   have Nc220 := Fr.app Nj177 Nqc220
   rcases hAc220 with ⟨rfl, g221⟩ | ⟨rfl, g222, g223⟩ | ⟨rfl, g224, g225⟩
   ·
    have p226 : ∀ t, St p e below Tc220 (mkF m 49 Ls216 [(.int (0 : Int32))]) t → S0 t := fun t k => p219 t (stc220.trans k)
    have p227 : ∀ t, St p e below Tc220 (mkF m 52 Ls216 [(.int ((i2 &&& (7 : Int32)) - (2 : Int32))), (.int (2 : Int32)), (.int (0 : Int32))]) t → S0 t := fun t k => p226 t (by
      show St p e below Tc220 (mkF m 49 Ls216 [(.int (0 : Int32))]) t
      refine XS.iloadN Xc220.here hx rfl (hb hby at_49) rfl ?_
      show St p e below Tc220 (mkF m 50 Ls216 [(.int (2 : Int32)), (.int (0 : Int32))]) t
      refine XS.iload Xc220.here hx rfl (hb hby at_50) rfl ?_
      exact k)
    obtain ⟨_, _, ⟨Tc228, Lc228, kc228, nc228⟩, -, Xc228, ⟨Lcc228, hQc228, lc228, yc228, zc228⟩, stc228⟩ := Jvm.LawKit.callS Xc220 hx (y := M2) hown (mvT hZ (ww hw 17 rfl)) (mvT hZ (ww hw 18 rfl)) (mvT hZ (ww hw 3 rfl)) (mvT hZ (ww hw 19 rfl)) (by decide) (backOf (W := 1) (rm3_6 l Z a0 hw [] a_IS_IRI a_IS_BLANK a_REGEX a_STR a_IS_LITERAL ((i2 &&& (7 : Int32)) - (2 : Int32)) h0 n0 O0 HE' ) hZ (ww hw 19 rfl) (ww hw 3 rfl) (by decide) (by decide)) (g := (mkF m 52 Ls216 [(.int ((i2 &&& (7 : Int32)) - (2 : Int32))), (.int (2 : Int32)), (.int (0 : Int32))])) rfl (by rw [hml]; rfl) (argsL := [(.int (2 : Int32)), (.int ((i2 &&& (7 : Int32)) - (2 : Int32)))]) (rest := [(.int (0 : Int32))]) (lenOf pd2 rfl) rfl (by show 2 * 0 + _ ≤ _; exact Nat.le_of_eq rfl) (hb hby at_52) (fun _ _ => ⟨rfl, ec220, (by decide : 0 + 0 ≤ _), (by decide : 0 + 0 ≤ _)⟩)
    dsimp only [Pt.U, Pt.locs, Pt.cells, Pt.slots] at Xc228 lc228 yc228 zc228 stc228 hQc228
    subst lc228 yc228 zc228
    obtain ⟨Nqc228, ec228, hAc228⟩ := hQc228
    have Nc228 := Fr.app Nc220 Nqc228
    rcases hAc228 with ⟨rfl, g229⟩ | ⟨rfl, g230⟩
    ·
     exfalso
     have q1_ := ltI g221
     have q2_ := eqI g229
     have l3_ := rng32 i2
     have l4_ := lI7
     have l5_ : (i2 &&& (7 : Int32)).toInt = i2.toInt % 8 := c_mask i2 (7 : Int32) 3 (by decide) (by decide)
     have l6_ := lI2
     have l7_ := c_isub (i2 &&& (7 : Int32)) (2 : Int32)
     have l7b_ := rng32 ((i2 &&& (7 : Int32)) - (2 : Int32))
     have l8_ := lI1
     omega
    ·
     have p231 : ∀ t, St p e below Tc228 (mkF m 55 Ls216 [(.int (0 : Int32)), (.int (0 : Int32))]) t → S0 t := fun t k => p227 t (stc228 t k)
     have p232 : ∀ t, St p e below Tc228 (mkF m 63 Ls216 [(.int (1 : Int32))]) t → S0 t := fun t k => p231 t (by
       show St p e below Tc228 (mkF m 55 Ls216 [(.int (0 : Int32)), (.int (0 : Int32))]) t
       refine XS.icmpNo Xc228.here hx rfl (hb hby at_55) rfl (teq (by decide : (0 : Int32) = (0 : Int32))).2 ?_
       show St p e below Tc228 (mkF m 58 Ls216 []) t
       refine XT.iconstV Xc228.here hx rfl (1 : Int32) (hb hby at_58) (by decide) ?_
       show St p e below Tc228 (mkF m 59 Ls216 [(.int (1 : Int32))]) t
       refine XS.goto Xc228.here hx rfl (pc0 := 59) (pc' := 63) rfl (hb hby at_59) (by decide) (by decide) ?_
       exact k)
     exact ⟨_, _, Xc228, ec228, Nc228, p232⟩
   ·
    have p233 : ∀ t, St p e below Tc220 (mkF m 49 Ls216 [(.int (0 : Int32))]) t → S0 t := fun t k => p219 t (stc220.trans k)
    have p234 : ∀ t, St p e below Tc220 (mkF m 52 Ls216 [(.int ((i2 &&& (7 : Int32)) - (2 : Int32))), (.int (2 : Int32)), (.int (0 : Int32))]) t → S0 t := fun t k => p233 t (by
      show St p e below Tc220 (mkF m 49 Ls216 [(.int (0 : Int32))]) t
      refine XS.iloadN Xc220.here hx rfl (hb hby at_49) rfl ?_
      show St p e below Tc220 (mkF m 50 Ls216 [(.int (2 : Int32)), (.int (0 : Int32))]) t
      refine XS.iload Xc220.here hx rfl (hb hby at_50) rfl ?_
      exact k)
    obtain ⟨_, _, ⟨Tc235, Lc235, kc235, nc235⟩, -, Xc235, ⟨Lcc235, hQc235, lc235, yc235, zc235⟩, stc235⟩ := Jvm.LawKit.callS Xc220 hx (y := M2) hown (mvT hZ (ww hw 17 rfl)) (mvT hZ (ww hw 18 rfl)) (mvT hZ (ww hw 3 rfl)) (mvT hZ (ww hw 19 rfl)) (by decide) (backOf (W := 1) (rm3_6 l Z a0 hw [] a_IS_IRI a_IS_BLANK a_REGEX a_STR a_IS_LITERAL ((i2 &&& (7 : Int32)) - (2 : Int32)) h0 n0 O0 HE' ) hZ (ww hw 19 rfl) (ww hw 3 rfl) (by decide) (by decide)) (g := (mkF m 52 Ls216 [(.int ((i2 &&& (7 : Int32)) - (2 : Int32))), (.int (2 : Int32)), (.int (0 : Int32))])) rfl (by rw [hml]; rfl) (argsL := [(.int (2 : Int32)), (.int ((i2 &&& (7 : Int32)) - (2 : Int32)))]) (rest := [(.int (0 : Int32))]) (lenOf pd2 rfl) rfl (by show 2 * 0 + _ ≤ _; exact Nat.le_of_eq rfl) (hb hby at_52) (fun _ _ => ⟨rfl, ec220, (by decide : 0 + 0 ≤ _), (by decide : 0 + 0 ≤ _)⟩)
    dsimp only [Pt.U, Pt.locs, Pt.cells, Pt.slots] at Xc235 lc235 yc235 zc235 stc235 hQc235
    subst lc235 yc235 zc235
    obtain ⟨Nqc235, ec235, hAc235⟩ := hQc235
    have Nc235 := Fr.app Nc220 Nqc235
    rcases hAc235 with ⟨rfl, g236⟩ | ⟨rfl, g237⟩
    ·
     exfalso
     have q1_ := nltI g222
     have q2_ := ltI g223
     have q3_ := eqI g236
     have l4_ := rng32 i2
     have l5_ := lI7
     have l6_ : (i2 &&& (7 : Int32)).toInt = i2.toInt % 8 := c_mask i2 (7 : Int32) 3 (by decide) (by decide)
     have l7_ := lI2
     have l8_ := c_isub (i2 &&& (7 : Int32)) (2 : Int32)
     have l8b_ := rng32 ((i2 &&& (7 : Int32)) - (2 : Int32))
     have l9_ := lI1
     omega
    ·
     have p238 : ∀ t, St p e below Tc235 (mkF m 55 Ls216 [(.int (0 : Int32)), (.int (0 : Int32))]) t → S0 t := fun t k => p234 t (stc235 t k)
     have p239 : ∀ t, St p e below Tc235 (mkF m 63 Ls216 [(.int (1 : Int32))]) t → S0 t := fun t k => p238 t (by
       show St p e below Tc235 (mkF m 55 Ls216 [(.int (0 : Int32)), (.int (0 : Int32))]) t
       refine XS.icmpNo Xc235.here hx rfl (hb hby at_55) rfl (teq (by decide : (0 : Int32) = (0 : Int32))).2 ?_
       show St p e below Tc235 (mkF m 58 Ls216 []) t
       refine XT.iconstV Xc235.here hx rfl (1 : Int32) (hb hby at_58) (by decide) ?_
       show St p e below Tc235 (mkF m 59 Ls216 [(.int (1 : Int32))]) t
       refine XS.goto Xc235.here hx rfl (pc0 := 59) (pc' := 63) rfl (hb hby at_59) (by decide) (by decide) ?_
       exact k)
     exact ⟨_, _, Xc235, ec235, Nc235, p239⟩
   ·
    have p240 : ∀ t, St p e below Tc220 (mkF m 49 Ls216 [(.int (1 : Int32))]) t → S0 t := fun t k => p219 t (stc220.trans k)
    have p241 : ∀ t, St p e below Tc220 (mkF m 52 Ls216 [(.int ((i2 &&& (7 : Int32)) - (2 : Int32))), (.int (2 : Int32)), (.int (1 : Int32))]) t → S0 t := fun t k => p240 t (by
      show St p e below Tc220 (mkF m 49 Ls216 [(.int (1 : Int32))]) t
      refine XS.iloadN Xc220.here hx rfl (hb hby at_49) rfl ?_
      show St p e below Tc220 (mkF m 50 Ls216 [(.int (2 : Int32)), (.int (1 : Int32))]) t
      refine XS.iload Xc220.here hx rfl (hb hby at_50) rfl ?_
      exact k)
    obtain ⟨_, _, ⟨Tc242, Lc242, kc242, nc242⟩, -, Xc242, ⟨Lcc242, hQc242, lc242, yc242, zc242⟩, stc242⟩ := Jvm.LawKit.callS Xc220 hx (y := M2) hown (mvT hZ (ww hw 17 rfl)) (mvT hZ (ww hw 18 rfl)) (mvT hZ (ww hw 3 rfl)) (mvT hZ (ww hw 19 rfl)) (by decide) (backOf (W := 1) (rm3_6 l Z a0 hw [] a_IS_IRI a_IS_BLANK a_REGEX a_STR a_IS_LITERAL ((i2 &&& (7 : Int32)) - (2 : Int32)) h0 n0 O0 HE' ) hZ (ww hw 19 rfl) (ww hw 3 rfl) (by decide) (by decide)) (g := (mkF m 52 Ls216 [(.int ((i2 &&& (7 : Int32)) - (2 : Int32))), (.int (2 : Int32)), (.int (1 : Int32))])) rfl (by rw [hml]; rfl) (argsL := [(.int (2 : Int32)), (.int ((i2 &&& (7 : Int32)) - (2 : Int32)))]) (rest := [(.int (1 : Int32))]) (lenOf pd2 rfl) rfl (by show 2 * 0 + _ ≤ _; exact Nat.le_of_eq rfl) (hb hby at_52) (fun _ _ => ⟨rfl, ec220, (by decide : 0 + 0 ≤ _), (by decide : 0 + 0 ≤ _)⟩)
    dsimp only [Pt.U, Pt.locs, Pt.cells, Pt.slots] at Xc242 lc242 yc242 zc242 stc242 hQc242
    subst lc242 yc242 zc242
    obtain ⟨Nqc242, ec242, hAc242⟩ := hQc242
    have Nc242 := Fr.app Nc220 Nqc242
    rcases hAc242 with ⟨rfl, g243⟩ | ⟨rfl, g244⟩
    ·
     have p245 : ∀ t, St p e below Tc242 (mkF m 55 Ls216 [(.int (1 : Int32)), (.int (1 : Int32))]) t → S0 t := fun t k => p241 t (stc242 t k)
     have p246 : ∀ t, St p e below Tc242 (mkF m 63 Ls216 [(.int (1 : Int32))]) t → S0 t := fun t k => p245 t (by
       show St p e below Tc242 (mkF m 55 Ls216 [(.int (1 : Int32)), (.int (1 : Int32))]) t
       refine XS.icmpNo Xc242.here hx rfl (hb hby at_55) rfl (teq (by decide : (1 : Int32) = (1 : Int32))).2 ?_
       show St p e below Tc242 (mkF m 58 Ls216 []) t
       refine XT.iconstV Xc242.here hx rfl (1 : Int32) (hb hby at_58) (by decide) ?_
       show St p e below Tc242 (mkF m 59 Ls216 [(.int (1 : Int32))]) t
       refine XS.goto Xc242.here hx rfl (pc0 := 59) (pc' := 63) rfl (hb hby at_59) (by decide) (by decide) ?_
       exact k)
     exact ⟨_, _, Xc242, ec242, Nc242, p246⟩
    ·
     exfalso
     have q1_ := nltI g224
     have q2_ := nltI g225
     have q3_ := neI g244
     have l4_ := rng32 i2
     have l5_ := lI7
     have l6_ : (i2 &&& (7 : Int32)).toInt = i2.toInt % 8 := c_mask i2 (7 : Int32) 3 (by decide) (by decide)
     have l7_ := lI2
     have l8_ := c_isub (i2 &&& (7 : Int32)) (2 : Int32)
     have l8b_ := rng32 ((i2 &&& (7 : Int32)) - (2 : Int32))
     have l9_ := lI1
     omega
  let Ls247 : Array Slot := #[.val (.int i0), .val (.int i1), .val (.int i2), .val (.int (2 : Int32)), .val (.ref a_IS_LITERAL), .val (.int ((i2 &&& (7 : Int32)) - (2 : Int32))), .val (.int (1 : Int32)), .unset]
  let Ls248 : Array Slot := #[.val (.int i0), .val (.int i1), .val (.int i2), .val (.int (2 : Int32)), .val (.ref a_IS_LITERAL), .val (.int ((i2 &&& (7 : Int32)) - (2 : Int32))), .val (.int (1 : Int32)), .val (.int (1 : Int32))]
  have p249 : ∀ t, St p e below Tj218 (mkF m 80 Ls248 [(.int (1 : Int32))]) t → S0 t := fun t k => pj218 t (by
    show St p e below Tj218 (mkF m 63 Ls247 [(.int (1 : Int32))]) t
    refine XS.istore Xj218.here hx rfl (hb hby at_63) rfl (l' := Ls248) rfl ?_
    show St p e below Tj218 (mkF m 65 Ls248 []) t
    refine XS.iload Xj218.here hx rfl (hb hby at_65) rfl ?_
    show St p e below Tj218 (mkF m 67 Ls248 [(.int (1 : Int32))]) t
    refine XS.ifNo Xj218.here hx rfl (hb hby at_67) rfl ((if0 _ _).trans (feq (by decide : ¬ ((1 : Int32) = (0 : Int32)))).1) ?_
    show St p e below Tj218 (mkF m 70 Ls248 []) t
    refine XS.iload Xj218.here hx rfl (hb hby at_70) rfl ?_
    show St p e below Tj218 (mkF m 72 Ls248 [(.int (1 : Int32))]) t
    refine XS.ifNo Xj218.here hx rfl (hb hby at_72) rfl ((if0 _ _).trans (feq (by decide : ¬ ((1 : Int32) = (0 : Int32)))).1) ?_
    show St p e below Tj218 (mkF m 75 Ls248 []) t
    refine XT.iconstV Xj218.here hx rfl (1 : Int32) (hb hby at_75) (by decide) ?_
    show St p e below Tj218 (mkF m 76 Ls248 [(.int (1 : Int32))]) t
    refine XS.goto Xj218.here hx rfl (pc0 := 76) (pc' := 80) rfl (hb hby at_76) (by decide) (by decide) ?_
    exact k)
  obtain ⟨fs, hr, hrun, hended, hW, hsame⟩ := Xj218.leave (v := some (.int (1 : Int32))) (fun h => by rw [Bd.returns] at h; cases h)
  refine ⟨_, _, p249 _ ?_, hrun, hended, _, _, rfl, ?_, ⟨_, rfl⟩, hW, hsame.mono (by decide) (by decide)⟩
  · exact retOut Xj218 hx Bd.returns rfl (Or.inl ⟨rfl, by simp, _, rfl⟩) (hb hby at_80) hr
  · exact ⟨rfl, Nj218⟩
 ·
  have p250 : ∀ t, St p e below Tc4 (mkF m 11 Ls2 [(.ref a_STR)]) t → S0 t := fun t k => p3 t (stc4 t k)
  let Ls251 : Array Slot := #[.val (.int i0), .val (.int i1), .val (.int i2), .val (.int ((i0 &&& (2147483647 : Int32)) % (5 : Int32))), .val (.ref a_STR), .unset, .unset, .unset]
  let Ls252 : Array Slot := #[.val (.int i0), .val (.int i1), .val (.int i2), .val (.int ((i0 &&& (2147483647 : Int32)) % (5 : Int32))), .val (.ref a_STR), .val (.int ((i2 &&& (7 : Int32)) - (2 : Int32))), .unset, .unset]
  have p253 : ∀ t, St p e below Tc4 (mkF m 21 Ls252 []) t → S0 t := fun t k => p250 t (by
    show St p e below Tc4 (mkF m 11 Ls2 [(.ref a_STR)]) t
    refine XS.astore Xc4.here hx rfl (hb hby at_11) rfl rfl (l' := Ls251) rfl ?_
    show St p e below Tc4 (mkF m 13 Ls251 []) t
    refine XS.iloadN Xc4.here hx rfl (hb hby at_13) rfl ?_
    show St p e below Tc4 (mkF m 14 Ls251 [(.int i2)]) t
    refine XT.bipushV Xc4.here hx rfl (7 : Int32) (hb hby at_14) (by decide) ?_
    show St p e below Tc4 (mkF m 16 Ls251 [(.int (7 : Int32)), (.int i2)]) t
    refine XS.iand Xc4.here hx rfl (hb hby at_16) rfl ?_
    show St p e below Tc4 (mkF m 17 Ls251 [(.int (i2 &&& (7 : Int32)))]) t
    refine XT.iconstV Xc4.here hx rfl (2 : Int32) (hb hby at_17) (by decide) ?_
    show St p e below Tc4 (mkF m 18 Ls251 [(.int (2 : Int32)), (.int (i2 &&& (7 : Int32)))]) t
    refine XS.isub Xc4.here hx rfl (hb hby at_18) rfl ?_
    show St p e below Tc4 (mkF m 19 Ls251 [(.int ((i2 &&& (7 : Int32)) - (2 : Int32)))]) t
    refine XS.istore Xc4.here hx rfl (hb hby at_19) rfl (l' := Ls252) rfl ?_
    exact k)
  obtain ⟨Tj254, Lj254, Xj254, ej254, Nj254, pj254⟩ : ∃  (Tj254 : State) (Lj254 : List Loc), Stand p l e room_1 s m #[(.int i0), (.int i1), (.int i2)] below meth c Tj254 Lj254 0 0 ∧ Tj254.heap = h0 ∧ Fr n0 Lj254 ∧ ∀ t, St p e below Tj254 (mkF m 40 #[.val (.int i0), .val (.int i1), .val (.int i2), .val (.int (3 : Int32)), .val (.ref a_STR), .val (.int ((i2 &&& (7 : Int32)) - (2 : Int32))), .unset, .unset] [(.int (1 : Int32))]) t → S0 t := by
   have p255 : ∀ t, St p e below Tc4 (mkF m 24 Ls252 [(.int i1), (.ref a_STR)]) t → S0 t := fun t k => p253 t (by
     show St p e below Tc4 (mkF m 21 Ls252 []) t
     refine XS.aload Xc4.here hx rfl (hb hby at_21) rfl rfl ?_
     show St p e below Tc4 (mkF m 23 Ls252 [(.ref a_STR)]) t
     refine XS.iloadN Xc4.here hx rfl (hb hby at_23) rfl ?_
     exact k)
   obtain ⟨cqc256, kqc256, qc256a, qc256b, qc256c⟩ := isOf hZ ec4 (Ea_STR.ext O0.2)
   obtain ⟨_, _, ⟨Tc256, Lc256, kc256, nc256⟩, -, Xc256, ⟨Lcc256, hQc256, lc256, yc256, zc256⟩, stc256⟩ := Xc4.virtualBack hx (y := M1) (z := M1) hown (mvT hZ (ww hw 8 rfl)) (mvT hZ (ww hw 9 rfl)) (notFace_of_selects (args := #[]) (mvT hZ (ww hw 11 rfl))) (mvT hZ (ww hw 11 rfl)) (mvT hZ (ww hw 10 rfl)) (by decide) (backOf (W := 0) (rm2_7 l Z a0 hw [] a_IS_IRI a_IS_BLANK a_REGEX a_STR a_IS_LITERAL i1 h0 n0 O0 HE' ) hZ (ww hw 12 rfl) (ww hw 6 rfl) (by decide) (by decide)) qc256a qc256c (g := (mkF m 24 Ls252 [(.int i1), (.ref a_STR)])) rfl (by rw [hml]; rfl) (Steps.refl _) (argsL := [(.int i1)]) (rest := []) (lenOf pd1 rfl) rfl (by show 2 * 0 + _ ≤ _; exact Nat.le_of_eq rfl) (hb hby at_24) (fun _ _ => ⟨rfl, ec4, (by decide : 0 + 0 ≤ _), (by decide : 0 + 0 ≤ _)⟩)
   dsimp only [Pt.U, Pt.locs, Pt.cells, Pt.slots] at Xc256 lc256 yc256 zc256 stc256 hQc256
   subst lc256 yc256 zc256
   obtain ⟨Nqc256, ec256, hAc256⟩ := hQc256
   have Nc256 := Fr.app Nc4 Nqc256
   rcases hAc256 with ⟨rfl, g257⟩ | ⟨rfl, g258, g259⟩ | ⟨rfl, g260, g261⟩
   ·
    have p262 : ∀ t, St p e below Tc256 (mkF m 27 Ls252 [(.int (0 : Int32))]) t → S0 t := fun t k => p255 t (stc256.trans k)
    have p263 : ∀ t, St p e below Tc256 (mkF m 28 Ls252 [(.int ((i0 &&& (2147483647 : Int32)) % (5 : Int32))), (.int (0 : Int32))]) t → S0 t := fun t k => p262 t (by
      show St p e below Tc256 (mkF m 27 Ls252 [(.int (0 : Int32))]) t
      refine XS.iloadN Xc256.here hx rfl (hb hby at_27) rfl ?_
      exact k)
    let Ls265 : Array Slot := #[.val (.int i0), .val (.int i1), .val (.int i2), .val (.int (3 : Int32)), .val (.ref a_STR), .val (.int ((i2 &&& (7 : Int32)) - (2 : Int32))), .unset, .unset]
    have p264 : ∀ t, St p e below Tc256 (mkF m 28 Ls265 [(.int (3 : Int32)), (.int (0 : Int32))]) t → S0 t := fun t k => p263 t (by show St p e below Tc256 (mkF m 28 #[.val (.int i0), .val (.int i1), .val (.int i2), .val (.int ((i0 &&& (2147483647 : Int32)) % (5 : Int32))), .val (.ref a_STR), .val (.int ((i2 &&& (7 : Int32)) - (2 : Int32))), .unset, .unset] [(.int ((i0 &&& (2147483647 : Int32)) % (5 : Int32))), (.int (0 : Int32))]) t; rw [g14]; exact k)
    have p266 : ∀ t, St p e below Tc256 (mkF m 29 Ls265 [(.int i1), (.int (3 : Int32)), (.int (0 : Int32))]) t → S0 t := fun t k => p264 t (by
      show St p e below Tc256 (mkF m 28 Ls265 [(.int (3 : Int32)), (.int (0 : Int32))]) t
      refine XS.iloadN Xc256.here hx rfl (hb hby at_28) rfl ?_
      exact k)
    obtain ⟨_, _, ⟨Tc267, Lc267, kc267, nc267⟩, -, Xc267, ⟨Lcc267, hQc267, lc267, yc267, zc267⟩, stc267⟩ := Jvm.LawKit.callS Xc256 hx (y := M2) hown (mvT hZ (ww hw 17 rfl)) (mvT hZ (ww hw 18 rfl)) (mvT hZ (ww hw 3 rfl)) (mvT hZ (ww hw 19 rfl)) (by decide) (backOf (W := 1) (rm3_8 l Z a0 hw [] a_IS_IRI a_IS_BLANK a_REGEX a_STR a_IS_LITERAL i1 h0 n0 O0 HE' ) hZ (ww hw 19 rfl) (ww hw 3 rfl) (by decide) (by decide)) (g := (mkF m 29 Ls265 [(.int i1), (.int (3 : Int32)), (.int (0 : Int32))])) rfl (by rw [hml]; rfl) (argsL := [(.int (3 : Int32)), (.int i1)]) (rest := [(.int (0 : Int32))]) (lenOf pd2 rfl) rfl (by show 2 * 0 + _ ≤ _; exact Nat.le_of_eq rfl) (hb hby at_29) (fun _ _ => ⟨rfl, ec256, (by decide : 0 + 0 ≤ _), (by decide : 0 + 0 ≤ _)⟩)
    dsimp only [Pt.U, Pt.locs, Pt.cells, Pt.slots] at Xc267 lc267 yc267 zc267 stc267 hQc267
    subst lc267 yc267 zc267
    obtain ⟨Nqc267, ec267, hAc267⟩ := hQc267
    have Nc267 := Fr.app Nc256 Nqc267
    rcases hAc267 with ⟨rfl, g268⟩ | ⟨rfl, g269⟩
    ·
     exfalso
     have q1_ := ltI g257
     have q2_ := eqI g268
     have l3_ := rng32 i1
     have l4_ := lI1
     omega
    ·
     have p270 : ∀ t, St p e below Tc267 (mkF m 32 Ls265 [(.int (0 : Int32)), (.int (0 : Int32))]) t → S0 t := fun t k => p266 t (stc267 t k)
     have p271 : ∀ t, St p e below Tc267 (mkF m 40 Ls265 [(.int (1 : Int32))]) t → S0 t := fun t k => p270 t (by
       show St p e below Tc267 (mkF m 32 Ls265 [(.int (0 : Int32)), (.int (0 : Int32))]) t
       refine XS.icmpNo Xc267.here hx rfl (hb hby at_32) rfl (teq (by decide : (0 : Int32) = (0 : Int32))).2 ?_
       show St p e below Tc267 (mkF m 35 Ls265 []) t
       refine XT.iconstV Xc267.here hx rfl (1 : Int32) (hb hby at_35) (by decide) ?_
       show St p e below Tc267 (mkF m 36 Ls265 [(.int (1 : Int32))]) t
       refine XS.goto Xc267.here hx rfl (pc0 := 36) (pc' := 40) rfl (hb hby at_36) (by decide) (by decide) ?_
       exact k)
     exact ⟨_, _, Xc267, ec267, Nc267, p271⟩
   ·
    have p272 : ∀ t, St p e below Tc256 (mkF m 27 Ls252 [(.int (0 : Int32))]) t → S0 t := fun t k => p255 t (stc256.trans k)
    have p273 : ∀ t, St p e below Tc256 (mkF m 28 Ls252 [(.int ((i0 &&& (2147483647 : Int32)) % (5 : Int32))), (.int (0 : Int32))]) t → S0 t := fun t k => p272 t (by
      show St p e below Tc256 (mkF m 27 Ls252 [(.int (0 : Int32))]) t
      refine XS.iloadN Xc256.here hx rfl (hb hby at_27) rfl ?_
      exact k)
    let Ls275 : Array Slot := #[.val (.int i0), .val (.int i1), .val (.int i2), .val (.int (3 : Int32)), .val (.ref a_STR), .val (.int ((i2 &&& (7 : Int32)) - (2 : Int32))), .unset, .unset]
    have p274 : ∀ t, St p e below Tc256 (mkF m 28 Ls275 [(.int (3 : Int32)), (.int (0 : Int32))]) t → S0 t := fun t k => p273 t (by show St p e below Tc256 (mkF m 28 #[.val (.int i0), .val (.int i1), .val (.int i2), .val (.int ((i0 &&& (2147483647 : Int32)) % (5 : Int32))), .val (.ref a_STR), .val (.int ((i2 &&& (7 : Int32)) - (2 : Int32))), .unset, .unset] [(.int ((i0 &&& (2147483647 : Int32)) % (5 : Int32))), (.int (0 : Int32))]) t; rw [g14]; exact k)
    have p276 : ∀ t, St p e below Tc256 (mkF m 29 Ls275 [(.int i1), (.int (3 : Int32)), (.int (0 : Int32))]) t → S0 t := fun t k => p274 t (by
      show St p e below Tc256 (mkF m 28 Ls275 [(.int (3 : Int32)), (.int (0 : Int32))]) t
      refine XS.iloadN Xc256.here hx rfl (hb hby at_28) rfl ?_
      exact k)
    obtain ⟨_, _, ⟨Tc277, Lc277, kc277, nc277⟩, -, Xc277, ⟨Lcc277, hQc277, lc277, yc277, zc277⟩, stc277⟩ := Jvm.LawKit.callS Xc256 hx (y := M2) hown (mvT hZ (ww hw 17 rfl)) (mvT hZ (ww hw 18 rfl)) (mvT hZ (ww hw 3 rfl)) (mvT hZ (ww hw 19 rfl)) (by decide) (backOf (W := 1) (rm3_8 l Z a0 hw [] a_IS_IRI a_IS_BLANK a_REGEX a_STR a_IS_LITERAL i1 h0 n0 O0 HE' ) hZ (ww hw 19 rfl) (ww hw 3 rfl) (by decide) (by decide)) (g := (mkF m 29 Ls275 [(.int i1), (.int (3 : Int32)), (.int (0 : Int32))])) rfl (by rw [hml]; rfl) (argsL := [(.int (3 : Int32)), (.int i1)]) (rest := [(.int (0 : Int32))]) (lenOf pd2 rfl) rfl (by show 2 * 0 + _ ≤ _; exact Nat.le_of_eq rfl) (hb hby at_29) (fun _ _ => ⟨rfl, ec256, (by decide : 0 + 0 ≤ _), (by decide : 0 + 0 ≤ _)⟩)
    dsimp only [Pt.U, Pt.locs, Pt.cells, Pt.slots] at Xc277 lc277 yc277 zc277 stc277 hQc277
    subst lc277 yc277 zc277
    obtain ⟨Nqc277, ec277, hAc277⟩ := hQc277
    have Nc277 := Fr.app Nc256 Nqc277
    rcases hAc277 with ⟨rfl, g278⟩ | ⟨rfl, g279⟩
    ·
     exfalso
     have q1_ := nltI g258
     have q2_ := ltI g259
     have q3_ := eqI g278
     have l4_ := rng32 i1
     have l5_ := lI1
     omega
    ·
     have p280 : ∀ t, St p e below Tc277 (mkF m 32 Ls275 [(.int (0 : Int32)), (.int (0 : Int32))]) t → S0 t := fun t k => p276 t (stc277 t k)
     have p281 : ∀ t, St p e below Tc277 (mkF m 40 Ls275 [(.int (1 : Int32))]) t → S0 t := fun t k => p280 t (by
       show St p e below Tc277 (mkF m 32 Ls275 [(.int (0 : Int32)), (.int (0 : Int32))]) t
       refine XS.icmpNo Xc277.here hx rfl (hb hby at_32) rfl (teq (by decide : (0 : Int32) = (0 : Int32))).2 ?_
       show St p e below Tc277 (mkF m 35 Ls275 []) t
       refine XT.iconstV Xc277.here hx rfl (1 : Int32) (hb hby at_35) (by decide) ?_
       show St p e below Tc277 (mkF m 36 Ls275 [(.int (1 : Int32))]) t
       refine XS.goto Xc277.here hx rfl (pc0 := 36) (pc' := 40) rfl (hb hby at_36) (by decide) (by decide) ?_
       exact k)
     exact ⟨_, _, Xc277, ec277, Nc277, p281⟩
   ·
    have p282 : ∀ t, St p e below Tc256 (mkF m 27 Ls252 [(.int (1 : Int32))]) t → S0 t := fun t k => p255 t (stc256.trans k)
    have p283 : ∀ t, St p e below Tc256 (mkF m 28 Ls252 [(.int ((i0 &&& (2147483647 : Int32)) % (5 : Int32))), (.int (1 : Int32))]) t → S0 t := fun t k => p282 t (by
      show St p e below Tc256 (mkF m 27 Ls252 [(.int (1 : Int32))]) t
      refine XS.iloadN Xc256.here hx rfl (hb hby at_27) rfl ?_
      exact k)
    let Ls285 : Array Slot := #[.val (.int i0), .val (.int i1), .val (.int i2), .val (.int (3 : Int32)), .val (.ref a_STR), .val (.int ((i2 &&& (7 : Int32)) - (2 : Int32))), .unset, .unset]
    have p284 : ∀ t, St p e below Tc256 (mkF m 28 Ls285 [(.int (3 : Int32)), (.int (1 : Int32))]) t → S0 t := fun t k => p283 t (by show St p e below Tc256 (mkF m 28 #[.val (.int i0), .val (.int i1), .val (.int i2), .val (.int ((i0 &&& (2147483647 : Int32)) % (5 : Int32))), .val (.ref a_STR), .val (.int ((i2 &&& (7 : Int32)) - (2 : Int32))), .unset, .unset] [(.int ((i0 &&& (2147483647 : Int32)) % (5 : Int32))), (.int (1 : Int32))]) t; rw [g14]; exact k)
    have p286 : ∀ t, St p e below Tc256 (mkF m 29 Ls285 [(.int i1), (.int (3 : Int32)), (.int (1 : Int32))]) t → S0 t := fun t k => p284 t (by
      show St p e below Tc256 (mkF m 28 Ls285 [(.int (3 : Int32)), (.int (1 : Int32))]) t
      refine XS.iloadN Xc256.here hx rfl (hb hby at_28) rfl ?_
      exact k)
    obtain ⟨_, _, ⟨Tc287, Lc287, kc287, nc287⟩, -, Xc287, ⟨Lcc287, hQc287, lc287, yc287, zc287⟩, stc287⟩ := Jvm.LawKit.callS Xc256 hx (y := M2) hown (mvT hZ (ww hw 17 rfl)) (mvT hZ (ww hw 18 rfl)) (mvT hZ (ww hw 3 rfl)) (mvT hZ (ww hw 19 rfl)) (by decide) (backOf (W := 1) (rm3_8 l Z a0 hw [] a_IS_IRI a_IS_BLANK a_REGEX a_STR a_IS_LITERAL i1 h0 n0 O0 HE' ) hZ (ww hw 19 rfl) (ww hw 3 rfl) (by decide) (by decide)) (g := (mkF m 29 Ls285 [(.int i1), (.int (3 : Int32)), (.int (1 : Int32))])) rfl (by rw [hml]; rfl) (argsL := [(.int (3 : Int32)), (.int i1)]) (rest := [(.int (1 : Int32))]) (lenOf pd2 rfl) rfl (by show 2 * 0 + _ ≤ _; exact Nat.le_of_eq rfl) (hb hby at_29) (fun _ _ => ⟨rfl, ec256, (by decide : 0 + 0 ≤ _), (by decide : 0 + 0 ≤ _)⟩)
    dsimp only [Pt.U, Pt.locs, Pt.cells, Pt.slots] at Xc287 lc287 yc287 zc287 stc287 hQc287
    subst lc287 yc287 zc287
    obtain ⟨Nqc287, ec287, hAc287⟩ := hQc287
    have Nc287 := Fr.app Nc256 Nqc287
    rcases hAc287 with ⟨rfl, g288⟩ | ⟨rfl, g289⟩
    ·
     have p290 : ∀ t, St p e below Tc287 (mkF m 32 Ls285 [(.int (1 : Int32)), (.int (1 : Int32))]) t → S0 t := fun t k => p286 t (stc287 t k)
     have p291 : ∀ t, St p e below Tc287 (mkF m 40 Ls285 [(.int (1 : Int32))]) t → S0 t := fun t k => p290 t (by
       show St p e below Tc287 (mkF m 32 Ls285 [(.int (1 : Int32)), (.int (1 : Int32))]) t
       refine XS.icmpNo Xc287.here hx rfl (hb hby at_32) rfl (teq (by decide : (1 : Int32) = (1 : Int32))).2 ?_
       show St p e below Tc287 (mkF m 35 Ls285 []) t
       refine XT.iconstV Xc287.here hx rfl (1 : Int32) (hb hby at_35) (by decide) ?_
       show St p e below Tc287 (mkF m 36 Ls285 [(.int (1 : Int32))]) t
       refine XS.goto Xc287.here hx rfl (pc0 := 36) (pc' := 40) rfl (hb hby at_36) (by decide) (by decide) ?_
       exact k)
     exact ⟨_, _, Xc287, ec287, Nc287, p291⟩
    ·
     exfalso
     have q1_ := nltI g260
     have q2_ := nltI g261
     have q3_ := neI g289
     have l4_ := rng32 i1
     have l5_ := lI1
     omega
  let Ls292 : Array Slot := #[.val (.int i0), .val (.int i1), .val (.int i2), .val (.int (3 : Int32)), .val (.ref a_STR), .val (.int ((i2 &&& (7 : Int32)) - (2 : Int32))), .unset, .unset]
  let Ls293 : Array Slot := #[.val (.int i0), .val (.int i1), .val (.int i2), .val (.int (3 : Int32)), .val (.ref a_STR), .val (.int ((i2 &&& (7 : Int32)) - (2 : Int32))), .val (.int (1 : Int32)), .unset]
  have p294 : ∀ t, St p e below Tj254 (mkF m 42 Ls293 []) t → S0 t := fun t k => pj254 t (by
    show St p e below Tj254 (mkF m 40 Ls292 [(.int (1 : Int32))]) t
    refine XS.istore Xj254.here hx rfl (hb hby at_40) rfl (l' := Ls293) rfl ?_
    exact k)
  obtain ⟨Tj295, Lj295, Xj295, ej295, Nj295, pj295⟩ : ∃  (Tj295 : State) (Lj295 : List Loc), Stand p l e room_1 s m #[(.int i0), (.int i1), (.int i2)] below meth c Tj295 Lj295 0 0 ∧ Tj295.heap = h0 ∧ Fr n0 Lj295 ∧ ∀ t, St p e below Tj295 (mkF m 63 #[.val (.int i0), .val (.int i1), .val (.int i2), .val (.int (3 : Int32)), .val (.ref a_STR), .val (.int ((i2 &&& (7 : Int32)) - (2 : Int32))), .val (.int (1 : Int32)), .unset] [(.int (1 : Int32))]) t → S0 t := by
   have p296 : ∀ t, St p e below Tj254 (mkF m 46 Ls293 [(.int ((i2 &&& (7 : Int32)) - (2 : Int32))), (.ref a_STR)]) t → S0 t := fun t k => p294 t (by
     show St p e below Tj254 (mkF m 42 Ls293 []) t
     refine XS.aload Xj254.here hx rfl (hb hby at_42) rfl rfl ?_
     show St p e below Tj254 (mkF m 44 Ls293 [(.ref a_STR)]) t
     refine XS.iload Xj254.here hx rfl (hb hby at_44) rfl ?_
     exact k)
   obtain ⟨cqc297, kqc297, qc297a, qc297b, qc297c⟩ := isOf hZ ej254 (Ea_STR.ext O0.2)
   obtain ⟨_, _, ⟨Tc297, Lc297, kc297, nc297⟩, -, Xc297, ⟨Lcc297, hQc297, lc297, yc297, zc297⟩, stc297⟩ := Xj254.virtualBack hx (y := M1) (z := M1) hown (mvT hZ (ww hw 8 rfl)) (mvT hZ (ww hw 9 rfl)) (notFace_of_selects (args := #[]) (mvT hZ (ww hw 11 rfl))) (mvT hZ (ww hw 11 rfl)) (mvT hZ (ww hw 10 rfl)) (by decide) (backOf (W := 0) (rm2_7 l Z a0 hw [] a_IS_IRI a_IS_BLANK a_REGEX a_STR a_IS_LITERAL ((i2 &&& (7 : Int32)) - (2 : Int32)) h0 n0 O0 HE' ) hZ (ww hw 12 rfl) (ww hw 6 rfl) (by decide) (by decide)) qc297a qc297c (g := (mkF m 46 Ls293 [(.int ((i2 &&& (7 : Int32)) - (2 : Int32))), (.ref a_STR)])) rfl (by rw [hml]; rfl) (Steps.refl _) (argsL := [(.int ((i2 &&& (7 : Int32)) - (2 : Int32)))]) (rest := []) (lenOf pd1 rfl) rfl (by show 2 * 0 + _ ≤ _; exact Nat.le_of_eq rfl) (hb hby at_46) (fun _ _ => ⟨rfl, ej254, (by decide : 0 + 0 ≤ _), (by decide : 0 + 0 ≤ _)⟩)
   dsimp only [Pt.U, Pt.locs, Pt.cells, Pt.slots] at Xc297 lc297 yc297 zc297 stc297 hQc297
   subst lc297 yc297 zc297
   obtain ⟨Nqc297, ec297, hAc297⟩ := hQc297
   have Nc297 := Fr.app Nj254 Nqc297
   rcases hAc297 with ⟨rfl, g298⟩ | ⟨rfl, g299, g300⟩ | ⟨rfl, g301, g302⟩
   ·
    have p303 : ∀ t, St p e below Tc297 (mkF m 49 Ls293 [(.int (0 : Int32))]) t → S0 t := fun t k => p296 t (stc297.trans k)
    have p304 : ∀ t, St p e below Tc297 (mkF m 52 Ls293 [(.int ((i2 &&& (7 : Int32)) - (2 : Int32))), (.int (3 : Int32)), (.int (0 : Int32))]) t → S0 t := fun t k => p303 t (by
      show St p e below Tc297 (mkF m 49 Ls293 [(.int (0 : Int32))]) t
      refine XS.iloadN Xc297.here hx rfl (hb hby at_49) rfl ?_
      show St p e below Tc297 (mkF m 50 Ls293 [(.int (3 : Int32)), (.int (0 : Int32))]) t
      refine XS.iload Xc297.here hx rfl (hb hby at_50) rfl ?_
      exact k)
    obtain ⟨_, _, ⟨Tc305, Lc305, kc305, nc305⟩, -, Xc305, ⟨Lcc305, hQc305, lc305, yc305, zc305⟩, stc305⟩ := Jvm.LawKit.callS Xc297 hx (y := M2) hown (mvT hZ (ww hw 17 rfl)) (mvT hZ (ww hw 18 rfl)) (mvT hZ (ww hw 3 rfl)) (mvT hZ (ww hw 19 rfl)) (by decide) (backOf (W := 1) (rm3_8 l Z a0 hw [] a_IS_IRI a_IS_BLANK a_REGEX a_STR a_IS_LITERAL ((i2 &&& (7 : Int32)) - (2 : Int32)) h0 n0 O0 HE' ) hZ (ww hw 19 rfl) (ww hw 3 rfl) (by decide) (by decide)) (g := (mkF m 52 Ls293 [(.int ((i2 &&& (7 : Int32)) - (2 : Int32))), (.int (3 : Int32)), (.int (0 : Int32))])) rfl (by rw [hml]; rfl) (argsL := [(.int (3 : Int32)), (.int ((i2 &&& (7 : Int32)) - (2 : Int32)))]) (rest := [(.int (0 : Int32))]) (lenOf pd2 rfl) rfl (by show 2 * 0 + _ ≤ _; exact Nat.le_of_eq rfl) (hb hby at_52) (fun _ _ => ⟨rfl, ec297, (by decide : 0 + 0 ≤ _), (by decide : 0 + 0 ≤ _)⟩)
    dsimp only [Pt.U, Pt.locs, Pt.cells, Pt.slots] at Xc305 lc305 yc305 zc305 stc305 hQc305
    subst lc305 yc305 zc305
    obtain ⟨Nqc305, ec305, hAc305⟩ := hQc305
    have Nc305 := Fr.app Nc297 Nqc305
    rcases hAc305 with ⟨rfl, g306⟩ | ⟨rfl, g307⟩
    ·
     exfalso
     have q1_ := ltI g298
     have q2_ := eqI g306
     have l3_ := rng32 i2
     have l4_ := lI7
     have l5_ : (i2 &&& (7 : Int32)).toInt = i2.toInt % 8 := c_mask i2 (7 : Int32) 3 (by decide) (by decide)
     have l6_ := lI2
     have l7_ := c_isub (i2 &&& (7 : Int32)) (2 : Int32)
     have l7b_ := rng32 ((i2 &&& (7 : Int32)) - (2 : Int32))
     have l8_ := lI1
     omega
    ·
     have p308 : ∀ t, St p e below Tc305 (mkF m 55 Ls293 [(.int (0 : Int32)), (.int (0 : Int32))]) t → S0 t := fun t k => p304 t (stc305 t k)
     have p309 : ∀ t, St p e below Tc305 (mkF m 63 Ls293 [(.int (1 : Int32))]) t → S0 t := fun t k => p308 t (by
       show St p e below Tc305 (mkF m 55 Ls293 [(.int (0 : Int32)), (.int (0 : Int32))]) t
       refine XS.icmpNo Xc305.here hx rfl (hb hby at_55) rfl (teq (by decide : (0 : Int32) = (0 : Int32))).2 ?_
       show St p e below Tc305 (mkF m 58 Ls293 []) t
       refine XT.iconstV Xc305.here hx rfl (1 : Int32) (hb hby at_58) (by decide) ?_
       show St p e below Tc305 (mkF m 59 Ls293 [(.int (1 : Int32))]) t
       refine XS.goto Xc305.here hx rfl (pc0 := 59) (pc' := 63) rfl (hb hby at_59) (by decide) (by decide) ?_
       exact k)
     exact ⟨_, _, Xc305, ec305, Nc305, p309⟩
   ·
    have p310 : ∀ t, St p e below Tc297 (mkF m 49 Ls293 [(.int (0 : Int32))]) t → S0 t := fun t k => p296 t (stc297.trans k)
    have p311 : ∀ t, St p e below Tc297 (mkF m 52 Ls293 [(.int ((i2 &&& (7 : Int32)) - (2 : Int32))), (.int (3 : Int32)), (.int (0 : Int32))]) t → S0 t := fun t k => p310 t (by
      show St p e below Tc297 (mkF m 49 Ls293 [(.int (0 : Int32))]) t
      refine XS.iloadN Xc297.here hx rfl (hb hby at_49) rfl ?_
      show St p e below Tc297 (mkF m 50 Ls293 [(.int (3 : Int32)), (.int (0 : Int32))]) t
      refine XS.iload Xc297.here hx rfl (hb hby at_50) rfl ?_
      exact k)
    obtain ⟨_, _, ⟨Tc312, Lc312, kc312, nc312⟩, -, Xc312, ⟨Lcc312, hQc312, lc312, yc312, zc312⟩, stc312⟩ := Jvm.LawKit.callS Xc297 hx (y := M2) hown (mvT hZ (ww hw 17 rfl)) (mvT hZ (ww hw 18 rfl)) (mvT hZ (ww hw 3 rfl)) (mvT hZ (ww hw 19 rfl)) (by decide) (backOf (W := 1) (rm3_8 l Z a0 hw [] a_IS_IRI a_IS_BLANK a_REGEX a_STR a_IS_LITERAL ((i2 &&& (7 : Int32)) - (2 : Int32)) h0 n0 O0 HE' ) hZ (ww hw 19 rfl) (ww hw 3 rfl) (by decide) (by decide)) (g := (mkF m 52 Ls293 [(.int ((i2 &&& (7 : Int32)) - (2 : Int32))), (.int (3 : Int32)), (.int (0 : Int32))])) rfl (by rw [hml]; rfl) (argsL := [(.int (3 : Int32)), (.int ((i2 &&& (7 : Int32)) - (2 : Int32)))]) (rest := [(.int (0 : Int32))]) (lenOf pd2 rfl) rfl (by show 2 * 0 + _ ≤ _; exact Nat.le_of_eq rfl) (hb hby at_52) (fun _ _ => ⟨rfl, ec297, (by decide : 0 + 0 ≤ _), (by decide : 0 + 0 ≤ _)⟩)
    dsimp only [Pt.U, Pt.locs, Pt.cells, Pt.slots] at Xc312 lc312 yc312 zc312 stc312 hQc312
    subst lc312 yc312 zc312
    obtain ⟨Nqc312, ec312, hAc312⟩ := hQc312
    have Nc312 := Fr.app Nc297 Nqc312
    rcases hAc312 with ⟨rfl, g313⟩ | ⟨rfl, g314⟩
    ·
     exfalso
     have q1_ := nltI g299
     have q2_ := ltI g300
     have q3_ := eqI g313
     have l4_ := rng32 i2
     have l5_ := lI7
     have l6_ : (i2 &&& (7 : Int32)).toInt = i2.toInt % 8 := c_mask i2 (7 : Int32) 3 (by decide) (by decide)
     have l7_ := lI2
     have l8_ := c_isub (i2 &&& (7 : Int32)) (2 : Int32)
     have l8b_ := rng32 ((i2 &&& (7 : Int32)) - (2 : Int32))
     have l9_ := lI1
     omega
    ·
     have p315 : ∀ t, St p e below Tc312 (mkF m 55 Ls293 [(.int (0 : Int32)), (.int (0 : Int32))]) t → S0 t := fun t k => p311 t (stc312 t k)
     have p316 : ∀ t, St p e below Tc312 (mkF m 63 Ls293 [(.int (1 : Int32))]) t → S0 t := fun t k => p315 t (by
       show St p e below Tc312 (mkF m 55 Ls293 [(.int (0 : Int32)), (.int (0 : Int32))]) t
       refine XS.icmpNo Xc312.here hx rfl (hb hby at_55) rfl (teq (by decide : (0 : Int32) = (0 : Int32))).2 ?_
       show St p e below Tc312 (mkF m 58 Ls293 []) t
       refine XT.iconstV Xc312.here hx rfl (1 : Int32) (hb hby at_58) (by decide) ?_
       show St p e below Tc312 (mkF m 59 Ls293 [(.int (1 : Int32))]) t
       refine XS.goto Xc312.here hx rfl (pc0 := 59) (pc' := 63) rfl (hb hby at_59) (by decide) (by decide) ?_
       exact k)
     exact ⟨_, _, Xc312, ec312, Nc312, p316⟩
   ·
    have p317 : ∀ t, St p e below Tc297 (mkF m 49 Ls293 [(.int (1 : Int32))]) t → S0 t := fun t k => p296 t (stc297.trans k)
    have p318 : ∀ t, St p e below Tc297 (mkF m 52 Ls293 [(.int ((i2 &&& (7 : Int32)) - (2 : Int32))), (.int (3 : Int32)), (.int (1 : Int32))]) t → S0 t := fun t k => p317 t (by
      show St p e below Tc297 (mkF m 49 Ls293 [(.int (1 : Int32))]) t
      refine XS.iloadN Xc297.here hx rfl (hb hby at_49) rfl ?_
      show St p e below Tc297 (mkF m 50 Ls293 [(.int (3 : Int32)), (.int (1 : Int32))]) t
      refine XS.iload Xc297.here hx rfl (hb hby at_50) rfl ?_
      exact k)
    obtain ⟨_, _, ⟨Tc319, Lc319, kc319, nc319⟩, -, Xc319, ⟨Lcc319, hQc319, lc319, yc319, zc319⟩, stc319⟩ := Jvm.LawKit.callS Xc297 hx (y := M2) hown (mvT hZ (ww hw 17 rfl)) (mvT hZ (ww hw 18 rfl)) (mvT hZ (ww hw 3 rfl)) (mvT hZ (ww hw 19 rfl)) (by decide) (backOf (W := 1) (rm3_8 l Z a0 hw [] a_IS_IRI a_IS_BLANK a_REGEX a_STR a_IS_LITERAL ((i2 &&& (7 : Int32)) - (2 : Int32)) h0 n0 O0 HE' ) hZ (ww hw 19 rfl) (ww hw 3 rfl) (by decide) (by decide)) (g := (mkF m 52 Ls293 [(.int ((i2 &&& (7 : Int32)) - (2 : Int32))), (.int (3 : Int32)), (.int (1 : Int32))])) rfl (by rw [hml]; rfl) (argsL := [(.int (3 : Int32)), (.int ((i2 &&& (7 : Int32)) - (2 : Int32)))]) (rest := [(.int (1 : Int32))]) (lenOf pd2 rfl) rfl (by show 2 * 0 + _ ≤ _; exact Nat.le_of_eq rfl) (hb hby at_52) (fun _ _ => ⟨rfl, ec297, (by decide : 0 + 0 ≤ _), (by decide : 0 + 0 ≤ _)⟩)
    dsimp only [Pt.U, Pt.locs, Pt.cells, Pt.slots] at Xc319 lc319 yc319 zc319 stc319 hQc319
    subst lc319 yc319 zc319
    obtain ⟨Nqc319, ec319, hAc319⟩ := hQc319
    have Nc319 := Fr.app Nc297 Nqc319
    rcases hAc319 with ⟨rfl, g320⟩ | ⟨rfl, g321⟩
    ·
     have p322 : ∀ t, St p e below Tc319 (mkF m 55 Ls293 [(.int (1 : Int32)), (.int (1 : Int32))]) t → S0 t := fun t k => p318 t (stc319 t k)
     have p323 : ∀ t, St p e below Tc319 (mkF m 63 Ls293 [(.int (1 : Int32))]) t → S0 t := fun t k => p322 t (by
       show St p e below Tc319 (mkF m 55 Ls293 [(.int (1 : Int32)), (.int (1 : Int32))]) t
       refine XS.icmpNo Xc319.here hx rfl (hb hby at_55) rfl (teq (by decide : (1 : Int32) = (1 : Int32))).2 ?_
       show St p e below Tc319 (mkF m 58 Ls293 []) t
       refine XT.iconstV Xc319.here hx rfl (1 : Int32) (hb hby at_58) (by decide) ?_
       show St p e below Tc319 (mkF m 59 Ls293 [(.int (1 : Int32))]) t
       refine XS.goto Xc319.here hx rfl (pc0 := 59) (pc' := 63) rfl (hb hby at_59) (by decide) (by decide) ?_
       exact k)
     exact ⟨_, _, Xc319, ec319, Nc319, p323⟩
    ·
     exfalso
     have q1_ := nltI g301
     have q2_ := nltI g302
     have q3_ := neI g321
     have l4_ := rng32 i2
     have l5_ := lI7
     have l6_ : (i2 &&& (7 : Int32)).toInt = i2.toInt % 8 := c_mask i2 (7 : Int32) 3 (by decide) (by decide)
     have l7_ := lI2
     have l8_ := c_isub (i2 &&& (7 : Int32)) (2 : Int32)
     have l8b_ := rng32 ((i2 &&& (7 : Int32)) - (2 : Int32))
     have l9_ := lI1
     omega
  let Ls324 : Array Slot := #[.val (.int i0), .val (.int i1), .val (.int i2), .val (.int (3 : Int32)), .val (.ref a_STR), .val (.int ((i2 &&& (7 : Int32)) - (2 : Int32))), .val (.int (1 : Int32)), .unset]
  let Ls325 : Array Slot := #[.val (.int i0), .val (.int i1), .val (.int i2), .val (.int (3 : Int32)), .val (.ref a_STR), .val (.int ((i2 &&& (7 : Int32)) - (2 : Int32))), .val (.int (1 : Int32)), .val (.int (1 : Int32))]
  have p326 : ∀ t, St p e below Tj295 (mkF m 80 Ls325 [(.int (1 : Int32))]) t → S0 t := fun t k => pj295 t (by
    show St p e below Tj295 (mkF m 63 Ls324 [(.int (1 : Int32))]) t
    refine XS.istore Xj295.here hx rfl (hb hby at_63) rfl (l' := Ls325) rfl ?_
    show St p e below Tj295 (mkF m 65 Ls325 []) t
    refine XS.iload Xj295.here hx rfl (hb hby at_65) rfl ?_
    show St p e below Tj295 (mkF m 67 Ls325 [(.int (1 : Int32))]) t
    refine XS.ifNo Xj295.here hx rfl (hb hby at_67) rfl ((if0 _ _).trans (feq (by decide : ¬ ((1 : Int32) = (0 : Int32)))).1) ?_
    show St p e below Tj295 (mkF m 70 Ls325 []) t
    refine XS.iload Xj295.here hx rfl (hb hby at_70) rfl ?_
    show St p e below Tj295 (mkF m 72 Ls325 [(.int (1 : Int32))]) t
    refine XS.ifNo Xj295.here hx rfl (hb hby at_72) rfl ((if0 _ _).trans (feq (by decide : ¬ ((1 : Int32) = (0 : Int32)))).1) ?_
    show St p e below Tj295 (mkF m 75 Ls325 []) t
    refine XT.iconstV Xj295.here hx rfl (1 : Int32) (hb hby at_75) (by decide) ?_
    show St p e below Tj295 (mkF m 76 Ls325 [(.int (1 : Int32))]) t
    refine XS.goto Xj295.here hx rfl (pc0 := 76) (pc' := 80) rfl (hb hby at_76) (by decide) (by decide) ?_
    exact k)
  obtain ⟨fs, hr, hrun, hended, hW, hsame⟩ := Xj295.leave (v := some (.int (1 : Int32))) (fun h => by rw [Bd.returns] at h; cases h)
  refine ⟨_, _, p326 _ ?_, hrun, hended, _, _, rfl, ?_, ⟨_, rfl⟩, hW, hsame.mono (by decide) (by decide)⟩
  · exact retOut Xj295 hx Bd.returns rfl (Or.inl ⟨rfl, by simp, _, rfl⟩) (hb hby at_80) hr
  · exact ⟨rfl, Nj295⟩
 ·
  have p327 : ∀ t, St p e below Tc4 (mkF m 11 Ls2 [(.ref a_REGEX)]) t → S0 t := fun t k => p3 t (stc4 t k)
  let Ls328 : Array Slot := #[.val (.int i0), .val (.int i1), .val (.int i2), .val (.int ((i0 &&& (2147483647 : Int32)) % (5 : Int32))), .val (.ref a_REGEX), .unset, .unset, .unset]
  let Ls329 : Array Slot := #[.val (.int i0), .val (.int i1), .val (.int i2), .val (.int ((i0 &&& (2147483647 : Int32)) % (5 : Int32))), .val (.ref a_REGEX), .val (.int ((i2 &&& (7 : Int32)) - (2 : Int32))), .unset, .unset]
  have p330 : ∀ t, St p e below Tc4 (mkF m 21 Ls329 []) t → S0 t := fun t k => p327 t (by
    show St p e below Tc4 (mkF m 11 Ls2 [(.ref a_REGEX)]) t
    refine XS.astore Xc4.here hx rfl (hb hby at_11) rfl rfl (l' := Ls328) rfl ?_
    show St p e below Tc4 (mkF m 13 Ls328 []) t
    refine XS.iloadN Xc4.here hx rfl (hb hby at_13) rfl ?_
    show St p e below Tc4 (mkF m 14 Ls328 [(.int i2)]) t
    refine XT.bipushV Xc4.here hx rfl (7 : Int32) (hb hby at_14) (by decide) ?_
    show St p e below Tc4 (mkF m 16 Ls328 [(.int (7 : Int32)), (.int i2)]) t
    refine XS.iand Xc4.here hx rfl (hb hby at_16) rfl ?_
    show St p e below Tc4 (mkF m 17 Ls328 [(.int (i2 &&& (7 : Int32)))]) t
    refine XT.iconstV Xc4.here hx rfl (2 : Int32) (hb hby at_17) (by decide) ?_
    show St p e below Tc4 (mkF m 18 Ls328 [(.int (2 : Int32)), (.int (i2 &&& (7 : Int32)))]) t
    refine XS.isub Xc4.here hx rfl (hb hby at_18) rfl ?_
    show St p e below Tc4 (mkF m 19 Ls328 [(.int ((i2 &&& (7 : Int32)) - (2 : Int32)))]) t
    refine XS.istore Xc4.here hx rfl (hb hby at_19) rfl (l' := Ls329) rfl ?_
    exact k)
  obtain ⟨Tj331, Lj331, Xj331, ej331, Nj331, pj331⟩ : ∃  (Tj331 : State) (Lj331 : List Loc), Stand p l e room_1 s m #[(.int i0), (.int i1), (.int i2)] below meth c Tj331 Lj331 0 0 ∧ Tj331.heap = h0 ∧ Fr n0 Lj331 ∧ ∀ t, St p e below Tj331 (mkF m 40 #[.val (.int i0), .val (.int i1), .val (.int i2), .val (.int ((i0 &&& (2147483647 : Int32)) % (5 : Int32))), .val (.ref a_REGEX), .val (.int ((i2 &&& (7 : Int32)) - (2 : Int32))), .unset, .unset] [(.int (1 : Int32))]) t → S0 t := by
   have p332 : ∀ t, St p e below Tc4 (mkF m 24 Ls329 [(.int i1), (.ref a_REGEX)]) t → S0 t := fun t k => p330 t (by
     show St p e below Tc4 (mkF m 21 Ls329 []) t
     refine XS.aload Xc4.here hx rfl (hb hby at_21) rfl rfl ?_
     show St p e below Tc4 (mkF m 23 Ls329 [(.ref a_REGEX)]) t
     refine XS.iloadN Xc4.here hx rfl (hb hby at_23) rfl ?_
     exact k)
   obtain ⟨cqc333, kqc333, qc333a, qc333b, qc333c⟩ := isOf hZ ec4 (Ea_REGEX.ext O0.2)
   obtain ⟨_, _, ⟨Tc333, Lc333, kc333, nc333⟩, -, Xc333, ⟨Lcc333, hQc333, lc333, yc333, zc333⟩, stc333⟩ := Xc4.virtualBack hx (y := M1) (z := M1) hown (mvT hZ (ww hw 8 rfl)) (mvT hZ (ww hw 9 rfl)) (notFace_of_selects (args := #[]) (mvT hZ (ww hw 11 rfl))) (mvT hZ (ww hw 11 rfl)) (mvT hZ (ww hw 10 rfl)) (by decide) (backOf (W := 0) (rm2_9 l Z a0 hw [] a_IS_IRI a_IS_BLANK a_REGEX a_STR a_IS_LITERAL i1 h0 n0 O0 HE' ) hZ (ww hw 12 rfl) (ww hw 6 rfl) (by decide) (by decide)) qc333a qc333c (g := (mkF m 24 Ls329 [(.int i1), (.ref a_REGEX)])) rfl (by rw [hml]; rfl) (Steps.refl _) (argsL := [(.int i1)]) (rest := []) (lenOf pd1 rfl) rfl (by show 2 * 0 + _ ≤ _; exact Nat.le_of_eq rfl) (hb hby at_24) (fun _ _ => ⟨rfl, ec4, (by decide : 0 + 0 ≤ _), (by decide : 0 + 0 ≤ _)⟩)
   dsimp only [Pt.U, Pt.locs, Pt.cells, Pt.slots] at Xc333 lc333 yc333 zc333 stc333 hQc333
   subst lc333 yc333 zc333
   obtain ⟨Nqc333, ec333, hAc333⟩ := hQc333
   have Nc333 := Fr.app Nc4 Nqc333
   rcases hAc333 with ⟨rfl, g334⟩ | ⟨rfl, g335, g336⟩ | ⟨rfl, g337, g338⟩
   ·
    have p339 : ∀ t, St p e below Tc333 (mkF m 27 Ls329 [(.int (0 : Int32))]) t → S0 t := fun t k => p332 t (stc333.trans k)
    have p340 : ∀ t, St p e below Tc333 (mkF m 29 Ls329 [(.int i1), (.int ((i0 &&& (2147483647 : Int32)) % (5 : Int32))), (.int (0 : Int32))]) t → S0 t := fun t k => p339 t (by
      show St p e below Tc333 (mkF m 27 Ls329 [(.int (0 : Int32))]) t
      refine XS.iloadN Xc333.here hx rfl (hb hby at_27) rfl ?_
      show St p e below Tc333 (mkF m 28 Ls329 [(.int ((i0 &&& (2147483647 : Int32)) % (5 : Int32))), (.int (0 : Int32))]) t
      refine XS.iloadN Xc333.here hx rfl (hb hby at_28) rfl ?_
      exact k)
    obtain ⟨_, _, ⟨Tc341, Lc341, kc341, nc341⟩, -, Xc341, ⟨Lcc341, hQc341, lc341, yc341, zc341⟩, stc341⟩ := Jvm.LawKit.callS Xc333 hx (y := M2) hown (mvT hZ (ww hw 17 rfl)) (mvT hZ (ww hw 18 rfl)) (mvT hZ (ww hw 3 rfl)) (mvT hZ (ww hw 19 rfl)) (by decide) (backOf (W := 1) (rm3_10 l Z a0 hw [] a_IS_IRI a_IS_BLANK a_REGEX a_STR a_IS_LITERAL ((i0 &&& (2147483647 : Int32)) % (5 : Int32)) i1 h0 n0 O0 HE' ) hZ (ww hw 19 rfl) (ww hw 3 rfl) (by decide) (by decide)) (g := (mkF m 29 Ls329 [(.int i1), (.int ((i0 &&& (2147483647 : Int32)) % (5 : Int32))), (.int (0 : Int32))])) rfl (by rw [hml]; rfl) (argsL := [(.int ((i0 &&& (2147483647 : Int32)) % (5 : Int32))), (.int i1)]) (rest := [(.int (0 : Int32))]) (lenOf pd2 rfl) rfl (by show 2 * 0 + _ ≤ _; exact Nat.le_of_eq rfl) (hb hby at_29) (fun _ _ => ⟨rfl, ec333, (by decide : 0 + 0 ≤ _), (by decide : 0 + 0 ≤ _)⟩)
    dsimp only [Pt.U, Pt.locs, Pt.cells, Pt.slots] at Xc341 lc341 yc341 zc341 stc341 hQc341
    subst lc341 yc341 zc341
    obtain ⟨Nqc341, ec341, hAc341⟩ := hQc341
    have Nc341 := Fr.app Nc333 Nqc341
    rcases hAc341 with ⟨rfl, g342, g343⟩ | ⟨rfl, g344, g345, g346⟩ | ⟨rfl, g347, g348, g349⟩ | ⟨rfl, g350, g351⟩ | ⟨rfl, g352, g353⟩
    ·
     exfalso
     have q1_ := neI g15
     have q2_ := neI g16
     have q3_ := neI g17
     have q4_ := neI g18
     have q5_ := ltI g334
     have q6_ := eqI g342
     have q7_ := eqI g343
     have l8_ := rng32 i0
     have l9_ := lI2147483647
     have l10_ : (i0 &&& (2147483647 : Int32)).toInt = i0.toInt % 2147483648 := c_mask i0 (2147483647 : Int32) 31 (by decide) (by decide)
     have l11_ := lI5
     have l12_ := c_irem (i0 &&& (2147483647 : Int32)) (5 : Int32) 5 (by decide)
     have l13_ := lI0
     have l14_ := lI1
     have l15_ := lI2
     have l16_ := lI3
     have l17_ := rng32 i1
     have l18_ := lI4
     omega
    ·
     exfalso
     have q1_ := neI g15
     have q2_ := neI g16
     have q3_ := neI g17
     have q4_ := neI g18
     have q5_ := ltI g334
     have q6_ := eqI g344
     have q7_ := neI g345
     have q8_ := eqI g346
     have l9_ := rng32 i0
     have l10_ := lI2147483647
     have l11_ : (i0 &&& (2147483647 : Int32)).toInt = i0.toInt % 2147483648 := c_mask i0 (2147483647 : Int32) 31 (by decide) (by decide)
     have l12_ := lI5
     have l13_ := c_irem (i0 &&& (2147483647 : Int32)) (5 : Int32) 5 (by decide)
     have l14_ := lI0
     have l15_ := lI1
     have l16_ := lI2
     have l17_ := lI3
     have l18_ := rng32 i1
     have l19_ := lI4
     omega
    ·
     have p354 : ∀ t, St p e below Tc341 (mkF m 32 Ls329 [(.int (0 : Int32)), (.int (0 : Int32))]) t → S0 t := fun t k => p340 t (stc341 t k)
     have p355 : ∀ t, St p e below Tc341 (mkF m 40 Ls329 [(.int (1 : Int32))]) t → S0 t := fun t k => p354 t (by
       show St p e below Tc341 (mkF m 32 Ls329 [(.int (0 : Int32)), (.int (0 : Int32))]) t
       refine XS.icmpNo Xc341.here hx rfl (hb hby at_32) rfl (teq (by decide : (0 : Int32) = (0 : Int32))).2 ?_
       show St p e below Tc341 (mkF m 35 Ls329 []) t
       refine XT.iconstV Xc341.here hx rfl (1 : Int32) (hb hby at_35) (by decide) ?_
       show St p e below Tc341 (mkF m 36 Ls329 [(.int (1 : Int32))]) t
       refine XS.goto Xc341.here hx rfl (pc0 := 36) (pc' := 40) rfl (hb hby at_36) (by decide) (by decide) ?_
       exact k)
     exact ⟨_, _, Xc341, ec341, Nc341, p355⟩
    ·
     exfalso
     have q1_ := neI g15
     have q2_ := neI g16
     have q3_ := neI g17
     have q4_ := neI g18
     have q5_ := ltI g334
     have q6_ := neI g350
     have q7_ := eqI g351
     have l8_ := rng32 i0
     have l9_ := lI2147483647
     have l10_ : (i0 &&& (2147483647 : Int32)).toInt = i0.toInt % 2147483648 := c_mask i0 (2147483647 : Int32) 31 (by decide) (by decide)
     have l11_ := lI5
     have l12_ := c_irem (i0 &&& (2147483647 : Int32)) (5 : Int32) 5 (by decide)
     have l13_ := lI0
     have l14_ := lI1
     have l15_ := lI2
     have l16_ := lI3
     have l17_ := rng32 i1
     have l18_ := lI4
     omega
    ·
     exfalso
     have q1_ := neI g15
     have q2_ := neI g16
     have q3_ := neI g17
     have q4_ := neI g18
     have q5_ := ltI g334
     have q6_ := neI g352
     have q7_ := neI g353
     have l8_ := rng32 i0
     have l9_ := lI2147483647
     have l10_ : (i0 &&& (2147483647 : Int32)).toInt = i0.toInt % 2147483648 := c_mask i0 (2147483647 : Int32) 31 (by decide) (by decide)
     have l11_ := lI5
     have l12_ := c_irem (i0 &&& (2147483647 : Int32)) (5 : Int32) 5 (by decide)
     have l13_ := lI0
     have l14_ := lI1
     have l15_ := lI2
     have l16_ := lI3
     have l17_ := rng32 i1
     have l18_ := lI4
     omega
   ·
    have p356 : ∀ t, St p e below Tc333 (mkF m 27 Ls329 [(.int (0 : Int32))]) t → S0 t := fun t k => p332 t (stc333.trans k)
    have p357 : ∀ t, St p e below Tc333 (mkF m 29 Ls329 [(.int i1), (.int ((i0 &&& (2147483647 : Int32)) % (5 : Int32))), (.int (0 : Int32))]) t → S0 t := fun t k => p356 t (by
      show St p e below Tc333 (mkF m 27 Ls329 [(.int (0 : Int32))]) t
      refine XS.iloadN Xc333.here hx rfl (hb hby at_27) rfl ?_
      show St p e below Tc333 (mkF m 28 Ls329 [(.int ((i0 &&& (2147483647 : Int32)) % (5 : Int32))), (.int (0 : Int32))]) t
      refine XS.iloadN Xc333.here hx rfl (hb hby at_28) rfl ?_
      exact k)
    obtain ⟨_, _, ⟨Tc358, Lc358, kc358, nc358⟩, -, Xc358, ⟨Lcc358, hQc358, lc358, yc358, zc358⟩, stc358⟩ := Jvm.LawKit.callS Xc333 hx (y := M2) hown (mvT hZ (ww hw 17 rfl)) (mvT hZ (ww hw 18 rfl)) (mvT hZ (ww hw 3 rfl)) (mvT hZ (ww hw 19 rfl)) (by decide) (backOf (W := 1) (rm3_10 l Z a0 hw [] a_IS_IRI a_IS_BLANK a_REGEX a_STR a_IS_LITERAL ((i0 &&& (2147483647 : Int32)) % (5 : Int32)) i1 h0 n0 O0 HE' ) hZ (ww hw 19 rfl) (ww hw 3 rfl) (by decide) (by decide)) (g := (mkF m 29 Ls329 [(.int i1), (.int ((i0 &&& (2147483647 : Int32)) % (5 : Int32))), (.int (0 : Int32))])) rfl (by rw [hml]; rfl) (argsL := [(.int ((i0 &&& (2147483647 : Int32)) % (5 : Int32))), (.int i1)]) (rest := [(.int (0 : Int32))]) (lenOf pd2 rfl) rfl (by show 2 * 0 + _ ≤ _; exact Nat.le_of_eq rfl) (hb hby at_29) (fun _ _ => ⟨rfl, ec333, (by decide : 0 + 0 ≤ _), (by decide : 0 + 0 ≤ _)⟩)
    dsimp only [Pt.U, Pt.locs, Pt.cells, Pt.slots] at Xc358 lc358 yc358 zc358 stc358 hQc358
    subst lc358 yc358 zc358
    obtain ⟨Nqc358, ec358, hAc358⟩ := hQc358
    have Nc358 := Fr.app Nc333 Nqc358
    rcases hAc358 with ⟨rfl, g359, g360⟩ | ⟨rfl, g361, g362, g363⟩ | ⟨rfl, g364, g365, g366⟩ | ⟨rfl, g367, g368⟩ | ⟨rfl, g369, g370⟩
    ·
     exfalso
     have q1_ := neI g15
     have q2_ := neI g16
     have q3_ := neI g17
     have q4_ := neI g18
     have q5_ := nltI g335
     have q6_ := ltI g336
     have q7_ := eqI g359
     have q8_ := eqI g360
     have l9_ := rng32 i0
     have l10_ := lI2147483647
     have l11_ : (i0 &&& (2147483647 : Int32)).toInt = i0.toInt % 2147483648 := c_mask i0 (2147483647 : Int32) 31 (by decide) (by decide)
     have l12_ := lI5
     have l13_ := c_irem (i0 &&& (2147483647 : Int32)) (5 : Int32) 5 (by decide)
     have l14_ := lI0
     have l15_ := lI1
     have l16_ := lI2
     have l17_ := lI3
     have l18_ := rng32 i1
     have l19_ := lI4
     omega
    ·
     exfalso
     have q1_ := neI g15
     have q2_ := neI g16
     have q3_ := neI g17
     have q4_ := neI g18
     have q5_ := nltI g335
     have q6_ := ltI g336
     have q7_ := eqI g361
     have q8_ := neI g362
     have q9_ := eqI g363
     have l10_ := rng32 i0
     have l11_ := lI2147483647
     have l12_ : (i0 &&& (2147483647 : Int32)).toInt = i0.toInt % 2147483648 := c_mask i0 (2147483647 : Int32) 31 (by decide) (by decide)
     have l13_ := lI5
     have l14_ := c_irem (i0 &&& (2147483647 : Int32)) (5 : Int32) 5 (by decide)
     have l15_ := lI0
     have l16_ := lI1
     have l17_ := lI2
     have l18_ := lI3
     have l19_ := rng32 i1
     have l20_ := lI4
     omega
    ·
     have p371 : ∀ t, St p e below Tc358 (mkF m 32 Ls329 [(.int (0 : Int32)), (.int (0 : Int32))]) t → S0 t := fun t k => p357 t (stc358 t k)
     have p372 : ∀ t, St p e below Tc358 (mkF m 40 Ls329 [(.int (1 : Int32))]) t → S0 t := fun t k => p371 t (by
       show St p e below Tc358 (mkF m 32 Ls329 [(.int (0 : Int32)), (.int (0 : Int32))]) t
       refine XS.icmpNo Xc358.here hx rfl (hb hby at_32) rfl (teq (by decide : (0 : Int32) = (0 : Int32))).2 ?_
       show St p e below Tc358 (mkF m 35 Ls329 []) t
       refine XT.iconstV Xc358.here hx rfl (1 : Int32) (hb hby at_35) (by decide) ?_
       show St p e below Tc358 (mkF m 36 Ls329 [(.int (1 : Int32))]) t
       refine XS.goto Xc358.here hx rfl (pc0 := 36) (pc' := 40) rfl (hb hby at_36) (by decide) (by decide) ?_
       exact k)
     exact ⟨_, _, Xc358, ec358, Nc358, p372⟩
    ·
     exfalso
     have q1_ := neI g15
     have q2_ := neI g16
     have q3_ := neI g17
     have q4_ := neI g18
     have q5_ := nltI g335
     have q6_ := ltI g336
     have q7_ := neI g367
     have q8_ := eqI g368
     have l9_ := rng32 i0
     have l10_ := lI2147483647
     have l11_ : (i0 &&& (2147483647 : Int32)).toInt = i0.toInt % 2147483648 := c_mask i0 (2147483647 : Int32) 31 (by decide) (by decide)
     have l12_ := lI5
     have l13_ := c_irem (i0 &&& (2147483647 : Int32)) (5 : Int32) 5 (by decide)
     have l14_ := lI0
     have l15_ := lI1
     have l16_ := lI2
     have l17_ := lI3
     have l18_ := rng32 i1
     have l19_ := lI4
     omega
    ·
     exfalso
     have q1_ := neI g15
     have q2_ := neI g16
     have q3_ := neI g17
     have q4_ := neI g18
     have q5_ := nltI g335
     have q6_ := ltI g336
     have q7_ := neI g369
     have q8_ := neI g370
     have l9_ := rng32 i0
     have l10_ := lI2147483647
     have l11_ : (i0 &&& (2147483647 : Int32)).toInt = i0.toInt % 2147483648 := c_mask i0 (2147483647 : Int32) 31 (by decide) (by decide)
     have l12_ := lI5
     have l13_ := c_irem (i0 &&& (2147483647 : Int32)) (5 : Int32) 5 (by decide)
     have l14_ := lI0
     have l15_ := lI1
     have l16_ := lI2
     have l17_ := lI3
     have l18_ := rng32 i1
     have l19_ := lI4
     omega
   ·
    have p373 : ∀ t, St p e below Tc333 (mkF m 27 Ls329 [(.int (1 : Int32))]) t → S0 t := fun t k => p332 t (stc333.trans k)
    have p374 : ∀ t, St p e below Tc333 (mkF m 29 Ls329 [(.int i1), (.int ((i0 &&& (2147483647 : Int32)) % (5 : Int32))), (.int (1 : Int32))]) t → S0 t := fun t k => p373 t (by
      show St p e below Tc333 (mkF m 27 Ls329 [(.int (1 : Int32))]) t
      refine XS.iloadN Xc333.here hx rfl (hb hby at_27) rfl ?_
      show St p e below Tc333 (mkF m 28 Ls329 [(.int ((i0 &&& (2147483647 : Int32)) % (5 : Int32))), (.int (1 : Int32))]) t
      refine XS.iloadN Xc333.here hx rfl (hb hby at_28) rfl ?_
      exact k)
    obtain ⟨_, _, ⟨Tc375, Lc375, kc375, nc375⟩, -, Xc375, ⟨Lcc375, hQc375, lc375, yc375, zc375⟩, stc375⟩ := Jvm.LawKit.callS Xc333 hx (y := M2) hown (mvT hZ (ww hw 17 rfl)) (mvT hZ (ww hw 18 rfl)) (mvT hZ (ww hw 3 rfl)) (mvT hZ (ww hw 19 rfl)) (by decide) (backOf (W := 1) (rm3_10 l Z a0 hw [] a_IS_IRI a_IS_BLANK a_REGEX a_STR a_IS_LITERAL ((i0 &&& (2147483647 : Int32)) % (5 : Int32)) i1 h0 n0 O0 HE' ) hZ (ww hw 19 rfl) (ww hw 3 rfl) (by decide) (by decide)) (g := (mkF m 29 Ls329 [(.int i1), (.int ((i0 &&& (2147483647 : Int32)) % (5 : Int32))), (.int (1 : Int32))])) rfl (by rw [hml]; rfl) (argsL := [(.int ((i0 &&& (2147483647 : Int32)) % (5 : Int32))), (.int i1)]) (rest := [(.int (1 : Int32))]) (lenOf pd2 rfl) rfl (by show 2 * 0 + _ ≤ _; exact Nat.le_of_eq rfl) (hb hby at_29) (fun _ _ => ⟨rfl, ec333, (by decide : 0 + 0 ≤ _), (by decide : 0 + 0 ≤ _)⟩)
    dsimp only [Pt.U, Pt.locs, Pt.cells, Pt.slots] at Xc375 lc375 yc375 zc375 stc375 hQc375
    subst lc375 yc375 zc375
    obtain ⟨Nqc375, ec375, hAc375⟩ := hQc375
    have Nc375 := Fr.app Nc333 Nqc375
    rcases hAc375 with ⟨rfl, g376, g377⟩ | ⟨rfl, g378, g379, g380⟩ | ⟨rfl, g381, g382, g383⟩ | ⟨rfl, g384, g385⟩ | ⟨rfl, g386, g387⟩
    ·
     have p388 : ∀ t, St p e below Tc375 (mkF m 32 Ls329 [(.int (1 : Int32)), (.int (1 : Int32))]) t → S0 t := fun t k => p374 t (stc375 t k)
     have p389 : ∀ t, St p e below Tc375 (mkF m 40 Ls329 [(.int (1 : Int32))]) t → S0 t := fun t k => p388 t (by
       show St p e below Tc375 (mkF m 32 Ls329 [(.int (1 : Int32)), (.int (1 : Int32))]) t
       refine XS.icmpNo Xc375.here hx rfl (hb hby at_32) rfl (teq (by decide : (1 : Int32) = (1 : Int32))).2 ?_
       show St p e below Tc375 (mkF m 35 Ls329 []) t
       refine XT.iconstV Xc375.here hx rfl (1 : Int32) (hb hby at_35) (by decide) ?_
       show St p e below Tc375 (mkF m 36 Ls329 [(.int (1 : Int32))]) t
       refine XS.goto Xc375.here hx rfl (pc0 := 36) (pc' := 40) rfl (hb hby at_36) (by decide) (by decide) ?_
       exact k)
     exact ⟨_, _, Xc375, ec375, Nc375, p389⟩
    ·
     have p390 : ∀ t, St p e below Tc375 (mkF m 32 Ls329 [(.int (1 : Int32)), (.int (1 : Int32))]) t → S0 t := fun t k => p374 t (stc375 t k)
     have p391 : ∀ t, St p e below Tc375 (mkF m 40 Ls329 [(.int (1 : Int32))]) t → S0 t := fun t k => p390 t (by
       show St p e below Tc375 (mkF m 32 Ls329 [(.int (1 : Int32)), (.int (1 : Int32))]) t
       refine XS.icmpNo Xc375.here hx rfl (hb hby at_32) rfl (teq (by decide : (1 : Int32) = (1 : Int32))).2 ?_
       show St p e below Tc375 (mkF m 35 Ls329 []) t
       refine XT.iconstV Xc375.here hx rfl (1 : Int32) (hb hby at_35) (by decide) ?_
       show St p e below Tc375 (mkF m 36 Ls329 [(.int (1 : Int32))]) t
       refine XS.goto Xc375.here hx rfl (pc0 := 36) (pc' := 40) rfl (hb hby at_36) (by decide) (by decide) ?_
       exact k)
     exact ⟨_, _, Xc375, ec375, Nc375, p391⟩
    ·
     exfalso
     have q1_ := neI g15
     have q2_ := neI g16
     have q3_ := neI g17
     have q4_ := neI g18
     have q5_ := nltI g337
     have q6_ := nltI g338
     have q7_ := eqI g381
     have q8_ := neI g382
     have q9_ := neI g383
     have l10_ := rng32 i0
     have l11_ := lI2147483647
     have l12_ : (i0 &&& (2147483647 : Int32)).toInt = i0.toInt % 2147483648 := c_mask i0 (2147483647 : Int32) 31 (by decide) (by decide)
     have l13_ := lI5
     have l14_ := c_irem (i0 &&& (2147483647 : Int32)) (5 : Int32) 5 (by decide)
     have l15_ := lI0
     have l16_ := lI1
     have l17_ := lI2
     have l18_ := lI3
     have l19_ := rng32 i1
     have l20_ := lI4
     omega
    ·
     exfalso
     have q1_ := neI g15
     have q2_ := neI g16
     have q3_ := neI g17
     have q4_ := neI g18
     have q5_ := nltI g337
     have q6_ := nltI g338
     have q7_ := neI g384
     have q8_ := eqI g385
     have l9_ := rng32 i0
     have l10_ := lI2147483647
     have l11_ : (i0 &&& (2147483647 : Int32)).toInt = i0.toInt % 2147483648 := c_mask i0 (2147483647 : Int32) 31 (by decide) (by decide)
     have l12_ := lI5
     have l13_ := c_irem (i0 &&& (2147483647 : Int32)) (5 : Int32) 5 (by decide)
     have l14_ := lI0
     have l15_ := lI1
     have l16_ := lI2
     have l17_ := lI3
     have l18_ := rng32 i1
     have l19_ := lI4
     omega
    ·
     exfalso
     have q1_ := neI g15
     have q2_ := neI g16
     have q3_ := neI g17
     have q4_ := neI g18
     have q5_ := nltI g337
     have q6_ := nltI g338
     have q7_ := neI g386
     have q8_ := neI g387
     have l9_ := rng32 i0
     have l10_ := lI2147483647
     have l11_ : (i0 &&& (2147483647 : Int32)).toInt = i0.toInt % 2147483648 := c_mask i0 (2147483647 : Int32) 31 (by decide) (by decide)
     have l12_ := lI5
     have l13_ := c_irem (i0 &&& (2147483647 : Int32)) (5 : Int32) 5 (by decide)
     have l14_ := lI0
     have l15_ := lI1
     have l16_ := lI2
     have l17_ := lI3
     have l18_ := rng32 i1
     have l19_ := lI4
     omega
  let Ls392 : Array Slot := #[.val (.int i0), .val (.int i1), .val (.int i2), .val (.int ((i0 &&& (2147483647 : Int32)) % (5 : Int32))), .val (.ref a_REGEX), .val (.int ((i2 &&& (7 : Int32)) - (2 : Int32))), .unset, .unset]
  let Ls393 : Array Slot := #[.val (.int i0), .val (.int i1), .val (.int i2), .val (.int ((i0 &&& (2147483647 : Int32)) % (5 : Int32))), .val (.ref a_REGEX), .val (.int ((i2 &&& (7 : Int32)) - (2 : Int32))), .val (.int (1 : Int32)), .unset]
  have p394 : ∀ t, St p e below Tj331 (mkF m 42 Ls393 []) t → S0 t := fun t k => pj331 t (by
    show St p e below Tj331 (mkF m 40 Ls392 [(.int (1 : Int32))]) t
    refine XS.istore Xj331.here hx rfl (hb hby at_40) rfl (l' := Ls393) rfl ?_
    exact k)
  obtain ⟨Tj395, Lj395, Xj395, ej395, Nj395, pj395⟩ : ∃  (Tj395 : State) (Lj395 : List Loc), Stand p l e room_1 s m #[(.int i0), (.int i1), (.int i2)] below meth c Tj395 Lj395 0 0 ∧ Tj395.heap = h0 ∧ Fr n0 Lj395 ∧ ∀ t, St p e below Tj395 (mkF m 63 #[.val (.int i0), .val (.int i1), .val (.int i2), .val (.int ((i0 &&& (2147483647 : Int32)) % (5 : Int32))), .val (.ref a_REGEX), .val (.int ((i2 &&& (7 : Int32)) - (2 : Int32))), .val (.int (1 : Int32)), .unset] [(.int (1 : Int32))]) t → S0 t := by
   have p396 : ∀ t, St p e below Tj331 (mkF m 46 Ls393 [(.int ((i2 &&& (7 : Int32)) - (2 : Int32))), (.ref a_REGEX)]) t → S0 t := fun t k => p394 t (by
     show St p e below Tj331 (mkF m 42 Ls393 []) t
     refine XS.aload Xj331.here hx rfl (hb hby at_42) rfl rfl ?_
     show St p e below Tj331 (mkF m 44 Ls393 [(.ref a_REGEX)]) t
     refine XS.iload Xj331.here hx rfl (hb hby at_44) rfl ?_
     exact k)
   obtain ⟨cqc397, kqc397, qc397a, qc397b, qc397c⟩ := isOf hZ ej331 (Ea_REGEX.ext O0.2)
   obtain ⟨_, _, ⟨Tc397, Lc397, kc397, nc397⟩, -, Xc397, ⟨Lcc397, hQc397, lc397, yc397, zc397⟩, stc397⟩ := Xj331.virtualBack hx (y := M1) (z := M1) hown (mvT hZ (ww hw 8 rfl)) (mvT hZ (ww hw 9 rfl)) (notFace_of_selects (args := #[]) (mvT hZ (ww hw 11 rfl))) (mvT hZ (ww hw 11 rfl)) (mvT hZ (ww hw 10 rfl)) (by decide) (backOf (W := 0) (rm2_9 l Z a0 hw [] a_IS_IRI a_IS_BLANK a_REGEX a_STR a_IS_LITERAL ((i2 &&& (7 : Int32)) - (2 : Int32)) h0 n0 O0 HE' ) hZ (ww hw 12 rfl) (ww hw 6 rfl) (by decide) (by decide)) qc397a qc397c (g := (mkF m 46 Ls393 [(.int ((i2 &&& (7 : Int32)) - (2 : Int32))), (.ref a_REGEX)])) rfl (by rw [hml]; rfl) (Steps.refl _) (argsL := [(.int ((i2 &&& (7 : Int32)) - (2 : Int32)))]) (rest := []) (lenOf pd1 rfl) rfl (by show 2 * 0 + _ ≤ _; exact Nat.le_of_eq rfl) (hb hby at_46) (fun _ _ => ⟨rfl, ej331, (by decide : 0 + 0 ≤ _), (by decide : 0 + 0 ≤ _)⟩)
   dsimp only [Pt.U, Pt.locs, Pt.cells, Pt.slots] at Xc397 lc397 yc397 zc397 stc397 hQc397
   subst lc397 yc397 zc397
   obtain ⟨Nqc397, ec397, hAc397⟩ := hQc397
   have Nc397 := Fr.app Nj331 Nqc397
   rcases hAc397 with ⟨rfl, g398⟩ | ⟨rfl, g399, g400⟩ | ⟨rfl, g401, g402⟩
   ·
    have p403 : ∀ t, St p e below Tc397 (mkF m 49 Ls393 [(.int (0 : Int32))]) t → S0 t := fun t k => p396 t (stc397.trans k)
    have p404 : ∀ t, St p e below Tc397 (mkF m 52 Ls393 [(.int ((i2 &&& (7 : Int32)) - (2 : Int32))), (.int ((i0 &&& (2147483647 : Int32)) % (5 : Int32))), (.int (0 : Int32))]) t → S0 t := fun t k => p403 t (by
      show St p e below Tc397 (mkF m 49 Ls393 [(.int (0 : Int32))]) t
      refine XS.iloadN Xc397.here hx rfl (hb hby at_49) rfl ?_
      show St p e below Tc397 (mkF m 50 Ls393 [(.int ((i0 &&& (2147483647 : Int32)) % (5 : Int32))), (.int (0 : Int32))]) t
      refine XS.iload Xc397.here hx rfl (hb hby at_50) rfl ?_
      exact k)
    obtain ⟨_, _, ⟨Tc405, Lc405, kc405, nc405⟩, -, Xc405, ⟨Lcc405, hQc405, lc405, yc405, zc405⟩, stc405⟩ := Jvm.LawKit.callS Xc397 hx (y := M2) hown (mvT hZ (ww hw 17 rfl)) (mvT hZ (ww hw 18 rfl)) (mvT hZ (ww hw 3 rfl)) (mvT hZ (ww hw 19 rfl)) (by decide) (backOf (W := 1) (rm3_10 l Z a0 hw [] a_IS_IRI a_IS_BLANK a_REGEX a_STR a_IS_LITERAL ((i0 &&& (2147483647 : Int32)) % (5 : Int32)) ((i2 &&& (7 : Int32)) - (2 : Int32)) h0 n0 O0 HE' ) hZ (ww hw 19 rfl) (ww hw 3 rfl) (by decide) (by decide)) (g := (mkF m 52 Ls393 [(.int ((i2 &&& (7 : Int32)) - (2 : Int32))), (.int ((i0 &&& (2147483647 : Int32)) % (5 : Int32))), (.int (0 : Int32))])) rfl (by rw [hml]; rfl) (argsL := [(.int ((i0 &&& (2147483647 : Int32)) % (5 : Int32))), (.int ((i2 &&& (7 : Int32)) - (2 : Int32)))]) (rest := [(.int (0 : Int32))]) (lenOf pd2 rfl) rfl (by show 2 * 0 + _ ≤ _; exact Nat.le_of_eq rfl) (hb hby at_52) (fun _ _ => ⟨rfl, ec397, (by decide : 0 + 0 ≤ _), (by decide : 0 + 0 ≤ _)⟩)
    dsimp only [Pt.U, Pt.locs, Pt.cells, Pt.slots] at Xc405 lc405 yc405 zc405 stc405 hQc405
    subst lc405 yc405 zc405
    obtain ⟨Nqc405, ec405, hAc405⟩ := hQc405
    have Nc405 := Fr.app Nc397 Nqc405
    rcases hAc405 with ⟨rfl, g406, g407⟩ | ⟨rfl, g408, g409, g410⟩ | ⟨rfl, g411, g412, g413⟩ | ⟨rfl, g414, g415⟩ | ⟨rfl, g416, g417⟩
    ·
     exfalso
     have q1_ := neI g15
     have q2_ := neI g16
     have q3_ := neI g17
     have q4_ := neI g18
     have q5_ := ltI g398
     have q6_ := eqI g406
     have q7_ := eqI g407
     have l8_ := rng32 i0
     have l9_ := lI2147483647
     have l10_ : (i0 &&& (2147483647 : Int32)).toInt = i0.toInt % 2147483648 := c_mask i0 (2147483647 : Int32) 31 (by decide) (by decide)
     have l11_ := lI5
     have l12_ := c_irem (i0 &&& (2147483647 : Int32)) (5 : Int32) 5 (by decide)
     have l13_ := lI0
     have l14_ := lI1
     have l15_ := lI2
     have l16_ := lI3
     have l17_ := rng32 i2
     have l18_ := lI7
     have l19_ : (i2 &&& (7 : Int32)).toInt = i2.toInt % 8 := c_mask i2 (7 : Int32) 3 (by decide) (by decide)
     have l20_ := c_isub (i2 &&& (7 : Int32)) (2 : Int32)
     have l20b_ := rng32 ((i2 &&& (7 : Int32)) - (2 : Int32))
     have l21_ := lI4
     omega
    ·
     exfalso
     have q1_ := neI g15
     have q2_ := neI g16
     have q3_ := neI g17
     have q4_ := neI g18
     have q5_ := ltI g398
     have q6_ := eqI g408
     have q7_ := neI g409
     have q8_ := eqI g410
     have l9_ := rng32 i0
     have l10_ := lI2147483647
     have l11_ : (i0 &&& (2147483647 : Int32)).toInt = i0.toInt % 2147483648 := c_mask i0 (2147483647 : Int32) 31 (by decide) (by decide)
     have l12_ := lI5
     have l13_ := c_irem (i0 &&& (2147483647 : Int32)) (5 : Int32) 5 (by decide)
     have l14_ := lI0
     have l15_ := lI1
     have l16_ := lI2
     have l17_ := lI3
     have l18_ := rng32 i2
     have l19_ := lI7
     have l20_ : (i2 &&& (7 : Int32)).toInt = i2.toInt % 8 := c_mask i2 (7 : Int32) 3 (by decide) (by decide)
     have l21_ := c_isub (i2 &&& (7 : Int32)) (2 : Int32)
     have l21b_ := rng32 ((i2 &&& (7 : Int32)) - (2 : Int32))
     have l22_ := lI4
     omega
    ·
     have p418 : ∀ t, St p e below Tc405 (mkF m 55 Ls393 [(.int (0 : Int32)), (.int (0 : Int32))]) t → S0 t := fun t k => p404 t (stc405 t k)
     have p419 : ∀ t, St p e below Tc405 (mkF m 63 Ls393 [(.int (1 : Int32))]) t → S0 t := fun t k => p418 t (by
       show St p e below Tc405 (mkF m 55 Ls393 [(.int (0 : Int32)), (.int (0 : Int32))]) t
       refine XS.icmpNo Xc405.here hx rfl (hb hby at_55) rfl (teq (by decide : (0 : Int32) = (0 : Int32))).2 ?_
       show St p e below Tc405 (mkF m 58 Ls393 []) t
       refine XT.iconstV Xc405.here hx rfl (1 : Int32) (hb hby at_58) (by decide) ?_
       show St p e below Tc405 (mkF m 59 Ls393 [(.int (1 : Int32))]) t
       refine XS.goto Xc405.here hx rfl (pc0 := 59) (pc' := 63) rfl (hb hby at_59) (by decide) (by decide) ?_
       exact k)
     exact ⟨_, _, Xc405, ec405, Nc405, p419⟩
    ·
     exfalso
     have q1_ := neI g15
     have q2_ := neI g16
     have q3_ := neI g17
     have q4_ := neI g18
     have q5_ := ltI g398
     have q6_ := neI g414
     have q7_ := eqI g415
     have l8_ := rng32 i0
     have l9_ := lI2147483647
     have l10_ : (i0 &&& (2147483647 : Int32)).toInt = i0.toInt % 2147483648 := c_mask i0 (2147483647 : Int32) 31 (by decide) (by decide)
     have l11_ := lI5
     have l12_ := c_irem (i0 &&& (2147483647 : Int32)) (5 : Int32) 5 (by decide)
     have l13_ := lI0
     have l14_ := lI1
     have l15_ := lI2
     have l16_ := lI3
     have l17_ := rng32 i2
     have l18_ := lI7
     have l19_ : (i2 &&& (7 : Int32)).toInt = i2.toInt % 8 := c_mask i2 (7 : Int32) 3 (by decide) (by decide)
     have l20_ := c_isub (i2 &&& (7 : Int32)) (2 : Int32)
     have l20b_ := rng32 ((i2 &&& (7 : Int32)) - (2 : Int32))
     have l21_ := lI4
     omega
    ·
     exfalso
     have q1_ := neI g15
     have q2_ := neI g16
     have q3_ := neI g17
     have q4_ := neI g18
     have q5_ := ltI g398
     have q6_ := neI g416
     have q7_ := neI g417
     have l8_ := rng32 i0
     have l9_ := lI2147483647
     have l10_ : (i0 &&& (2147483647 : Int32)).toInt = i0.toInt % 2147483648 := c_mask i0 (2147483647 : Int32) 31 (by decide) (by decide)
     have l11_ := lI5
     have l12_ := c_irem (i0 &&& (2147483647 : Int32)) (5 : Int32) 5 (by decide)
     have l13_ := lI0
     have l14_ := lI1
     have l15_ := lI2
     have l16_ := lI3
     have l17_ := rng32 i2
     have l18_ := lI7
     have l19_ : (i2 &&& (7 : Int32)).toInt = i2.toInt % 8 := c_mask i2 (7 : Int32) 3 (by decide) (by decide)
     have l20_ := c_isub (i2 &&& (7 : Int32)) (2 : Int32)
     have l20b_ := rng32 ((i2 &&& (7 : Int32)) - (2 : Int32))
     have l21_ := lI4
     omega
   ·
    have p420 : ∀ t, St p e below Tc397 (mkF m 49 Ls393 [(.int (0 : Int32))]) t → S0 t := fun t k => p396 t (stc397.trans k)
    have p421 : ∀ t, St p e below Tc397 (mkF m 52 Ls393 [(.int ((i2 &&& (7 : Int32)) - (2 : Int32))), (.int ((i0 &&& (2147483647 : Int32)) % (5 : Int32))), (.int (0 : Int32))]) t → S0 t := fun t k => p420 t (by
      show St p e below Tc397 (mkF m 49 Ls393 [(.int (0 : Int32))]) t
      refine XS.iloadN Xc397.here hx rfl (hb hby at_49) rfl ?_
      show St p e below Tc397 (mkF m 50 Ls393 [(.int ((i0 &&& (2147483647 : Int32)) % (5 : Int32))), (.int (0 : Int32))]) t
      refine XS.iload Xc397.here hx rfl (hb hby at_50) rfl ?_
      exact k)
    obtain ⟨_, _, ⟨Tc422, Lc422, kc422, nc422⟩, -, Xc422, ⟨Lcc422, hQc422, lc422, yc422, zc422⟩, stc422⟩ := Jvm.LawKit.callS Xc397 hx (y := M2) hown (mvT hZ (ww hw 17 rfl)) (mvT hZ (ww hw 18 rfl)) (mvT hZ (ww hw 3 rfl)) (mvT hZ (ww hw 19 rfl)) (by decide) (backOf (W := 1) (rm3_10 l Z a0 hw [] a_IS_IRI a_IS_BLANK a_REGEX a_STR a_IS_LITERAL ((i0 &&& (2147483647 : Int32)) % (5 : Int32)) ((i2 &&& (7 : Int32)) - (2 : Int32)) h0 n0 O0 HE' ) hZ (ww hw 19 rfl) (ww hw 3 rfl) (by decide) (by decide)) (g := (mkF m 52 Ls393 [(.int ((i2 &&& (7 : Int32)) - (2 : Int32))), (.int ((i0 &&& (2147483647 : Int32)) % (5 : Int32))), (.int (0 : Int32))])) rfl (by rw [hml]; rfl) (argsL := [(.int ((i0 &&& (2147483647 : Int32)) % (5 : Int32))), (.int ((i2 &&& (7 : Int32)) - (2 : Int32)))]) (rest := [(.int (0 : Int32))]) (lenOf pd2 rfl) rfl (by show 2 * 0 + _ ≤ _; exact Nat.le_of_eq rfl) (hb hby at_52) (fun _ _ => ⟨rfl, ec397, (by decide : 0 + 0 ≤ _), (by decide : 0 + 0 ≤ _)⟩)
    dsimp only [Pt.U, Pt.locs, Pt.cells, Pt.slots] at Xc422 lc422 yc422 zc422 stc422 hQc422
    subst lc422 yc422 zc422
    obtain ⟨Nqc422, ec422, hAc422⟩ := hQc422
    have Nc422 := Fr.app Nc397 Nqc422
    rcases hAc422 with ⟨rfl, g423, g424⟩ | ⟨rfl, g425, g426, g427⟩ | ⟨rfl, g428, g429, g430⟩ | ⟨rfl, g431, g432⟩ | ⟨rfl, g433, g434⟩
    ·
     exfalso
     have q1_ := neI g15
     have q2_ := neI g16
     have q3_ := neI g17
     have q4_ := neI g18
     have q5_ := nltI g399
     have q6_ := ltI g400
     have q7_ := eqI g423
     have q8_ := eqI g424
     have l9_ := rng32 i0
     have l10_ := lI2147483647
     have l11_ : (i0 &&& (2147483647 : Int32)).toInt = i0.toInt % 2147483648 := c_mask i0 (2147483647 : Int32) 31 (by decide) (by decide)
     have l12_ := lI5
     have l13_ := c_irem (i0 &&& (2147483647 : Int32)) (5 : Int32) 5 (by decide)
     have l14_ := lI0
     have l15_ := lI1
     have l16_ := lI2
     have l17_ := lI3
     have l18_ := rng32 i2
     have l19_ := lI7
     have l20_ : (i2 &&& (7 : Int32)).toInt = i2.toInt % 8 := c_mask i2 (7 : Int32) 3 (by decide) (by decide)
     have l21_ := c_isub (i2 &&& (7 : Int32)) (2 : Int32)
     have l21b_ := rng32 ((i2 &&& (7 : Int32)) - (2 : Int32))
     have l22_ := lI4
     omega
    ·
     exfalso
     have q1_ := neI g15
     have q2_ := neI g16
     have q3_ := neI g17
     have q4_ := neI g18
     have q5_ := nltI g399
     have q6_ := ltI g400
     have q7_ := eqI g425
     have q8_ := neI g426
     have q9_ := eqI g427
     have l10_ := rng32 i0
     have l11_ := lI2147483647
     have l12_ : (i0 &&& (2147483647 : Int32)).toInt = i0.toInt % 2147483648 := c_mask i0 (2147483647 : Int32) 31 (by decide) (by decide)
     have l13_ := lI5
     have l14_ := c_irem (i0 &&& (2147483647 : Int32)) (5 : Int32) 5 (by decide)
     have l15_ := lI0
     have l16_ := lI1
     have l17_ := lI2
     have l18_ := lI3
     have l19_ := rng32 i2
     have l20_ := lI7
     have l21_ : (i2 &&& (7 : Int32)).toInt = i2.toInt % 8 := c_mask i2 (7 : Int32) 3 (by decide) (by decide)
     have l22_ := c_isub (i2 &&& (7 : Int32)) (2 : Int32)
     have l22b_ := rng32 ((i2 &&& (7 : Int32)) - (2 : Int32))
     have l23_ := lI4
     omega
    ·
     have p435 : ∀ t, St p e below Tc422 (mkF m 55 Ls393 [(.int (0 : Int32)), (.int (0 : Int32))]) t → S0 t := fun t k => p421 t (stc422 t k)
     have p436 : ∀ t, St p e below Tc422 (mkF m 63 Ls393 [(.int (1 : Int32))]) t → S0 t := fun t k => p435 t (by
       show St p e below Tc422 (mkF m 55 Ls393 [(.int (0 : Int32)), (.int (0 : Int32))]) t
       refine XS.icmpNo Xc422.here hx rfl (hb hby at_55) rfl (teq (by decide : (0 : Int32) = (0 : Int32))).2 ?_
       show St p e below Tc422 (mkF m 58 Ls393 []) t
       refine XT.iconstV Xc422.here hx rfl (1 : Int32) (hb hby at_58) (by decide) ?_
       show St p e below Tc422 (mkF m 59 Ls393 [(.int (1 : Int32))]) t
       refine XS.goto Xc422.here hx rfl (pc0 := 59) (pc' := 63) rfl (hb hby at_59) (by decide) (by decide) ?_
       exact k)
     exact ⟨_, _, Xc422, ec422, Nc422, p436⟩
    ·
     exfalso
     have q1_ := neI g15
     have q2_ := neI g16
     have q3_ := neI g17
     have q4_ := neI g18
     have q5_ := nltI g399
     have q6_ := ltI g400
     have q7_ := neI g431
     have q8_ := eqI g432
     have l9_ := rng32 i0
     have l10_ := lI2147483647
     have l11_ : (i0 &&& (2147483647 : Int32)).toInt = i0.toInt % 2147483648 := c_mask i0 (2147483647 : Int32) 31 (by decide) (by decide)
     have l12_ := lI5
     have l13_ := c_irem (i0 &&& (2147483647 : Int32)) (5 : Int32) 5 (by decide)
     have l14_ := lI0
     have l15_ := lI1
     have l16_ := lI2
     have l17_ := lI3
     have l18_ := rng32 i2
     have l19_ := lI7
     have l20_ : (i2 &&& (7 : Int32)).toInt = i2.toInt % 8 := c_mask i2 (7 : Int32) 3 (by decide) (by decide)
     have l21_ := c_isub (i2 &&& (7 : Int32)) (2 : Int32)
     have l21b_ := rng32 ((i2 &&& (7 : Int32)) - (2 : Int32))
     have l22_ := lI4
     omega
    ·
     exfalso
     have q1_ := neI g15
     have q2_ := neI g16
     have q3_ := neI g17
     have q4_ := neI g18
     have q5_ := nltI g399
     have q6_ := ltI g400
     have q7_ := neI g433
     have q8_ := neI g434
     have l9_ := rng32 i0
     have l10_ := lI2147483647
     have l11_ : (i0 &&& (2147483647 : Int32)).toInt = i0.toInt % 2147483648 := c_mask i0 (2147483647 : Int32) 31 (by decide) (by decide)
     have l12_ := lI5
     have l13_ := c_irem (i0 &&& (2147483647 : Int32)) (5 : Int32) 5 (by decide)
     have l14_ := lI0
     have l15_ := lI1
     have l16_ := lI2
     have l17_ := lI3
     have l18_ := rng32 i2
     have l19_ := lI7
     have l20_ : (i2 &&& (7 : Int32)).toInt = i2.toInt % 8 := c_mask i2 (7 : Int32) 3 (by decide) (by decide)
     have l21_ := c_isub (i2 &&& (7 : Int32)) (2 : Int32)
     have l21b_ := rng32 ((i2 &&& (7 : Int32)) - (2 : Int32))
     have l22_ := lI4
     omega
   ·
    have p437 : ∀ t, St p e below Tc397 (mkF m 49 Ls393 [(.int (1 : Int32))]) t → S0 t := fun t k => p396 t (stc397.trans k)
    have p438 : ∀ t, St p e below Tc397 (mkF m 52 Ls393 [(.int ((i2 &&& (7 : Int32)) - (2 : Int32))), (.int ((i0 &&& (2147483647 : Int32)) % (5 : Int32))), (.int (1 : Int32))]) t → S0 t := fun t k => p437 t (by
      show St p e below Tc397 (mkF m 49 Ls393 [(.int (1 : Int32))]) t
      refine XS.iloadN Xc397.here hx rfl (hb hby at_49) rfl ?_
      show St p e below Tc397 (mkF m 50 Ls393 [(.int ((i0 &&& (2147483647 : Int32)) % (5 : Int32))), (.int (1 : Int32))]) t
      refine XS.iload Xc397.here hx rfl (hb hby at_50) rfl ?_
      exact k)
    obtain ⟨_, _, ⟨Tc439, Lc439, kc439, nc439⟩, -, Xc439, ⟨Lcc439, hQc439, lc439, yc439, zc439⟩, stc439⟩ := Jvm.LawKit.callS Xc397 hx (y := M2) hown (mvT hZ (ww hw 17 rfl)) (mvT hZ (ww hw 18 rfl)) (mvT hZ (ww hw 3 rfl)) (mvT hZ (ww hw 19 rfl)) (by decide) (backOf (W := 1) (rm3_10 l Z a0 hw [] a_IS_IRI a_IS_BLANK a_REGEX a_STR a_IS_LITERAL ((i0 &&& (2147483647 : Int32)) % (5 : Int32)) ((i2 &&& (7 : Int32)) - (2 : Int32)) h0 n0 O0 HE' ) hZ (ww hw 19 rfl) (ww hw 3 rfl) (by decide) (by decide)) (g := (mkF m 52 Ls393 [(.int ((i2 &&& (7 : Int32)) - (2 : Int32))), (.int ((i0 &&& (2147483647 : Int32)) % (5 : Int32))), (.int (1 : Int32))])) rfl (by rw [hml]; rfl) (argsL := [(.int ((i0 &&& (2147483647 : Int32)) % (5 : Int32))), (.int ((i2 &&& (7 : Int32)) - (2 : Int32)))]) (rest := [(.int (1 : Int32))]) (lenOf pd2 rfl) rfl (by show 2 * 0 + _ ≤ _; exact Nat.le_of_eq rfl) (hb hby at_52) (fun _ _ => ⟨rfl, ec397, (by decide : 0 + 0 ≤ _), (by decide : 0 + 0 ≤ _)⟩)
    dsimp only [Pt.U, Pt.locs, Pt.cells, Pt.slots] at Xc439 lc439 yc439 zc439 stc439 hQc439
    subst lc439 yc439 zc439
    obtain ⟨Nqc439, ec439, hAc439⟩ := hQc439
    have Nc439 := Fr.app Nc397 Nqc439
    rcases hAc439 with ⟨rfl, g440, g441⟩ | ⟨rfl, g442, g443, g444⟩ | ⟨rfl, g445, g446, g447⟩ | ⟨rfl, g448, g449⟩ | ⟨rfl, g450, g451⟩
    ·
     have p452 : ∀ t, St p e below Tc439 (mkF m 55 Ls393 [(.int (1 : Int32)), (.int (1 : Int32))]) t → S0 t := fun t k => p438 t (stc439 t k)
     have p453 : ∀ t, St p e below Tc439 (mkF m 63 Ls393 [(.int (1 : Int32))]) t → S0 t := fun t k => p452 t (by
       show St p e below Tc439 (mkF m 55 Ls393 [(.int (1 : Int32)), (.int (1 : Int32))]) t
       refine XS.icmpNo Xc439.here hx rfl (hb hby at_55) rfl (teq (by decide : (1 : Int32) = (1 : Int32))).2 ?_
       show St p e below Tc439 (mkF m 58 Ls393 []) t
       refine XT.iconstV Xc439.here hx rfl (1 : Int32) (hb hby at_58) (by decide) ?_
       show St p e below Tc439 (mkF m 59 Ls393 [(.int (1 : Int32))]) t
       refine XS.goto Xc439.here hx rfl (pc0 := 59) (pc' := 63) rfl (hb hby at_59) (by decide) (by decide) ?_
       exact k)
     exact ⟨_, _, Xc439, ec439, Nc439, p453⟩
    ·
     have p454 : ∀ t, St p e below Tc439 (mkF m 55 Ls393 [(.int (1 : Int32)), (.int (1 : Int32))]) t → S0 t := fun t k => p438 t (stc439 t k)
     have p455 : ∀ t, St p e below Tc439 (mkF m 63 Ls393 [(.int (1 : Int32))]) t → S0 t := fun t k => p454 t (by
       show St p e below Tc439 (mkF m 55 Ls393 [(.int (1 : Int32)), (.int (1 : Int32))]) t
       refine XS.icmpNo Xc439.here hx rfl (hb hby at_55) rfl (teq (by decide : (1 : Int32) = (1 : Int32))).2 ?_
       show St p e below Tc439 (mkF m 58 Ls393 []) t
       refine XT.iconstV Xc439.here hx rfl (1 : Int32) (hb hby at_58) (by decide) ?_
       show St p e below Tc439 (mkF m 59 Ls393 [(.int (1 : Int32))]) t
       refine XS.goto Xc439.here hx rfl (pc0 := 59) (pc' := 63) rfl (hb hby at_59) (by decide) (by decide) ?_
       exact k)
     exact ⟨_, _, Xc439, ec439, Nc439, p455⟩
    ·
     exfalso
     have q1_ := neI g15
     have q2_ := neI g16
     have q3_ := neI g17
     have q4_ := neI g18
     have q5_ := nltI g401
     have q6_ := nltI g402
     have q7_ := eqI g445
     have q8_ := neI g446
     have q9_ := neI g447
     have l10_ := rng32 i0
     have l11_ := lI2147483647
     have l12_ : (i0 &&& (2147483647 : Int32)).toInt = i0.toInt % 2147483648 := c_mask i0 (2147483647 : Int32) 31 (by decide) (by decide)
     have l13_ := lI5
     have l14_ := c_irem (i0 &&& (2147483647 : Int32)) (5 : Int32) 5 (by decide)
     have l15_ := lI0
     have l16_ := lI1
     have l17_ := lI2
     have l18_ := lI3
     have l19_ := rng32 i2
     have l20_ := lI7
     have l21_ : (i2 &&& (7 : Int32)).toInt = i2.toInt % 8 := c_mask i2 (7 : Int32) 3 (by decide) (by decide)
     have l22_ := c_isub (i2 &&& (7 : Int32)) (2 : Int32)
     have l22b_ := rng32 ((i2 &&& (7 : Int32)) - (2 : Int32))
     have l23_ := lI4
     omega
    ·
     exfalso
     have q1_ := neI g15
     have q2_ := neI g16
     have q3_ := neI g17
     have q4_ := neI g18
     have q5_ := nltI g401
     have q6_ := nltI g402
     have q7_ := neI g448
     have q8_ := eqI g449
     have l9_ := rng32 i0
     have l10_ := lI2147483647
     have l11_ : (i0 &&& (2147483647 : Int32)).toInt = i0.toInt % 2147483648 := c_mask i0 (2147483647 : Int32) 31 (by decide) (by decide)
     have l12_ := lI5
     have l13_ := c_irem (i0 &&& (2147483647 : Int32)) (5 : Int32) 5 (by decide)
     have l14_ := lI0
     have l15_ := lI1
     have l16_ := lI2
     have l17_ := lI3
     have l18_ := rng32 i2
     have l19_ := lI7
     have l20_ : (i2 &&& (7 : Int32)).toInt = i2.toInt % 8 := c_mask i2 (7 : Int32) 3 (by decide) (by decide)
     have l21_ := c_isub (i2 &&& (7 : Int32)) (2 : Int32)
     have l21b_ := rng32 ((i2 &&& (7 : Int32)) - (2 : Int32))
     have l22_ := lI4
     omega
    ·
     exfalso
     have q1_ := neI g15
     have q2_ := neI g16
     have q3_ := neI g17
     have q4_ := neI g18
     have q5_ := nltI g401
     have q6_ := nltI g402
     have q7_ := neI g450
     have q8_ := neI g451
     have l9_ := rng32 i0
     have l10_ := lI2147483647
     have l11_ : (i0 &&& (2147483647 : Int32)).toInt = i0.toInt % 2147483648 := c_mask i0 (2147483647 : Int32) 31 (by decide) (by decide)
     have l12_ := lI5
     have l13_ := c_irem (i0 &&& (2147483647 : Int32)) (5 : Int32) 5 (by decide)
     have l14_ := lI0
     have l15_ := lI1
     have l16_ := lI2
     have l17_ := lI3
     have l18_ := rng32 i2
     have l19_ := lI7
     have l20_ : (i2 &&& (7 : Int32)).toInt = i2.toInt % 8 := c_mask i2 (7 : Int32) 3 (by decide) (by decide)
     have l21_ := c_isub (i2 &&& (7 : Int32)) (2 : Int32)
     have l21b_ := rng32 ((i2 &&& (7 : Int32)) - (2 : Int32))
     have l22_ := lI4
     omega
  let Ls456 : Array Slot := #[.val (.int i0), .val (.int i1), .val (.int i2), .val (.int ((i0 &&& (2147483647 : Int32)) % (5 : Int32))), .val (.ref a_REGEX), .val (.int ((i2 &&& (7 : Int32)) - (2 : Int32))), .val (.int (1 : Int32)), .unset]
  let Ls457 : Array Slot := #[.val (.int i0), .val (.int i1), .val (.int i2), .val (.int ((i0 &&& (2147483647 : Int32)) % (5 : Int32))), .val (.ref a_REGEX), .val (.int ((i2 &&& (7 : Int32)) - (2 : Int32))), .val (.int (1 : Int32)), .val (.int (1 : Int32))]
  have p458 : ∀ t, St p e below Tj395 (mkF m 80 Ls457 [(.int (1 : Int32))]) t → S0 t := fun t k => pj395 t (by
    show St p e below Tj395 (mkF m 63 Ls456 [(.int (1 : Int32))]) t
    refine XS.istore Xj395.here hx rfl (hb hby at_63) rfl (l' := Ls457) rfl ?_
    show St p e below Tj395 (mkF m 65 Ls457 []) t
    refine XS.iload Xj395.here hx rfl (hb hby at_65) rfl ?_
    show St p e below Tj395 (mkF m 67 Ls457 [(.int (1 : Int32))]) t
    refine XS.ifNo Xj395.here hx rfl (hb hby at_67) rfl ((if0 _ _).trans (feq (by decide : ¬ ((1 : Int32) = (0 : Int32)))).1) ?_
    show St p e below Tj395 (mkF m 70 Ls457 []) t
    refine XS.iload Xj395.here hx rfl (hb hby at_70) rfl ?_
    show St p e below Tj395 (mkF m 72 Ls457 [(.int (1 : Int32))]) t
    refine XS.ifNo Xj395.here hx rfl (hb hby at_72) rfl ((if0 _ _).trans (feq (by decide : ¬ ((1 : Int32) = (0 : Int32)))).1) ?_
    show St p e below Tj395 (mkF m 75 Ls457 []) t
    refine XT.iconstV Xj395.here hx rfl (1 : Int32) (hb hby at_75) (by decide) ?_
    show St p e below Tj395 (mkF m 76 Ls457 [(.int (1 : Int32))]) t
    refine XS.goto Xj395.here hx rfl (pc0 := 76) (pc' := 80) rfl (hb hby at_76) (by decide) (by decide) ?_
    exact k)
  obtain ⟨fs, hr, hrun, hended, hW, hsame⟩ := Xj395.leave (v := some (.int (1 : Int32))) (fun h => by rw [Bd.returns] at h; cases h)
  refine ⟨_, _, p458 _ ?_, hrun, hended, _, _, rfl, ?_, ⟨_, rfl⟩, hW, hsame.mono (by decide) (by decide)⟩
  · exact retOut Xj395 hx Bd.returns rfl (Or.inl ⟨rfl, by simp, _, rfl⟩) (hb hby at_80) hr
  · exact ⟨rfl, Nj395⟩
set_option maxRecDepth 65536 in
set_option maxHeartbeats 40000000 in
theorem comes_1 {Post : Tables → Env → Array Value → State → Outcome → State → Prop} (hpost : ∀ tb e args s v u, (limb_1_1.after args s (.returned v) u = true ∧ limb_1_2.after args s (.returned v) u = true ∧ True) → FrameEnd s (.returned v) u (Jvm.fieldLocs frame_1_writes args s ++ Jvm.arrayLocs frame_1_arrays args s ++ Jvm.staticLocs frame_1_statics s) 0 0 → Post tb e args s (.returned v) u) :
    ArmFor flags0 classFile x code maxLocals ret World_1 tables_1 room_1 Calls_1 rest_1 Pre_1 Post := by
  intro l hfl _ _ p e ha hc hk s m args below hf hA hF happ hP
  obtain ⟨hcalls, hrest, hpre⟩ := hP
  obtain ⟨-, -, -, hnamed, -, -, -, hat⟩ := (Spec.applies_iff hf).mp happ
  obtain ⟨hg, hn⟩ := and_e (Cond.before_iff.mp (show (Jvm.Cond.and given_1 narrow_1).before args s = true from hpre))
  obtain ⟨hj1a, hj1b⟩ := and_e hg
  obtain ⟨hj2a, hj2b⟩ := and_e hj1b
  obtain ⟨hj3a, hj3b⟩ := and_e hj2b
  obtain ⟨w0, w1, w2, rfl⟩ : ∃ w0 w1 w2 : Value, args = #[w0, w1, w2] := by
    have hs : args.size = 3 := by simpa [Cond.value, given_1] using hj1a
    obtain ⟨L⟩ := args
    match L, hs with
    | [w0, w1, w2], _ => exact ⟨w0, w1, w2, rfl⟩
  have hw := fun d (hd : d ∈ tables_1) => atoms_spec (ws := Jvm.Cond.code x code maxLocals ret :: tables_1) hat d (List.mem_cons_of_mem _ hd)
  have hfit : Fit s := fun {y c} hc i hi => by
    obtain ⟨ha, rfl⟩ := Array.getElem?_eq_some_iff.mp hc
    have q := List.all_eq_true.mp ((Array.all_eq_true_iff_forall_mem.mp hF) _ (Array.getElem_mem ha)) i (List.mem_range.mpr hi)
    simpa [Array.getElem?_eq_getElem hi] using q
  obtain ⟨i0, ei0⟩ := is_v hj2a
  obtain rfl : w0 = (.int i0) := Option.some.inj ei0
  obtain ⟨i1, ei1⟩ := is_v hj3a
  obtain rfl : w1 = (.int i1) := Option.some.inj ei1
  obtain ⟨i2, ei2⟩ := is_v hj3b
  obtain rfl : w2 = (.int i2) := Option.some.inj ei2
  obtain ⟨hj4a, hj4b⟩ := and_e hn
  obtain ⟨hj5a, hj5b⟩ := and_e hj4b
  obtain ⟨hj6a, hj6b⟩ := and_e hj5b
  obtain ⟨hj7a, hj7b⟩ := and_e hj6b
  obtain ⟨hj8a, hj8b⟩ := and_e hj7b
  obtain ⟨hj9a, hj9b⟩ := and_e hj8b
  obtain ⟨hj10a, hj10b⟩ := and_e hj9b
  obtain ⟨hj11a, hj11b⟩ := and_e hj10b
  obtain ⟨hj12a, hj12b⟩ := and_e hj11b
  obtain ⟨hj13a, hj13b⟩ := and_e hj12b
  obtain ⟨hj14a, hj14b⟩ := and_e hj13b
  obtain ⟨hj15a, hj15b⟩ := and_e hj14b
  obtain ⟨hj16a, hj16b⟩ := and_e hj15b
  obtain ⟨hj17a, hj17b⟩ := and_e hj16b
  have hn0 := hj4a
  have hn1 := hj5a
  have hn2 := hj6a
  have hn3 := hj7a
  have hn4 := hj8a
  have hn5 := hj9a
  have hn6 := hj10a
  have hn7 := hj11a
  have hn8 := hj12a
  have hn9 := hj13a
  have hn10 := hj14a
  have hn11 := hj15a
  have hn12 := hj16a
  have hn13 := hj17a
  have hn14 := hj17b
  obtain ⟨a_IS_IRI, eva_IS_IRI⟩ := exa_v hn0
  obtain ⟨a_IS_BLANK, eva_IS_BLANK⟩ := exa_v hn3
  obtain ⟨a_REGEX, eva_REGEX⟩ := exa_v hn6
  obtain ⟨a_STR, eva_STR⟩ := exa_v hn9
  obtain ⟨a_IS_LITERAL, eva_IS_LITERAL⟩ := exa_v hn12
  obtain ⟨n, o, h1, h2, h3, _, L, rfl, ⟨rfl, N⟩, hq⟩ := rm0 l s _ hw tables_1 a_IS_IRI a_IS_BLANK a_REGEX a_STR a_IS_LITERAL i0 i1 i2 s.heap s.heap.size (Old.start s) ⟨(Sta.start eva_IS_IRI (Or.inr ⟨(ww hw 6 rfl), (ww hw 7 rfl)⟩)), (Exa.start eva_IS_IRI hn0), (Fld.start ((fld_at eva_IS_IRI).symm.trans (own_eqI hn1))), (Fld.start ((fld_at eva_IS_IRI).symm.trans (own_eqI hn2))), (Sta.start eva_IS_BLANK (Or.inr ⟨(ww hw 6 rfl), (ww hw 21 rfl)⟩)), (Exa.start eva_IS_BLANK hn3), (Fld.start ((fld_at eva_IS_BLANK).symm.trans (own_eqI hn4))), (Fld.start ((fld_at eva_IS_BLANK).symm.trans (own_eqI hn5))), (Sta.start eva_REGEX (Or.inr ⟨(ww hw 6 rfl), (ww hw 23 rfl)⟩)), (Exa.start eva_REGEX hn6), (Fld.start ((fld_at eva_REGEX).symm.trans (own_eqI hn7))), (Fld.start ((fld_at eva_REGEX).symm.trans (own_eqI hn8))), (Sta.start eva_STR (Or.inr ⟨(ww hw 6 rfl), (ww hw 25 rfl)⟩)), (Exa.start eva_STR hn9), (Fld.start ((fld_at eva_STR).symm.trans (own_eqI hn10))), (Fld.start ((fld_at eva_STR).symm.trans (own_eqI hn11))), (Sta.start eva_IS_LITERAL (Or.inr ⟨(ww hw 6 rfl), (ww hw 27 rfl)⟩)), (Exa.start eva_IS_LITERAL hn12), (Fld.start ((fld_at eva_IS_LITERAL).symm.trans (own_eqI hn13))), (Fld.start ((fld_at eva_IS_LITERAL).symm.trans (own_eqI hn14)))⟩ p e ha hc hk s m _ below hf ((Spec.applies_iff_loose hf).mp happ).1 ⟨rfl, State.Warmed39.refl s, rfl⟩ trivial
  refine ⟨n, _, h1, h2, h3, hpost _ _ _ _ _ _ ⟨Cond.after_iff.mpr rfl, Cond.after_iff.mpr (eq_i res_at (Term.int_eval (1)) rfl), trivial⟩ ⟨hq.1, hq.2.1, (hq.2.2.sift fun y hy => Or.inr (N y hy)).mono (by decide) (by decide)⟩⟩
theorem main_1_1 : Claimed_1_1 := comes_1 fun _ _ _ _ _ _ h hF => ⟨h.1, hF⟩
theorem main_1_2 : Claimed_1_2 := comes_1 fun _ _ _ _ _ _ h hF => ⟨h.2.1, hF⟩
end Jvm.Pilot.@@N@@
namespace Jvm.Pilot.@@N@@
open Jvm Jvm.ClassFile Sem Op Lib Jvm.Free Jvm.Stand Jvm.Pilot.@@N@@.Jvm.D
/-! MADE BY PROGRAM (witnessworld.py) out of the Statement's table words and the real class files: 12 classes; the members and pool entries that the words name. The judged class is class 1, her method 3. -/
namespace start1
open Jvm.ClassFile
def u (s : String) : CpInfo := .utf8 (stringToUtf16 s)
/-- a pool by its gaps: so many unusable entries, then the entry; so many at the end -/
def gap : Nat → List CpInfo → List CpInfo
  | 0, r => r
  | n + 1, r => .unusable :: gap n r
def poolList (es : List (Nat × CpInfo)) (last : Nat) : List CpInfo := es.foldr (fun e r => gap e.1 (e.2 :: r)) (gap last [])
def pool (es : List (Nat × CpInfo)) (last : Nat) : Array CpInfo := ⟨poolList es last⟩
def fileOf (pool : Array CpInfo) (this : Nat) (attrs : Array Attribute := #[]) (ms : Array MethodInfo := #[]) (fl : Nat := 33) (sup : Nat := 0) (ifs : Array Nat := #[]) (fds : Array FieldInfo := #[]) : ClassFile where
  minorVersion := 0
  majorVersion := 65
  constantPool := pool
  accessFlags := fl
  thisClass := this
  superClass := sup
  interfaces := ifs
  fields := fds
  methods := ms
  attributes := attrs
def plain (name : String) (sup : Option ClassId) : Class where
  name := name
  kind := .ordinary
  loader := none
  accessFlags := 33
  super := sup
  interfaces := #[]
  cf := none
  fields := #[]
  methods := #[]
  instanceTypes := #[]
  staticTypes := #[]
  resolved := #[]
  callSites := []
  init := .initialized
  statics := none
  mirror := none

def pool0 : Array CpInfo := pool [(5, u "<init>"), (0, u "()V"), (1, .class_ 10), (1, u "java/lang/Object")] 113

def k0m0 : Method := { name := "<init>", desc := "()V", sig := { parameters := [], returnType := none }, accessFlags := 1, code := none }
/-- java/lang/Object -/
def k0 : Class := { plain "java/lang/Object" none with
  accessFlags := 33
  interfaces := #[]
  cf := some (fileOf pool0 8 #[] #[{ accessFlags := 1, nameIndex := 5, descriptorIndex := 6, attributes := #[] }] 33 0 #[] #[])
  fields := #[]
  methods := #[k0m0]
  instanceTypes := #[]
  staticTypes := #[]
  resolved := Array.replicate 124 none
  statics := none }

def pool1 : Array CpInfo := pool [(2, .class_ 4), (1, u "java/lang/Object"), (0, u "<init>"), (0, u "()V"), (0, .fieldref 8 9), (0, .class_ 10), (0, .nameAndType 11 12), (0, u "com/example/quadrille/quadrille/sparql/Operators$Function"), (0, u "IS_IRI"), (0, u "Lcom/example/quadrille/quadrille/sparql/Operators$Function;"), (0, .fieldref 8 14), (0, .nameAndType 15 12), (0, u "IS_BLANK"), (0, .fieldref 8 17), (0, .nameAndType 18 12), (0, u "IS_LITERAL"), (0, .fieldref 8 20), (0, .nameAndType 21 12), (0, u "STR"), (0, .fieldref 8 23), (0, .nameAndType 24 12), (0, u "REGEX"), (0, .integer 2147483647), (0, .methodref 27 28), (0, .class_ 29), (0, .nameAndType 30 31), (0, u "com/example/quadrille/quadrille/sparql/FunctionTakesPinLaw"), (0, u "pick"), (0, u "(I)Lcom/example/quadrille/quadrille/sparql/Operators$Function;"), (0, .methodref 8 33), (0, .nameAndType 34 35), (0, u "takes"), (0, u "(I)Z"), (0, .methodref 27 37), (0, .nameAndType 38 39), (0, u "expected"), (0, u "(II)Z"), (3, u "law"), (0, u "(III)Z")] 6

def k1m0 : Method := { name := "<init>", desc := "()V", sig := { parameters := [], returnType := none }, accessFlags := 2, code := none }
def k1c1 : Code := { maxStack := 2, maxLocals := 1, code := method_2_code, exceptionTable := #[], attributes := #[] }
def k1m1 : Method := { name := "pick", desc := "(I)Lcom/example/quadrille/quadrille/sparql/Operators$Function;", sig := { parameters := [.int], returnType := some (.object "com/example/quadrille/quadrille/sparql/Operators$Function") }, accessFlags := 10, code := some k1c1 }
def k1c2 : Code := { maxStack := 2, maxLocals := 2, code := method_3_code, exceptionTable := #[], attributes := #[] }
def k1m2 : Method := { name := "expected", desc := "(II)Z", sig := { parameters := [.int, .int], returnType := some .boolean }, accessFlags := 10, code := some k1c2 }
def k1c3 : Code := { maxStack := 3, maxLocals := 8, code := code, exceptionTable := #[], attributes := #[] }
def k1m3 : Method := { name := "law", desc := "(III)Z", sig := { parameters := [.int, .int, .int], returnType := some .boolean }, accessFlags := 9, code := some k1c3 }
/-- com/example/quadrille/quadrille/sparql/FunctionTakesPinLaw -/
def k1 : Class := { plain "com/example/quadrille/quadrille/sparql/FunctionTakesPinLaw" (some 0) with
  accessFlags := 49
  interfaces := #[]
  cf := some (fileOf pool1 27 #[] #[{ accessFlags := 2, nameIndex := 5, descriptorIndex := 6, attributes := #[] }, { accessFlags := 10, nameIndex := 30, descriptorIndex := 31, attributes := #[] }, { accessFlags := 10, nameIndex := 38, descriptorIndex := 39, attributes := #[] }, { accessFlags := 9, nameIndex := 43, descriptorIndex := 44, attributes := #[] }] 49 2 #[] #[])
  fields := #[]
  methods := #[k1m0, k1m1, k1m2, k1m3]
  instanceTypes := #[]
  staticTypes := #[]
  resolved := Array.replicate 51 none
  statics := none }

def pool2 : Array CpInfo := pool [(1, .class_ 2), (0, u "java/lang/constant/Constable"), (0, .class_ 4), (0, u "java/lang/Object")] 6

/-- java/lang/constant/Constable -/
def k2 : Class := { plain "java/lang/constant/Constable" (some 0) with
  accessFlags := 1537
  interfaces := #[]
  cf := some (fileOf pool2 1 #[] #[] 1537 3 #[] #[])
  fields := #[]
  methods := #[]
  instanceTypes := #[]
  staticTypes := #[]
  resolved := Array.replicate 11 none
  statics := none }

def pool3 : Array CpInfo := pool [(1, .class_ 2), (0, u "java/lang/Comparable"), (0, .class_ 4), (0, u "java/lang/Object")] 7

/-- java/lang/Comparable -/
def k3 : Class := { plain "java/lang/Comparable" (some 0) with
  accessFlags := 1537
  interfaces := #[]
  cf := some (fileOf pool3 1 #[] #[] 1537 3 #[] #[])
  fields := #[]
  methods := #[]
  instanceTypes := #[]
  staticTypes := #[]
  resolved := Array.replicate 12 none
  statics := none }

def pool4 : Array CpInfo := pool [(1, .class_ 2), (0, u "java/io/Serializable"), (0, .class_ 4), (0, u "java/lang/Object")] 2

/-- java/io/Serializable -/
def k4 : Class := { plain "java/io/Serializable" (some 0) with
  accessFlags := 1537
  interfaces := #[]
  cf := some (fileOf pool4 1 #[] #[] 1537 3 #[] #[])
  fields := #[]
  methods := #[]
  instanceTypes := #[]
  staticTypes := #[]
  resolved := Array.replicate 7 none
  statics := none }

def pool5 : Array CpInfo := pool [(2, .class_ 4), (1, u "java/lang/Enum"), (0, u "name"), (0, u "Ljava/lang/String;"), (2, u "ordinal"), (0, u "I"), (1, .class_ 14), (1, u "java/lang/Object"), (4, u "hash"), (86, .class_ 108), (1, u "java/lang/Enum$EnumDesc"), (2, .class_ 112), (0, u "java/lang/constant/Constable"), (0, .class_ 114), (0, u "java/lang/Comparable"), (0, .class_ 116), (0, u "java/io/Serializable")] 87

/-- java/lang/Enum -/
def k5 : Class := { plain "java/lang/Enum" (some 0) with
  accessFlags := 1057
  interfaces := #[2, 3, 4]
  cf := some (fileOf pool5 2 #[.nestMembers #[106]] #[] 1057 12 #[111, 113, 115] #[{ accessFlags := 18, nameIndex := 5, descriptorIndex := 6, attributes := #[] }, { accessFlags := 18, nameIndex := 9, descriptorIndex := 10, attributes := #[] }, { accessFlags := 2, nameIndex := 19, descriptorIndex := 10, attributes := #[] }])
  fields := #[{ name := "name", type := (.object "java/lang/String"), accessFlags := 18, slot := 0, constantValue := 0 }, { name := "ordinal", type := .int, accessFlags := 18, slot := 1, constantValue := 0 }, { name := "hash", type := .int, accessFlags := 2, slot := 2, constantValue := 0 }]
  methods := #[]
  instanceTypes := #[(.object "java/lang/String"), .int, .int]
  staticTypes := #[]
  resolved := Array.replicate 204 none
  statics := none }

def pool6 : Array CpInfo := pool [(1, .class_ 2), (0, u "com/example/quadrille/quadrille/sparql/Operators$Function"), (2, u "IS_IRI"), (0, u "Lcom/example/quadrille/quadrille/sparql/Operators$Function;"), (2, u "IS_BLANK"), (2, u "IS_LITERAL"), (2, u "STR"), (2, u "REGEX"), (2, u "$VALUES"), (0, u "[Lcom/example/quadrille/quadrille/sparql/Operators$Function;"), (6, .class_ 31), (1, u "java/lang/Enum"), (8, u "name"), (0, u "Ljava/lang/String;"), (0, .fieldref 1 43), (0, .nameAndType 44 45), (0, u "minArguments"), (0, u "I"), (0, .fieldref 1 47), (0, .nameAndType 48 45), (0, u "maxArguments"), (14, u "ALIASES"), (0, u "Ljava/util/Map;"), (45, .class_ 112), (1, u "com/example/quadrille/quadrille/sparql/Operators"), (59, u "takes"), (0, u "(I)Z")] 28

def k6c0 : Code := { maxStack := 2, maxLocals := 2, code := prog_87_method_6_code, exceptionTable := #[], attributes := #[] }
def k6m0 : Method := { name := "takes", desc := "(I)Z", sig := { parameters := [.int], returnType := some .boolean }, accessFlags := 0, code := some k6c0 }
/-- com/example/quadrille/quadrille/sparql/Operators$Function -/
def k6 : Class := { plain "com/example/quadrille/quadrille/sparql/Operators$Function" (some 5) with
  accessFlags := 16432
  interfaces := #[]
  cf := some (fileOf pool6 1 #[.nestHost 110] #[{ accessFlags := 0, nameIndex := 172, descriptorIndex := 173, attributes := #[] }] 16432 29 #[] #[{ accessFlags := 16409, nameIndex := 5, descriptorIndex := 6, attributes := #[] }, { accessFlags := 16409, nameIndex := 9, descriptorIndex := 6, attributes := #[] }, { accessFlags := 16409, nameIndex := 12, descriptorIndex := 6, attributes := #[] }, { accessFlags := 16409, nameIndex := 15, descriptorIndex := 6, attributes := #[] }, { accessFlags := 16409, nameIndex := 18, descriptorIndex := 6, attributes := #[] }, { accessFlags := 26, nameIndex := 63, descriptorIndex := 64, attributes := #[] }, { accessFlags := 18, nameIndex := 40, descriptorIndex := 41, attributes := #[] }, { accessFlags := 18, nameIndex := 44, descriptorIndex := 45, attributes := #[] }, { accessFlags := 18, nameIndex := 48, descriptorIndex := 45, attributes := #[] }, { accessFlags := 4122, nameIndex := 21, descriptorIndex := 22, attributes := #[] }])
  fields := #[{ name := "IS_IRI", type := (.object "com/example/quadrille/quadrille/sparql/Operators$Function"), accessFlags := 16409, slot := 0, constantValue := 0 }, { name := "IS_BLANK", type := (.object "com/example/quadrille/quadrille/sparql/Operators$Function"), accessFlags := 16409, slot := 1, constantValue := 0 }, { name := "IS_LITERAL", type := (.object "com/example/quadrille/quadrille/sparql/Operators$Function"), accessFlags := 16409, slot := 2, constantValue := 0 }, { name := "STR", type := (.object "com/example/quadrille/quadrille/sparql/Operators$Function"), accessFlags := 16409, slot := 3, constantValue := 0 }, { name := "REGEX", type := (.object "com/example/quadrille/quadrille/sparql/Operators$Function"), accessFlags := 16409, slot := 4, constantValue := 0 }, { name := "ALIASES", type := (.object "java/util/Map"), accessFlags := 26, slot := 5, constantValue := 0 }, { name := "name", type := (.object "java/lang/String"), accessFlags := 18, slot := 3, constantValue := 0 }, { name := "minArguments", type := .int, accessFlags := 18, slot := 4, constantValue := 0 }, { name := "maxArguments", type := .int, accessFlags := 18, slot := 5, constantValue := 0 }, { name := "$VALUES", type := (.array (.object "com/example/quadrille/quadrille/sparql/Operators$Function")), accessFlags := 4122, slot := 6, constantValue := 0 }]
  methods := #[k6m0]
  instanceTypes := #[(.object "java/lang/String"), .int, .int, (.object "java/lang/String"), .int, .int]
  staticTypes := #[(.object "com/example/quadrille/quadrille/sparql/Operators$Function"), (.object "com/example/quadrille/quadrille/sparql/Operators$Function"), (.object "com/example/quadrille/quadrille/sparql/Operators$Function"), (.object "com/example/quadrille/quadrille/sparql/Operators$Function"), (.object "com/example/quadrille/quadrille/sparql/Operators$Function"), (.object "java/util/Map"), (.array (.object "com/example/quadrille/quadrille/sparql/Operators$Function"))]
  resolved := Array.replicate 202 none
  statics := some 0 }

def pool7 : Array CpInfo := pool [(1, u "java/lang/Cloneable"), (0, .class_ 1), (0, u "java/lang/Object"), (0, .class_ 3)] 3

/-- java/lang/Cloneable -/
def k7 : Class := { plain "java/lang/Cloneable" (some 0) with
  accessFlags := 1537
  interfaces := #[]
  cf := some (fileOf pool7 2 #[] #[] 1537 4 #[] #[])
  fields := #[]
  methods := #[]
  instanceTypes := #[]
  staticTypes := #[]
  resolved := Array.replicate 8 none
  statics := none }

/-- the primitive byte -/
def k8 : Class := { plain "byte" none with kind := .primitive 'B', accessFlags := 0x411 }
/-- [B -/
def k9 : Class := { plain "[B" (some 0) with kind := .array 8 .byte, interfaces := #[7, 4], accessFlags := 1041 }

/-- the primitive int -/
def k10 : Class := { plain "int" none with kind := .primitive 'I', accessFlags := 0x411 }
/-- [I -/
def k11 : Class := { plain "[I" (some 0) with kind := .array 10 .int, interfaces := #[7, 4], accessFlags := 1041 }

def heap : Heap := #[{ cls := 6, slots := #[.ref 1, .ref 2, .ref 5, .ref 4, .ref 3, .null, .null], vm := .statics 6 },
  { cls := 6, slots := #[.null, .int 0, .int 0, .null, .int 1, .int 1], vm := .none },
  { cls := 6, slots := #[.null, .int 0, .int 0, .null, .int 1, .int 1], vm := .none },
  { cls := 6, slots := #[.null, .int 0, .int 0, .null, .int 2, .int 3], vm := .none },
  { cls := 6, slots := #[.null, .int 0, .int 0, .null, .int 1, .int 1], vm := .none },
  { cls := 6, slots := #[.null, .int 0, .int 0, .null, .int 1, .int 1], vm := .none }]
def classes : Array Class := #[k0, k1, k2, k3, k4, k5, k6, k7, k8, k9, k10, k11]
def interned : List (Array UInt16 × Addr) := []
def slotsUsed : Nat := 37
def theMethod : MethodId := ⟨1, 3⟩
def args0 : Array Value := #[.int 5, .int 1, .int 3]
def aboutOver (below : List Frame) : State where
  vm := { classes := classes, interned := interned.toArray }
  heap := heap
  slotsUsed := slotsUsed
  threads := #[{ frames := .invoking theMethod args0 :: below }]
def below0 : List Frame := [.native { method := ⟨0, 0⟩, args := #[] }]
def about1 : State := aboutOver below0
def p0 : Program := .bare "" "" ""
def e0 : Env := launch0.env 0 0 0
theorem w_frames : about1.frames = Frame.invoking theMethod args0 :: below0 := rfl
set_option maxRecDepth 65536 in
theorem w_args : argsFit about1.vm theMethod args0 = true := by decide +kernel
set_option maxRecDepth 65536 in
theorem w_heap : heapFits about1 = true := by decide +kernel
set_option maxRecDepth 65536 in
theorem w_runnable : about1.curStatus? = some .runnable := by decide +kernel
set_option maxRecDepth 65536 in
theorem w_alone : about1.alone = true := by decide +kernel
set_option maxRecDepth 65536 in
theorem w_named : about1.methodNamed? x = some theMethod := by decide +kernel
set_option maxRecDepth 65536 in
theorem w_hears : about1.hears theMethod below0 = true := by decide +kernel
set_option maxRecDepth 65536 in
theorem w_ripe : about1.ripe theMethod args0 below0 = true := by decide +kernel
theorem w_running : about1.status = .running := rfl
set_option maxRecDepth 65536 in
theorem w_room : about1.hasRoom e0.platform room_1 = true :=
  launch0.hasRoom_least _ room_1 (by decide +kernel) (by decide +kernel) (by decide +kernel) (by decide +kernel) (by decide +kernel) (by decide +kernel)
theorem allAtoms_all (ts : List Jvm.Cond) (a : Array Jvm.Value) (st : Jvm.State) : (allAtoms ts).before a st = ts.all (fun c => c.before a st) := by
  induction ts with
  | nil => rfl
  | cons c t ih =>
    show (Jvm.Cond.and c (allAtoms t)).before a st = _
    rw [Jvm.Cond.before_and, ih, List.all_cons]
def words1 : List Jvm.Cond := Jvm.Cond.code x code maxLocals ret :: tables_1
/-- a 'code' word, met by the world's own term for the bytes: nothing is compared byte by byte -/
theorem code_word {y : MethodName} {bytes : ByteArray} {mx : Nat} {rt : Option FieldType} {a : Array Value} {s : State} {m : MethodId} {meth : Method} {c : Code} (h1 : s.methodNamed? y = some m) (h2 : s.vm.method? m = some meth) (h3 : meth.code = some c) (h4 : c.code = bytes)
    (h5 : (c.maxLocals == mx && c.exceptionTable.isEmpty && decide (c.maxStack ≤ mostOperands) && decide (meth.sig.returnType = rt) && !meth.locks && decide (parseMethodDescriptor y.desc = some meth.sig)) = true) : (Jvm.Cond.code y bytes mx rt).before a s = true := by
  simp only [Bool.and_eq_true, beq_iff_eq, Bool.not_eq_true', decide_eq_true_eq] at h5
  obtain ⟨⟨⟨⟨⟨g1, g2⟩, g3⟩, g4⟩, g5⟩, g6⟩ := h5
  simp [Cond.before, Cond.holds, Cond.value, h1, h2, h3, h4, g1, g2, g3, g4, g5, g6]
def isCode : Jvm.Cond → Bool
  | .code _ _ _ _ => true
  | _ => false
theorem all_split {L : List Jvm.Cond} {P : Jvm.Cond → Bool} (h1 : L.all (fun c => isCode c || P c) = true) (h2 : ∀ c ∈ L.filter isCode, P c = true) : L.all P = true := by
  refine List.all_eq_true.mpr fun c hc => ?_
  have h := List.all_eq_true.mp h1 c hc
  rcases Bool.eq_false_or_eq_true (isCode c) with hi | hi
  · exact h2 c (List.mem_filter.mpr ⟨hc, hi⟩)
  · simpa [hi] using h
set_option maxRecDepth 65536 in
theorem w_c0 : (Jvm.Cond.code x code maxLocals ret).before args0 about1 = true := code_word (m := ⟨1, 3⟩) (meth := k1m3) (c := k1c3) (by decide +kernel) rfl rfl rfl (by decide +kernel)
set_option maxRecDepth 65536 in
theorem w_c1 : (Jvm.Cond.code ({ cls := "com/example/quadrille/quadrille/sparql/FunctionTakesPinLaw", name := "pick", desc := "(I)Lcom/example/quadrille/quadrille/sparql/Operators$Function;" } : Jvm.MethodName) method_2_code (1 : Nat) (Option.some (Jvm.ClassFile.FieldType.object "com/example/quadrille/quadrille/sparql/Operators$Function"))).before args0 about1 = true := code_word (m := ⟨1, 1⟩) (meth := k1m1) (c := k1c1) (by decide +kernel) rfl rfl rfl (by decide +kernel)
set_option maxRecDepth 65536 in
theorem w_c2 : (Jvm.Cond.code ({ cls := "com/example/quadrille/quadrille/sparql/Operators$Function", name := "takes", desc := "(I)Z" } : Jvm.MethodName) prog_87_method_6_code (2 : Nat) (Option.some Jvm.ClassFile.FieldType.boolean)).before args0 about1 = true := code_word (m := ⟨6, 0⟩) (meth := k6m0) (c := k6c0) (by decide +kernel) rfl rfl rfl (by decide +kernel)
set_option maxRecDepth 65536 in
theorem w_c3 : (Jvm.Cond.code ({ cls := "com/example/quadrille/quadrille/sparql/FunctionTakesPinLaw", name := "expected", desc := "(II)Z" } : Jvm.MethodName) method_3_code (2 : Nat) (Option.some Jvm.ClassFile.FieldType.boolean)).before args0 about1 = true := code_word (m := ⟨1, 2⟩) (meth := k1m2) (c := k1c2) (by decide +kernel) rfl rfl rfl (by decide +kernel)
def codes1 : List Jvm.Cond := [Jvm.Cond.code x code maxLocals ret, Jvm.Cond.code ({ cls := "com/example/quadrille/quadrille/sparql/FunctionTakesPinLaw", name := "pick", desc := "(I)Lcom/example/quadrille/quadrille/sparql/Operators$Function;" } : Jvm.MethodName) method_2_code (1 : Nat) (Option.some (Jvm.ClassFile.FieldType.object "com/example/quadrille/quadrille/sparql/Operators$Function")), Jvm.Cond.code ({ cls := "com/example/quadrille/quadrille/sparql/Operators$Function", name := "takes", desc := "(I)Z" } : Jvm.MethodName) prog_87_method_6_code (2 : Nat) (Option.some Jvm.ClassFile.FieldType.boolean), Jvm.Cond.code ({ cls := "com/example/quadrille/quadrille/sparql/FunctionTakesPinLaw", name := "expected", desc := "(II)Z" } : Jvm.MethodName) method_3_code (2 : Nat) (Option.some Jvm.ClassFile.FieldType.boolean)]
set_option maxRecDepth 65536 in
theorem codes_eq : words1.filter isCode = codes1 := rfl
theorem w_codes : ∀ c ∈ words1.filter isCode, c.before args0 about1 = true := by
  rw [codes_eq]
  intro c hc
  simp only [codes1, List.mem_cons, List.not_mem_nil, or_false] at hc
  rcases hc with rfl | rfl | rfl | rfl
  · exact w_c0
  · exact w_c1
  · exact w_c2
  · exact w_c3
set_option maxRecDepth 65536 in
theorem w_t1 : (words1.take 24).all (fun c => isCode c || c.before args0 about1) = true := by decide +kernel
set_option maxRecDepth 65536 in
theorem w_t2 : (words1.drop 24).all (fun c => isCode c || c.before args0 about1) = true := by decide +kernel
theorem w_tables : (allAtoms (Jvm.Cond.code x code maxLocals ret :: tables_1)).before args0 about1 = true := by
  rw [allAtoms_all]
  show words1.all (fun c => c.before args0 about1) = true
  refine all_split ?_ w_codes
  rw [← List.take_append_drop 24 words1, List.all_append, w_t1, w_t2]
  rfl
set_option maxRecDepth 65536 in
theorem w_case : (Jvm.Cond.and given_1 narrow_1).before args0 about1 = true := by decide +kernel
theorem w_applies : (headSpec (Jvm.Cond.code x code maxLocals ret :: tables_1) room_1).applies x e0.platform about1 = true :=
  (Spec.applies_iff w_frames).mpr ⟨w_running, w_runnable, w_alone, w_named, w_hears, w_ripe, w_room, w_tables⟩
theorem atStart : AtStart classFile x code maxLocals ret World_1 tables_1 room_1 Calls_1 rest_1 Pre_1 launch0 p0 e0 about1 theMethod args0 below0 :=
  ⟨lists_1, trivial, launch0.admits_env _ _ _, launch0.least_env, fairChoices_fair.cas, fairChoices_fair.clock, w_frames, w_args, w_heap, w_applies, trivial, trivial, w_case⟩
end start1
theorem witness_1 : WitnessClaimed_1 := ⟨start1.p0, start1.e0, start1.about1, start1.theMethod, start1.args0, start1.below0, start1.atStart⟩
end Jvm.Pilot.@@N@@
