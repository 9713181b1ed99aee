import JvmDerived
import JvmDerived.Pilot.@@N@@Statement
import JvmDerived.Pilot.@@N@@Code
set_option linter.unusedVariables false
set_option linter.unusedSimpArgs false
namespace Jvm.Pilot.@@N@@
open Jvm Jvm.ClassFile Sem Op Lib Jvm.Free Jvm.Stand Jvm.LawKit Jvm.RoadKit Bundle Jvm.Pilot.@@N@@.Jvm.D
abbrev St (p : Program) (e : Env) (below : List Frame) (T : State) (g : JFrame) (t : State) : Prop := Steps p.tables e below (T.setTop g) t
theorem ww {Z : State} {a0 : Array Value} (hw : ∀ d ∈ tables_1, d.before a0 Z = true) {d : Jvm.Cond} (i : Nat) (h : tables_1[i]? = some d) : d.before a0 Z = true := hw _ (List.mem_of_getElem? h)
theorem ltI {a b : Int32} (h : a < b) : a.toInt < b.toInt := Int32.lt_iff_toInt_lt.mp h
theorem nltI {a b : Int32} (h : ¬ a < b) : ¬ a.toInt < b.toInt := mt Int32.lt_iff_toInt_lt.mpr h
theorem eqI {a b : Int32} (h : a = b) : a.toInt = b.toInt := congrArg Int32.toInt h
theorem neI {a b : Int32} (h : ¬ a = b) : ¬ a.toInt = b.toInt := mt Int32.toInt_inj.mp h
theorem ltJ {a b : Int64} (h : a < b) : a.toInt < b.toInt := Int64.lt_iff_toInt_lt.mp h
theorem nltJ {a b : Int64} (h : ¬ a < b) : ¬ a.toInt < b.toInt := mt Int64.lt_iff_toInt_lt.mpr h
theorem eqJ {a b : Int64} (h : a = b) : a.toInt = b.toInt := congrArg Int64.toInt h
theorem neJ {a b : Int64} (h : ¬ a = b) : ¬ a.toInt = b.toInt := mt Int64.toInt_inj.mp h
theorem own_eqI {args : Array Value} {s : State} {t : Term} {k : Int32} (h : (Jvm.Cond.eq t (.int k)).value args s none s [] = some true) : t.eval args s none [] s = some (.int k) := by
  obtain ⟨x, y, ex, ey, k1, k2⟩ := cmp_v (Or.inl h)
  obtain rfl : y = .int k := Option.some.inj (ey.symm.trans (Term.int_eval k))
  obtain ⟨z, rfl⟩ := k2
  rw [ex, gotT (Cond.eq_ints ex ey) h]
theorem own_eqJ {args : Array Value} {s : State} {t : Term} {k : Int64} (h : (Jvm.Cond.eq t (.long k)).value args s none s [] = some true) : t.eval args s none [] s = some (.long k) := by
  obtain ⟨x, y, ex, ey, k1, k2⟩ := cmp_v (Or.inl h)
  obtain rfl : y = .long k := Option.some.inj (ey.symm.trans (long_at k))
  obtain ⟨z, rfl⟩ := k2
  rw [ex, gotT (eq_L ex ey) h]
theorem own_eqR {args : Array Value} {s : State} {t u : Term} {b : Addr} (h : (Jvm.Cond.eq t u).value args s none s [] = some true) (hu : u.eval args s none [] s = some (.ref b)) : t.eval args s none [] s = some (.ref b) := by
  obtain ⟨x, y, ex, ey, k1, k2⟩ := cmp_v (Or.inl h)
  obtain rfl : y = .ref b := Option.some.inj (ey.symm.trans hu)
  have hx : x.isRef = true := k2.2
  rw [ex, gotT (eq_R ex ey hx rfl) h]
theorem own_len {args : Array Value} {s : State} {t : Term} {a : Addr} {cl : Cell} {ty : FieldType} {k : Int32} (ev : t.eval args s none [] s = some (.ref a)) (A : Arr s s.heap a cl ty) (h : (Term.length t).eval args s none [] s = some (.int k)) : cl.slots.size < 2 ^ 31 ∧ cl.slots.size.toInt32 = k := by
  have ha := A.fin (Vm.Alike.refl _)
  by_cases hl : cl.slots.size < 2 ^ 31
  · exact ⟨hl, Value.int.inj (Option.some.inj ((len_f ev ha hl).symm.trans h))⟩
  · exfalso; simp [Term.eval, ev, ha, hl] at h
theorem own_sel {Z : State} {a0 : Array Value} {y : MethodName} {n : Nat} (wi : (Jvm.Cond.instantiable y.cls n).before a0 Z = true) (wp : (Jvm.Cond.privateMethod y).before a0 Z = true) (wm : (Jvm.Cond.instanceMethod y).before a0 Z = true) (hy : y.cls ≠ "java/lang/invoke/MethodHandle" ∧ y.cls ≠ "java/lang/invoke/VarHandle") : (Jvm.Cond.selects y.cls y y).before a0 Z = true := by
  obtain ⟨c, k, h1, h2, h3, h4, -⟩ := Cond.instantiable_spec wi
  exact selects_self_of_private h1 h2 (by simp only [Bool.or_eq_false_iff] at h4; exact h4.1) (Cond.privateMethod_at wp) wm hy
def own_nz (x : Int64) : Int32 := if x = 0 then 0 else 1
theorem own_c_nz (x : Int64) : (x.toInt = 0 → (own_nz x).toInt = 0) ∧ (x.toInt ≠ 0 → (own_nz x).toInt = 1) := by
  unfold own_nz
  by_cases h : x = 0
  · subst h; exact ⟨fun _ => by decide, fun q => absurd (by decide) q⟩
  · rw [if_neg h]; exact ⟨fun q => absurd (Int64.toInt_inj.mp (q.trans (by decide : (0 : Int) = (0 : Int64).toInt))) h, fun _ => by decide⟩
theorem own_old_le {Z : State} {n0 : Nat} {h : Heap} (O : Old Z n0 h) : n0 ≤ h.size := O.1 ▸ O.2.1
abbrev M0 : MethodName := ⟨"com/example/herald4/herald4/filter/TruthOrPinLaw", "pick", "(I)Lcom/example/herald4/herald4/filter/Truth;"⟩
abbrev M1 : MethodName := ⟨"com/example/herald4/herald4/filter/Truth", "or", "(Lcom/example/herald4/herald4/filter/Truth;)Lcom/example/herald4/herald4/filter/Truth;"⟩
abbrev M2 : MethodName := ⟨"java/lang/Math", "max", "(II)I"⟩
abbrev M3 : MethodName := ⟨"com/example/herald4/herald4/filter/TruthOrPinLaw", "rank", "(Lcom/example/herald4/herald4/filter/Truth;)I"⟩
theorem lI2147483647 : (2147483647 : Int32).toInt = 2147483647 := by decide
theorem lI3 : (3 : Int32).toInt = 3 := by decide
theorem lI0 : (0 : Int32).toInt = 0 := by decide
theorem lI1 : (1 : Int32).toInt = 1 := by decide
theorem lI2 : (2 : Int32).toInt = 2 := by decide
def Env1 (Z : State) (a_FALSE : Addr) (a_TRUE : Addr) (a_UNKNOWN : Addr) : Prop := Sta Z Z.heap "com/example/herald4/herald4/filter/Truth" "FALSE" "Lcom/example/herald4/herald4/filter/Truth;" (.ref a_FALSE) ∧
  Exa Z Z.heap a_FALSE "com/example/herald4/herald4/filter/Truth" ∧
  Sta Z Z.heap "com/example/herald4/herald4/filter/Truth" "TRUE" "Lcom/example/herald4/herald4/filter/Truth;" (.ref a_TRUE) ∧
  Exa Z Z.heap a_TRUE "com/example/herald4/herald4/filter/Truth" ∧
  Fld Z Z.heap a_FALSE "java/lang/Enum" "ordinal" "I" (.int (1 : Int32)) ∧
  Fld Z Z.heap a_TRUE "java/lang/Enum" "ordinal" "I" (.int (0 : Int32)) ∧
  Sta Z Z.heap "com/example/herald4/herald4/filter/Truth" "UNKNOWN" "Lcom/example/herald4/herald4/filter/Truth;" (.ref a_UNKNOWN) ∧
  Exa Z Z.heap a_UNKNOWN "com/example/herald4/herald4/filter/Truth" ∧
  Fld Z Z.heap a_UNKNOWN "java/lang/Enum" "ordinal" "I" (.int (2 : Int32))
theorem ef0 (m : MethodId) (x0 : Int32) (x1 : Int32) : entryFrame m #[(.int x0), (.int x1)] maxLocals = mkF m 0 #[.val (.int x0), .val (.int x1), .unset, .unset, .unset, .unset, .unset, .unset] [] := by first | (simp [entryFrame, mkF, argsToLocals, Value.category, maxLocals]; done) | rfl
theorem pn0 : plainName "com/example/herald4/herald4/filter/TruthOrPinLaw" = true := by first | (simp [plainName, overriddenIn]; done) | decide +kernel
theorem ef1 (m : MethodId) (x0 : Int32) : entryFrame m #[(.int x0)] 1 = mkF m 0 #[.val (.int x0)] [] := by first | (simp [entryFrame, mkF, argsToLocals, Value.category]; done) | rfl
theorem d1_0 : decode method_2_code 0 = .ok (.iload_n 0, 1) := by decide +kernel
theorem d1_1 : decode method_2_code 1 = .ok (.ifCond .ne 7, 3) := by decide +kernel
theorem d1_4 : decode method_2_code 4 = .ok (.getstatic 7, 3) := by decide +kernel
theorem d1_7 : decode method_2_code 7 = .ok (.areturn, 1) := by decide +kernel
theorem d1_8 : decode method_2_code 8 = .ok (.iload_n 0, 1) := by decide +kernel
theorem d1_9 : decode method_2_code 9 = .ok (.iconst 1, 1) := by decide +kernel
theorem d1_10 : decode method_2_code 10 = .ok (.if_icmp .ne 7, 3) := by decide +kernel
theorem d1_13 : decode method_2_code 13 = .ok (.getstatic 13, 3) := by decide +kernel
theorem d1_16 : decode method_2_code 16 = .ok (.areturn, 1) := by decide +kernel
theorem d1_17 : decode method_2_code 17 = .ok (.getstatic 16, 3) := by decide +kernel
theorem d1_20 : decode method_2_code 20 = .ok (.areturn, 1) := by decide +kernel
def Q1_0 (Z : State) (a_FALSE : Addr) (a_TRUE : Addr) (a_UNKNOWN : Addr) (i0 : Int32) (h0 : Heap) (n0 : Nat) (v : Option Value) (h : Heap) (L : List Loc) : Prop := Fr n0 L ∧ h = h0 ∧ ((v = some (.ref a_FALSE) ∧ i0 = (0 : Int32)) ∨ (v = some (.ref a_UNKNOWN) ∧ ¬ (i0 = (0 : Int32)) ∧ i0 = (1 : Int32)) ∨ (v = some (.ref a_TRUE) ∧ ¬ (i0 = (0 : Int32)) ∧ ¬ (i0 = (1 : Int32))))
set_option maxRecDepth 65536 in
set_option maxHeartbeats 40000000 in
theorem rm1_0 (l : Launch) (Z : State) (a0 : Array Value) (hw : ∀ d ∈ tables_1, d.before a0 Z = true) (ws : List Jvm.Cond) (a_FALSE : Addr) (a_TRUE : Addr) (a_UNKNOWN : Addr) (i0 : Int32) (h0 : Heap) (n0 : Nat) (O0 : Old Z n0 h0) (HE : Env1 Z a_FALSE a_TRUE a_UNKNOWN)  :
    MetFree l M0 (head1 (Jvm.Cond.code M0 method_2_code 1 (some (.object "com/example/herald4/herald4/filter/Truth")) :: ws) ({ frames := 0, cells := 0, slots := 0, locals := 0 } : Room)) (fun a U => a = #[(.int i0)] ∧ Z.Warmed39 U.vm ∧ U.heap = h0) (fun _ _ _ _ _ => True) (fun _ U o U' => ∃ v L, o = .returned v ∧ Q1_0 Z a_FALSE a_TRUE a_UNKNOWN i0 h0 n0 v U'.heap L ∧ FrameEnd U o U' L ({ frames := 0, cells := 0, slots := 0, locals := 0 } : Room).cells ({ frames := 0, cells := 0, slots := 0, locals := 0 } : Room).slots) := by
 refine MetFree.of_bodySF (plainFor_of_name pn0) hisR ?_
 intro p e s m args below meth c s₁ Bd hml0 hP hK
 obtain ⟨rfl, hZ, hh⟩ := hP
 have hx := Bd.exec
 have hby := Bd.bytes
 have hml : c.maxLocals = 1 := hml0
 have hown : s.vm.findClass "com/example/herald4/herald4/filter/TruthOrPinLaw" = some m.cls := findClass_of_methodNamed Bd.named
 have hnm := (name_of_methodNamed Bd.named Bd.method).1
 have X0 : Stand p l e ({ frames := 0, cells := 0, slots := 0, locals := 0 } : Room) s m #[(.int i0)] below meth c s₁ [] 0 0 := Stand.of_body Bd
 have e0 : s₁.heap = h0 := by rw [← hh, Bd.state]; rfl
 have N0 := Fr.nil n0
 let S0 : State → Prop := fun t => Steps p.tables e below (s₁.setTop (entryFrame m #[(.int i0)] 1)) t
 have p0 : ∀ t, St p e below s₁ (mkF m 0 #[.val (.int i0)] []) t → S0 t := fun t k => castTop (ef1 m i0) k
 have HE' := HE
 obtain ⟨Sa_FALSE, Ea_FALSE, Sa_TRUE, Ea_TRUE, Fa_FALSE_ordinal, Fa_TRUE_ordinal, Sa_UNKNOWN, Ea_UNKNOWN, Fa_UNKNOWN_ordinal⟩ := HE
 have p1 : ∀ t, St p e below s₁ (mkF m 1 #[.val (.int i0)] [(.int i0)]) t → S0 t := fun t k => p0 t (by
   show St p e below s₁ (mkF m 0 #[.val (.int i0)] []) t
   refine XS.iloadN X0.here hx rfl (hb hby d1_0) rfl ?_
   exact k)
 by_cases g2 : i0 = (0 : Int32)
 ·
  have p3 : ∀ t, St p e below s₁ (mkF m 4 #[.val (.int i0)] []) t → S0 t := fun t k => p1 t (by
    show St p e below s₁ (mkF m 1 #[.val (.int i0)] [(.int i0)]) t
    refine XS.ifNo X0.here hx rfl (hb hby d1_1) rfl ((if0 _ _).trans (teq g2).2) ?_
    exact k)
  obtain ⟨T4, X4, e4, st4⟩ := getS2 X0 hx hZ hown (host := "") (Or.inl (ww hw 5 rfl)) Via.refl e0 (Sa_FALSE.ext O0.2) (g := (mkF m 4 #[.val (.int i0)] [])) rfl (hb hby d1_4)
  have p5 : ∀ t, St p e below T4 (mkF m 7 #[.val (.int i0)] [(.ref a_FALSE)]) t → S0 t := fun t k => p3 t (st4 t k)
  obtain ⟨fs, hr, hrun, hended, hW, hsame⟩ := X4.leave (v := some (.ref a_FALSE)) (fun h => by rw [Bd.returns] at h; cases h)
  refine ⟨_, _, p5 _ ?_, hrun, hended, _, _, rfl, ?_, ⟨_, rfl⟩, hW, hsame.mono (by decide) (by decide)⟩
  · exact retOut X4 hx Bd.returns rfl (Or.inr (Or.inr (Or.inr (Or.inr ⟨rfl, rfl, rfl⟩)))) (hb hby d1_7) hr
  · show Q1_0 Z a_FALSE a_TRUE a_UNKNOWN i0 h0 n0 _ T4.heap _
    exact ⟨N0, e4, (Or.inl ⟨rfl, g2⟩)⟩
 ·
  have p6 : ∀ t, St p e below s₁ (mkF m 10 #[.val (.int i0)] [(.int (1 : Int32)), (.int i0)]) t → S0 t := fun t k => p1 t (by
    show St p e below s₁ (mkF m 1 #[.val (.int i0)] [(.int i0)]) t
    refine XS.ifYes X0.here hx rfl (pc0 := 1) (pc' := 8) rfl (hb hby d1_1) rfl ((if0 _ _).trans (feq g2).2) (by decide) (by decide) ?_
    show St p e below s₁ (mkF m 8 #[.val (.int i0)] []) t
    refine XS.iloadN X0.here hx rfl (hb hby d1_8) rfl ?_
    show St p e below s₁ (mkF m 9 #[.val (.int i0)] [(.int i0)]) t
    refine XT.iconstV X0.here hx rfl (1 : Int32) (hb hby d1_9) (by decide) ?_
    exact k)
  by_cases g7 : i0 = (1 : Int32)
  ·
   have p8 : ∀ t, St p e below s₁ (mkF m 13 #[.val (.int i0)] []) t → S0 t := fun t k => p6 t (by
     show St p e below s₁ (mkF m 10 #[.val (.int i0)] [(.int (1 : Int32)), (.int i0)]) t
     refine XS.icmpNo X0.here hx rfl (hb hby d1_10) rfl (teq g7).2 ?_
     exact k)
   obtain ⟨T9, X9, e9, st9⟩ := getS2 X0 hx hZ hown (host := "") (Or.inl (ww hw 26 rfl)) Via.refl e0 (Sa_UNKNOWN.ext O0.2) (g := (mkF m 13 #[.val (.int i0)] [])) rfl (hb hby d1_13)
   have p10 : ∀ t, St p e below T9 (mkF m 16 #[.val (.int i0)] [(.ref a_UNKNOWN)]) t → S0 t := fun t k => p8 t (st9 t k)
   obtain ⟨fs, hr, hrun, hended, hW, hsame⟩ := X9.leave (v := some (.ref a_UNKNOWN)) (fun h => by rw [Bd.returns] at h; cases h)
   refine ⟨_, _, p10 _ ?_, hrun, hended, _, _, rfl, ?_, ⟨_, rfl⟩, hW, hsame.mono (by decide) (by decide)⟩
   · exact retOut X9 hx Bd.returns rfl (Or.inr (Or.inr (Or.inr (Or.inr ⟨rfl, rfl, rfl⟩)))) (hb hby d1_16) hr
   · show Q1_0 Z a_FALSE a_TRUE a_UNKNOWN i0 h0 n0 _ T9.heap _
     exact ⟨N0, e9, (Or.inr (Or.inl ⟨rfl, g2, g7⟩))⟩
  ·
   have p11 : ∀ t, St p e below s₁ (mkF m 17 #[.val (.int i0)] []) t → S0 t := fun t k => p6 t (by
     show St p e below s₁ (mkF m 10 #[.val (.int i0)] [(.int (1 : Int32)), (.int i0)]) t
     refine XS.icmpYes X0.here hx rfl (pc0 := 10) (pc' := 17) rfl (hb hby d1_10) rfl (feq g7).2 (by decide) (by decide) ?_
     exact k)
   obtain ⟨T12, X12, e12, st12⟩ := getS2 X0 hx hZ hown (host := "") (Or.inl (ww hw 25 rfl)) Via.refl e0 (Sa_TRUE.ext O0.2) (g := (mkF m 17 #[.val (.int i0)] [])) rfl (hb hby d1_17)
   have p13 : ∀ t, St p e below T12 (mkF m 20 #[.val (.int i0)] [(.ref a_TRUE)]) t → S0 t := fun t k => p11 t (st12 t k)
   obtain ⟨fs, hr, hrun, hended, hW, hsame⟩ := X12.leave (v := some (.ref a_TRUE)) (fun h => by rw [Bd.returns] at h; cases h)
   refine ⟨_, _, p13 _ ?_, hrun, hended, _, _, rfl, ?_, ⟨_, rfl⟩, hW, hsame.mono (by decide) (by decide)⟩
   · exact retOut X12 hx Bd.returns rfl (Or.inr (Or.inr (Or.inr (Or.inr ⟨rfl, rfl, rfl⟩)))) (hb hby d1_20) hr
   · show Q1_0 Z a_FALSE a_TRUE a_UNKNOWN i0 h0 n0 _ T12.heap _
     exact ⟨N0, e12, (Or.inr (Or.inr (⟨rfl, g2, g7⟩)))⟩
theorem pd0 : parseMethodDescriptor "(I)Lcom/example/herald4/herald4/filter/Truth;" = some ⟨[.int], some (.object "com/example/herald4/herald4/filter/Truth")⟩ := by decide +kernel
theorem ef2 (m : MethodId) (x0 : Addr) (x1 : Addr) : entryFrame m #[(.ref x0), (.ref x1)] 3 = mkF m 0 #[.val (.ref x0), .val (.ref x1), .unset] [] := by first | (simp [entryFrame, mkF, argsToLocals, Value.category]; done) | rfl
theorem pn1 : plainName "com/example/herald4/herald4/filter/Truth" = true := by first | (simp [plainName, overriddenIn]; done) | decide +kernel
theorem d2_0 : decode prog_32_method_7_code 0 = .ok (.aload_n 0, 1) := by decide +kernel
theorem d2_1 : decode prog_32_method_7_code 1 = .ok (.getstatic 3, 3) := by decide +kernel
theorem d2_4 : decode prog_32_method_7_code 4 = .ok (.if_acmp .eq 10, 3) := by decide +kernel
theorem d2_7 : decode prog_32_method_7_code 7 = .ok (.aload_n 1, 1) := by decide +kernel
theorem d2_8 : decode prog_32_method_7_code 8 = .ok (.getstatic 3, 3) := by decide +kernel
theorem d2_11 : decode prog_32_method_7_code 11 = .ok (.if_acmp .ne 10, 3) := by decide +kernel
theorem d2_21 : decode prog_32_method_7_code 21 = .ok (.aload_n 0, 1) := by decide +kernel
theorem d2_22 : decode prog_32_method_7_code 22 = .ok (.getstatic 10, 3) := by decide +kernel
theorem d2_25 : decode prog_32_method_7_code 25 = .ok (.if_acmp .eq 10, 3) := by decide +kernel
theorem d2_28 : decode prog_32_method_7_code 28 = .ok (.aload_n 1, 1) := by decide +kernel
theorem d2_29 : decode prog_32_method_7_code 29 = .ok (.getstatic 10, 3) := by decide +kernel
theorem d2_32 : decode prog_32_method_7_code 32 = .ok (.if_acmp .ne 10, 3) := by decide +kernel
theorem d2_42 : decode prog_32_method_7_code 42 = .ok (.getstatic 7, 3) := by decide +kernel
theorem d2_45 : decode prog_32_method_7_code 45 = .ok (.astore_n 2, 1) := by decide +kernel
theorem d2_46 : decode prog_32_method_7_code 46 = .ok (.aload_n 2, 1) := by decide +kernel
theorem d2_47 : decode prog_32_method_7_code 47 = .ok (.areturn, 1) := by decide +kernel
def Q2_1 (Z : State) (a_FALSE : Addr) (a_TRUE : Addr) (a_UNKNOWN : Addr) (h0 : Heap) (n0 : Nat) (v : Option Value) (h : Heap) (L : List Loc) : Prop := Fr n0 L ∧ h = h0 ∧ ((v = some (.ref a_FALSE)))
set_option maxRecDepth 65536 in
set_option maxHeartbeats 40000000 in
theorem rm2_1 (l : Launch) (Z : State) (a0 : Array Value) (hw : ∀ d ∈ tables_1, d.before a0 Z = true) (ws : List Jvm.Cond) (a_FALSE : Addr) (a_TRUE : Addr) (a_UNKNOWN : Addr) (h0 : Heap) (n0 : Nat) (O0 : Old Z n0 h0) (HE : Env1 Z a_FALSE a_TRUE a_UNKNOWN)  :
    MetFree l M1 (head1 (Jvm.Cond.code M1 prog_32_method_7_code 3 (some (.object "com/example/herald4/herald4/filter/Truth")) :: ws) ({ frames := 0, cells := 0, slots := 0, locals := 0 } : Room)) (fun a U => a = #[(.ref a_FALSE), (.ref a_FALSE)] ∧ Z.Warmed39 U.vm ∧ U.heap = h0) (fun _ _ _ _ _ => True) (fun _ U o U' => ∃ v L, o = .returned v ∧ Q2_1 Z a_FALSE a_TRUE a_UNKNOWN h0 n0 v U'.heap L ∧ FrameEnd U o U' L ({ frames := 0, cells := 0, slots := 0, locals := 0 } : Room).cells ({ frames := 0, cells := 0, slots := 0, locals := 0 } : Room).slots) := by
 refine MetFree.of_bodySF (plainFor_of_name pn1) hisR ?_
 intro p e s m args below meth c s₁ Bd hml0 hP hK
 obtain ⟨rfl, hZ, hh⟩ := hP
 have hx := Bd.exec
 have hby := Bd.bytes
 have hml : c.maxLocals = 3 := hml0
 have hown : s.vm.findClass "com/example/herald4/herald4/filter/Truth" = some m.cls := findClass_of_methodNamed Bd.named
 have hnm := (name_of_methodNamed Bd.named Bd.method).1
 have X0 : Stand p l e ({ frames := 0, cells := 0, slots := 0, locals := 0 } : Room) s m #[(.ref a_FALSE), (.ref a_FALSE)] below meth c s₁ [] 0 0 := Stand.of_body Bd
 have e0 : s₁.heap = h0 := by rw [← hh, Bd.state]; rfl
 have N0 := Fr.nil n0
 let S0 : State → Prop := fun t => Steps p.tables e below (s₁.setTop (entryFrame m #[(.ref a_FALSE), (.ref a_FALSE)] 3)) t
 have p0 : ∀ t, St p e below s₁ (mkF m 0 #[.val (.ref a_FALSE), .val (.ref a_FALSE), .unset] []) t → S0 t := fun t k => castTop (ef2 m a_FALSE a_FALSE) k
 have HE' := HE
 obtain ⟨Sa_FALSE, Ea_FALSE, Sa_TRUE, Ea_TRUE, Fa_FALSE_ordinal, Fa_TRUE_ordinal, Sa_UNKNOWN, Ea_UNKNOWN, Fa_UNKNOWN_ordinal⟩ := HE
 have p1 : ∀ t, St p e below s₁ (mkF m 1 #[.val (.ref a_FALSE), .val (.ref a_FALSE), .unset] [(.ref a_FALSE)]) t → S0 t := fun t k => p0 t (by
   show St p e below s₁ (mkF m 0 #[.val (.ref a_FALSE), .val (.ref a_FALSE), .unset] []) t
   refine XS.aloadN X0.here hx rfl (hb hby d2_0) rfl rfl ?_
   exact k)
 obtain ⟨T2, X2, e2, st2⟩ := getS2 X0 hx hZ hown (host := "") (Or.inl (ww hw 13 rfl)) Via.refl e0 (Sa_TRUE.ext O0.2) (g := (mkF m 1 #[.val (.ref a_FALSE), .val (.ref a_FALSE), .unset] [(.ref a_FALSE)])) rfl (hb hby d2_1)
 have p3 : ∀ t, St p e below T2 (mkF m 4 #[.val (.ref a_FALSE), .val (.ref a_FALSE), .unset] [(.ref a_TRUE), (.ref a_FALSE)]) t → S0 t := fun t k => p1 t (st2 t k)
 have p4 : ∀ t, St p e below T2 (mkF m 8 #[.val (.ref a_FALSE), .val (.ref a_FALSE), .unset] [(.ref a_FALSE)]) t → S0 t := fun t k => p3 t (by
   show St p e below T2 (mkF m 4 #[.val (.ref a_FALSE), .val (.ref a_FALSE), .unset] [(.ref a_TRUE), (.ref a_FALSE)]) t
   refine Jvm.RoadKit.acmp (g := (mkF m 4 #[.val (.ref a_FALSE), .val (.ref a_FALSE), .unset] [(.ref a_TRUE), (.ref a_FALSE)])) X2 hx rfl rfl rfl (pc0 := 4) (pc' := 7) (same := false) rfl (hb hby d2_4) rfl (decide_eq_false fun q => (Fld.ne Fa_FALSE_ordinal Fa_TRUE_ordinal (fun q => absurd (Value.int.inj q) (by decide))) (Value.ref.inj q)) (by decide) (by decide) ?_
   show St p e below T2 (mkF m 7 #[.val (.ref a_FALSE), .val (.ref a_FALSE), .unset] []) t
   refine XS.aloadN X2.here hx rfl (hb hby d2_7) rfl rfl ?_
   exact k)
 obtain ⟨T5, X5, e5, st5⟩ := getS2 X2 hx hZ hown (host := "") (Or.inl (ww hw 13 rfl)) Via.refl e2 (Sa_TRUE.ext O0.2) (g := (mkF m 8 #[.val (.ref a_FALSE), .val (.ref a_FALSE), .unset] [(.ref a_FALSE)])) rfl (hb hby d2_8)
 have p6 : ∀ t, St p e below T5 (mkF m 11 #[.val (.ref a_FALSE), .val (.ref a_FALSE), .unset] [(.ref a_TRUE), (.ref a_FALSE)]) t → S0 t := fun t k => p4 t (st5 t k)
 have p7 : ∀ t, St p e below T5 (mkF m 22 #[.val (.ref a_FALSE), .val (.ref a_FALSE), .unset] [(.ref a_FALSE)]) t → S0 t := fun t k => p6 t (by
   show St p e below T5 (mkF m 11 #[.val (.ref a_FALSE), .val (.ref a_FALSE), .unset] [(.ref a_TRUE), (.ref a_FALSE)]) t
   refine Jvm.RoadKit.acmp (g := (mkF m 11 #[.val (.ref a_FALSE), .val (.ref a_FALSE), .unset] [(.ref a_TRUE), (.ref a_FALSE)])) X5 hx rfl rfl rfl (pc0 := 11) (pc' := 21) (same := false) rfl (hb hby d2_11) rfl (decide_eq_false fun q => (Fld.ne Fa_FALSE_ordinal Fa_TRUE_ordinal (fun q => absurd (Value.int.inj q) (by decide))) (Value.ref.inj q)) (by decide) (by decide) ?_
   show St p e below T5 (mkF m 21 #[.val (.ref a_FALSE), .val (.ref a_FALSE), .unset] []) t
   refine XS.aloadN X5.here hx rfl (hb hby d2_21) rfl rfl ?_
   exact k)
 obtain ⟨T8, X8, e8, st8⟩ := getS2 X5 hx hZ hown (host := "") (Or.inl (ww hw 15 rfl)) Via.refl e5 (Sa_UNKNOWN.ext O0.2) (g := (mkF m 22 #[.val (.ref a_FALSE), .val (.ref a_FALSE), .unset] [(.ref a_FALSE)])) rfl (hb hby d2_22)
 have p9 : ∀ t, St p e below T8 (mkF m 25 #[.val (.ref a_FALSE), .val (.ref a_FALSE), .unset] [(.ref a_UNKNOWN), (.ref a_FALSE)]) t → S0 t := fun t k => p7 t (st8 t k)
 have p10 : ∀ t, St p e below T8 (mkF m 29 #[.val (.ref a_FALSE), .val (.ref a_FALSE), .unset] [(.ref a_FALSE)]) t → S0 t := fun t k => p9 t (by
   show St p e below T8 (mkF m 25 #[.val (.ref a_FALSE), .val (.ref a_FALSE), .unset] [(.ref a_UNKNOWN), (.ref a_FALSE)]) t
   refine Jvm.RoadKit.acmp (g := (mkF m 25 #[.val (.ref a_FALSE), .val (.ref a_FALSE), .unset] [(.ref a_UNKNOWN), (.ref a_FALSE)])) X8 hx rfl rfl rfl (pc0 := 25) (pc' := 28) (same := false) rfl (hb hby d2_25) rfl (decide_eq_false fun q => (Fld.ne Fa_FALSE_ordinal Fa_UNKNOWN_ordinal (fun q => absurd (Value.int.inj q) (by decide))) (Value.ref.inj q)) (by decide) (by decide) ?_
   show St p e below T8 (mkF m 28 #[.val (.ref a_FALSE), .val (.ref a_FALSE), .unset] []) t
   refine XS.aloadN X8.here hx rfl (hb hby d2_28) rfl rfl ?_
   exact k)
 obtain ⟨T11, X11, e11, st11⟩ := getS2 X8 hx hZ hown (host := "") (Or.inl (ww hw 15 rfl)) Via.refl e8 (Sa_UNKNOWN.ext O0.2) (g := (mkF m 29 #[.val (.ref a_FALSE), .val (.ref a_FALSE), .unset] [(.ref a_FALSE)])) rfl (hb hby d2_29)
 have p12 : ∀ t, St p e below T11 (mkF m 32 #[.val (.ref a_FALSE), .val (.ref a_FALSE), .unset] [(.ref a_UNKNOWN), (.ref a_FALSE)]) t → S0 t := fun t k => p10 t (st11 t k)
 have p13 : ∀ t, St p e below T11 (mkF m 42 #[.val (.ref a_FALSE), .val (.ref a_FALSE), .unset] []) t → S0 t := fun t k => p12 t (by
   show St p e below T11 (mkF m 32 #[.val (.ref a_FALSE), .val (.ref a_FALSE), .unset] [(.ref a_UNKNOWN), (.ref a_FALSE)]) t
   refine Jvm.RoadKit.acmp (g := (mkF m 32 #[.val (.ref a_FALSE), .val (.ref a_FALSE), .unset] [(.ref a_UNKNOWN), (.ref a_FALSE)])) X11 hx rfl rfl rfl (pc0 := 32) (pc' := 42) (same := false) rfl (hb hby d2_32) rfl (decide_eq_false fun q => (Fld.ne Fa_FALSE_ordinal Fa_UNKNOWN_ordinal (fun q => absurd (Value.int.inj q) (by decide))) (Value.ref.inj q)) (by decide) (by decide) ?_
   exact k)
 obtain ⟨T14, X14, e14, st14⟩ := getS2 X11 hx hZ hown (host := "") (Or.inl (ww hw 17 rfl)) Via.refl e11 (Sa_FALSE.ext O0.2) (g := (mkF m 42 #[.val (.ref a_FALSE), .val (.ref a_FALSE), .unset] [])) rfl (hb hby d2_42)
 have p15 : ∀ t, St p e below T14 (mkF m 45 #[.val (.ref a_FALSE), .val (.ref a_FALSE), .unset] [(.ref a_FALSE)]) t → S0 t := fun t k => p13 t (st14 t k)
 let Ls16 : Array Slot := #[.val (.ref a_FALSE), .val (.ref a_FALSE), .val (.ref a_FALSE)]
 have p17 : ∀ t, St p e below T14 (mkF m 47 Ls16 [(.ref a_FALSE)]) t → S0 t := fun t k => p15 t (by
   show St p e below T14 (mkF m 45 #[.val (.ref a_FALSE), .val (.ref a_FALSE), .unset] [(.ref a_FALSE)]) t
   refine XS.astoreN X14.here hx rfl (hb hby d2_45) rfl rfl (l' := Ls16) rfl ?_
   show St p e below T14 (mkF m 46 Ls16 []) t
   refine XS.aloadN X14.here hx rfl (hb hby d2_46) rfl rfl ?_
   exact k)
 obtain ⟨fs, hr, hrun, hended, hW, hsame⟩ := X14.leave (v := some (.ref a_FALSE)) (fun h => by rw [Bd.returns] at h; cases h)
 refine ⟨_, _, p17 _ ?_, hrun, hended, _, _, rfl, ?_, ⟨_, rfl⟩, hW, hsame.mono (by decide) (by decide)⟩
 · exact retOut X14 hx Bd.returns rfl (Or.inr (Or.inr (Or.inr (Or.inr ⟨rfl, rfl, rfl⟩)))) (hb hby d2_47) hr
 · show Q2_1 Z a_FALSE a_TRUE a_UNKNOWN h0 n0 _ T14.heap _
   exact ⟨N0, e14, rfl⟩
theorem pd1 : parseMethodDescriptor "(Lcom/example/herald4/herald4/filter/Truth;)Lcom/example/herald4/herald4/filter/Truth;" = some ⟨[(.object "com/example/herald4/herald4/filter/Truth")], some (.object "com/example/herald4/herald4/filter/Truth")⟩ := by decide +kernel
theorem ef3 (m : MethodId) (x0 : Int32) (x1 : Int32) : entryFrame m #[(.int x0), (.int x1)] 2 = mkF m 0 #[.val (.int x0), .val (.int x1)] [] := by first | (simp [entryFrame, mkF, argsToLocals, Value.category]; done) | rfl
theorem d3_0 : decode jdk_29_method_65_code 0 = .ok (.iload_n 0, 1) := by decide +kernel
theorem d3_1 : decode jdk_29_method_65_code 1 = .ok (.iload_n 1, 1) := by decide +kernel
theorem d3_2 : decode jdk_29_method_65_code 2 = .ok (.if_icmp .lt 7, 3) := by decide +kernel
theorem d3_5 : decode jdk_29_method_65_code 5 = .ok (.iload_n 0, 1) := by decide +kernel
theorem d3_6 : decode jdk_29_method_65_code 6 = .ok (.goto 4, 3) := by decide +kernel
theorem d3_10 : decode jdk_29_method_65_code 10 = .ok (.ireturn, 1) := by decide +kernel
def Q3_2 (Z : State) (a_FALSE : Addr) (a_TRUE : Addr) (a_UNKNOWN : Addr) (h0 : Heap) (n0 : Nat) (v : Option Value) (h : Heap) (L : List Loc) : Prop := Fr n0 L ∧ h = h0 ∧ ((v = some (.int (0 : Int32))))
set_option maxRecDepth 65536 in
set_option maxHeartbeats 40000000 in
theorem rm3_2 (l : Launch) (Z : State) (a0 : Array Value) (hw : ∀ d ∈ tables_1, d.before a0 Z = true) (ws : List Jvm.Cond) (a_FALSE : Addr) (a_TRUE : Addr) (a_UNKNOWN : Addr) (h0 : Heap) (n0 : Nat) (O0 : Old Z n0 h0) (HE : Env1 Z a_FALSE a_TRUE a_UNKNOWN)  :
    MetFree l M2 (head1 (Jvm.Cond.code M2 jdk_29_method_65_code 2 (some .int) :: ws) ({ frames := 0, cells := 0, slots := 0, locals := 0 } : Room)) (fun a U => a = #[(.int (0 : Int32)), (.int (0 : Int32))] ∧ Z.Warmed39 U.vm ∧ U.heap = h0) (fun _ _ _ _ _ => True) (fun _ U o U' => ∃ v L, o = .returned v ∧ Q3_2 Z a_FALSE a_TRUE a_UNKNOWN h0 n0 v U'.heap L ∧ FrameEnd U o U' L ({ frames := 0, cells := 0, slots := 0, locals := 0 } : Room).cells ({ frames := 0, cells := 0, slots := 0, locals := 0 } : Room).slots) := by
 refine MetFree.of_bodySF (Jvm.Free.JP.mathPlain rfl (by decide +kernel)) hisR ?_
 intro p e s m args below meth c s₁ Bd hml0 hP hK
 obtain ⟨rfl, hZ, hh⟩ := hP
 have hx := Bd.exec
 have hby := Bd.bytes
 have hml : c.maxLocals = 2 := hml0
 have hown : s.vm.findClass "java/lang/Math" = some m.cls := findClass_of_methodNamed Bd.named
 have hnm := (name_of_methodNamed Bd.named Bd.method).1
 have X0 : Stand p l e ({ frames := 0, cells := 0, slots := 0, locals := 0 } : Room) s m #[(.int (0 : Int32)), (.int (0 : Int32))] below meth c s₁ [] 0 0 := Stand.of_body Bd
 have e0 : s₁.heap = h0 := by rw [← hh, Bd.state]; rfl
 have N0 := Fr.nil n0
 let S0 : State → Prop := fun t => Steps p.tables e below (s₁.setTop (entryFrame m #[(.int (0 : Int32)), (.int (0 : Int32))] 2)) t
 have p0 : ∀ t, St p e below s₁ (mkF m 0 #[.val (.int (0 : Int32)), .val (.int (0 : Int32))] []) t → S0 t := fun t k => castTop (ef3 m (0 : Int32) (0 : Int32)) k
 have HE' := HE
 obtain ⟨Sa_FALSE, Ea_FALSE, Sa_TRUE, Ea_TRUE, Fa_FALSE_ordinal, Fa_TRUE_ordinal, Sa_UNKNOWN, Ea_UNKNOWN, Fa_UNKNOWN_ordinal⟩ := HE
 have p1 : ∀ t, St p e below s₁ (mkF m 10 #[.val (.int (0 : Int32)), .val (.int (0 : Int32))] [(.int (0 : Int32))]) t → S0 t := fun t k => p0 t (by
   show St p e below s₁ (mkF m 0 #[.val (.int (0 : Int32)), .val (.int (0 : Int32))] []) t
   refine XS.iloadN X0.here hx rfl (hb hby d3_0) rfl ?_
   show St p e below s₁ (mkF m 1 #[.val (.int (0 : Int32)), .val (.int (0 : Int32))] [(.int (0 : Int32))]) t
   refine XS.iloadN X0.here hx rfl (hb hby d3_1) rfl ?_
   show St p e below s₁ (mkF m 2 #[.val (.int (0 : Int32)), .val (.int (0 : Int32))] [(.int (0 : Int32)), (.int (0 : Int32))]) t
   refine XS.icmpNo X0.here hx rfl (hb hby d3_2) rfl (flt (by decide : ¬ ((0 : Int32) < (0 : Int32)))).1 ?_
   show St p e below s₁ (mkF m 5 #[.val (.int (0 : Int32)), .val (.int (0 : Int32))] []) t
   refine XS.iloadN X0.here hx rfl (hb hby d3_5) rfl ?_
   show St p e below s₁ (mkF m 6 #[.val (.int (0 : Int32)), .val (.int (0 : Int32))] [(.int (0 : Int32))]) t
   refine XS.goto X0.here hx rfl (pc0 := 6) (pc' := 10) rfl (hb hby d3_6) (by decide) (by decide) ?_
   exact k)
 obtain ⟨fs, hr, hrun, hended, hW, hsame⟩ := X0.leave (v := some (.int (0 : Int32))) (fun h => by rw [Bd.returns] at h; cases h)
 refine ⟨_, _, p1 _ ?_, hrun, hended, _, _, rfl, ?_, ⟨_, rfl⟩, hW, hsame.mono (by decide) (by decide)⟩
 · exact retOut X0 hx Bd.returns rfl (Or.inl ⟨rfl, by simp, _, rfl⟩) (hb hby d3_10) hr
 · show Q3_2 Z a_FALSE a_TRUE a_UNKNOWN h0 n0 _ s₁.heap _
   exact ⟨N0, e0, rfl⟩
theorem pd2 : parseMethodDescriptor "(II)I" = some ⟨[.int, .int], some .int⟩ := by decide +kernel
theorem ef4 (m : MethodId) (x0 : Addr) : entryFrame m #[(.ref x0)] 1 = mkF m 0 #[.val (.ref x0)] [] := by first | (simp [entryFrame, mkF, argsToLocals, Value.category]; done) | rfl
theorem d4_0 : decode method_3_code 0 = .ok (.aload_n 0, 1) := by decide +kernel
theorem d4_1 : decode method_3_code 1 = .ok (.getstatic 7, 3) := by decide +kernel
theorem d4_4 : decode method_3_code 4 = .ok (.if_acmp .ne 5, 3) := by decide +kernel
theorem d4_7 : decode method_3_code 7 = .ok (.iconst 0, 1) := by decide +kernel
theorem d4_8 : decode method_3_code 8 = .ok (.ireturn, 1) := by decide +kernel
def Q4_3 (Z : State) (a_FALSE : Addr) (a_TRUE : Addr) (a_UNKNOWN : Addr) (h0 : Heap) (n0 : Nat) (v : Option Value) (h : Heap) (L : List Loc) : Prop := Fr n0 L ∧ h = h0 ∧ ((v = some (.int (0 : Int32))))
set_option maxRecDepth 65536 in
set_option maxHeartbeats 40000000 in
theorem rm4_3 (l : Launch) (Z : State) (a0 : Array Value) (hw : ∀ d ∈ tables_1, d.before a0 Z = true) (ws : List Jvm.Cond) (a_FALSE : Addr) (a_TRUE : Addr) (a_UNKNOWN : Addr) (h0 : Heap) (n0 : Nat) (O0 : Old Z n0 h0) (HE : Env1 Z a_FALSE a_TRUE a_UNKNOWN)  :
    MetFree l M3 (head1 (Jvm.Cond.code M3 method_3_code 1 (some .int) :: ws) ({ frames := 0, cells := 0, slots := 0, locals := 0 } : Room)) (fun a U => a = #[(.ref a_FALSE)] ∧ Z.Warmed39 U.vm ∧ U.heap = h0) (fun _ _ _ _ _ => True) (fun _ U o U' => ∃ v L, o = .returned v ∧ Q4_3 Z a_FALSE a_TRUE a_UNKNOWN h0 n0 v U'.heap L ∧ FrameEnd U o U' L ({ frames := 0, cells := 0, slots := 0, locals := 0 } : Room).cells ({ frames := 0, cells := 0, slots := 0, locals := 0 } : Room).slots) := by
 refine MetFree.of_bodySF (plainFor_of_name pn0) hisR ?_
 intro p e s m args below meth c s₁ Bd hml0 hP hK
 obtain ⟨rfl, hZ, hh⟩ := hP
 have hx := Bd.exec
 have hby := Bd.bytes
 have hml : c.maxLocals = 1 := hml0
 have hown : s.vm.findClass "com/example/herald4/herald4/filter/TruthOrPinLaw" = some m.cls := findClass_of_methodNamed Bd.named
 have hnm := (name_of_methodNamed Bd.named Bd.method).1
 have X0 : Stand p l e ({ frames := 0, cells := 0, slots := 0, locals := 0 } : Room) s m #[(.ref a_FALSE)] below meth c s₁ [] 0 0 := Stand.of_body Bd
 have e0 : s₁.heap = h0 := by rw [← hh, Bd.state]; rfl
 have N0 := Fr.nil n0
 let S0 : State → Prop := fun t => Steps p.tables e below (s₁.setTop (entryFrame m #[(.ref a_FALSE)] 1)) t
 have p0 : ∀ t, St p e below s₁ (mkF m 0 #[.val (.ref a_FALSE)] []) t → S0 t := fun t k => castTop (ef4 m a_FALSE) k
 have HE' := HE
 obtain ⟨Sa_FALSE, Ea_FALSE, Sa_TRUE, Ea_TRUE, Fa_FALSE_ordinal, Fa_TRUE_ordinal, Sa_UNKNOWN, Ea_UNKNOWN, Fa_UNKNOWN_ordinal⟩ := HE
 have p1 : ∀ t, St p e below s₁ (mkF m 1 #[.val (.ref a_FALSE)] [(.ref a_FALSE)]) t → S0 t := fun t k => p0 t (by
   show St p e below s₁ (mkF m 0 #[.val (.ref a_FALSE)] []) t
   refine XS.aloadN X0.here hx rfl (hb hby d4_0) rfl rfl ?_
   exact k)
 obtain ⟨T2, X2, e2, st2⟩ := getS2 X0 hx hZ hown (host := "") (Or.inl (ww hw 5 rfl)) Via.refl e0 (Sa_FALSE.ext O0.2) (g := (mkF m 1 #[.val (.ref a_FALSE)] [(.ref a_FALSE)])) rfl (hb hby d4_1)
 have p3 : ∀ t, St p e below T2 (mkF m 4 #[.val (.ref a_FALSE)] [(.ref a_FALSE), (.ref a_FALSE)]) t → S0 t := fun t k => p1 t (st2 t k)
 have p4 : ∀ t, St p e below T2 (mkF m 8 #[.val (.ref a_FALSE)] [(.int (0 : Int32))]) t → S0 t := fun t k => p3 t (by
   show St p e below T2 (mkF m 4 #[.val (.ref a_FALSE)] [(.ref a_FALSE), (.ref a_FALSE)]) t
   refine Jvm.RoadKit.acmp (g := (mkF m 4 #[.val (.ref a_FALSE)] [(.ref a_FALSE), (.ref a_FALSE)])) X2 hx rfl rfl rfl (pc0 := 4) (pc' := 7) (same := true) rfl (hb hby d4_4) rfl (decide_eq_true rfl) (by decide) (by decide) ?_
   show St p e below T2 (mkF m 7 #[.val (.ref a_FALSE)] []) t
   refine XT.iconstV X2.here hx rfl (0 : Int32) (hb hby d4_7) (by decide) ?_
   exact k)
 obtain ⟨fs, hr, hrun, hended, hW, hsame⟩ := X2.leave (v := some (.int (0 : Int32))) (fun h => by rw [Bd.returns] at h; cases h)
 refine ⟨_, _, p4 _ ?_, hrun, hended, _, _, rfl, ?_, ⟨_, rfl⟩, hW, hsame.mono (by decide) (by decide)⟩
 · exact retOut X2 hx Bd.returns rfl (Or.inl ⟨rfl, by simp, _, rfl⟩) (hb hby d4_8) hr
 · show Q4_3 Z a_FALSE a_TRUE a_UNKNOWN h0 n0 _ T2.heap _
   exact ⟨N0, e2, rfl⟩
theorem pd3 : parseMethodDescriptor "(Lcom/example/herald4/herald4/filter/Truth;)I" = some ⟨[(.object "com/example/herald4/herald4/filter/Truth")], some .int⟩ := by decide +kernel
theorem d2_35 : decode prog_32_method_7_code 35 = .ok (.getstatic 10, 3) := by decide +kernel
theorem d2_38 : decode prog_32_method_7_code 38 = .ok (.astore_n 2, 1) := by decide +kernel
theorem d2_39 : decode prog_32_method_7_code 39 = .ok (.goto 7, 3) := by decide +kernel
def Q2_4 (Z : State) (a_FALSE : Addr) (a_TRUE : Addr) (a_UNKNOWN : Addr) (h0 : Heap) (n0 : Nat) (v : Option Value) (h : Heap) (L : List Loc) : Prop := Fr n0 L ∧ h = h0 ∧ ((v = some (.ref a_UNKNOWN)))
set_option maxRecDepth 65536 in
set_option maxHeartbeats 40000000 in
theorem rm2_4 (l : Launch) (Z : State) (a0 : Array Value) (hw : ∀ d ∈ tables_1, d.before a0 Z = true) (ws : List Jvm.Cond) (a_FALSE : Addr) (a_TRUE : Addr) (a_UNKNOWN : Addr) (h0 : Heap) (n0 : Nat) (O0 : Old Z n0 h0) (HE : Env1 Z a_FALSE a_TRUE a_UNKNOWN)  :
    MetFree l M1 (head1 (Jvm.Cond.code M1 prog_32_method_7_code 3 (some (.object "com/example/herald4/herald4/filter/Truth")) :: ws) ({ frames := 0, cells := 0, slots := 0, locals := 0 } : Room)) (fun a U => a = #[(.ref a_FALSE), (.ref a_UNKNOWN)] ∧ Z.Warmed39 U.vm ∧ U.heap = h0) (fun _ _ _ _ _ => True) (fun _ U o U' => ∃ v L, o = .returned v ∧ Q2_4 Z a_FALSE a_TRUE a_UNKNOWN h0 n0 v U'.heap L ∧ FrameEnd U o U' L ({ frames := 0, cells := 0, slots := 0, locals := 0 } : Room).cells ({ frames := 0, cells := 0, slots := 0, locals := 0 } : Room).slots) := by
 refine MetFree.of_bodySF (plainFor_of_name pn1) hisR ?_
 intro p e s m args below meth c s₁ Bd hml0 hP hK
 obtain ⟨rfl, hZ, hh⟩ := hP
 have hx := Bd.exec
 have hby := Bd.bytes
 have hml : c.maxLocals = 3 := hml0
 have hown : s.vm.findClass "com/example/herald4/herald4/filter/Truth" = some m.cls := findClass_of_methodNamed Bd.named
 have hnm := (name_of_methodNamed Bd.named Bd.method).1
 have X0 : Stand p l e ({ frames := 0, cells := 0, slots := 0, locals := 0 } : Room) s m #[(.ref a_FALSE), (.ref a_UNKNOWN)] below meth c s₁ [] 0 0 := Stand.of_body Bd
 have e0 : s₁.heap = h0 := by rw [← hh, Bd.state]; rfl
 have N0 := Fr.nil n0
 let S0 : State → Prop := fun t => Steps p.tables e below (s₁.setTop (entryFrame m #[(.ref a_FALSE), (.ref a_UNKNOWN)] 3)) t
 have p0 : ∀ t, St p e below s₁ (mkF m 0 #[.val (.ref a_FALSE), .val (.ref a_UNKNOWN), .unset] []) t → S0 t := fun t k => castTop (ef2 m a_FALSE a_UNKNOWN) k
 have HE' := HE
 obtain ⟨Sa_FALSE, Ea_FALSE, Sa_TRUE, Ea_TRUE, Fa_FALSE_ordinal, Fa_TRUE_ordinal, Sa_UNKNOWN, Ea_UNKNOWN, Fa_UNKNOWN_ordinal⟩ := HE
 have p1 : ∀ t, St p e below s₁ (mkF m 1 #[.val (.ref a_FALSE), .val (.ref a_UNKNOWN), .unset] [(.ref a_FALSE)]) t → S0 t := fun t k => p0 t (by
   show St p e below s₁ (mkF m 0 #[.val (.ref a_FALSE), .val (.ref a_UNKNOWN), .unset] []) t
   refine XS.aloadN X0.here hx rfl (hb hby d2_0) rfl rfl ?_
   exact k)
 obtain ⟨T2, X2, e2, st2⟩ := getS2 X0 hx hZ hown (host := "") (Or.inl (ww hw 13 rfl)) Via.refl e0 (Sa_TRUE.ext O0.2) (g := (mkF m 1 #[.val (.ref a_FALSE), .val (.ref a_UNKNOWN), .unset] [(.ref a_FALSE)])) rfl (hb hby d2_1)
 have p3 : ∀ t, St p e below T2 (mkF m 4 #[.val (.ref a_FALSE), .val (.ref a_UNKNOWN), .unset] [(.ref a_TRUE), (.ref a_FALSE)]) t → S0 t := fun t k => p1 t (st2 t k)
 have p4 : ∀ t, St p e below T2 (mkF m 8 #[.val (.ref a_FALSE), .val (.ref a_UNKNOWN), .unset] [(.ref a_UNKNOWN)]) t → S0 t := fun t k => p3 t (by
   show St p e below T2 (mkF m 4 #[.val (.ref a_FALSE), .val (.ref a_UNKNOWN), .unset] [(.ref a_TRUE), (.ref a_FALSE)]) t
   refine Jvm.RoadKit.acmp (g := (mkF m 4 #[.val (.ref a_FALSE), .val (.ref a_UNKNOWN), .unset] [(.ref a_TRUE), (.ref a_FALSE)])) X2 hx rfl rfl rfl (pc0 := 4) (pc' := 7) (same := false) rfl (hb hby d2_4) rfl (decide_eq_false fun q => (Fld.ne Fa_FALSE_ordinal Fa_TRUE_ordinal (fun q => absurd (Value.int.inj q) (by decide))) (Value.ref.inj q)) (by decide) (by decide) ?_
   show St p e below T2 (mkF m 7 #[.val (.ref a_FALSE), .val (.ref a_UNKNOWN), .unset] []) t
   refine XS.aloadN X2.here hx rfl (hb hby d2_7) rfl rfl ?_
   exact k)
 obtain ⟨T5, X5, e5, st5⟩ := getS2 X2 hx hZ hown (host := "") (Or.inl (ww hw 13 rfl)) Via.refl e2 (Sa_TRUE.ext O0.2) (g := (mkF m 8 #[.val (.ref a_FALSE), .val (.ref a_UNKNOWN), .unset] [(.ref a_UNKNOWN)])) rfl (hb hby d2_8)
 have p6 : ∀ t, St p e below T5 (mkF m 11 #[.val (.ref a_FALSE), .val (.ref a_UNKNOWN), .unset] [(.ref a_TRUE), (.ref a_UNKNOWN)]) t → S0 t := fun t k => p4 t (st5 t k)
 have p7 : ∀ t, St p e below T5 (mkF m 22 #[.val (.ref a_FALSE), .val (.ref a_UNKNOWN), .unset] [(.ref a_FALSE)]) t → S0 t := fun t k => p6 t (by
   show St p e below T5 (mkF m 11 #[.val (.ref a_FALSE), .val (.ref a_UNKNOWN), .unset] [(.ref a_TRUE), (.ref a_UNKNOWN)]) t
   refine Jvm.RoadKit.acmp (g := (mkF m 11 #[.val (.ref a_FALSE), .val (.ref a_UNKNOWN), .unset] [(.ref a_TRUE), (.ref a_UNKNOWN)])) X5 hx rfl rfl rfl (pc0 := 11) (pc' := 21) (same := false) rfl (hb hby d2_11) rfl (decide_eq_false fun q => (Fld.ne Fa_UNKNOWN_ordinal Fa_TRUE_ordinal (fun q => absurd (Value.int.inj q) (by decide))) (Value.ref.inj q)) (by decide) (by decide) ?_
   show St p e below T5 (mkF m 21 #[.val (.ref a_FALSE), .val (.ref a_UNKNOWN), .unset] []) t
   refine XS.aloadN X5.here hx rfl (hb hby d2_21) rfl rfl ?_
   exact k)
 obtain ⟨T8, X8, e8, st8⟩ := getS2 X5 hx hZ hown (host := "") (Or.inl (ww hw 15 rfl)) Via.refl e5 (Sa_UNKNOWN.ext O0.2) (g := (mkF m 22 #[.val (.ref a_FALSE), .val (.ref a_UNKNOWN), .unset] [(.ref a_FALSE)])) rfl (hb hby d2_22)
 have p9 : ∀ t, St p e below T8 (mkF m 25 #[.val (.ref a_FALSE), .val (.ref a_UNKNOWN), .unset] [(.ref a_UNKNOWN), (.ref a_FALSE)]) t → S0 t := fun t k => p7 t (st8 t k)
 have p10 : ∀ t, St p e below T8 (mkF m 29 #[.val (.ref a_FALSE), .val (.ref a_UNKNOWN), .unset] [(.ref a_UNKNOWN)]) t → S0 t := fun t k => p9 t (by
   show St p e below T8 (mkF m 25 #[.val (.ref a_FALSE), .val (.ref a_UNKNOWN), .unset] [(.ref a_UNKNOWN), (.ref a_FALSE)]) t
   refine Jvm.RoadKit.acmp (g := (mkF m 25 #[.val (.ref a_FALSE), .val (.ref a_UNKNOWN), .unset] [(.ref a_UNKNOWN), (.ref a_FALSE)])) X8 hx rfl rfl rfl (pc0 := 25) (pc' := 28) (same := false) rfl (hb hby d2_25) rfl (decide_eq_false fun q => (Fld.ne Fa_FALSE_ordinal Fa_UNKNOWN_ordinal (fun q => absurd (Value.int.inj q) (by decide))) (Value.ref.inj q)) (by decide) (by decide) ?_
   show St p e below T8 (mkF m 28 #[.val (.ref a_FALSE), .val (.ref a_UNKNOWN), .unset] []) t
   refine XS.aloadN X8.here hx rfl (hb hby d2_28) rfl rfl ?_
   exact k)
 obtain ⟨T11, X11, e11, st11⟩ := getS2 X8 hx hZ hown (host := "") (Or.inl (ww hw 15 rfl)) Via.refl e8 (Sa_UNKNOWN.ext O0.2) (g := (mkF m 29 #[.val (.ref a_FALSE), .val (.ref a_UNKNOWN), .unset] [(.ref a_UNKNOWN)])) rfl (hb hby d2_29)
 have p12 : ∀ t, St p e below T11 (mkF m 32 #[.val (.ref a_FALSE), .val (.ref a_UNKNOWN), .unset] [(.ref a_UNKNOWN), (.ref a_UNKNOWN)]) t → S0 t := fun t k => p10 t (st11 t k)
 have p13 : ∀ t, St p e below T11 (mkF m 35 #[.val (.ref a_FALSE), .val (.ref a_UNKNOWN), .unset] []) t → S0 t := fun t k => p12 t (by
   show St p e below T11 (mkF m 32 #[.val (.ref a_FALSE), .val (.ref a_UNKNOWN), .unset] [(.ref a_UNKNOWN), (.ref a_UNKNOWN)]) t
   refine Jvm.RoadKit.acmp (g := (mkF m 32 #[.val (.ref a_FALSE), .val (.ref a_UNKNOWN), .unset] [(.ref a_UNKNOWN), (.ref a_UNKNOWN)])) X11 hx rfl rfl rfl (pc0 := 32) (pc' := 35) (same := true) rfl (hb hby d2_32) rfl (decide_eq_true rfl) (by decide) (by decide) ?_
   exact k)
 obtain ⟨T14, X14, e14, st14⟩ := getS2 X11 hx hZ hown (host := "") (Or.inl (ww hw 15 rfl)) Via.refl e11 (Sa_UNKNOWN.ext O0.2) (g := (mkF m 35 #[.val (.ref a_FALSE), .val (.ref a_UNKNOWN), .unset] [])) rfl (hb hby d2_35)
 have p15 : ∀ t, St p e below T14 (mkF m 38 #[.val (.ref a_FALSE), .val (.ref a_UNKNOWN), .unset] [(.ref a_UNKNOWN)]) t → S0 t := fun t k => p13 t (st14 t k)
 let Ls16 : Array Slot := #[.val (.ref a_FALSE), .val (.ref a_UNKNOWN), .val (.ref a_UNKNOWN)]
 have p17 : ∀ t, St p e below T14 (mkF m 47 Ls16 [(.ref a_UNKNOWN)]) t → S0 t := fun t k => p15 t (by
   show St p e below T14 (mkF m 38 #[.val (.ref a_FALSE), .val (.ref a_UNKNOWN), .unset] [(.ref a_UNKNOWN)]) t
   refine XS.astoreN X14.here hx rfl (hb hby d2_38) rfl rfl (l' := Ls16) rfl ?_
   show St p e below T14 (mkF m 39 Ls16 []) t
   refine XS.goto X14.here hx rfl (pc0 := 39) (pc' := 46) rfl (hb hby d2_39) (by decide) (by decide) ?_
   show St p e below T14 (mkF m 46 Ls16 []) t
   refine XS.aloadN X14.here hx rfl (hb hby d2_46) rfl rfl ?_
   exact k)
 obtain ⟨fs, hr, hrun, hended, hW, hsame⟩ := X14.leave (v := some (.ref a_UNKNOWN)) (fun h => by rw [Bd.returns] at h; cases h)
 refine ⟨_, _, p17 _ ?_, hrun, hended, _, _, rfl, ?_, ⟨_, rfl⟩, hW, hsame.mono (by decide) (by decide)⟩
 · exact retOut X14 hx Bd.returns rfl (Or.inr (Or.inr (Or.inr (Or.inr ⟨rfl, rfl, rfl⟩)))) (hb hby d2_47) hr
 · show Q2_4 Z a_FALSE a_TRUE a_UNKNOWN h0 n0 _ T14.heap _
   exact ⟨N0, e14, rfl⟩
theorem d3_9 : decode jdk_29_method_65_code 9 = .ok (.iload_n 1, 1) := by decide +kernel
def Q3_5 (Z : State) (a_FALSE : Addr) (a_TRUE : Addr) (a_UNKNOWN : Addr) (h0 : Heap) (n0 : Nat) (v : Option Value) (h : Heap) (L : List Loc) : Prop := Fr n0 L ∧ h = h0 ∧ ((v = some (.int (1 : Int32))))
set_option maxRecDepth 65536 in
set_option maxHeartbeats 40000000 in
theorem rm3_5 (l : Launch) (Z : State) (a0 : Array Value) (hw : ∀ d ∈ tables_1, d.before a0 Z = true) (ws : List Jvm.Cond) (a_FALSE : Addr) (a_TRUE : Addr) (a_UNKNOWN : Addr) (h0 : Heap) (n0 : Nat) (O0 : Old Z n0 h0) (HE : Env1 Z a_FALSE a_TRUE a_UNKNOWN)  :
    MetFree l M2 (head1 (Jvm.Cond.code M2 jdk_29_method_65_code 2 (some .int) :: ws) ({ frames := 0, cells := 0, slots := 0, locals := 0 } : Room)) (fun a U => a = #[(.int (0 : Int32)), (.int (1 : Int32))] ∧ Z.Warmed39 U.vm ∧ U.heap = h0) (fun _ _ _ _ _ => True) (fun _ U o U' => ∃ v L, o = .returned v ∧ Q3_5 Z a_FALSE a_TRUE a_UNKNOWN h0 n0 v U'.heap L ∧ FrameEnd U o U' L ({ frames := 0, cells := 0, slots := 0, locals := 0 } : Room).cells ({ frames := 0, cells := 0, slots := 0, locals := 0 } : Room).slots) := by
 refine MetFree.of_bodySF (Jvm.Free.JP.mathPlain rfl (by decide +kernel)) hisR ?_
 intro p e s m args below meth c s₁ Bd hml0 hP hK
 obtain ⟨rfl, hZ, hh⟩ := hP
 have hx := Bd.exec
 have hby := Bd.bytes
 have hml : c.maxLocals = 2 := hml0
 have hown : s.vm.findClass "java/lang/Math" = some m.cls := findClass_of_methodNamed Bd.named
 have hnm := (name_of_methodNamed Bd.named Bd.method).1
 have X0 : Stand p l e ({ frames := 0, cells := 0, slots := 0, locals := 0 } : Room) s m #[(.int (0 : Int32)), (.int (1 : Int32))] below meth c s₁ [] 0 0 := Stand.of_body Bd
 have e0 : s₁.heap = h0 := by rw [← hh, Bd.state]; rfl
 have N0 := Fr.nil n0
 let S0 : State → Prop := fun t => Steps p.tables e below (s₁.setTop (entryFrame m #[(.int (0 : Int32)), (.int (1 : Int32))] 2)) t
 have p0 : ∀ t, St p e below s₁ (mkF m 0 #[.val (.int (0 : Int32)), .val (.int (1 : Int32))] []) t → S0 t := fun t k => castTop (ef3 m (0 : Int32) (1 : Int32)) k
 have HE' := HE
 obtain ⟨Sa_FALSE, Ea_FALSE, Sa_TRUE, Ea_TRUE, Fa_FALSE_ordinal, Fa_TRUE_ordinal, Sa_UNKNOWN, Ea_UNKNOWN, Fa_UNKNOWN_ordinal⟩ := HE
 have p1 : ∀ t, St p e below s₁ (mkF m 10 #[.val (.int (0 : Int32)), .val (.int (1 : Int32))] [(.int (1 : Int32))]) t → S0 t := fun t k => p0 t (by
   show St p e below s₁ (mkF m 0 #[.val (.int (0 : Int32)), .val (.int (1 : Int32))] []) t
   refine XS.iloadN X0.here hx rfl (hb hby d3_0) rfl ?_
   show St p e below s₁ (mkF m 1 #[.val (.int (0 : Int32)), .val (.int (1 : Int32))] [(.int (0 : Int32))]) t
   refine XS.iloadN X0.here hx rfl (hb hby d3_1) rfl ?_
   show St p e below s₁ (mkF m 2 #[.val (.int (0 : Int32)), .val (.int (1 : Int32))] [(.int (1 : Int32)), (.int (0 : Int32))]) t
   refine XS.icmpYes X0.here hx rfl (pc0 := 2) (pc' := 9) rfl (hb hby d3_2) rfl (tlt (by decide : (0 : Int32) < (1 : Int32))).1 (by decide) (by decide) ?_
   show St p e below s₁ (mkF m 9 #[.val (.int (0 : Int32)), .val (.int (1 : Int32))] []) t
   refine XS.iloadN X0.here hx rfl (hb hby d3_9) rfl ?_
   exact k)
 obtain ⟨fs, hr, hrun, hended, hW, hsame⟩ := X0.leave (v := some (.int (1 : Int32))) (fun h => by rw [Bd.returns] at h; cases h)
 refine ⟨_, _, p1 _ ?_, hrun, hended, _, _, rfl, ?_, ⟨_, rfl⟩, hW, hsame.mono (by decide) (by decide)⟩
 · exact retOut X0 hx Bd.returns rfl (Or.inl ⟨rfl, by simp, _, rfl⟩) (hb hby d3_10) hr
 · show Q3_5 Z a_FALSE a_TRUE a_UNKNOWN h0 n0 _ s₁.heap _
   exact ⟨N0, e0, rfl⟩
theorem d4_9 : decode method_3_code 9 = .ok (.aload_n 0, 1) := by decide +kernel
theorem d4_10 : decode method_3_code 10 = .ok (.getstatic 13, 3) := by decide +kernel
theorem d4_13 : decode method_3_code 13 = .ok (.if_acmp .ne 5, 3) := by decide +kernel
theorem d4_16 : decode method_3_code 16 = .ok (.iconst 1, 1) := by decide +kernel
theorem d4_17 : decode method_3_code 17 = .ok (.ireturn, 1) := by decide +kernel
def Q4_6 (Z : State) (a_FALSE : Addr) (a_TRUE : Addr) (a_UNKNOWN : Addr) (h0 : Heap) (n0 : Nat) (v : Option Value) (h : Heap) (L : List Loc) : Prop := Fr n0 L ∧ h = h0 ∧ ((v = some (.int (1 : Int32))))
set_option maxRecDepth 65536 in
set_option maxHeartbeats 40000000 in
theorem rm4_6 (l : Launch) (Z : State) (a0 : Array Value) (hw : ∀ d ∈ tables_1, d.before a0 Z = true) (ws : List Jvm.Cond) (a_FALSE : Addr) (a_TRUE : Addr) (a_UNKNOWN : Addr) (h0 : Heap) (n0 : Nat) (O0 : Old Z n0 h0) (HE : Env1 Z a_FALSE a_TRUE a_UNKNOWN)  :
    MetFree l M3 (head1 (Jvm.Cond.code M3 method_3_code 1 (some .int) :: ws) ({ frames := 0, cells := 0, slots := 0, locals := 0 } : Room)) (fun a U => a = #[(.ref a_UNKNOWN)] ∧ Z.Warmed39 U.vm ∧ U.heap = h0) (fun _ _ _ _ _ => True) (fun _ U o U' => ∃ v L, o = .returned v ∧ Q4_6 Z a_FALSE a_TRUE a_UNKNOWN h0 n0 v U'.heap L ∧ FrameEnd U o U' L ({ frames := 0, cells := 0, slots := 0, locals := 0 } : Room).cells ({ frames := 0, cells := 0, slots := 0, locals := 0 } : Room).slots) := by
 refine MetFree.of_bodySF (plainFor_of_name pn0) hisR ?_
 intro p e s m args below meth c s₁ Bd hml0 hP hK
 obtain ⟨rfl, hZ, hh⟩ := hP
 have hx := Bd.exec
 have hby := Bd.bytes
 have hml : c.maxLocals = 1 := hml0
 have hown : s.vm.findClass "com/example/herald4/herald4/filter/TruthOrPinLaw" = some m.cls := findClass_of_methodNamed Bd.named
 have hnm := (name_of_methodNamed Bd.named Bd.method).1
 have X0 : Stand p l e ({ frames := 0, cells := 0, slots := 0, locals := 0 } : Room) s m #[(.ref a_UNKNOWN)] below meth c s₁ [] 0 0 := Stand.of_body Bd
 have e0 : s₁.heap = h0 := by rw [← hh, Bd.state]; rfl
 have N0 := Fr.nil n0
 let S0 : State → Prop := fun t => Steps p.tables e below (s₁.setTop (entryFrame m #[(.ref a_UNKNOWN)] 1)) t
 have p0 : ∀ t, St p e below s₁ (mkF m 0 #[.val (.ref a_UNKNOWN)] []) t → S0 t := fun t k => castTop (ef4 m a_UNKNOWN) k
 have HE' := HE
 obtain ⟨Sa_FALSE, Ea_FALSE, Sa_TRUE, Ea_TRUE, Fa_FALSE_ordinal, Fa_TRUE_ordinal, Sa_UNKNOWN, Ea_UNKNOWN, Fa_UNKNOWN_ordinal⟩ := HE
 have p1 : ∀ t, St p e below s₁ (mkF m 1 #[.val (.ref a_UNKNOWN)] [(.ref a_UNKNOWN)]) t → S0 t := fun t k => p0 t (by
   show St p e below s₁ (mkF m 0 #[.val (.ref a_UNKNOWN)] []) t
   refine XS.aloadN X0.here hx rfl (hb hby d4_0) rfl rfl ?_
   exact k)
 obtain ⟨T2, X2, e2, st2⟩ := getS2 X0 hx hZ hown (host := "") (Or.inl (ww hw 5 rfl)) Via.refl e0 (Sa_FALSE.ext O0.2) (g := (mkF m 1 #[.val (.ref a_UNKNOWN)] [(.ref a_UNKNOWN)])) rfl (hb hby d4_1)
 have p3 : ∀ t, St p e below T2 (mkF m 4 #[.val (.ref a_UNKNOWN)] [(.ref a_FALSE), (.ref a_UNKNOWN)]) t → S0 t := fun t k => p1 t (st2 t k)
 have p4 : ∀ t, St p e below T2 (mkF m 10 #[.val (.ref a_UNKNOWN)] [(.ref a_UNKNOWN)]) t → S0 t := fun t k => p3 t (by
   show St p e below T2 (mkF m 4 #[.val (.ref a_UNKNOWN)] [(.ref a_FALSE), (.ref a_UNKNOWN)]) t
   refine Jvm.RoadKit.acmp (g := (mkF m 4 #[.val (.ref a_UNKNOWN)] [(.ref a_FALSE), (.ref a_UNKNOWN)])) X2 hx rfl rfl rfl (pc0 := 4) (pc' := 9) (same := false) rfl (hb hby d4_4) rfl (decide_eq_false fun q => (Fld.ne Fa_UNKNOWN_ordinal Fa_FALSE_ordinal (fun q => absurd (Value.int.inj q) (by decide))) (Value.ref.inj q)) (by decide) (by decide) ?_
   show St p e below T2 (mkF m 9 #[.val (.ref a_UNKNOWN)] []) t
   refine XS.aloadN X2.here hx rfl (hb hby d4_9) rfl rfl ?_
   exact k)
 obtain ⟨T5, X5, e5, st5⟩ := getS2 X2 hx hZ hown (host := "") (Or.inl (ww hw 26 rfl)) Via.refl e2 (Sa_UNKNOWN.ext O0.2) (g := (mkF m 10 #[.val (.ref a_UNKNOWN)] [(.ref a_UNKNOWN)])) rfl (hb hby d4_10)
 have p6 : ∀ t, St p e below T5 (mkF m 13 #[.val (.ref a_UNKNOWN)] [(.ref a_UNKNOWN), (.ref a_UNKNOWN)]) t → S0 t := fun t k => p4 t (st5 t k)
 have p7 : ∀ t, St p e below T5 (mkF m 17 #[.val (.ref a_UNKNOWN)] [(.int (1 : Int32))]) t → S0 t := fun t k => p6 t (by
   show St p e below T5 (mkF m 13 #[.val (.ref a_UNKNOWN)] [(.ref a_UNKNOWN), (.ref a_UNKNOWN)]) t
   refine Jvm.RoadKit.acmp (g := (mkF m 13 #[.val (.ref a_UNKNOWN)] [(.ref a_UNKNOWN), (.ref a_UNKNOWN)])) X5 hx rfl rfl rfl (pc0 := 13) (pc' := 16) (same := true) rfl (hb hby d4_13) rfl (decide_eq_true rfl) (by decide) (by decide) ?_
   show St p e below T5 (mkF m 16 #[.val (.ref a_UNKNOWN)] []) t
   refine XT.iconstV X5.here hx rfl (1 : Int32) (hb hby d4_16) (by decide) ?_
   exact k)
 obtain ⟨fs, hr, hrun, hended, hW, hsame⟩ := X5.leave (v := some (.int (1 : Int32))) (fun h => by rw [Bd.returns] at h; cases h)
 refine ⟨_, _, p7 _ ?_, hrun, hended, _, _, rfl, ?_, ⟨_, rfl⟩, hW, hsame.mono (by decide) (by decide)⟩
 · exact retOut X5 hx Bd.returns rfl (Or.inl ⟨rfl, by simp, _, rfl⟩) (hb hby d4_17) hr
 · show Q4_6 Z a_FALSE a_TRUE a_UNKNOWN h0 n0 _ T5.heap _
   exact ⟨N0, e5, rfl⟩
theorem d2_14 : decode prog_32_method_7_code 14 = .ok (.getstatic 3, 3) := by decide +kernel
theorem d2_17 : decode prog_32_method_7_code 17 = .ok (.astore_n 2, 1) := by decide +kernel
theorem d2_18 : decode prog_32_method_7_code 18 = .ok (.goto 28, 3) := by decide +kernel
def Q2_7 (Z : State) (a_FALSE : Addr) (a_TRUE : Addr) (a_UNKNOWN : Addr) (h0 : Heap) (n0 : Nat) (v : Option Value) (h : Heap) (L : List Loc) : Prop := Fr n0 L ∧ h = h0 ∧ ((v = some (.ref a_TRUE)))
set_option maxRecDepth 65536 in
set_option maxHeartbeats 40000000 in
theorem rm2_7 (l : Launch) (Z : State) (a0 : Array Value) (hw : ∀ d ∈ tables_1, d.before a0 Z = true) (ws : List Jvm.Cond) (a_FALSE : Addr) (a_TRUE : Addr) (a_UNKNOWN : Addr) (h0 : Heap) (n0 : Nat) (O0 : Old Z n0 h0) (HE : Env1 Z a_FALSE a_TRUE a_UNKNOWN)  :
    MetFree l M1 (head1 (Jvm.Cond.code M1 prog_32_method_7_code 3 (some (.object "com/example/herald4/herald4/filter/Truth")) :: ws) ({ frames := 0, cells := 0, slots := 0, locals := 0 } : Room)) (fun a U => a = #[(.ref a_FALSE), (.ref a_TRUE)] ∧ Z.Warmed39 U.vm ∧ U.heap = h0) (fun _ _ _ _ _ => True) (fun _ U o U' => ∃ v L, o = .returned v ∧ Q2_7 Z a_FALSE a_TRUE a_UNKNOWN h0 n0 v U'.heap L ∧ FrameEnd U o U' L ({ frames := 0, cells := 0, slots := 0, locals := 0 } : Room).cells ({ frames := 0, cells := 0, slots := 0, locals := 0 } : Room).slots) := by
 refine MetFree.of_bodySF (plainFor_of_name pn1) hisR ?_
 intro p e s m args below meth c s₁ Bd hml0 hP hK
 obtain ⟨rfl, hZ, hh⟩ := hP
 have hx := Bd.exec
 have hby := Bd.bytes
 have hml : c.maxLocals = 3 := hml0
 have hown : s.vm.findClass "com/example/herald4/herald4/filter/Truth" = some m.cls := findClass_of_methodNamed Bd.named
 have hnm := (name_of_methodNamed Bd.named Bd.method).1
 have X0 : Stand p l e ({ frames := 0, cells := 0, slots := 0, locals := 0 } : Room) s m #[(.ref a_FALSE), (.ref a_TRUE)] below meth c s₁ [] 0 0 := Stand.of_body Bd
 have e0 : s₁.heap = h0 := by rw [← hh, Bd.state]; rfl
 have N0 := Fr.nil n0
 let S0 : State → Prop := fun t => Steps p.tables e below (s₁.setTop (entryFrame m #[(.ref a_FALSE), (.ref a_TRUE)] 3)) t
 have p0 : ∀ t, St p e below s₁ (mkF m 0 #[.val (.ref a_FALSE), .val (.ref a_TRUE), .unset] []) t → S0 t := fun t k => castTop (ef2 m a_FALSE a_TRUE) k
 have HE' := HE
 obtain ⟨Sa_FALSE, Ea_FALSE, Sa_TRUE, Ea_TRUE, Fa_FALSE_ordinal, Fa_TRUE_ordinal, Sa_UNKNOWN, Ea_UNKNOWN, Fa_UNKNOWN_ordinal⟩ := HE
 have p1 : ∀ t, St p e below s₁ (mkF m 1 #[.val (.ref a_FALSE), .val (.ref a_TRUE), .unset] [(.ref a_FALSE)]) t → S0 t := fun t k => p0 t (by
   show St p e below s₁ (mkF m 0 #[.val (.ref a_FALSE), .val (.ref a_TRUE), .unset] []) t
   refine XS.aloadN X0.here hx rfl (hb hby d2_0) rfl rfl ?_
   exact k)
 obtain ⟨T2, X2, e2, st2⟩ := getS2 X0 hx hZ hown (host := "") (Or.inl (ww hw 13 rfl)) Via.refl e0 (Sa_TRUE.ext O0.2) (g := (mkF m 1 #[.val (.ref a_FALSE), .val (.ref a_TRUE), .unset] [(.ref a_FALSE)])) rfl (hb hby d2_1)
 have p3 : ∀ t, St p e below T2 (mkF m 4 #[.val (.ref a_FALSE), .val (.ref a_TRUE), .unset] [(.ref a_TRUE), (.ref a_FALSE)]) t → S0 t := fun t k => p1 t (st2 t k)
 have p4 : ∀ t, St p e below T2 (mkF m 8 #[.val (.ref a_FALSE), .val (.ref a_TRUE), .unset] [(.ref a_TRUE)]) t → S0 t := fun t k => p3 t (by
   show St p e below T2 (mkF m 4 #[.val (.ref a_FALSE), .val (.ref a_TRUE), .unset] [(.ref a_TRUE), (.ref a_FALSE)]) t
   refine Jvm.RoadKit.acmp (g := (mkF m 4 #[.val (.ref a_FALSE), .val (.ref a_TRUE), .unset] [(.ref a_TRUE), (.ref a_FALSE)])) X2 hx rfl rfl rfl (pc0 := 4) (pc' := 7) (same := false) rfl (hb hby d2_4) rfl (decide_eq_false fun q => (Fld.ne Fa_FALSE_ordinal Fa_TRUE_ordinal (fun q => absurd (Value.int.inj q) (by decide))) (Value.ref.inj q)) (by decide) (by decide) ?_
   show St p e below T2 (mkF m 7 #[.val (.ref a_FALSE), .val (.ref a_TRUE), .unset] []) t
   refine XS.aloadN X2.here hx rfl (hb hby d2_7) rfl rfl ?_
   exact k)
 obtain ⟨T5, X5, e5, st5⟩ := getS2 X2 hx hZ hown (host := "") (Or.inl (ww hw 13 rfl)) Via.refl e2 (Sa_TRUE.ext O0.2) (g := (mkF m 8 #[.val (.ref a_FALSE), .val (.ref a_TRUE), .unset] [(.ref a_TRUE)])) rfl (hb hby d2_8)
 have p6 : ∀ t, St p e below T5 (mkF m 11 #[.val (.ref a_FALSE), .val (.ref a_TRUE), .unset] [(.ref a_TRUE), (.ref a_TRUE)]) t → S0 t := fun t k => p4 t (st5 t k)
 have p7 : ∀ t, St p e below T5 (mkF m 14 #[.val (.ref a_FALSE), .val (.ref a_TRUE), .unset] []) t → S0 t := fun t k => p6 t (by
   show St p e below T5 (mkF m 11 #[.val (.ref a_FALSE), .val (.ref a_TRUE), .unset] [(.ref a_TRUE), (.ref a_TRUE)]) t
   refine Jvm.RoadKit.acmp (g := (mkF m 11 #[.val (.ref a_FALSE), .val (.ref a_TRUE), .unset] [(.ref a_TRUE), (.ref a_TRUE)])) X5 hx rfl rfl rfl (pc0 := 11) (pc' := 14) (same := true) rfl (hb hby d2_11) rfl (decide_eq_true rfl) (by decide) (by decide) ?_
   exact k)
 obtain ⟨T8, X8, e8, st8⟩ := getS2 X5 hx hZ hown (host := "") (Or.inl (ww hw 13 rfl)) Via.refl e5 (Sa_TRUE.ext O0.2) (g := (mkF m 14 #[.val (.ref a_FALSE), .val (.ref a_TRUE), .unset] [])) rfl (hb hby d2_14)
 have p9 : ∀ t, St p e below T8 (mkF m 17 #[.val (.ref a_FALSE), .val (.ref a_TRUE), .unset] [(.ref a_TRUE)]) t → S0 t := fun t k => p7 t (st8 t k)
 let Ls10 : Array Slot := #[.val (.ref a_FALSE), .val (.ref a_TRUE), .val (.ref a_TRUE)]
 have p11 : ∀ t, St p e below T8 (mkF m 47 Ls10 [(.ref a_TRUE)]) t → S0 t := fun t k => p9 t (by
   show St p e below T8 (mkF m 17 #[.val (.ref a_FALSE), .val (.ref a_TRUE), .unset] [(.ref a_TRUE)]) t
   refine XS.astoreN X8.here hx rfl (hb hby d2_17) rfl rfl (l' := Ls10) rfl ?_
   show St p e below T8 (mkF m 18 Ls10 []) t
   refine XS.goto X8.here hx rfl (pc0 := 18) (pc' := 46) rfl (hb hby d2_18) (by decide) (by decide) ?_
   show St p e below T8 (mkF m 46 Ls10 []) t
   refine XS.aloadN X8.here hx rfl (hb hby d2_46) rfl rfl ?_
   exact k)
 obtain ⟨fs, hr, hrun, hended, hW, hsame⟩ := X8.leave (v := some (.ref a_TRUE)) (fun h => by rw [Bd.returns] at h; cases h)
 refine ⟨_, _, p11 _ ?_, hrun, hended, _, _, rfl, ?_, ⟨_, rfl⟩, hW, hsame.mono (by decide) (by decide)⟩
 · exact retOut X8 hx Bd.returns rfl (Or.inr (Or.inr (Or.inr (Or.inr ⟨rfl, rfl, rfl⟩)))) (hb hby d2_47) hr
 · show Q2_7 Z a_FALSE a_TRUE a_UNKNOWN h0 n0 _ T8.heap _
   exact ⟨N0, e8, rfl⟩
def Q3_8 (Z : State) (a_FALSE : Addr) (a_TRUE : Addr) (a_UNKNOWN : Addr) (i0 : Int32) (h0 : Heap) (n0 : Nat) (v : Option Value) (h : Heap) (L : List Loc) : Prop := Fr n0 L ∧ h = h0 ∧ ((v = some (.int i0) ∧ (0 : Int32) < i0) ∨ (v = some (.int (0 : Int32)) ∧ ¬ ((0 : Int32) < i0)))
set_option maxRecDepth 65536 in
set_option maxHeartbeats 40000000 in
theorem rm3_8 (l : Launch) (Z : State) (a0 : Array Value) (hw : ∀ d ∈ tables_1, d.before a0 Z = true) (ws : List Jvm.Cond) (a_FALSE : Addr) (a_TRUE : Addr) (a_UNKNOWN : Addr) (i0 : Int32) (h0 : Heap) (n0 : Nat) (O0 : Old Z n0 h0) (HE : Env1 Z a_FALSE a_TRUE a_UNKNOWN)  :
    MetFree l M2 (head1 (Jvm.Cond.code M2 jdk_29_method_65_code 2 (some .int) :: ws) ({ frames := 0, cells := 0, slots := 0, locals := 0 } : Room)) (fun a U => a = #[(.int (0 : Int32)), (.int i0)] ∧ Z.Warmed39 U.vm ∧ U.heap = h0) (fun _ _ _ _ _ => True) (fun _ U o U' => ∃ v L, o = .returned v ∧ Q3_8 Z a_FALSE a_TRUE a_UNKNOWN i0 h0 n0 v U'.heap L ∧ FrameEnd U o U' L ({ frames := 0, cells := 0, slots := 0, locals := 0 } : Room).cells ({ frames := 0, cells := 0, slots := 0, locals := 0 } : Room).slots) := by
 refine MetFree.of_bodySF (Jvm.Free.JP.mathPlain rfl (by decide +kernel)) hisR ?_
 intro p e s m args below meth c s₁ Bd hml0 hP hK
 obtain ⟨rfl, hZ, hh⟩ := hP
 have hx := Bd.exec
 have hby := Bd.bytes
 have hml : c.maxLocals = 2 := hml0
 have hown : s.vm.findClass "java/lang/Math" = some m.cls := findClass_of_methodNamed Bd.named
 have hnm := (name_of_methodNamed Bd.named Bd.method).1
 have X0 : Stand p l e ({ frames := 0, cells := 0, slots := 0, locals := 0 } : Room) s m #[(.int (0 : Int32)), (.int i0)] below meth c s₁ [] 0 0 := Stand.of_body Bd
 have e0 : s₁.heap = h0 := by rw [← hh, Bd.state]; rfl
 have N0 := Fr.nil n0
 let S0 : State → Prop := fun t => Steps p.tables e below (s₁.setTop (entryFrame m #[(.int (0 : Int32)), (.int i0)] 2)) t
 have p0 : ∀ t, St p e below s₁ (mkF m 0 #[.val (.int (0 : Int32)), .val (.int i0)] []) t → S0 t := fun t k => castTop (ef3 m (0 : Int32) i0) k
 have HE' := HE
 obtain ⟨Sa_FALSE, Ea_FALSE, Sa_TRUE, Ea_TRUE, Fa_FALSE_ordinal, Fa_TRUE_ordinal, Sa_UNKNOWN, Ea_UNKNOWN, Fa_UNKNOWN_ordinal⟩ := HE
 have p1 : ∀ t, St p e below s₁ (mkF m 2 #[.val (.int (0 : Int32)), .val (.int i0)] [(.int i0), (.int (0 : Int32))]) t → S0 t := fun t k => p0 t (by
   show St p e below s₁ (mkF m 0 #[.val (.int (0 : Int32)), .val (.int i0)] []) t
   refine XS.iloadN X0.here hx rfl (hb hby d3_0) rfl ?_
   show St p e below s₁ (mkF m 1 #[.val (.int (0 : Int32)), .val (.int i0)] [(.int (0 : Int32))]) t
   refine XS.iloadN X0.here hx rfl (hb hby d3_1) rfl ?_
   exact k)
 by_cases g2 : (0 : Int32) < i0
 ·
  have p3 : ∀ t, St p e below s₁ (mkF m 10 #[.val (.int (0 : Int32)), .val (.int i0)] [(.int i0)]) t → S0 t := fun t k => p1 t (by
    show St p e below s₁ (mkF m 2 #[.val (.int (0 : Int32)), .val (.int i0)] [(.int i0), (.int (0 : Int32))]) t
    refine XS.icmpYes X0.here hx rfl (pc0 := 2) (pc' := 9) rfl (hb hby d3_2) rfl (tlt g2).1 (by decide) (by decide) ?_
    show St p e below s₁ (mkF m 9 #[.val (.int (0 : Int32)), .val (.int i0)] []) t
    refine XS.iloadN X0.here hx rfl (hb hby d3_9) rfl ?_
    exact k)
  obtain ⟨fs, hr, hrun, hended, hW, hsame⟩ := X0.leave (v := some (.int i0)) (fun h => by rw [Bd.returns] at h; cases h)
  refine ⟨_, _, p3 _ ?_, hrun, hended, _, _, rfl, ?_, ⟨_, rfl⟩, hW, hsame.mono (by decide) (by decide)⟩
  · exact retOut X0 hx Bd.returns rfl (Or.inl ⟨rfl, by simp, _, rfl⟩) (hb hby d3_10) hr
  · show Q3_8 Z a_FALSE a_TRUE a_UNKNOWN i0 h0 n0 _ s₁.heap _
    exact ⟨N0, e0, (Or.inl ⟨rfl, g2⟩)⟩
 ·
  have p4 : ∀ t, St p e below s₁ (mkF m 10 #[.val (.int (0 : Int32)), .val (.int i0)] [(.int (0 : Int32))]) t → S0 t := fun t k => p1 t (by
    show St p e below s₁ (mkF m 2 #[.val (.int (0 : Int32)), .val (.int i0)] [(.int i0), (.int (0 : Int32))]) t
    refine XS.icmpNo X0.here hx rfl (hb hby d3_2) rfl (flt g2).1 ?_
    show St p e below s₁ (mkF m 5 #[.val (.int (0 : Int32)), .val (.int i0)] []) t
    refine XS.iloadN X0.here hx rfl (hb hby d3_5) rfl ?_
    show St p e below s₁ (mkF m 6 #[.val (.int (0 : Int32)), .val (.int i0)] [(.int (0 : Int32))]) t
    refine XS.goto X0.here hx rfl (pc0 := 6) (pc' := 10) rfl (hb hby d3_6) (by decide) (by decide) ?_
    exact k)
  obtain ⟨fs, hr, hrun, hended, hW, hsame⟩ := X0.leave (v := some (.int (0 : Int32))) (fun h => by rw [Bd.returns] at h; cases h)
  refine ⟨_, _, p4 _ ?_, hrun, hended, _, _, rfl, ?_, ⟨_, rfl⟩, hW, hsame.mono (by decide) (by decide)⟩
  · exact retOut X0 hx Bd.returns rfl (Or.inl ⟨rfl, by simp, _, rfl⟩) (hb hby d3_10) hr
  · show Q3_8 Z a_FALSE a_TRUE a_UNKNOWN i0 h0 n0 _ s₁.heap _
    exact ⟨N0, e0, (Or.inr (⟨rfl, g2⟩))⟩
theorem d4_18 : decode method_3_code 18 = .ok (.aload_n 0, 1) := by decide +kernel
theorem d4_19 : decode method_3_code 19 = .ok (.getstatic 16, 3) := by decide +kernel
theorem d4_22 : decode method_3_code 22 = .ok (.if_acmp .ne 5, 3) := by decide +kernel
theorem d4_25 : decode method_3_code 25 = .ok (.iconst 2, 1) := by decide +kernel
theorem d4_26 : decode method_3_code 26 = .ok (.ireturn, 1) := by decide +kernel
def Q4_9 (Z : State) (a_FALSE : Addr) (a_TRUE : Addr) (a_UNKNOWN : Addr) (h0 : Heap) (n0 : Nat) (v : Option Value) (h : Heap) (L : List Loc) : Prop := Fr n0 L ∧ h = h0 ∧ ((v = some (.int (2 : Int32))))
set_option maxRecDepth 65536 in
set_option maxHeartbeats 40000000 in
theorem rm4_9 (l : Launch) (Z : State) (a0 : Array Value) (hw : ∀ d ∈ tables_1, d.before a0 Z = true) (ws : List Jvm.Cond) (a_FALSE : Addr) (a_TRUE : Addr) (a_UNKNOWN : Addr) (h0 : Heap) (n0 : Nat) (O0 : Old Z n0 h0) (HE : Env1 Z a_FALSE a_TRUE a_UNKNOWN)  :
    MetFree l M3 (head1 (Jvm.Cond.code M3 method_3_code 1 (some .int) :: ws) ({ frames := 0, cells := 0, slots := 0, locals := 0 } : Room)) (fun a U => a = #[(.ref a_TRUE)] ∧ Z.Warmed39 U.vm ∧ U.heap = h0) (fun _ _ _ _ _ => True) (fun _ U o U' => ∃ v L, o = .returned v ∧ Q4_9 Z a_FALSE a_TRUE a_UNKNOWN h0 n0 v U'.heap L ∧ FrameEnd U o U' L ({ frames := 0, cells := 0, slots := 0, locals := 0 } : Room).cells ({ frames := 0, cells := 0, slots := 0, locals := 0 } : Room).slots) := by
 refine MetFree.of_bodySF (plainFor_of_name pn0) hisR ?_
 intro p e s m args below meth c s₁ Bd hml0 hP hK
 obtain ⟨rfl, hZ, hh⟩ := hP
 have hx := Bd.exec
 have hby := Bd.bytes
 have hml : c.maxLocals = 1 := hml0
 have hown : s.vm.findClass "com/example/herald4/herald4/filter/TruthOrPinLaw" = some m.cls := findClass_of_methodNamed Bd.named
 have hnm := (name_of_methodNamed Bd.named Bd.method).1
 have X0 : Stand p l e ({ frames := 0, cells := 0, slots := 0, locals := 0 } : Room) s m #[(.ref a_TRUE)] below meth c s₁ [] 0 0 := Stand.of_body Bd
 have e0 : s₁.heap = h0 := by rw [← hh, Bd.state]; rfl
 have N0 := Fr.nil n0
 let S0 : State → Prop := fun t => Steps p.tables e below (s₁.setTop (entryFrame m #[(.ref a_TRUE)] 1)) t
 have p0 : ∀ t, St p e below s₁ (mkF m 0 #[.val (.ref a_TRUE)] []) t → S0 t := fun t k => castTop (ef4 m a_TRUE) k
 have HE' := HE
 obtain ⟨Sa_FALSE, Ea_FALSE, Sa_TRUE, Ea_TRUE, Fa_FALSE_ordinal, Fa_TRUE_ordinal, Sa_UNKNOWN, Ea_UNKNOWN, Fa_UNKNOWN_ordinal⟩ := HE
 have p1 : ∀ t, St p e below s₁ (mkF m 1 #[.val (.ref a_TRUE)] [(.ref a_TRUE)]) t → S0 t := fun t k => p0 t (by
   show St p e below s₁ (mkF m 0 #[.val (.ref a_TRUE)] []) t
   refine XS.aloadN X0.here hx rfl (hb hby d4_0) rfl rfl ?_
   exact k)
 obtain ⟨T2, X2, e2, st2⟩ := getS2 X0 hx hZ hown (host := "") (Or.inl (ww hw 5 rfl)) Via.refl e0 (Sa_FALSE.ext O0.2) (g := (mkF m 1 #[.val (.ref a_TRUE)] [(.ref a_TRUE)])) rfl (hb hby d4_1)
 have p3 : ∀ t, St p e below T2 (mkF m 4 #[.val (.ref a_TRUE)] [(.ref a_FALSE), (.ref a_TRUE)]) t → S0 t := fun t k => p1 t (st2 t k)
 have p4 : ∀ t, St p e below T2 (mkF m 10 #[.val (.ref a_TRUE)] [(.ref a_TRUE)]) t → S0 t := fun t k => p3 t (by
   show St p e below T2 (mkF m 4 #[.val (.ref a_TRUE)] [(.ref a_FALSE), (.ref a_TRUE)]) t
   refine Jvm.RoadKit.acmp (g := (mkF m 4 #[.val (.ref a_TRUE)] [(.ref a_FALSE), (.ref a_TRUE)])) X2 hx rfl rfl rfl (pc0 := 4) (pc' := 9) (same := false) rfl (hb hby d4_4) rfl (decide_eq_false fun q => (Fld.ne Fa_TRUE_ordinal Fa_FALSE_ordinal (fun q => absurd (Value.int.inj q) (by decide))) (Value.ref.inj q)) (by decide) (by decide) ?_
   show St p e below T2 (mkF m 9 #[.val (.ref a_TRUE)] []) t
   refine XS.aloadN X2.here hx rfl (hb hby d4_9) rfl rfl ?_
   exact k)
 obtain ⟨T5, X5, e5, st5⟩ := getS2 X2 hx hZ hown (host := "") (Or.inl (ww hw 26 rfl)) Via.refl e2 (Sa_UNKNOWN.ext O0.2) (g := (mkF m 10 #[.val (.ref a_TRUE)] [(.ref a_TRUE)])) rfl (hb hby d4_10)
 have p6 : ∀ t, St p e below T5 (mkF m 13 #[.val (.ref a_TRUE)] [(.ref a_UNKNOWN), (.ref a_TRUE)]) t → S0 t := fun t k => p4 t (st5 t k)
 have p7 : ∀ t, St p e below T5 (mkF m 19 #[.val (.ref a_TRUE)] [(.ref a_TRUE)]) t → S0 t := fun t k => p6 t (by
   show St p e below T5 (mkF m 13 #[.val (.ref a_TRUE)] [(.ref a_UNKNOWN), (.ref a_TRUE)]) t
   refine Jvm.RoadKit.acmp (g := (mkF m 13 #[.val (.ref a_TRUE)] [(.ref a_UNKNOWN), (.ref a_TRUE)])) X5 hx rfl rfl rfl (pc0 := 13) (pc' := 18) (same := false) rfl (hb hby d4_13) rfl (decide_eq_false fun q => (Fld.ne Fa_TRUE_ordinal Fa_UNKNOWN_ordinal (fun q => absurd (Value.int.inj q) (by decide))) (Value.ref.inj q)) (by decide) (by decide) ?_
   show St p e below T5 (mkF m 18 #[.val (.ref a_TRUE)] []) t
   refine XS.aloadN X5.here hx rfl (hb hby d4_18) rfl rfl ?_
   exact k)
 obtain ⟨T8, X8, e8, st8⟩ := getS2 X5 hx hZ hown (host := "") (Or.inl (ww hw 25 rfl)) Via.refl e5 (Sa_TRUE.ext O0.2) (g := (mkF m 19 #[.val (.ref a_TRUE)] [(.ref a_TRUE)])) rfl (hb hby d4_19)
 have p9 : ∀ t, St p e below T8 (mkF m 22 #[.val (.ref a_TRUE)] [(.ref a_TRUE), (.ref a_TRUE)]) t → S0 t := fun t k => p7 t (st8 t k)
 have p10 : ∀ t, St p e below T8 (mkF m 26 #[.val (.ref a_TRUE)] [(.int (2 : Int32))]) t → S0 t := fun t k => p9 t (by
   show St p e below T8 (mkF m 22 #[.val (.ref a_TRUE)] [(.ref a_TRUE), (.ref a_TRUE)]) t
   refine Jvm.RoadKit.acmp (g := (mkF m 22 #[.val (.ref a_TRUE)] [(.ref a_TRUE), (.ref a_TRUE)])) X8 hx rfl rfl rfl (pc0 := 22) (pc' := 25) (same := true) rfl (hb hby d4_22) rfl (decide_eq_true rfl) (by decide) (by decide) ?_
   show St p e below T8 (mkF m 25 #[.val (.ref a_TRUE)] []) t
   refine XT.iconstV X8.here hx rfl (2 : Int32) (hb hby d4_25) (by decide) ?_
   exact k)
 obtain ⟨fs, hr, hrun, hended, hW, hsame⟩ := X8.leave (v := some (.int (2 : Int32))) (fun h => by rw [Bd.returns] at h; cases h)
 refine ⟨_, _, p10 _ ?_, hrun, hended, _, _, rfl, ?_, ⟨_, rfl⟩, hW, hsame.mono (by decide) (by decide)⟩
 · exact retOut X8 hx Bd.returns rfl (Or.inl ⟨rfl, by simp, _, rfl⟩) (hb hby d4_26) hr
 · show Q4_9 Z a_FALSE a_TRUE a_UNKNOWN h0 n0 _ T8.heap _
   exact ⟨N0, e8, rfl⟩
def Q2_10 (Z : State) (a_FALSE : Addr) (a_TRUE : Addr) (a_UNKNOWN : Addr) (h0 : Heap) (n0 : Nat) (v : Option Value) (h : Heap) (L : List Loc) : Prop := Fr n0 L ∧ h = h0 ∧ ((v = some (.ref a_UNKNOWN)))
set_option maxRecDepth 65536 in
set_option maxHeartbeats 40000000 in
theorem rm2_10 (l : Launch) (Z : State) (a0 : Array Value) (hw : ∀ d ∈ tables_1, d.before a0 Z = true) (ws : List Jvm.Cond) (a_FALSE : Addr) (a_TRUE : Addr) (a_UNKNOWN : Addr) (h0 : Heap) (n0 : Nat) (O0 : Old Z n0 h0) (HE : Env1 Z a_FALSE a_TRUE a_UNKNOWN)  :
    MetFree l M1 (head1 (Jvm.Cond.code M1 prog_32_method_7_code 3 (some (.object "com/example/herald4/herald4/filter/Truth")) :: ws) ({ frames := 0, cells := 0, slots := 0, locals := 0 } : Room)) (fun a U => a = #[(.ref a_UNKNOWN), (.ref a_FALSE)] ∧ Z.Warmed39 U.vm ∧ U.heap = h0) (fun _ _ _ _ _ => True) (fun _ U o U' => ∃ v L, o = .returned v ∧ Q2_10 Z a_FALSE a_TRUE a_UNKNOWN h0 n0 v U'.heap L ∧ FrameEnd U o U' L ({ frames := 0, cells := 0, slots := 0, locals := 0 } : Room).cells ({ frames := 0, cells := 0, slots := 0, locals := 0 } : Room).slots) := by
 refine MetFree.of_bodySF (plainFor_of_name pn1) hisR ?_
 intro p e s m args below meth c s₁ Bd hml0 hP hK
 obtain ⟨rfl, hZ, hh⟩ := hP
 have hx := Bd.exec
 have hby := Bd.bytes
 have hml : c.maxLocals = 3 := hml0
 have hown : s.vm.findClass "com/example/herald4/herald4/filter/Truth" = some m.cls := findClass_of_methodNamed Bd.named
 have hnm := (name_of_methodNamed Bd.named Bd.method).1
 have X0 : Stand p l e ({ frames := 0, cells := 0, slots := 0, locals := 0 } : Room) s m #[(.ref a_UNKNOWN), (.ref a_FALSE)] below meth c s₁ [] 0 0 := Stand.of_body Bd
 have e0 : s₁.heap = h0 := by rw [← hh, Bd.state]; rfl
 have N0 := Fr.nil n0
 let S0 : State → Prop := fun t => Steps p.tables e below (s₁.setTop (entryFrame m #[(.ref a_UNKNOWN), (.ref a_FALSE)] 3)) t
 have p0 : ∀ t, St p e below s₁ (mkF m 0 #[.val (.ref a_UNKNOWN), .val (.ref a_FALSE), .unset] []) t → S0 t := fun t k => castTop (ef2 m a_UNKNOWN a_FALSE) k
 have HE' := HE
 obtain ⟨Sa_FALSE, Ea_FALSE, Sa_TRUE, Ea_TRUE, Fa_FALSE_ordinal, Fa_TRUE_ordinal, Sa_UNKNOWN, Ea_UNKNOWN, Fa_UNKNOWN_ordinal⟩ := HE
 have p1 : ∀ t, St p e below s₁ (mkF m 1 #[.val (.ref a_UNKNOWN), .val (.ref a_FALSE), .unset] [(.ref a_UNKNOWN)]) t → S0 t := fun t k => p0 t (by
   show St p e below s₁ (mkF m 0 #[.val (.ref a_UNKNOWN), .val (.ref a_FALSE), .unset] []) t
   refine XS.aloadN X0.here hx rfl (hb hby d2_0) rfl rfl ?_
   exact k)
 obtain ⟨T2, X2, e2, st2⟩ := getS2 X0 hx hZ hown (host := "") (Or.inl (ww hw 13 rfl)) Via.refl e0 (Sa_TRUE.ext O0.2) (g := (mkF m 1 #[.val (.ref a_UNKNOWN), .val (.ref a_FALSE), .unset] [(.ref a_UNKNOWN)])) rfl (hb hby d2_1)
 have p3 : ∀ t, St p e below T2 (mkF m 4 #[.val (.ref a_UNKNOWN), .val (.ref a_FALSE), .unset] [(.ref a_TRUE), (.ref a_UNKNOWN)]) t → S0 t := fun t k => p1 t (st2 t k)
 have p4 : ∀ t, St p e below T2 (mkF m 8 #[.val (.ref a_UNKNOWN), .val (.ref a_FALSE), .unset] [(.ref a_FALSE)]) t → S0 t := fun t k => p3 t (by
   show St p e below T2 (mkF m 4 #[.val (.ref a_UNKNOWN), .val (.ref a_FALSE), .unset] [(.ref a_TRUE), (.ref a_UNKNOWN)]) t
   refine Jvm.RoadKit.acmp (g := (mkF m 4 #[.val (.ref a_UNKNOWN), .val (.ref a_FALSE), .unset] [(.ref a_TRUE), (.ref a_UNKNOWN)])) X2 hx rfl rfl rfl (pc0 := 4) (pc' := 7) (same := false) rfl (hb hby d2_4) rfl (decide_eq_false fun q => (Fld.ne Fa_UNKNOWN_ordinal Fa_TRUE_ordinal (fun q => absurd (Value.int.inj q) (by decide))) (Value.ref.inj q)) (by decide) (by decide) ?_
   show St p e below T2 (mkF m 7 #[.val (.ref a_UNKNOWN), .val (.ref a_FALSE), .unset] []) t
   refine XS.aloadN X2.here hx rfl (hb hby d2_7) rfl rfl ?_
   exact k)
 obtain ⟨T5, X5, e5, st5⟩ := getS2 X2 hx hZ hown (host := "") (Or.inl (ww hw 13 rfl)) Via.refl e2 (Sa_TRUE.ext O0.2) (g := (mkF m 8 #[.val (.ref a_UNKNOWN), .val (.ref a_FALSE), .unset] [(.ref a_FALSE)])) rfl (hb hby d2_8)
 have p6 : ∀ t, St p e below T5 (mkF m 11 #[.val (.ref a_UNKNOWN), .val (.ref a_FALSE), .unset] [(.ref a_TRUE), (.ref a_FALSE)]) t → S0 t := fun t k => p4 t (st5 t k)
 have p7 : ∀ t, St p e below T5 (mkF m 22 #[.val (.ref a_UNKNOWN), .val (.ref a_FALSE), .unset] [(.ref a_UNKNOWN)]) t → S0 t := fun t k => p6 t (by
   show St p e below T5 (mkF m 11 #[.val (.ref a_UNKNOWN), .val (.ref a_FALSE), .unset] [(.ref a_TRUE), (.ref a_FALSE)]) t
   refine Jvm.RoadKit.acmp (g := (mkF m 11 #[.val (.ref a_UNKNOWN), .val (.ref a_FALSE), .unset] [(.ref a_TRUE), (.ref a_FALSE)])) X5 hx rfl rfl rfl (pc0 := 11) (pc' := 21) (same := false) rfl (hb hby d2_11) rfl (decide_eq_false fun q => (Fld.ne Fa_FALSE_ordinal Fa_TRUE_ordinal (fun q => absurd (Value.int.inj q) (by decide))) (Value.ref.inj q)) (by decide) (by decide) ?_
   show St p e below T5 (mkF m 21 #[.val (.ref a_UNKNOWN), .val (.ref a_FALSE), .unset] []) t
   refine XS.aloadN X5.here hx rfl (hb hby d2_21) rfl rfl ?_
   exact k)
 obtain ⟨T8, X8, e8, st8⟩ := getS2 X5 hx hZ hown (host := "") (Or.inl (ww hw 15 rfl)) Via.refl e5 (Sa_UNKNOWN.ext O0.2) (g := (mkF m 22 #[.val (.ref a_UNKNOWN), .val (.ref a_FALSE), .unset] [(.ref a_UNKNOWN)])) rfl (hb hby d2_22)
 have p9 : ∀ t, St p e below T8 (mkF m 25 #[.val (.ref a_UNKNOWN), .val (.ref a_FALSE), .unset] [(.ref a_UNKNOWN), (.ref a_UNKNOWN)]) t → S0 t := fun t k => p7 t (st8 t k)
 have p10 : ∀ t, St p e below T8 (mkF m 35 #[.val (.ref a_UNKNOWN), .val (.ref a_FALSE), .unset] []) t → S0 t := fun t k => p9 t (by
   show St p e below T8 (mkF m 25 #[.val (.ref a_UNKNOWN), .val (.ref a_FALSE), .unset] [(.ref a_UNKNOWN), (.ref a_UNKNOWN)]) t
   refine Jvm.RoadKit.acmp (g := (mkF m 25 #[.val (.ref a_UNKNOWN), .val (.ref a_FALSE), .unset] [(.ref a_UNKNOWN), (.ref a_UNKNOWN)])) X8 hx rfl rfl rfl (pc0 := 25) (pc' := 35) (same := true) rfl (hb hby d2_25) rfl (decide_eq_true rfl) (by decide) (by decide) ?_
   exact k)
 obtain ⟨T11, X11, e11, st11⟩ := getS2 X8 hx hZ hown (host := "") (Or.inl (ww hw 15 rfl)) Via.refl e8 (Sa_UNKNOWN.ext O0.2) (g := (mkF m 35 #[.val (.ref a_UNKNOWN), .val (.ref a_FALSE), .unset] [])) rfl (hb hby d2_35)
 have p12 : ∀ t, St p e below T11 (mkF m 38 #[.val (.ref a_UNKNOWN), .val (.ref a_FALSE), .unset] [(.ref a_UNKNOWN)]) t → S0 t := fun t k => p10 t (st11 t k)
 let Ls13 : Array Slot := #[.val (.ref a_UNKNOWN), .val (.ref a_FALSE), .val (.ref a_UNKNOWN)]
 have p14 : ∀ t, St p e below T11 (mkF m 47 Ls13 [(.ref a_UNKNOWN)]) t → S0 t := fun t k => p12 t (by
   show St p e below T11 (mkF m 38 #[.val (.ref a_UNKNOWN), .val (.ref a_FALSE), .unset] [(.ref a_UNKNOWN)]) t
   refine XS.astoreN X11.here hx rfl (hb hby d2_38) rfl rfl (l' := Ls13) rfl ?_
   show St p e below T11 (mkF m 39 Ls13 []) t
   refine XS.goto X11.here hx rfl (pc0 := 39) (pc' := 46) rfl (hb hby d2_39) (by decide) (by decide) ?_
   show St p e below T11 (mkF m 46 Ls13 []) t
   refine XS.aloadN X11.here hx rfl (hb hby d2_46) rfl rfl ?_
   exact k)
 obtain ⟨fs, hr, hrun, hended, hW, hsame⟩ := X11.leave (v := some (.ref a_UNKNOWN)) (fun h => by rw [Bd.returns] at h; cases h)
 refine ⟨_, _, p14 _ ?_, hrun, hended, _, _, rfl, ?_, ⟨_, rfl⟩, hW, hsame.mono (by decide) (by decide)⟩
 · exact retOut X11 hx Bd.returns rfl (Or.inr (Or.inr (Or.inr (Or.inr ⟨rfl, rfl, rfl⟩)))) (hb hby d2_47) hr
 · show Q2_10 Z a_FALSE a_TRUE a_UNKNOWN h0 n0 _ T11.heap _
   exact ⟨N0, e11, rfl⟩
def Q3_11 (Z : State) (a_FALSE : Addr) (a_TRUE : Addr) (a_UNKNOWN : Addr) (h0 : Heap) (n0 : Nat) (v : Option Value) (h : Heap) (L : List Loc) : Prop := Fr n0 L ∧ h = h0 ∧ ((v = some (.int (1 : Int32))))
set_option maxRecDepth 65536 in
set_option maxHeartbeats 40000000 in
theorem rm3_11 (l : Launch) (Z : State) (a0 : Array Value) (hw : ∀ d ∈ tables_1, d.before a0 Z = true) (ws : List Jvm.Cond) (a_FALSE : Addr) (a_TRUE : Addr) (a_UNKNOWN : Addr) (h0 : Heap) (n0 : Nat) (O0 : Old Z n0 h0) (HE : Env1 Z a_FALSE a_TRUE a_UNKNOWN)  :
    MetFree l M2 (head1 (Jvm.Cond.code M2 jdk_29_method_65_code 2 (some .int) :: ws) ({ frames := 0, cells := 0, slots := 0, locals := 0 } : Room)) (fun a U => a = #[(.int (1 : Int32)), (.int (0 : Int32))] ∧ Z.Warmed39 U.vm ∧ U.heap = h0) (fun _ _ _ _ _ => True) (fun _ U o U' => ∃ v L, o = .returned v ∧ Q3_11 Z a_FALSE a_TRUE a_UNKNOWN h0 n0 v U'.heap L ∧ FrameEnd U o U' L ({ frames := 0, cells := 0, slots := 0, locals := 0 } : Room).cells ({ frames := 0, cells := 0, slots := 0, locals := 0 } : Room).slots) := by
 refine MetFree.of_bodySF (Jvm.Free.JP.mathPlain rfl (by decide +kernel)) hisR ?_
 intro p e s m args below meth c s₁ Bd hml0 hP hK
 obtain ⟨rfl, hZ, hh⟩ := hP
 have hx := Bd.exec
 have hby := Bd.bytes
 have hml : c.maxLocals = 2 := hml0
 have hown : s.vm.findClass "java/lang/Math" = some m.cls := findClass_of_methodNamed Bd.named
 have hnm := (name_of_methodNamed Bd.named Bd.method).1
 have X0 : Stand p l e ({ frames := 0, cells := 0, slots := 0, locals := 0 } : Room) s m #[(.int (1 : Int32)), (.int (0 : Int32))] below meth c s₁ [] 0 0 := Stand.of_body Bd
 have e0 : s₁.heap = h0 := by rw [← hh, Bd.state]; rfl
 have N0 := Fr.nil n0
 let S0 : State → Prop := fun t => Steps p.tables e below (s₁.setTop (entryFrame m #[(.int (1 : Int32)), (.int (0 : Int32))] 2)) t
 have p0 : ∀ t, St p e below s₁ (mkF m 0 #[.val (.int (1 : Int32)), .val (.int (0 : Int32))] []) t → S0 t := fun t k => castTop (ef3 m (1 : Int32) (0 : Int32)) k
 have HE' := HE
 obtain ⟨Sa_FALSE, Ea_FALSE, Sa_TRUE, Ea_TRUE, Fa_FALSE_ordinal, Fa_TRUE_ordinal, Sa_UNKNOWN, Ea_UNKNOWN, Fa_UNKNOWN_ordinal⟩ := HE
 have p1 : ∀ t, St p e below s₁ (mkF m 10 #[.val (.int (1 : Int32)), .val (.int (0 : Int32))] [(.int (1 : Int32))]) t → S0 t := fun t k => p0 t (by
   show St p e below s₁ (mkF m 0 #[.val (.int (1 : Int32)), .val (.int (0 : Int32))] []) t
   refine XS.iloadN X0.here hx rfl (hb hby d3_0) rfl ?_
   show St p e below s₁ (mkF m 1 #[.val (.int (1 : Int32)), .val (.int (0 : Int32))] [(.int (1 : Int32))]) t
   refine XS.iloadN X0.here hx rfl (hb hby d3_1) rfl ?_
   show St p e below s₁ (mkF m 2 #[.val (.int (1 : Int32)), .val (.int (0 : Int32))] [(.int (0 : Int32)), (.int (1 : Int32))]) t
   refine XS.icmpNo X0.here hx rfl (hb hby d3_2) rfl (flt (by decide : ¬ ((1 : Int32) < (0 : Int32)))).1 ?_
   show St p e below s₁ (mkF m 5 #[.val (.int (1 : Int32)), .val (.int (0 : Int32))] []) t
   refine XS.iloadN X0.here hx rfl (hb hby d3_5) rfl ?_
   show St p e below s₁ (mkF m 6 #[.val (.int (1 : Int32)), .val (.int (0 : Int32))] [(.int (1 : Int32))]) t
   refine XS.goto X0.here hx rfl (pc0 := 6) (pc' := 10) rfl (hb hby d3_6) (by decide) (by decide) ?_
   exact k)
 obtain ⟨fs, hr, hrun, hended, hW, hsame⟩ := X0.leave (v := some (.int (1 : Int32))) (fun h => by rw [Bd.returns] at h; cases h)
 refine ⟨_, _, p1 _ ?_, hrun, hended, _, _, rfl, ?_, ⟨_, rfl⟩, hW, hsame.mono (by decide) (by decide)⟩
 · exact retOut X0 hx Bd.returns rfl (Or.inl ⟨rfl, by simp, _, rfl⟩) (hb hby d3_10) hr
 · show Q3_11 Z a_FALSE a_TRUE a_UNKNOWN h0 n0 _ s₁.heap _
   exact ⟨N0, e0, rfl⟩
def Q2_12 (Z : State) (a_FALSE : Addr) (a_TRUE : Addr) (a_UNKNOWN : Addr) (h0 : Heap) (n0 : Nat) (v : Option Value) (h : Heap) (L : List Loc) : Prop := Fr n0 L ∧ h = h0 ∧ ((v = some (.ref a_UNKNOWN)))
set_option maxRecDepth 65536 in
set_option maxHeartbeats 40000000 in
theorem rm2_12 (l : Launch) (Z : State) (a0 : Array Value) (hw : ∀ d ∈ tables_1, d.before a0 Z = true) (ws : List Jvm.Cond) (a_FALSE : Addr) (a_TRUE : Addr) (a_UNKNOWN : Addr) (h0 : Heap) (n0 : Nat) (O0 : Old Z n0 h0) (HE : Env1 Z a_FALSE a_TRUE a_UNKNOWN)  :
    MetFree l M1 (head1 (Jvm.Cond.code M1 prog_32_method_7_code 3 (some (.object "com/example/herald4/herald4/filter/Truth")) :: ws) ({ frames := 0, cells := 0, slots := 0, locals := 0 } : Room)) (fun a U => a = #[(.ref a_UNKNOWN), (.ref a_UNKNOWN)] ∧ Z.Warmed39 U.vm ∧ U.heap = h0) (fun _ _ _ _ _ => True) (fun _ U o U' => ∃ v L, o = .returned v ∧ Q2_12 Z a_FALSE a_TRUE a_UNKNOWN h0 n0 v U'.heap L ∧ FrameEnd U o U' L ({ frames := 0, cells := 0, slots := 0, locals := 0 } : Room).cells ({ frames := 0, cells := 0, slots := 0, locals := 0 } : Room).slots) := by
 refine MetFree.of_bodySF (plainFor_of_name pn1) hisR ?_
 intro p e s m args below meth c s₁ Bd hml0 hP hK
 obtain ⟨rfl, hZ, hh⟩ := hP
 have hx := Bd.exec
 have hby := Bd.bytes
 have hml : c.maxLocals = 3 := hml0
 have hown : s.vm.findClass "com/example/herald4/herald4/filter/Truth" = some m.cls := findClass_of_methodNamed Bd.named
 have hnm := (name_of_methodNamed Bd.named Bd.method).1
 have X0 : Stand p l e ({ frames := 0, cells := 0, slots := 0, locals := 0 } : Room) s m #[(.ref a_UNKNOWN), (.ref a_UNKNOWN)] below meth c s₁ [] 0 0 := Stand.of_body Bd
 have e0 : s₁.heap = h0 := by rw [← hh, Bd.state]; rfl
 have N0 := Fr.nil n0
 let S0 : State → Prop := fun t => Steps p.tables e below (s₁.setTop (entryFrame m #[(.ref a_UNKNOWN), (.ref a_UNKNOWN)] 3)) t
 have p0 : ∀ t, St p e below s₁ (mkF m 0 #[.val (.ref a_UNKNOWN), .val (.ref a_UNKNOWN), .unset] []) t → S0 t := fun t k => castTop (ef2 m a_UNKNOWN a_UNKNOWN) k
 have HE' := HE
 obtain ⟨Sa_FALSE, Ea_FALSE, Sa_TRUE, Ea_TRUE, Fa_FALSE_ordinal, Fa_TRUE_ordinal, Sa_UNKNOWN, Ea_UNKNOWN, Fa_UNKNOWN_ordinal⟩ := HE
 have p1 : ∀ t, St p e below s₁ (mkF m 1 #[.val (.ref a_UNKNOWN), .val (.ref a_UNKNOWN), .unset] [(.ref a_UNKNOWN)]) t → S0 t := fun t k => p0 t (by
   show St p e below s₁ (mkF m 0 #[.val (.ref a_UNKNOWN), .val (.ref a_UNKNOWN), .unset] []) t
   refine XS.aloadN X0.here hx rfl (hb hby d2_0) rfl rfl ?_
   exact k)
 obtain ⟨T2, X2, e2, st2⟩ := getS2 X0 hx hZ hown (host := "") (Or.inl (ww hw 13 rfl)) Via.refl e0 (Sa_TRUE.ext O0.2) (g := (mkF m 1 #[.val (.ref a_UNKNOWN), .val (.ref a_UNKNOWN), .unset] [(.ref a_UNKNOWN)])) rfl (hb hby d2_1)
 have p3 : ∀ t, St p e below T2 (mkF m 4 #[.val (.ref a_UNKNOWN), .val (.ref a_UNKNOWN), .unset] [(.ref a_TRUE), (.ref a_UNKNOWN)]) t → S0 t := fun t k => p1 t (st2 t k)
 have p4 : ∀ t, St p e below T2 (mkF m 8 #[.val (.ref a_UNKNOWN), .val (.ref a_UNKNOWN), .unset] [(.ref a_UNKNOWN)]) t → S0 t := fun t k => p3 t (by
   show St p e below T2 (mkF m 4 #[.val (.ref a_UNKNOWN), .val (.ref a_UNKNOWN), .unset] [(.ref a_TRUE), (.ref a_UNKNOWN)]) t
   refine Jvm.RoadKit.acmp (g := (mkF m 4 #[.val (.ref a_UNKNOWN), .val (.ref a_UNKNOWN), .unset] [(.ref a_TRUE), (.ref a_UNKNOWN)])) X2 hx rfl rfl rfl (pc0 := 4) (pc' := 7) (same := false) rfl (hb hby d2_4) rfl (decide_eq_false fun q => (Fld.ne Fa_UNKNOWN_ordinal Fa_TRUE_ordinal (fun q => absurd (Value.int.inj q) (by decide))) (Value.ref.inj q)) (by decide) (by decide) ?_
   show St p e below T2 (mkF m 7 #[.val (.ref a_UNKNOWN), .val (.ref a_UNKNOWN), .unset] []) t
   refine XS.aloadN X2.here hx rfl (hb hby d2_7) rfl rfl ?_
   exact k)
 obtain ⟨T5, X5, e5, st5⟩ := getS2 X2 hx hZ hown (host := "") (Or.inl (ww hw 13 rfl)) Via.refl e2 (Sa_TRUE.ext O0.2) (g := (mkF m 8 #[.val (.ref a_UNKNOWN), .val (.ref a_UNKNOWN), .unset] [(.ref a_UNKNOWN)])) rfl (hb hby d2_8)
 have p6 : ∀ t, St p e below T5 (mkF m 11 #[.val (.ref a_UNKNOWN), .val (.ref a_UNKNOWN), .unset] [(.ref a_TRUE), (.ref a_UNKNOWN)]) t → S0 t := fun t k => p4 t (st5 t k)
 have p7 : ∀ t, St p e below T5 (mkF m 22 #[.val (.ref a_UNKNOWN), .val (.ref a_UNKNOWN), .unset] [(.ref a_UNKNOWN)]) t → S0 t := fun t k => p6 t (by
   show St p e below T5 (mkF m 11 #[.val (.ref a_UNKNOWN), .val (.ref a_UNKNOWN), .unset] [(.ref a_TRUE), (.ref a_UNKNOWN)]) t
   refine Jvm.RoadKit.acmp (g := (mkF m 11 #[.val (.ref a_UNKNOWN), .val (.ref a_UNKNOWN), .unset] [(.ref a_TRUE), (.ref a_UNKNOWN)])) X5 hx rfl rfl rfl (pc0 := 11) (pc' := 21) (same := false) rfl (hb hby d2_11) rfl (decide_eq_false fun q => (Fld.ne Fa_UNKNOWN_ordinal Fa_TRUE_ordinal (fun q => absurd (Value.int.inj q) (by decide))) (Value.ref.inj q)) (by decide) (by decide) ?_
   show St p e below T5 (mkF m 21 #[.val (.ref a_UNKNOWN), .val (.ref a_UNKNOWN), .unset] []) t
   refine XS.aloadN X5.here hx rfl (hb hby d2_21) rfl rfl ?_
   exact k)
 obtain ⟨T8, X8, e8, st8⟩ := getS2 X5 hx hZ hown (host := "") (Or.inl (ww hw 15 rfl)) Via.refl e5 (Sa_UNKNOWN.ext O0.2) (g := (mkF m 22 #[.val (.ref a_UNKNOWN), .val (.ref a_UNKNOWN), .unset] [(.ref a_UNKNOWN)])) rfl (hb hby d2_22)
 have p9 : ∀ t, St p e below T8 (mkF m 25 #[.val (.ref a_UNKNOWN), .val (.ref a_UNKNOWN), .unset] [(.ref a_UNKNOWN), (.ref a_UNKNOWN)]) t → S0 t := fun t k => p7 t (st8 t k)
 have p10 : ∀ t, St p e below T8 (mkF m 35 #[.val (.ref a_UNKNOWN), .val (.ref a_UNKNOWN), .unset] []) t → S0 t := fun t k => p9 t (by
   show St p e below T8 (mkF m 25 #[.val (.ref a_UNKNOWN), .val (.ref a_UNKNOWN), .unset] [(.ref a_UNKNOWN), (.ref a_UNKNOWN)]) t
   refine Jvm.RoadKit.acmp (g := (mkF m 25 #[.val (.ref a_UNKNOWN), .val (.ref a_UNKNOWN), .unset] [(.ref a_UNKNOWN), (.ref a_UNKNOWN)])) X8 hx rfl rfl rfl (pc0 := 25) (pc' := 35) (same := true) rfl (hb hby d2_25) rfl (decide_eq_true rfl) (by decide) (by decide) ?_
   exact k)
 obtain ⟨T11, X11, e11, st11⟩ := getS2 X8 hx hZ hown (host := "") (Or.inl (ww hw 15 rfl)) Via.refl e8 (Sa_UNKNOWN.ext O0.2) (g := (mkF m 35 #[.val (.ref a_UNKNOWN), .val (.ref a_UNKNOWN), .unset] [])) rfl (hb hby d2_35)
 have p12 : ∀ t, St p e below T11 (mkF m 38 #[.val (.ref a_UNKNOWN), .val (.ref a_UNKNOWN), .unset] [(.ref a_UNKNOWN)]) t → S0 t := fun t k => p10 t (st11 t k)
 let Ls13 : Array Slot := #[.val (.ref a_UNKNOWN), .val (.ref a_UNKNOWN), .val (.ref a_UNKNOWN)]
 have p14 : ∀ t, St p e below T11 (mkF m 47 Ls13 [(.ref a_UNKNOWN)]) t → S0 t := fun t k => p12 t (by
   show St p e below T11 (mkF m 38 #[.val (.ref a_UNKNOWN), .val (.ref a_UNKNOWN), .unset] [(.ref a_UNKNOWN)]) t
   refine XS.astoreN X11.here hx rfl (hb hby d2_38) rfl rfl (l' := Ls13) rfl ?_
   show St p e below T11 (mkF m 39 Ls13 []) t
   refine XS.goto X11.here hx rfl (pc0 := 39) (pc' := 46) rfl (hb hby d2_39) (by decide) (by decide) ?_
   show St p e below T11 (mkF m 46 Ls13 []) t
   refine XS.aloadN X11.here hx rfl (hb hby d2_46) rfl rfl ?_
   exact k)
 obtain ⟨fs, hr, hrun, hended, hW, hsame⟩ := X11.leave (v := some (.ref a_UNKNOWN)) (fun h => by rw [Bd.returns] at h; cases h)
 refine ⟨_, _, p14 _ ?_, hrun, hended, _, _, rfl, ?_, ⟨_, rfl⟩, hW, hsame.mono (by decide) (by decide)⟩
 · exact retOut X11 hx Bd.returns rfl (Or.inr (Or.inr (Or.inr (Or.inr ⟨rfl, rfl, rfl⟩)))) (hb hby d2_47) hr
 · show Q2_12 Z a_FALSE a_TRUE a_UNKNOWN h0 n0 _ T11.heap _
   exact ⟨N0, e11, rfl⟩
def Q3_13 (Z : State) (a_FALSE : Addr) (a_TRUE : Addr) (a_UNKNOWN : Addr) (h0 : Heap) (n0 : Nat) (v : Option Value) (h : Heap) (L : List Loc) : Prop := Fr n0 L ∧ h = h0 ∧ ((v = some (.int (1 : Int32))))
set_option maxRecDepth 65536 in
set_option maxHeartbeats 40000000 in
theorem rm3_13 (l : Launch) (Z : State) (a0 : Array Value) (hw : ∀ d ∈ tables_1, d.before a0 Z = true) (ws : List Jvm.Cond) (a_FALSE : Addr) (a_TRUE : Addr) (a_UNKNOWN : Addr) (h0 : Heap) (n0 : Nat) (O0 : Old Z n0 h0) (HE : Env1 Z a_FALSE a_TRUE a_UNKNOWN)  :
    MetFree l M2 (head1 (Jvm.Cond.code M2 jdk_29_method_65_code 2 (some .int) :: ws) ({ frames := 0, cells := 0, slots := 0, locals := 0 } : Room)) (fun a U => a = #[(.int (1 : Int32)), (.int (1 : Int32))] ∧ Z.Warmed39 U.vm ∧ U.heap = h0) (fun _ _ _ _ _ => True) (fun _ U o U' => ∃ v L, o = .returned v ∧ Q3_13 Z a_FALSE a_TRUE a_UNKNOWN h0 n0 v U'.heap L ∧ FrameEnd U o U' L ({ frames := 0, cells := 0, slots := 0, locals := 0 } : Room).cells ({ frames := 0, cells := 0, slots := 0, locals := 0 } : Room).slots) := by
 refine MetFree.of_bodySF (Jvm.Free.JP.mathPlain rfl (by decide +kernel)) hisR ?_
 intro p e s m args below meth c s₁ Bd hml0 hP hK
 obtain ⟨rfl, hZ, hh⟩ := hP
 have hx := Bd.exec
 have hby := Bd.bytes
 have hml : c.maxLocals = 2 := hml0
 have hown : s.vm.findClass "java/lang/Math" = some m.cls := findClass_of_methodNamed Bd.named
 have hnm := (name_of_methodNamed Bd.named Bd.method).1
 have X0 : Stand p l e ({ frames := 0, cells := 0, slots := 0, locals := 0 } : Room) s m #[(.int (1 : Int32)), (.int (1 : Int32))] below meth c s₁ [] 0 0 := Stand.of_body Bd
 have e0 : s₁.heap = h0 := by rw [← hh, Bd.state]; rfl
 have N0 := Fr.nil n0
 let S0 : State → Prop := fun t => Steps p.tables e below (s₁.setTop (entryFrame m #[(.int (1 : Int32)), (.int (1 : Int32))] 2)) t
 have p0 : ∀ t, St p e below s₁ (mkF m 0 #[.val (.int (1 : Int32)), .val (.int (1 : Int32))] []) t → S0 t := fun t k => castTop (ef3 m (1 : Int32) (1 : Int32)) k
 have HE' := HE
 obtain ⟨Sa_FALSE, Ea_FALSE, Sa_TRUE, Ea_TRUE, Fa_FALSE_ordinal, Fa_TRUE_ordinal, Sa_UNKNOWN, Ea_UNKNOWN, Fa_UNKNOWN_ordinal⟩ := HE
 have p1 : ∀ t, St p e below s₁ (mkF m 10 #[.val (.int (1 : Int32)), .val (.int (1 : Int32))] [(.int (1 : Int32))]) t → S0 t := fun t k => p0 t (by
   show St p e below s₁ (mkF m 0 #[.val (.int (1 : Int32)), .val (.int (1 : Int32))] []) t
   refine XS.iloadN X0.here hx rfl (hb hby d3_0) rfl ?_
   show St p e below s₁ (mkF m 1 #[.val (.int (1 : Int32)), .val (.int (1 : Int32))] [(.int (1 : Int32))]) t
   refine XS.iloadN X0.here hx rfl (hb hby d3_1) rfl ?_
   show St p e below s₁ (mkF m 2 #[.val (.int (1 : Int32)), .val (.int (1 : Int32))] [(.int (1 : Int32)), (.int (1 : Int32))]) t
   refine XS.icmpNo X0.here hx rfl (hb hby d3_2) rfl (flt (by decide : ¬ ((1 : Int32) < (1 : Int32)))).1 ?_
   show St p e below s₁ (mkF m 5 #[.val (.int (1 : Int32)), .val (.int (1 : Int32))] []) t
   refine XS.iloadN X0.here hx rfl (hb hby d3_5) rfl ?_
   show St p e below s₁ (mkF m 6 #[.val (.int (1 : Int32)), .val (.int (1 : Int32))] [(.int (1 : Int32))]) t
   refine XS.goto X0.here hx rfl (pc0 := 6) (pc' := 10) rfl (hb hby d3_6) (by decide) (by decide) ?_
   exact k)
 obtain ⟨fs, hr, hrun, hended, hW, hsame⟩ := X0.leave (v := some (.int (1 : Int32))) (fun h => by rw [Bd.returns] at h; cases h)
 refine ⟨_, _, p1 _ ?_, hrun, hended, _, _, rfl, ?_, ⟨_, rfl⟩, hW, hsame.mono (by decide) (by decide)⟩
 · exact retOut X0 hx Bd.returns rfl (Or.inl ⟨rfl, by simp, _, rfl⟩) (hb hby d3_10) hr
 · show Q3_13 Z a_FALSE a_TRUE a_UNKNOWN h0 n0 _ s₁.heap _
   exact ⟨N0, e0, rfl⟩
def Q2_14 (Z : State) (a_FALSE : Addr) (a_TRUE : Addr) (a_UNKNOWN : Addr) (h0 : Heap) (n0 : Nat) (v : Option Value) (h : Heap) (L : List Loc) : Prop := Fr n0 L ∧ h = h0 ∧ ((v = some (.ref a_TRUE)))
set_option maxRecDepth 65536 in
set_option maxHeartbeats 40000000 in
theorem rm2_14 (l : Launch) (Z : State) (a0 : Array Value) (hw : ∀ d ∈ tables_1, d.before a0 Z = true) (ws : List Jvm.Cond) (a_FALSE : Addr) (a_TRUE : Addr) (a_UNKNOWN : Addr) (h0 : Heap) (n0 : Nat) (O0 : Old Z n0 h0) (HE : Env1 Z a_FALSE a_TRUE a_UNKNOWN)  :
    MetFree l M1 (head1 (Jvm.Cond.code M1 prog_32_method_7_code 3 (some (.object "com/example/herald4/herald4/filter/Truth")) :: ws) ({ frames := 0, cells := 0, slots := 0, locals := 0 } : Room)) (fun a U => a = #[(.ref a_UNKNOWN), (.ref a_TRUE)] ∧ Z.Warmed39 U.vm ∧ U.heap = h0) (fun _ _ _ _ _ => True) (fun _ U o U' => ∃ v L, o = .returned v ∧ Q2_14 Z a_FALSE a_TRUE a_UNKNOWN h0 n0 v U'.heap L ∧ FrameEnd U o U' L ({ frames := 0, cells := 0, slots := 0, locals := 0 } : Room).cells ({ frames := 0, cells := 0, slots := 0, locals := 0 } : Room).slots) := by
 refine MetFree.of_bodySF (plainFor_of_name pn1) hisR ?_
 intro p e s m args below meth c s₁ Bd hml0 hP hK
 obtain ⟨rfl, hZ, hh⟩ := hP
 have hx := Bd.exec
 have hby := Bd.bytes
 have hml : c.maxLocals = 3 := hml0
 have hown : s.vm.findClass "com/example/herald4/herald4/filter/Truth" = some m.cls := findClass_of_methodNamed Bd.named
 have hnm := (name_of_methodNamed Bd.named Bd.method).1
 have X0 : Stand p l e ({ frames := 0, cells := 0, slots := 0, locals := 0 } : Room) s m #[(.ref a_UNKNOWN), (.ref a_TRUE)] below meth c s₁ [] 0 0 := Stand.of_body Bd
 have e0 : s₁.heap = h0 := by rw [← hh, Bd.state]; rfl
 have N0 := Fr.nil n0
 let S0 : State → Prop := fun t => Steps p.tables e below (s₁.setTop (entryFrame m #[(.ref a_UNKNOWN), (.ref a_TRUE)] 3)) t
 have p0 : ∀ t, St p e below s₁ (mkF m 0 #[.val (.ref a_UNKNOWN), .val (.ref a_TRUE), .unset] []) t → S0 t := fun t k => castTop (ef2 m a_UNKNOWN a_TRUE) k
 have HE' := HE
 obtain ⟨Sa_FALSE, Ea_FALSE, Sa_TRUE, Ea_TRUE, Fa_FALSE_ordinal, Fa_TRUE_ordinal, Sa_UNKNOWN, Ea_UNKNOWN, Fa_UNKNOWN_ordinal⟩ := HE
 have p1 : ∀ t, St p e below s₁ (mkF m 1 #[.val (.ref a_UNKNOWN), .val (.ref a_TRUE), .unset] [(.ref a_UNKNOWN)]) t → S0 t := fun t k => p0 t (by
   show St p e below s₁ (mkF m 0 #[.val (.ref a_UNKNOWN), .val (.ref a_TRUE), .unset] []) t
   refine XS.aloadN X0.here hx rfl (hb hby d2_0) rfl rfl ?_
   exact k)
 obtain ⟨T2, X2, e2, st2⟩ := getS2 X0 hx hZ hown (host := "") (Or.inl (ww hw 13 rfl)) Via.refl e0 (Sa_TRUE.ext O0.2) (g := (mkF m 1 #[.val (.ref a_UNKNOWN), .val (.ref a_TRUE), .unset] [(.ref a_UNKNOWN)])) rfl (hb hby d2_1)
 have p3 : ∀ t, St p e below T2 (mkF m 4 #[.val (.ref a_UNKNOWN), .val (.ref a_TRUE), .unset] [(.ref a_TRUE), (.ref a_UNKNOWN)]) t → S0 t := fun t k => p1 t (st2 t k)
 have p4 : ∀ t, St p e below T2 (mkF m 8 #[.val (.ref a_UNKNOWN), .val (.ref a_TRUE), .unset] [(.ref a_TRUE)]) t → S0 t := fun t k => p3 t (by
   show St p e below T2 (mkF m 4 #[.val (.ref a_UNKNOWN), .val (.ref a_TRUE), .unset] [(.ref a_TRUE), (.ref a_UNKNOWN)]) t
   refine Jvm.RoadKit.acmp (g := (mkF m 4 #[.val (.ref a_UNKNOWN), .val (.ref a_TRUE), .unset] [(.ref a_TRUE), (.ref a_UNKNOWN)])) X2 hx rfl rfl rfl (pc0 := 4) (pc' := 7) (same := false) rfl (hb hby d2_4) rfl (decide_eq_false fun q => (Fld.ne Fa_UNKNOWN_ordinal Fa_TRUE_ordinal (fun q => absurd (Value.int.inj q) (by decide))) (Value.ref.inj q)) (by decide) (by decide) ?_
   show St p e below T2 (mkF m 7 #[.val (.ref a_UNKNOWN), .val (.ref a_TRUE), .unset] []) t
   refine XS.aloadN X2.here hx rfl (hb hby d2_7) rfl rfl ?_
   exact k)
 obtain ⟨T5, X5, e5, st5⟩ := getS2 X2 hx hZ hown (host := "") (Or.inl (ww hw 13 rfl)) Via.refl e2 (Sa_TRUE.ext O0.2) (g := (mkF m 8 #[.val (.ref a_UNKNOWN), .val (.ref a_TRUE), .unset] [(.ref a_TRUE)])) rfl (hb hby d2_8)
 have p6 : ∀ t, St p e below T5 (mkF m 11 #[.val (.ref a_UNKNOWN), .val (.ref a_TRUE), .unset] [(.ref a_TRUE), (.ref a_TRUE)]) t → S0 t := fun t k => p4 t (st5 t k)
 have p7 : ∀ t, St p e below T5 (mkF m 14 #[.val (.ref a_UNKNOWN), .val (.ref a_TRUE), .unset] []) t → S0 t := fun t k => p6 t (by
   show St p e below T5 (mkF m 11 #[.val (.ref a_UNKNOWN), .val (.ref a_TRUE), .unset] [(.ref a_TRUE), (.ref a_TRUE)]) t
   refine Jvm.RoadKit.acmp (g := (mkF m 11 #[.val (.ref a_UNKNOWN), .val (.ref a_TRUE), .unset] [(.ref a_TRUE), (.ref a_TRUE)])) X5 hx rfl rfl rfl (pc0 := 11) (pc' := 14) (same := true) rfl (hb hby d2_11) rfl (decide_eq_true rfl) (by decide) (by decide) ?_
   exact k)
 obtain ⟨T8, X8, e8, st8⟩ := getS2 X5 hx hZ hown (host := "") (Or.inl (ww hw 13 rfl)) Via.refl e5 (Sa_TRUE.ext O0.2) (g := (mkF m 14 #[.val (.ref a_UNKNOWN), .val (.ref a_TRUE), .unset] [])) rfl (hb hby d2_14)
 have p9 : ∀ t, St p e below T8 (mkF m 17 #[.val (.ref a_UNKNOWN), .val (.ref a_TRUE), .unset] [(.ref a_TRUE)]) t → S0 t := fun t k => p7 t (st8 t k)
 let Ls10 : Array Slot := #[.val (.ref a_UNKNOWN), .val (.ref a_TRUE), .val (.ref a_TRUE)]
 have p11 : ∀ t, St p e below T8 (mkF m 47 Ls10 [(.ref a_TRUE)]) t → S0 t := fun t k => p9 t (by
   show St p e below T8 (mkF m 17 #[.val (.ref a_UNKNOWN), .val (.ref a_TRUE), .unset] [(.ref a_TRUE)]) t
   refine XS.astoreN X8.here hx rfl (hb hby d2_17) rfl rfl (l' := Ls10) rfl ?_
   show St p e below T8 (mkF m 18 Ls10 []) t
   refine XS.goto X8.here hx rfl (pc0 := 18) (pc' := 46) rfl (hb hby d2_18) (by decide) (by decide) ?_
   show St p e below T8 (mkF m 46 Ls10 []) t
   refine XS.aloadN X8.here hx rfl (hb hby d2_46) rfl rfl ?_
   exact k)
 obtain ⟨fs, hr, hrun, hended, hW, hsame⟩ := X8.leave (v := some (.ref a_TRUE)) (fun h => by rw [Bd.returns] at h; cases h)
 refine ⟨_, _, p11 _ ?_, hrun, hended, _, _, rfl, ?_, ⟨_, rfl⟩, hW, hsame.mono (by decide) (by decide)⟩
 · exact retOut X8 hx Bd.returns rfl (Or.inr (Or.inr (Or.inr (Or.inr ⟨rfl, rfl, rfl⟩)))) (hb hby d2_47) hr
 · show Q2_14 Z a_FALSE a_TRUE a_UNKNOWN h0 n0 _ T8.heap _
   exact ⟨N0, e8, rfl⟩
def Q3_15 (Z : State) (a_FALSE : Addr) (a_TRUE : Addr) (a_UNKNOWN : Addr) (i0 : Int32) (h0 : Heap) (n0 : Nat) (v : Option Value) (h : Heap) (L : List Loc) : Prop := Fr n0 L ∧ h = h0 ∧ ((v = some (.int i0) ∧ (1 : Int32) < i0) ∨ (v = some (.int (1 : Int32)) ∧ ¬ ((1 : Int32) < i0)))
set_option maxRecDepth 65536 in
set_option maxHeartbeats 40000000 in
theorem rm3_15 (l : Launch) (Z : State) (a0 : Array Value) (hw : ∀ d ∈ tables_1, d.before a0 Z = true) (ws : List Jvm.Cond) (a_FALSE : Addr) (a_TRUE : Addr) (a_UNKNOWN : Addr) (i0 : Int32) (h0 : Heap) (n0 : Nat) (O0 : Old Z n0 h0) (HE : Env1 Z a_FALSE a_TRUE a_UNKNOWN)  :
    MetFree l M2 (head1 (Jvm.Cond.code M2 jdk_29_method_65_code 2 (some .int) :: ws) ({ frames := 0, cells := 0, slots := 0, locals := 0 } : Room)) (fun a U => a = #[(.int (1 : Int32)), (.int i0)] ∧ Z.Warmed39 U.vm ∧ U.heap = h0) (fun _ _ _ _ _ => True) (fun _ U o U' => ∃ v L, o = .returned v ∧ Q3_15 Z a_FALSE a_TRUE a_UNKNOWN i0 h0 n0 v U'.heap L ∧ FrameEnd U o U' L ({ frames := 0, cells := 0, slots := 0, locals := 0 } : Room).cells ({ frames := 0, cells := 0, slots := 0, locals := 0 } : Room).slots) := by
 refine MetFree.of_bodySF (Jvm.Free.JP.mathPlain rfl (by decide +kernel)) hisR ?_
 intro p e s m args below meth c s₁ Bd hml0 hP hK
 obtain ⟨rfl, hZ, hh⟩ := hP
 have hx := Bd.exec
 have hby := Bd.bytes
 have hml : c.maxLocals = 2 := hml0
 have hown : s.vm.findClass "java/lang/Math" = some m.cls := findClass_of_methodNamed Bd.named
 have hnm := (name_of_methodNamed Bd.named Bd.method).1
 have X0 : Stand p l e ({ frames := 0, cells := 0, slots := 0, locals := 0 } : Room) s m #[(.int (1 : Int32)), (.int i0)] below meth c s₁ [] 0 0 := Stand.of_body Bd
 have e0 : s₁.heap = h0 := by rw [← hh, Bd.state]; rfl
 have N0 := Fr.nil n0
 let S0 : State → Prop := fun t => Steps p.tables e below (s₁.setTop (entryFrame m #[(.int (1 : Int32)), (.int i0)] 2)) t
 have p0 : ∀ t, St p e below s₁ (mkF m 0 #[.val (.int (1 : Int32)), .val (.int i0)] []) t → S0 t := fun t k => castTop (ef3 m (1 : Int32) i0) k
 have HE' := HE
 obtain ⟨Sa_FALSE, Ea_FALSE, Sa_TRUE, Ea_TRUE, Fa_FALSE_ordinal, Fa_TRUE_ordinal, Sa_UNKNOWN, Ea_UNKNOWN, Fa_UNKNOWN_ordinal⟩ := HE
 have p1 : ∀ t, St p e below s₁ (mkF m 2 #[.val (.int (1 : Int32)), .val (.int i0)] [(.int i0), (.int (1 : Int32))]) t → S0 t := fun t k => p0 t (by
   show St p e below s₁ (mkF m 0 #[.val (.int (1 : Int32)), .val (.int i0)] []) t
   refine XS.iloadN X0.here hx rfl (hb hby d3_0) rfl ?_
   show St p e below s₁ (mkF m 1 #[.val (.int (1 : Int32)), .val (.int i0)] [(.int (1 : Int32))]) t
   refine XS.iloadN X0.here hx rfl (hb hby d3_1) rfl ?_
   exact k)
 by_cases g2 : (1 : Int32) < i0
 ·
  have p3 : ∀ t, St p e below s₁ (mkF m 10 #[.val (.int (1 : Int32)), .val (.int i0)] [(.int i0)]) t → S0 t := fun t k => p1 t (by
    show St p e below s₁ (mkF m 2 #[.val (.int (1 : Int32)), .val (.int i0)] [(.int i0), (.int (1 : Int32))]) t
    refine XS.icmpYes X0.here hx rfl (pc0 := 2) (pc' := 9) rfl (hb hby d3_2) rfl (tlt g2).1 (by decide) (by decide) ?_
    show St p e below s₁ (mkF m 9 #[.val (.int (1 : Int32)), .val (.int i0)] []) t
    refine XS.iloadN X0.here hx rfl (hb hby d3_9) rfl ?_
    exact k)
  obtain ⟨fs, hr, hrun, hended, hW, hsame⟩ := X0.leave (v := some (.int i0)) (fun h => by rw [Bd.returns] at h; cases h)
  refine ⟨_, _, p3 _ ?_, hrun, hended, _, _, rfl, ?_, ⟨_, rfl⟩, hW, hsame.mono (by decide) (by decide)⟩
  · exact retOut X0 hx Bd.returns rfl (Or.inl ⟨rfl, by simp, _, rfl⟩) (hb hby d3_10) hr
  · show Q3_15 Z a_FALSE a_TRUE a_UNKNOWN i0 h0 n0 _ s₁.heap _
    exact ⟨N0, e0, (Or.inl ⟨rfl, g2⟩)⟩
 ·
  have p4 : ∀ t, St p e below s₁ (mkF m 10 #[.val (.int (1 : Int32)), .val (.int i0)] [(.int (1 : Int32))]) t → S0 t := fun t k => p1 t (by
    show St p e below s₁ (mkF m 2 #[.val (.int (1 : Int32)), .val (.int i0)] [(.int i0), (.int (1 : Int32))]) t
    refine XS.icmpNo X0.here hx rfl (hb hby d3_2) rfl (flt g2).1 ?_
    show St p e below s₁ (mkF m 5 #[.val (.int (1 : Int32)), .val (.int i0)] []) t
    refine XS.iloadN X0.here hx rfl (hb hby d3_5) rfl ?_
    show St p e below s₁ (mkF m 6 #[.val (.int (1 : Int32)), .val (.int i0)] [(.int (1 : Int32))]) t
    refine XS.goto X0.here hx rfl (pc0 := 6) (pc' := 10) rfl (hb hby d3_6) (by decide) (by decide) ?_
    exact k)
  obtain ⟨fs, hr, hrun, hended, hW, hsame⟩ := X0.leave (v := some (.int (1 : Int32))) (fun h => by rw [Bd.returns] at h; cases h)
  refine ⟨_, _, p4 _ ?_, hrun, hended, _, _, rfl, ?_, ⟨_, rfl⟩, hW, hsame.mono (by decide) (by decide)⟩
  · exact retOut X0 hx Bd.returns rfl (Or.inl ⟨rfl, by simp, _, rfl⟩) (hb hby d3_10) hr
  · show Q3_15 Z a_FALSE a_TRUE a_UNKNOWN i0 h0 n0 _ s₁.heap _
    exact ⟨N0, e0, (Or.inr (⟨rfl, g2⟩))⟩
def Q2_16 (Z : State) (a_FALSE : Addr) (a_TRUE : Addr) (a_UNKNOWN : Addr) (h0 : Heap) (n0 : Nat) (v : Option Value) (h : Heap) (L : List Loc) : Prop := Fr n0 L ∧ h = h0 ∧ ((v = some (.ref a_TRUE)))
set_option maxRecDepth 65536 in
set_option maxHeartbeats 40000000 in
theorem rm2_16 (l : Launch) (Z : State) (a0 : Array Value) (hw : ∀ d ∈ tables_1, d.before a0 Z = true) (ws : List Jvm.Cond) (a_FALSE : Addr) (a_TRUE : Addr) (a_UNKNOWN : Addr) (h0 : Heap) (n0 : Nat) (O0 : Old Z n0 h0) (HE : Env1 Z a_FALSE a_TRUE a_UNKNOWN)  :
    MetFree l M1 (head1 (Jvm.Cond.code M1 prog_32_method_7_code 3 (some (.object "com/example/herald4/herald4/filter/Truth")) :: ws) ({ frames := 0, cells := 0, slots := 0, locals := 0 } : Room)) (fun a U => a = #[(.ref a_TRUE), (.ref a_FALSE)] ∧ Z.Warmed39 U.vm ∧ U.heap = h0) (fun _ _ _ _ _ => True) (fun _ U o U' => ∃ v L, o = .returned v ∧ Q2_16 Z a_FALSE a_TRUE a_UNKNOWN h0 n0 v U'.heap L ∧ FrameEnd U o U' L ({ frames := 0, cells := 0, slots := 0, locals := 0 } : Room).cells ({ frames := 0, cells := 0, slots := 0, locals := 0 } : Room).slots) := by
 refine MetFree.of_bodySF (plainFor_of_name pn1) hisR ?_
 intro p e s m args below meth c s₁ Bd hml0 hP hK
 obtain ⟨rfl, hZ, hh⟩ := hP
 have hx := Bd.exec
 have hby := Bd.bytes
 have hml : c.maxLocals = 3 := hml0
 have hown : s.vm.findClass "com/example/herald4/herald4/filter/Truth" = some m.cls := findClass_of_methodNamed Bd.named
 have hnm := (name_of_methodNamed Bd.named Bd.method).1
 have X0 : Stand p l e ({ frames := 0, cells := 0, slots := 0, locals := 0 } : Room) s m #[(.ref a_TRUE), (.ref a_FALSE)] below meth c s₁ [] 0 0 := Stand.of_body Bd
 have e0 : s₁.heap = h0 := by rw [← hh, Bd.state]; rfl
 have N0 := Fr.nil n0
 let S0 : State → Prop := fun t => Steps p.tables e below (s₁.setTop (entryFrame m #[(.ref a_TRUE), (.ref a_FALSE)] 3)) t
 have p0 : ∀ t, St p e below s₁ (mkF m 0 #[.val (.ref a_TRUE), .val (.ref a_FALSE), .unset] []) t → S0 t := fun t k => castTop (ef2 m a_TRUE a_FALSE) k
 have HE' := HE
 obtain ⟨Sa_FALSE, Ea_FALSE, Sa_TRUE, Ea_TRUE, Fa_FALSE_ordinal, Fa_TRUE_ordinal, Sa_UNKNOWN, Ea_UNKNOWN, Fa_UNKNOWN_ordinal⟩ := HE
 have p1 : ∀ t, St p e below s₁ (mkF m 1 #[.val (.ref a_TRUE), .val (.ref a_FALSE), .unset] [(.ref a_TRUE)]) t → S0 t := fun t k => p0 t (by
   show St p e below s₁ (mkF m 0 #[.val (.ref a_TRUE), .val (.ref a_FALSE), .unset] []) t
   refine XS.aloadN X0.here hx rfl (hb hby d2_0) rfl rfl ?_
   exact k)
 obtain ⟨T2, X2, e2, st2⟩ := getS2 X0 hx hZ hown (host := "") (Or.inl (ww hw 13 rfl)) Via.refl e0 (Sa_TRUE.ext O0.2) (g := (mkF m 1 #[.val (.ref a_TRUE), .val (.ref a_FALSE), .unset] [(.ref a_TRUE)])) rfl (hb hby d2_1)
 have p3 : ∀ t, St p e below T2 (mkF m 4 #[.val (.ref a_TRUE), .val (.ref a_FALSE), .unset] [(.ref a_TRUE), (.ref a_TRUE)]) t → S0 t := fun t k => p1 t (st2 t k)
 have p4 : ∀ t, St p e below T2 (mkF m 14 #[.val (.ref a_TRUE), .val (.ref a_FALSE), .unset] []) t → S0 t := fun t k => p3 t (by
   show St p e below T2 (mkF m 4 #[.val (.ref a_TRUE), .val (.ref a_FALSE), .unset] [(.ref a_TRUE), (.ref a_TRUE)]) t
   refine Jvm.RoadKit.acmp (g := (mkF m 4 #[.val (.ref a_TRUE), .val (.ref a_FALSE), .unset] [(.ref a_TRUE), (.ref a_TRUE)])) X2 hx rfl rfl rfl (pc0 := 4) (pc' := 14) (same := true) rfl (hb hby d2_4) rfl (decide_eq_true rfl) (by decide) (by decide) ?_
   exact k)
 obtain ⟨T5, X5, e5, st5⟩ := getS2 X2 hx hZ hown (host := "") (Or.inl (ww hw 13 rfl)) Via.refl e2 (Sa_TRUE.ext O0.2) (g := (mkF m 14 #[.val (.ref a_TRUE), .val (.ref a_FALSE), .unset] [])) rfl (hb hby d2_14)
 have p6 : ∀ t, St p e below T5 (mkF m 17 #[.val (.ref a_TRUE), .val (.ref a_FALSE), .unset] [(.ref a_TRUE)]) t → S0 t := fun t k => p4 t (st5 t k)
 let Ls7 : Array Slot := #[.val (.ref a_TRUE), .val (.ref a_FALSE), .val (.ref a_TRUE)]
 have p8 : ∀ t, St p e below T5 (mkF m 47 Ls7 [(.ref a_TRUE)]) t → S0 t := fun t k => p6 t (by
   show St p e below T5 (mkF m 17 #[.val (.ref a_TRUE), .val (.ref a_FALSE), .unset] [(.ref a_TRUE)]) t
   refine XS.astoreN X5.here hx rfl (hb hby d2_17) rfl rfl (l' := Ls7) rfl ?_
   show St p e below T5 (mkF m 18 Ls7 []) t
   refine XS.goto X5.here hx rfl (pc0 := 18) (pc' := 46) rfl (hb hby d2_18) (by decide) (by decide) ?_
   show St p e below T5 (mkF m 46 Ls7 []) t
   refine XS.aloadN X5.here hx rfl (hb hby d2_46) rfl rfl ?_
   exact k)
 obtain ⟨fs, hr, hrun, hended, hW, hsame⟩ := X5.leave (v := some (.ref a_TRUE)) (fun h => by rw [Bd.returns] at h; cases h)
 refine ⟨_, _, p8 _ ?_, hrun, hended, _, _, rfl, ?_, ⟨_, rfl⟩, hW, hsame.mono (by decide) (by decide)⟩
 · exact retOut X5 hx Bd.returns rfl (Or.inr (Or.inr (Or.inr (Or.inr ⟨rfl, rfl, rfl⟩)))) (hb hby d2_47) hr
 · show Q2_16 Z a_FALSE a_TRUE a_UNKNOWN h0 n0 _ T5.heap _
   exact ⟨N0, e5, rfl⟩
def Q3_17 (Z : State) (a_FALSE : Addr) (a_TRUE : Addr) (a_UNKNOWN : Addr) (i0 : Int32) (h0 : Heap) (n0 : Nat) (v : Option Value) (h : Heap) (L : List Loc) : Prop := Fr n0 L ∧ h = h0 ∧ ((v = some (.int (0 : Int32)) ∧ i0 < (0 : Int32)) ∨ (v = some (.int i0) ∧ ¬ (i0 < (0 : Int32))))
set_option maxRecDepth 65536 in
set_option maxHeartbeats 40000000 in
theorem rm3_17 (l : Launch) (Z : State) (a0 : Array Value) (hw : ∀ d ∈ tables_1, d.before a0 Z = true) (ws : List Jvm.Cond) (a_FALSE : Addr) (a_TRUE : Addr) (a_UNKNOWN : Addr) (i0 : Int32) (h0 : Heap) (n0 : Nat) (O0 : Old Z n0 h0) (HE : Env1 Z a_FALSE a_TRUE a_UNKNOWN)  :
    MetFree l M2 (head1 (Jvm.Cond.code M2 jdk_29_method_65_code 2 (some .int) :: ws) ({ frames := 0, cells := 0, slots := 0, locals := 0 } : Room)) (fun a U => a = #[(.int i0), (.int (0 : Int32))] ∧ Z.Warmed39 U.vm ∧ U.heap = h0) (fun _ _ _ _ _ => True) (fun _ U o U' => ∃ v L, o = .returned v ∧ Q3_17 Z a_FALSE a_TRUE a_UNKNOWN i0 h0 n0 v U'.heap L ∧ FrameEnd U o U' L ({ frames := 0, cells := 0, slots := 0, locals := 0 } : Room).cells ({ frames := 0, cells := 0, slots := 0, locals := 0 } : Room).slots) := by
 refine MetFree.of_bodySF (Jvm.Free.JP.mathPlain rfl (by decide +kernel)) hisR ?_
 intro p e s m args below meth c s₁ Bd hml0 hP hK
 obtain ⟨rfl, hZ, hh⟩ := hP
 have hx := Bd.exec
 have hby := Bd.bytes
 have hml : c.maxLocals = 2 := hml0
 have hown : s.vm.findClass "java/lang/Math" = some m.cls := findClass_of_methodNamed Bd.named
 have hnm := (name_of_methodNamed Bd.named Bd.method).1
 have X0 : Stand p l e ({ frames := 0, cells := 0, slots := 0, locals := 0 } : Room) s m #[(.int i0), (.int (0 : Int32))] below meth c s₁ [] 0 0 := Stand.of_body Bd
 have e0 : s₁.heap = h0 := by rw [← hh, Bd.state]; rfl
 have N0 := Fr.nil n0
 let S0 : State → Prop := fun t => Steps p.tables e below (s₁.setTop (entryFrame m #[(.int i0), (.int (0 : Int32))] 2)) t
 have p0 : ∀ t, St p e below s₁ (mkF m 0 #[.val (.int i0), .val (.int (0 : Int32))] []) t → S0 t := fun t k => castTop (ef3 m i0 (0 : Int32)) k
 have HE' := HE
 obtain ⟨Sa_FALSE, Ea_FALSE, Sa_TRUE, Ea_TRUE, Fa_FALSE_ordinal, Fa_TRUE_ordinal, Sa_UNKNOWN, Ea_UNKNOWN, Fa_UNKNOWN_ordinal⟩ := HE
 have p1 : ∀ t, St p e below s₁ (mkF m 2 #[.val (.int i0), .val (.int (0 : Int32))] [(.int (0 : Int32)), (.int i0)]) t → S0 t := fun t k => p0 t (by
   show St p e below s₁ (mkF m 0 #[.val (.int i0), .val (.int (0 : Int32))] []) t
   refine XS.iloadN X0.here hx rfl (hb hby d3_0) rfl ?_
   show St p e below s₁ (mkF m 1 #[.val (.int i0), .val (.int (0 : Int32))] [(.int i0)]) t
   refine XS.iloadN X0.here hx rfl (hb hby d3_1) rfl ?_
   exact k)
 by_cases g2 : i0 < (0 : Int32)
 ·
  have p3 : ∀ t, St p e below s₁ (mkF m 10 #[.val (.int i0), .val (.int (0 : Int32))] [(.int (0 : Int32))]) t → S0 t := fun t k => p1 t (by
    show St p e below s₁ (mkF m 2 #[.val (.int i0), .val (.int (0 : Int32))] [(.int (0 : Int32)), (.int i0)]) t
    refine XS.icmpYes X0.here hx rfl (pc0 := 2) (pc' := 9) rfl (hb hby d3_2) rfl (tlt g2).1 (by decide) (by decide) ?_
    show St p e below s₁ (mkF m 9 #[.val (.int i0), .val (.int (0 : Int32))] []) t
    refine XS.iloadN X0.here hx rfl (hb hby d3_9) rfl ?_
    exact k)
  obtain ⟨fs, hr, hrun, hended, hW, hsame⟩ := X0.leave (v := some (.int (0 : Int32))) (fun h => by rw [Bd.returns] at h; cases h)
  refine ⟨_, _, p3 _ ?_, hrun, hended, _, _, rfl, ?_, ⟨_, rfl⟩, hW, hsame.mono (by decide) (by decide)⟩
  · exact retOut X0 hx Bd.returns rfl (Or.inl ⟨rfl, by simp, _, rfl⟩) (hb hby d3_10) hr
  · show Q3_17 Z a_FALSE a_TRUE a_UNKNOWN i0 h0 n0 _ s₁.heap _
    exact ⟨N0, e0, (Or.inl ⟨rfl, g2⟩)⟩
 ·
  have p4 : ∀ t, St p e below s₁ (mkF m 10 #[.val (.int i0), .val (.int (0 : Int32))] [(.int i0)]) t → S0 t := fun t k => p1 t (by
    show St p e below s₁ (mkF m 2 #[.val (.int i0), .val (.int (0 : Int32))] [(.int (0 : Int32)), (.int i0)]) t
    refine XS.icmpNo X0.here hx rfl (hb hby d3_2) rfl (flt g2).1 ?_
    show St p e below s₁ (mkF m 5 #[.val (.int i0), .val (.int (0 : Int32))] []) t
    refine XS.iloadN X0.here hx rfl (hb hby d3_5) rfl ?_
    show St p e below s₁ (mkF m 6 #[.val (.int i0), .val (.int (0 : Int32))] [(.int i0)]) t
    refine XS.goto X0.here hx rfl (pc0 := 6) (pc' := 10) rfl (hb hby d3_6) (by decide) (by decide) ?_
    exact k)
  obtain ⟨fs, hr, hrun, hended, hW, hsame⟩ := X0.leave (v := some (.int i0)) (fun h => by rw [Bd.returns] at h; cases h)
  refine ⟨_, _, p4 _ ?_, hrun, hended, _, _, rfl, ?_, ⟨_, rfl⟩, hW, hsame.mono (by decide) (by decide)⟩
  · exact retOut X0 hx Bd.returns rfl (Or.inl ⟨rfl, by simp, _, rfl⟩) (hb hby d3_10) hr
  · show Q3_17 Z a_FALSE a_TRUE a_UNKNOWN i0 h0 n0 _ s₁.heap _
    exact ⟨N0, e0, (Or.inr (⟨rfl, g2⟩))⟩
def Q2_18 (Z : State) (a_FALSE : Addr) (a_TRUE : Addr) (a_UNKNOWN : Addr) (h0 : Heap) (n0 : Nat) (v : Option Value) (h : Heap) (L : List Loc) : Prop := Fr n0 L ∧ h = h0 ∧ ((v = some (.ref a_TRUE)))
set_option maxRecDepth 65536 in
set_option maxHeartbeats 40000000 in
theorem rm2_18 (l : Launch) (Z : State) (a0 : Array Value) (hw : ∀ d ∈ tables_1, d.before a0 Z = true) (ws : List Jvm.Cond) (a_FALSE : Addr) (a_TRUE : Addr) (a_UNKNOWN : Addr) (h0 : Heap) (n0 : Nat) (O0 : Old Z n0 h0) (HE : Env1 Z a_FALSE a_TRUE a_UNKNOWN)  :
    MetFree l M1 (head1 (Jvm.Cond.code M1 prog_32_method_7_code 3 (some (.object "com/example/herald4/herald4/filter/Truth")) :: ws) ({ frames := 0, cells := 0, slots := 0, locals := 0 } : Room)) (fun a U => a = #[(.ref a_TRUE), (.ref a_UNKNOWN)] ∧ Z.Warmed39 U.vm ∧ U.heap = h0) (fun _ _ _ _ _ => True) (fun _ U o U' => ∃ v L, o = .returned v ∧ Q2_18 Z a_FALSE a_TRUE a_UNKNOWN h0 n0 v U'.heap L ∧ FrameEnd U o U' L ({ frames := 0, cells := 0, slots := 0, locals := 0 } : Room).cells ({ frames := 0, cells := 0, slots := 0, locals := 0 } : Room).slots) := by
 refine MetFree.of_bodySF (plainFor_of_name pn1) hisR ?_
 intro p e s m args below meth c s₁ Bd hml0 hP hK
 obtain ⟨rfl, hZ, hh⟩ := hP
 have hx := Bd.exec
 have hby := Bd.bytes
 have hml : c.maxLocals = 3 := hml0
 have hown : s.vm.findClass "com/example/herald4/herald4/filter/Truth" = some m.cls := findClass_of_methodNamed Bd.named
 have hnm := (name_of_methodNamed Bd.named Bd.method).1
 have X0 : Stand p l e ({ frames := 0, cells := 0, slots := 0, locals := 0 } : Room) s m #[(.ref a_TRUE), (.ref a_UNKNOWN)] below meth c s₁ [] 0 0 := Stand.of_body Bd
 have e0 : s₁.heap = h0 := by rw [← hh, Bd.state]; rfl
 have N0 := Fr.nil n0
 let S0 : State → Prop := fun t => Steps p.tables e below (s₁.setTop (entryFrame m #[(.ref a_TRUE), (.ref a_UNKNOWN)] 3)) t
 have p0 : ∀ t, St p e below s₁ (mkF m 0 #[.val (.ref a_TRUE), .val (.ref a_UNKNOWN), .unset] []) t → S0 t := fun t k => castTop (ef2 m a_TRUE a_UNKNOWN) k
 have HE' := HE
 obtain ⟨Sa_FALSE, Ea_FALSE, Sa_TRUE, Ea_TRUE, Fa_FALSE_ordinal, Fa_TRUE_ordinal, Sa_UNKNOWN, Ea_UNKNOWN, Fa_UNKNOWN_ordinal⟩ := HE
 have p1 : ∀ t, St p e below s₁ (mkF m 1 #[.val (.ref a_TRUE), .val (.ref a_UNKNOWN), .unset] [(.ref a_TRUE)]) t → S0 t := fun t k => p0 t (by
   show St p e below s₁ (mkF m 0 #[.val (.ref a_TRUE), .val (.ref a_UNKNOWN), .unset] []) t
   refine XS.aloadN X0.here hx rfl (hb hby d2_0) rfl rfl ?_
   exact k)
 obtain ⟨T2, X2, e2, st2⟩ := getS2 X0 hx hZ hown (host := "") (Or.inl (ww hw 13 rfl)) Via.refl e0 (Sa_TRUE.ext O0.2) (g := (mkF m 1 #[.val (.ref a_TRUE), .val (.ref a_UNKNOWN), .unset] [(.ref a_TRUE)])) rfl (hb hby d2_1)
 have p3 : ∀ t, St p e below T2 (mkF m 4 #[.val (.ref a_TRUE), .val (.ref a_UNKNOWN), .unset] [(.ref a_TRUE), (.ref a_TRUE)]) t → S0 t := fun t k => p1 t (st2 t k)
 have p4 : ∀ t, St p e below T2 (mkF m 14 #[.val (.ref a_TRUE), .val (.ref a_UNKNOWN), .unset] []) t → S0 t := fun t k => p3 t (by
   show St p e below T2 (mkF m 4 #[.val (.ref a_TRUE), .val (.ref a_UNKNOWN), .unset] [(.ref a_TRUE), (.ref a_TRUE)]) t
   refine Jvm.RoadKit.acmp (g := (mkF m 4 #[.val (.ref a_TRUE), .val (.ref a_UNKNOWN), .unset] [(.ref a_TRUE), (.ref a_TRUE)])) X2 hx rfl rfl rfl (pc0 := 4) (pc' := 14) (same := true) rfl (hb hby d2_4) rfl (decide_eq_true rfl) (by decide) (by decide) ?_
   exact k)
 obtain ⟨T5, X5, e5, st5⟩ := getS2 X2 hx hZ hown (host := "") (Or.inl (ww hw 13 rfl)) Via.refl e2 (Sa_TRUE.ext O0.2) (g := (mkF m 14 #[.val (.ref a_TRUE), .val (.ref a_UNKNOWN), .unset] [])) rfl (hb hby d2_14)
 have p6 : ∀ t, St p e below T5 (mkF m 17 #[.val (.ref a_TRUE), .val (.ref a_UNKNOWN), .unset] [(.ref a_TRUE)]) t → S0 t := fun t k => p4 t (st5 t k)
 let Ls7 : Array Slot := #[.val (.ref a_TRUE), .val (.ref a_UNKNOWN), .val (.ref a_TRUE)]
 have p8 : ∀ t, St p e below T5 (mkF m 47 Ls7 [(.ref a_TRUE)]) t → S0 t := fun t k => p6 t (by
   show St p e below T5 (mkF m 17 #[.val (.ref a_TRUE), .val (.ref a_UNKNOWN), .unset] [(.ref a_TRUE)]) t
   refine XS.astoreN X5.here hx rfl (hb hby d2_17) rfl rfl (l' := Ls7) rfl ?_
   show St p e below T5 (mkF m 18 Ls7 []) t
   refine XS.goto X5.here hx rfl (pc0 := 18) (pc' := 46) rfl (hb hby d2_18) (by decide) (by decide) ?_
   show St p e below T5 (mkF m 46 Ls7 []) t
   refine XS.aloadN X5.here hx rfl (hb hby d2_46) rfl rfl ?_
   exact k)
 obtain ⟨fs, hr, hrun, hended, hW, hsame⟩ := X5.leave (v := some (.ref a_TRUE)) (fun h => by rw [Bd.returns] at h; cases h)
 refine ⟨_, _, p8 _ ?_, hrun, hended, _, _, rfl, ?_, ⟨_, rfl⟩, hW, hsame.mono (by decide) (by decide)⟩
 · exact retOut X5 hx Bd.returns rfl (Or.inr (Or.inr (Or.inr (Or.inr ⟨rfl, rfl, rfl⟩)))) (hb hby d2_47) hr
 · show Q2_18 Z a_FALSE a_TRUE a_UNKNOWN h0 n0 _ T5.heap _
   exact ⟨N0, e5, rfl⟩
def Q3_19 (Z : State) (a_FALSE : Addr) (a_TRUE : Addr) (a_UNKNOWN : Addr) (i0 : Int32) (h0 : Heap) (n0 : Nat) (v : Option Value) (h : Heap) (L : List Loc) : Prop := Fr n0 L ∧ h = h0 ∧ ((v = some (.int (1 : Int32)) ∧ i0 < (1 : Int32)) ∨ (v = some (.int i0) ∧ ¬ (i0 < (1 : Int32))))
set_option maxRecDepth 65536 in
set_option maxHeartbeats 40000000 in
theorem rm3_19 (l : Launch) (Z : State) (a0 : Array Value) (hw : ∀ d ∈ tables_1, d.before a0 Z = true) (ws : List Jvm.Cond) (a_FALSE : Addr) (a_TRUE : Addr) (a_UNKNOWN : Addr) (i0 : Int32) (h0 : Heap) (n0 : Nat) (O0 : Old Z n0 h0) (HE : Env1 Z a_FALSE a_TRUE a_UNKNOWN)  :
    MetFree l M2 (head1 (Jvm.Cond.code M2 jdk_29_method_65_code 2 (some .int) :: ws) ({ frames := 0, cells := 0, slots := 0, locals := 0 } : Room)) (fun a U => a = #[(.int i0), (.int (1 : Int32))] ∧ Z.Warmed39 U.vm ∧ U.heap = h0) (fun _ _ _ _ _ => True) (fun _ U o U' => ∃ v L, o = .returned v ∧ Q3_19 Z a_FALSE a_TRUE a_UNKNOWN i0 h0 n0 v U'.heap L ∧ FrameEnd U o U' L ({ frames := 0, cells := 0, slots := 0, locals := 0 } : Room).cells ({ frames := 0, cells := 0, slots := 0, locals := 0 } : Room).slots) := by
 refine MetFree.of_bodySF (Jvm.Free.JP.mathPlain rfl (by decide +kernel)) hisR ?_
 intro p e s m args below meth c s₁ Bd hml0 hP hK
 obtain ⟨rfl, hZ, hh⟩ := hP
 have hx := Bd.exec
 have hby := Bd.bytes
 have hml : c.maxLocals = 2 := hml0
 have hown : s.vm.findClass "java/lang/Math" = some m.cls := findClass_of_methodNamed Bd.named
 have hnm := (name_of_methodNamed Bd.named Bd.method).1
 have X0 : Stand p l e ({ frames := 0, cells := 0, slots := 0, locals := 0 } : Room) s m #[(.int i0), (.int (1 : Int32))] below meth c s₁ [] 0 0 := Stand.of_body Bd
 have e0 : s₁.heap = h0 := by rw [← hh, Bd.state]; rfl
 have N0 := Fr.nil n0
 let S0 : State → Prop := fun t => Steps p.tables e below (s₁.setTop (entryFrame m #[(.int i0), (.int (1 : Int32))] 2)) t
 have p0 : ∀ t, St p e below s₁ (mkF m 0 #[.val (.int i0), .val (.int (1 : Int32))] []) t → S0 t := fun t k => castTop (ef3 m i0 (1 : Int32)) k
 have HE' := HE
 obtain ⟨Sa_FALSE, Ea_FALSE, Sa_TRUE, Ea_TRUE, Fa_FALSE_ordinal, Fa_TRUE_ordinal, Sa_UNKNOWN, Ea_UNKNOWN, Fa_UNKNOWN_ordinal⟩ := HE
 have p1 : ∀ t, St p e below s₁ (mkF m 2 #[.val (.int i0), .val (.int (1 : Int32))] [(.int (1 : Int32)), (.int i0)]) t → S0 t := fun t k => p0 t (by
   show St p e below s₁ (mkF m 0 #[.val (.int i0), .val (.int (1 : Int32))] []) t
   refine XS.iloadN X0.here hx rfl (hb hby d3_0) rfl ?_
   show St p e below s₁ (mkF m 1 #[.val (.int i0), .val (.int (1 : Int32))] [(.int i0)]) t
   refine XS.iloadN X0.here hx rfl (hb hby d3_1) rfl ?_
   exact k)
 by_cases g2 : i0 < (1 : Int32)
 ·
  have p3 : ∀ t, St p e below s₁ (mkF m 10 #[.val (.int i0), .val (.int (1 : Int32))] [(.int (1 : Int32))]) t → S0 t := fun t k => p1 t (by
    show St p e below s₁ (mkF m 2 #[.val (.int i0), .val (.int (1 : Int32))] [(.int (1 : Int32)), (.int i0)]) t
    refine XS.icmpYes X0.here hx rfl (pc0 := 2) (pc' := 9) rfl (hb hby d3_2) rfl (tlt g2).1 (by decide) (by decide) ?_
    show St p e below s₁ (mkF m 9 #[.val (.int i0), .val (.int (1 : Int32))] []) t
    refine XS.iloadN X0.here hx rfl (hb hby d3_9) rfl ?_
    exact k)
  obtain ⟨fs, hr, hrun, hended, hW, hsame⟩ := X0.leave (v := some (.int (1 : Int32))) (fun h => by rw [Bd.returns] at h; cases h)
  refine ⟨_, _, p3 _ ?_, hrun, hended, _, _, rfl, ?_, ⟨_, rfl⟩, hW, hsame.mono (by decide) (by decide)⟩
  · exact retOut X0 hx Bd.returns rfl (Or.inl ⟨rfl, by simp, _, rfl⟩) (hb hby d3_10) hr
  · show Q3_19 Z a_FALSE a_TRUE a_UNKNOWN i0 h0 n0 _ s₁.heap _
    exact ⟨N0, e0, (Or.inl ⟨rfl, g2⟩)⟩
 ·
  have p4 : ∀ t, St p e below s₁ (mkF m 10 #[.val (.int i0), .val (.int (1 : Int32))] [(.int i0)]) t → S0 t := fun t k => p1 t (by
    show St p e below s₁ (mkF m 2 #[.val (.int i0), .val (.int (1 : Int32))] [(.int (1 : Int32)), (.int i0)]) t
    refine XS.icmpNo X0.here hx rfl (hb hby d3_2) rfl (flt g2).1 ?_
    show St p e below s₁ (mkF m 5 #[.val (.int i0), .val (.int (1 : Int32))] []) t
    refine XS.iloadN X0.here hx rfl (hb hby d3_5) rfl ?_
    show St p e below s₁ (mkF m 6 #[.val (.int i0), .val (.int (1 : Int32))] [(.int i0)]) t
    refine XS.goto X0.here hx rfl (pc0 := 6) (pc' := 10) rfl (hb hby d3_6) (by decide) (by decide) ?_
    exact k)
  obtain ⟨fs, hr, hrun, hended, hW, hsame⟩ := X0.leave (v := some (.int i0)) (fun h => by rw [Bd.returns] at h; cases h)
  refine ⟨_, _, p4 _ ?_, hrun, hended, _, _, rfl, ?_, ⟨_, rfl⟩, hW, hsame.mono (by decide) (by decide)⟩
  · exact retOut X0 hx Bd.returns rfl (Or.inl ⟨rfl, by simp, _, rfl⟩) (hb hby d3_10) hr
  · show Q3_19 Z a_FALSE a_TRUE a_UNKNOWN i0 h0 n0 _ s₁.heap _
    exact ⟨N0, e0, (Or.inr (⟨rfl, g2⟩))⟩
def Q2_20 (Z : State) (a_FALSE : Addr) (a_TRUE : Addr) (a_UNKNOWN : Addr) (h0 : Heap) (n0 : Nat) (v : Option Value) (h : Heap) (L : List Loc) : Prop := Fr n0 L ∧ h = h0 ∧ ((v = some (.ref a_TRUE)))
set_option maxRecDepth 65536 in
set_option maxHeartbeats 40000000 in
theorem rm2_20 (l : Launch) (Z : State) (a0 : Array Value) (hw : ∀ d ∈ tables_1, d.before a0 Z = true) (ws : List Jvm.Cond) (a_FALSE : Addr) (a_TRUE : Addr) (a_UNKNOWN : Addr) (h0 : Heap) (n0 : Nat) (O0 : Old Z n0 h0) (HE : Env1 Z a_FALSE a_TRUE a_UNKNOWN)  :
    MetFree l M1 (head1 (Jvm.Cond.code M1 prog_32_method_7_code 3 (some (.object "com/example/herald4/herald4/filter/Truth")) :: ws) ({ frames := 0, cells := 0, slots := 0, locals := 0 } : Room)) (fun a U => a = #[(.ref a_TRUE), (.ref a_TRUE)] ∧ Z.Warmed39 U.vm ∧ U.heap = h0) (fun _ _ _ _ _ => True) (fun _ U o U' => ∃ v L, o = .returned v ∧ Q2_20 Z a_FALSE a_TRUE a_UNKNOWN h0 n0 v U'.heap L ∧ FrameEnd U o U' L ({ frames := 0, cells := 0, slots := 0, locals := 0 } : Room).cells ({ frames := 0, cells := 0, slots := 0, locals := 0 } : Room).slots) := by
 refine MetFree.of_bodySF (plainFor_of_name pn1) hisR ?_
 intro p e s m args below meth c s₁ Bd hml0 hP hK
 obtain ⟨rfl, hZ, hh⟩ := hP
 have hx := Bd.exec
 have hby := Bd.bytes
 have hml : c.maxLocals = 3 := hml0
 have hown : s.vm.findClass "com/example/herald4/herald4/filter/Truth" = some m.cls := findClass_of_methodNamed Bd.named
 have hnm := (name_of_methodNamed Bd.named Bd.method).1
 have X0 : Stand p l e ({ frames := 0, cells := 0, slots := 0, locals := 0 } : Room) s m #[(.ref a_TRUE), (.ref a_TRUE)] below meth c s₁ [] 0 0 := Stand.of_body Bd
 have e0 : s₁.heap = h0 := by rw [← hh, Bd.state]; rfl
 have N0 := Fr.nil n0
 let S0 : State → Prop := fun t => Steps p.tables e below (s₁.setTop (entryFrame m #[(.ref a_TRUE), (.ref a_TRUE)] 3)) t
 have p0 : ∀ t, St p e below s₁ (mkF m 0 #[.val (.ref a_TRUE), .val (.ref a_TRUE), .unset] []) t → S0 t := fun t k => castTop (ef2 m a_TRUE a_TRUE) k
 have HE' := HE
 obtain ⟨Sa_FALSE, Ea_FALSE, Sa_TRUE, Ea_TRUE, Fa_FALSE_ordinal, Fa_TRUE_ordinal, Sa_UNKNOWN, Ea_UNKNOWN, Fa_UNKNOWN_ordinal⟩ := HE
 have p1 : ∀ t, St p e below s₁ (mkF m 1 #[.val (.ref a_TRUE), .val (.ref a_TRUE), .unset] [(.ref a_TRUE)]) t → S0 t := fun t k => p0 t (by
   show St p e below s₁ (mkF m 0 #[.val (.ref a_TRUE), .val (.ref a_TRUE), .unset] []) t
   refine XS.aloadN X0.here hx rfl (hb hby d2_0) rfl rfl ?_
   exact k)
 obtain ⟨T2, X2, e2, st2⟩ := getS2 X0 hx hZ hown (host := "") (Or.inl (ww hw 13 rfl)) Via.refl e0 (Sa_TRUE.ext O0.2) (g := (mkF m 1 #[.val (.ref a_TRUE), .val (.ref a_TRUE), .unset] [(.ref a_TRUE)])) rfl (hb hby d2_1)
 have p3 : ∀ t, St p e below T2 (mkF m 4 #[.val (.ref a_TRUE), .val (.ref a_TRUE), .unset] [(.ref a_TRUE), (.ref a_TRUE)]) t → S0 t := fun t k => p1 t (st2 t k)
 have p4 : ∀ t, St p e below T2 (mkF m 14 #[.val (.ref a_TRUE), .val (.ref a_TRUE), .unset] []) t → S0 t := fun t k => p3 t (by
   show St p e below T2 (mkF m 4 #[.val (.ref a_TRUE), .val (.ref a_TRUE), .unset] [(.ref a_TRUE), (.ref a_TRUE)]) t
   refine Jvm.RoadKit.acmp (g := (mkF m 4 #[.val (.ref a_TRUE), .val (.ref a_TRUE), .unset] [(.ref a_TRUE), (.ref a_TRUE)])) X2 hx rfl rfl rfl (pc0 := 4) (pc' := 14) (same := true) rfl (hb hby d2_4) rfl (decide_eq_true rfl) (by decide) (by decide) ?_
   exact k)
 obtain ⟨T5, X5, e5, st5⟩ := getS2 X2 hx hZ hown (host := "") (Or.inl (ww hw 13 rfl)) Via.refl e2 (Sa_TRUE.ext O0.2) (g := (mkF m 14 #[.val (.ref a_TRUE), .val (.ref a_TRUE), .unset] [])) rfl (hb hby d2_14)
 have p6 : ∀ t, St p e below T5 (mkF m 17 #[.val (.ref a_TRUE), .val (.ref a_TRUE), .unset] [(.ref a_TRUE)]) t → S0 t := fun t k => p4 t (st5 t k)
 let Ls7 : Array Slot := #[.val (.ref a_TRUE), .val (.ref a_TRUE), .val (.ref a_TRUE)]
 have p8 : ∀ t, St p e below T5 (mkF m 47 Ls7 [(.ref a_TRUE)]) t → S0 t := fun t k => p6 t (by
   show St p e below T5 (mkF m 17 #[.val (.ref a_TRUE), .val (.ref a_TRUE), .unset] [(.ref a_TRUE)]) t
   refine XS.astoreN X5.here hx rfl (hb hby d2_17) rfl rfl (l' := Ls7) rfl ?_
   show St p e below T5 (mkF m 18 Ls7 []) t
   refine XS.goto X5.here hx rfl (pc0 := 18) (pc' := 46) rfl (hb hby d2_18) (by decide) (by decide) ?_
   show St p e below T5 (mkF m 46 Ls7 []) t
   refine XS.aloadN X5.here hx rfl (hb hby d2_46) rfl rfl ?_
   exact k)
 obtain ⟨fs, hr, hrun, hended, hW, hsame⟩ := X5.leave (v := some (.ref a_TRUE)) (fun h => by rw [Bd.returns] at h; cases h)
 refine ⟨_, _, p8 _ ?_, hrun, hended, _, _, rfl, ?_, ⟨_, rfl⟩, hW, hsame.mono (by decide) (by decide)⟩
 · exact retOut X5 hx Bd.returns rfl (Or.inr (Or.inr (Or.inr (Or.inr ⟨rfl, rfl, rfl⟩)))) (hb hby d2_47) hr
 · show Q2_20 Z a_FALSE a_TRUE a_UNKNOWN h0 n0 _ T5.heap _
   exact ⟨N0, e5, rfl⟩
def Q3_21 (Z : State) (a_FALSE : Addr) (a_TRUE : Addr) (a_UNKNOWN : Addr) (i0 : Int32) (i1 : Int32) (h0 : Heap) (n0 : Nat) (v : Option Value) (h : Heap) (L : List Loc) : Prop := Fr n0 L ∧ h = h0 ∧ ((v = some (.int i1) ∧ i0 < i1) ∨ (v = some (.int i0) ∧ ¬ (i0 < i1)))
set_option maxRecDepth 65536 in
set_option maxHeartbeats 40000000 in
theorem rm3_21 (l : Launch) (Z : State) (a0 : Array Value) (hw : ∀ d ∈ tables_1, d.before a0 Z = true) (ws : List Jvm.Cond) (a_FALSE : Addr) (a_TRUE : Addr) (a_UNKNOWN : Addr) (i0 : Int32) (i1 : Int32) (h0 : Heap) (n0 : Nat) (O0 : Old Z n0 h0) (HE : Env1 Z a_FALSE a_TRUE a_UNKNOWN)  :
    MetFree l M2 (head1 (Jvm.Cond.code M2 jdk_29_method_65_code 2 (some .int) :: ws) ({ frames := 0, cells := 0, slots := 0, locals := 0 } : Room)) (fun a U => a = #[(.int i0), (.int i1)] ∧ Z.Warmed39 U.vm ∧ U.heap = h0) (fun _ _ _ _ _ => True) (fun _ U o U' => ∃ v L, o = .returned v ∧ Q3_21 Z a_FALSE a_TRUE a_UNKNOWN i0 i1 h0 n0 v U'.heap L ∧ FrameEnd U o U' L ({ frames := 0, cells := 0, slots := 0, locals := 0 } : Room).cells ({ frames := 0, cells := 0, slots := 0, locals := 0 } : Room).slots) := by
 refine MetFree.of_bodySF (Jvm.Free.JP.mathPlain rfl (by decide +kernel)) hisR ?_
 intro p e s m args below meth c s₁ Bd hml0 hP hK
 obtain ⟨rfl, hZ, hh⟩ := hP
 have hx := Bd.exec
 have hby := Bd.bytes
 have hml : c.maxLocals = 2 := hml0
 have hown : s.vm.findClass "java/lang/Math" = some m.cls := findClass_of_methodNamed Bd.named
 have hnm := (name_of_methodNamed Bd.named Bd.method).1
 have X0 : Stand p l e ({ frames := 0, cells := 0, slots := 0, locals := 0 } : Room) s m #[(.int i0), (.int i1)] below meth c s₁ [] 0 0 := Stand.of_body Bd
 have e0 : s₁.heap = h0 := by rw [← hh, Bd.state]; rfl
 have N0 := Fr.nil n0
 let S0 : State → Prop := fun t => Steps p.tables e below (s₁.setTop (entryFrame m #[(.int i0), (.int i1)] 2)) t
 have p0 : ∀ t, St p e below s₁ (mkF m 0 #[.val (.int i0), .val (.int i1)] []) t → S0 t := fun t k => castTop (ef3 m i0 i1) k
 have HE' := HE
 obtain ⟨Sa_FALSE, Ea_FALSE, Sa_TRUE, Ea_TRUE, Fa_FALSE_ordinal, Fa_TRUE_ordinal, Sa_UNKNOWN, Ea_UNKNOWN, Fa_UNKNOWN_ordinal⟩ := HE
 have p1 : ∀ t, St p e below s₁ (mkF m 2 #[.val (.int i0), .val (.int i1)] [(.int i1), (.int i0)]) t → S0 t := fun t k => p0 t (by
   show St p e below s₁ (mkF m 0 #[.val (.int i0), .val (.int i1)] []) t
   refine XS.iloadN X0.here hx rfl (hb hby d3_0) rfl ?_
   show St p e below s₁ (mkF m 1 #[.val (.int i0), .val (.int i1)] [(.int i0)]) t
   refine XS.iloadN X0.here hx rfl (hb hby d3_1) rfl ?_
   exact k)
 by_cases g2 : i0 < i1
 ·
  have p3 : ∀ t, St p e below s₁ (mkF m 10 #[.val (.int i0), .val (.int i1)] [(.int i1)]) t → S0 t := fun t k => p1 t (by
    show St p e below s₁ (mkF m 2 #[.val (.int i0), .val (.int i1)] [(.int i1), (.int i0)]) t
    refine XS.icmpYes X0.here hx rfl (pc0 := 2) (pc' := 9) rfl (hb hby d3_2) rfl (tlt g2).1 (by decide) (by decide) ?_
    show St p e below s₁ (mkF m 9 #[.val (.int i0), .val (.int i1)] []) t
    refine XS.iloadN X0.here hx rfl (hb hby d3_9) rfl ?_
    exact k)
  obtain ⟨fs, hr, hrun, hended, hW, hsame⟩ := X0.leave (v := some (.int i1)) (fun h => by rw [Bd.returns] at h; cases h)
  refine ⟨_, _, p3 _ ?_, hrun, hended, _, _, rfl, ?_, ⟨_, rfl⟩, hW, hsame.mono (by decide) (by decide)⟩
  · exact retOut X0 hx Bd.returns rfl (Or.inl ⟨rfl, by simp, _, rfl⟩) (hb hby d3_10) hr
  · show Q3_21 Z a_FALSE a_TRUE a_UNKNOWN i0 i1 h0 n0 _ s₁.heap _
    exact ⟨N0, e0, (Or.inl ⟨rfl, g2⟩)⟩
 ·
  have p4 : ∀ t, St p e below s₁ (mkF m 10 #[.val (.int i0), .val (.int i1)] [(.int i0)]) t → S0 t := fun t k => p1 t (by
    show St p e below s₁ (mkF m 2 #[.val (.int i0), .val (.int i1)] [(.int i1), (.int i0)]) t
    refine XS.icmpNo X0.here hx rfl (hb hby d3_2) rfl (flt g2).1 ?_
    show St p e below s₁ (mkF m 5 #[.val (.int i0), .val (.int i1)] []) t
    refine XS.iloadN X0.here hx rfl (hb hby d3_5) rfl ?_
    show St p e below s₁ (mkF m 6 #[.val (.int i0), .val (.int i1)] [(.int i0)]) t
    refine XS.goto X0.here hx rfl (pc0 := 6) (pc' := 10) rfl (hb hby d3_6) (by decide) (by decide) ?_
    exact k)
  obtain ⟨fs, hr, hrun, hended, hW, hsame⟩ := X0.leave (v := some (.int i0)) (fun h => by rw [Bd.returns] at h; cases h)
  refine ⟨_, _, p4 _ ?_, hrun, hended, _, _, rfl, ?_, ⟨_, rfl⟩, hW, hsame.mono (by decide) (by decide)⟩
  · exact retOut X0 hx Bd.returns rfl (Or.inl ⟨rfl, by simp, _, rfl⟩) (hb hby d3_10) hr
  · show Q3_21 Z a_FALSE a_TRUE a_UNKNOWN i0 i1 h0 n0 _ s₁.heap _
    exact ⟨N0, e0, (Or.inr (⟨rfl, g2⟩))⟩
def Q0 (Z : State) (a_FALSE : Addr) (a_TRUE : Addr) (a_UNKNOWN : Addr) (i0 : Int32) (i1 : Int32) (h0 : Heap) (n0 : Nat) (v : Option Value) (h : Heap) (L : List Loc) : Prop := v = some (.int 1) ∧ Fr n0 L
set_option maxRecDepth 65536 in
set_option maxHeartbeats 40000000 in
theorem rm0 (l : Launch) (Z : State) (a0 : Array Value) (hw : ∀ d ∈ tables_1, d.before a0 Z = true) (ws : List Jvm.Cond) (a_FALSE : Addr) (a_TRUE : Addr) (a_UNKNOWN : Addr) (i0 : Int32) (i1 : Int32) (h0 : Heap) (n0 : Nat) (O0 : Old Z n0 h0) (HE : Env1 Z a_FALSE a_TRUE a_UNKNOWN)  :
    MetFree l x (head1 (Jvm.Cond.code x code maxLocals ret :: ws) room_1) (fun a U => a = #[(.int i0), (.int i1)] ∧ Z.Warmed39 U.vm ∧ U.heap = h0) (fun _ _ _ _ _ => True) (fun _ U o U' => ∃ v L, o = .returned v ∧ Q0 Z a_FALSE a_TRUE a_UNKNOWN i0 i1 h0 n0 v U'.heap L ∧ FrameEnd U o U' L 0 0) := by
 refine MetFree.of_bodySF (plainFor_of_name pn0) hisR ?_
 intro p e s m args below meth c s₁ Bd hml0 hP hK
 obtain ⟨rfl, hZ, hh⟩ := hP
 have hx := Bd.exec
 have hby := Bd.bytes
 have hml : c.maxLocals = 8 := hml0
 have hown : s.vm.findClass "com/example/herald4/herald4/filter/TruthOrPinLaw" = some m.cls := findClass_of_methodNamed Bd.named
 have hnm := (name_of_methodNamed Bd.named Bd.method).1
 have X0 : Stand p l e room_1 s m #[(.int i0), (.int i1)] below meth c s₁ [] 0 0 := Stand.of_body Bd
 have e0 : s₁.heap = h0 := by rw [← hh, Bd.state]; rfl
 have N0 := Fr.nil n0
 let S0 : State → Prop := fun t => Steps p.tables e below (s₁.setTop (entryFrame m #[(.int i0), (.int i1)] maxLocals)) t
 let Ls1 : Array Slot := #[.val (.int i0), .val (.int i1), .unset, .unset, .unset, .unset, .unset, .unset]
 have p0 : ∀ t, St p e below s₁ (mkF m 0 Ls1 []) t → S0 t := fun t k => castTop (ef0 m i0 i1) k
 have HE' := HE
 obtain ⟨Sa_FALSE, Ea_FALSE, Sa_TRUE, Ea_TRUE, Fa_FALSE_ordinal, Fa_TRUE_ordinal, Sa_UNKNOWN, Ea_UNKNOWN, Fa_UNKNOWN_ordinal⟩ := HE
 let Ls2 : Array Slot := #[.val (.int i0), .val (.int i1), .val (.int ((i0 &&& (2147483647 : Int32)) % (3 : Int32))), .unset, .unset, .unset, .unset, .unset]
 let Ls3 : Array Slot := #[.val (.int i0), .val (.int i1), .val (.int ((i0 &&& (2147483647 : Int32)) % (3 : Int32))), .val (.int ((i1 &&& (2147483647 : Int32)) % (3 : Int32))), .unset, .unset, .unset, .unset]
 have p4 : ∀ t, St p e below s₁ (mkF m 15 Ls3 [(.int ((i0 &&& (2147483647 : Int32)) % (3 : Int32)))]) t → S0 t := fun t k => p0 t (by
   show St p e below s₁ (mkF m 0 Ls1 []) t
   refine XS.iloadN X0.here hx rfl (hb hby at_0) rfl ?_
   show St p e below s₁ (mkF m 1 Ls1 [(.int i0)]) t
   refine X0.ldcI hx hown (mvT hZ (ww hw 0 rfl)) rfl (hb hby at_1) ?_
   show St p e below s₁ (mkF m 3 Ls1 [(.int (2147483647 : Int32)), (.int i0)]) t
   refine XS.iand X0.here hx rfl (hb hby at_3) rfl ?_
   show St p e below s₁ (mkF m 4 Ls1 [(.int (i0 &&& (2147483647 : Int32)))]) t
   refine XT.iconstV X0.here hx rfl (3 : Int32) (hb hby at_4) (by decide) ?_
   show St p e below s₁ (mkF m 5 Ls1 [(.int (3 : Int32)), (.int (i0 &&& (2147483647 : Int32)))]) t
   refine iremM X0 hx rfl (hb hby at_5) rfl (by decide : ¬ ((3 : Int32) = (0 : Int32))) ?_
   show St p e below s₁ (mkF m 6 Ls1 [(.int ((i0 &&& (2147483647 : Int32)) % (3 : Int32)))]) t
   refine XS.istoreN X0.here hx rfl (hb hby at_6) rfl (l' := Ls2) rfl ?_
   show St p e below s₁ (mkF m 7 Ls2 []) t
   refine XS.iloadN X0.here hx rfl (hb hby at_7) rfl ?_
   show St p e below s₁ (mkF m 8 Ls2 [(.int i1)]) t
   refine X0.ldcI hx hown (mvT hZ (ww hw 0 rfl)) rfl (hb hby at_8) ?_
   show St p e below s₁ (mkF m 10 Ls2 [(.int (2147483647 : Int32)), (.int i1)]) t
   refine XS.iand X0.here hx rfl (hb hby at_10) rfl ?_
   show St p e below s₁ (mkF m 11 Ls2 [(.int (i1 &&& (2147483647 : Int32)))]) t
   refine XT.iconstV X0.here hx rfl (3 : Int32) (hb hby at_11) (by decide) ?_
   show St p e below s₁ (mkF m 12 Ls2 [(.int (3 : Int32)), (.int (i1 &&& (2147483647 : Int32)))]) t
   refine iremM X0 hx rfl (hb hby at_12) rfl (by decide : ¬ ((3 : Int32) = (0 : Int32))) ?_
   show St p e below s₁ (mkF m 13 Ls2 [(.int ((i1 &&& (2147483647 : Int32)) % (3 : Int32)))]) t
   refine XS.istoreN X0.here hx rfl (hb hby at_13) rfl (l' := Ls3) rfl ?_
   show St p e below s₁ (mkF m 14 Ls3 []) t
   refine XS.iloadN X0.here hx rfl (hb hby at_14) rfl ?_
   exact k)
 obtain ⟨_, _, ⟨Tc5, Lc5, kc5, nc5⟩, -, Xc5, ⟨Lcc5, hQc5, lc5, yc5, zc5⟩, stc5⟩ := Jvm.LawKit.callS X0 hx (y := M0) hown (mvT hZ (ww hw 1 rfl)) (mvT hZ (ww hw 2 rfl)) (mvT hZ (ww hw 3 rfl)) (mvT hZ (ww hw 4 rfl)) (by decide) (backOf (W := 0) (rm1_0 l Z a0 hw [] a_FALSE a_TRUE a_UNKNOWN ((i0 &&& (2147483647 : Int32)) % (3 : Int32)) h0 n0 O0 HE' ) hZ (ww hw 4 rfl) (ww hw 3 rfl) (by decide) (by decide)) (g := (mkF m 15 Ls3 [(.int ((i0 &&& (2147483647 : Int32)) % (3 : Int32)))])) rfl (by rw [hml]; rfl) (argsL := [(.int ((i0 &&& (2147483647 : Int32)) % (3 : Int32)))]) (rest := []) (lenOf pd0 rfl) rfl (by show 2 * 0 + _ ≤ _; exact Nat.le_of_eq rfl) (hb hby at_15) (fun _ _ => ⟨rfl, e0, (by decide : 0 + 0 ≤ _), (by decide : 0 + 0 ≤ _)⟩)
 dsimp only [Pt.U, Pt.locs, Pt.cells, Pt.slots] at Xc5 lc5 yc5 zc5 stc5 hQc5
 subst lc5 yc5 zc5
 obtain ⟨Nqc5, ec5, hAc5⟩ := hQc5
 have Nc5 := Fr.app N0 Nqc5
 rcases hAc5 with ⟨rfl, g6⟩ | ⟨rfl, g7, g8⟩ | ⟨rfl, g9, g10⟩
 ·
  have p11 : ∀ t, St p e below Tc5 (mkF m 18 Ls3 [(.ref a_FALSE)]) t → S0 t := fun t k => p4 t (stc5 t k)
  let Ls12 : Array Slot := #[.val (.int i0), .val (.int i1), .val (.int ((i0 &&& (2147483647 : Int32)) % (3 : Int32))), .val (.int ((i1 &&& (2147483647 : Int32)) % (3 : Int32))), .val (.ref a_FALSE), .unset, .unset, .unset]
  have p13 : ∀ t, St p e below Tc5 (mkF m 21 Ls12 [(.int ((i1 &&& (2147483647 : Int32)) % (3 : Int32)))]) t → S0 t := fun t k => p11 t (by
    show St p e below Tc5 (mkF m 18 Ls3 [(.ref a_FALSE)]) t
    refine XS.astore Xc5.here hx rfl (hb hby at_18) rfl rfl (l' := Ls12) rfl ?_
    show St p e below Tc5 (mkF m 20 Ls12 []) t
    refine XS.iloadN Xc5.here hx rfl (hb hby at_20) rfl ?_
    exact k)
  obtain ⟨_, _, ⟨Tc14, Lc14, kc14, nc14⟩, -, Xc14, ⟨Lcc14, hQc14, lc14, yc14, zc14⟩, stc14⟩ := Jvm.LawKit.callS Xc5 hx (y := M0) hown (mvT hZ (ww hw 1 rfl)) (mvT hZ (ww hw 2 rfl)) (mvT hZ (ww hw 3 rfl)) (mvT hZ (ww hw 4 rfl)) (by decide) (backOf (W := 0) (rm1_0 l Z a0 hw [] a_FALSE a_TRUE a_UNKNOWN ((i1 &&& (2147483647 : Int32)) % (3 : Int32)) h0 n0 O0 HE' ) hZ (ww hw 4 rfl) (ww hw 3 rfl) (by decide) (by decide)) (g := (mkF m 21 Ls12 [(.int ((i1 &&& (2147483647 : Int32)) % (3 : Int32)))])) rfl (by rw [hml]; rfl) (argsL := [(.int ((i1 &&& (2147483647 : Int32)) % (3 : Int32)))]) (rest := []) (lenOf pd0 rfl) rfl (by show 2 * 0 + _ ≤ _; exact Nat.le_of_eq rfl) (hb hby at_21) (fun _ _ => ⟨rfl, ec5, (by decide : 0 + 0 ≤ _), (by decide : 0 + 0 ≤ _)⟩)
  dsimp only [Pt.U, Pt.locs, Pt.cells, Pt.slots] at Xc14 lc14 yc14 zc14 stc14 hQc14
  subst lc14 yc14 zc14
  obtain ⟨Nqc14, ec14, hAc14⟩ := hQc14
  have Nc14 := Fr.app Nc5 Nqc14
  rcases hAc14 with ⟨rfl, g15⟩ | ⟨rfl, g16, g17⟩ | ⟨rfl, g18, g19⟩
  ·
   have p20 : ∀ t, St p e below Tc14 (mkF m 24 Ls12 [(.ref a_FALSE)]) t → S0 t := fun t k => p13 t (stc14 t k)
   let Ls21 : Array Slot := #[.val (.int i0), .val (.int i1), .val (.int ((i0 &&& (2147483647 : Int32)) % (3 : Int32))), .val (.int ((i1 &&& (2147483647 : Int32)) % (3 : Int32))), .val (.ref a_FALSE), .val (.ref a_FALSE), .unset, .unset]
   have p22 : ∀ t, St p e below Tc14 (mkF m 30 Ls21 [(.ref a_FALSE), (.ref a_FALSE)]) t → S0 t := fun t k => p20 t (by
     show St p e below Tc14 (mkF m 24 Ls12 [(.ref a_FALSE)]) t
     refine XS.astore Xc14.here hx rfl (hb hby at_24) rfl rfl (l' := Ls21) rfl ?_
     show St p e below Tc14 (mkF m 26 Ls21 []) t
     refine XS.aload Xc14.here hx rfl (hb hby at_26) rfl rfl ?_
     show St p e below Tc14 (mkF m 28 Ls21 [(.ref a_FALSE)]) t
     refine XS.aload Xc14.here hx rfl (hb hby at_28) rfl rfl ?_
     exact k)
   obtain ⟨cqc23, kqc23, qc23a, qc23b, qc23c⟩ := isOf hZ ec14 (Ea_FALSE.ext O0.2)
   obtain ⟨_, _, ⟨Tc23, Lc23, kc23, nc23⟩, -, Xc23, ⟨Lcc23, hQc23, lc23, yc23, zc23⟩, stc23⟩ := Xc14.virtualBack hx (y := M1) (z := M1) hown (mvT hZ (ww hw 8 rfl)) (mvT hZ (ww hw 9 rfl)) (notFace_of_selects (args := #[]) (mvT hZ (ww hw 11 rfl))) (mvT hZ (ww hw 11 rfl)) (mvT hZ (ww hw 10 rfl)) (by decide) (backOf (W := 0) (rm2_1 l Z a0 hw [] a_FALSE a_TRUE a_UNKNOWN h0 n0 O0 HE' ) hZ (ww hw 12 rfl) (ww hw 6 rfl) (by decide) (by decide)) qc23a qc23c (g := (mkF m 30 Ls21 [(.ref a_FALSE), (.ref a_FALSE)])) rfl (by rw [hml]; rfl) (Steps.refl _) (argsL := [(.ref a_FALSE)]) (rest := []) (lenOf pd1 rfl) rfl (by show 2 * 0 + _ ≤ _; exact Nat.le_of_eq rfl) (hb hby at_30) (fun _ _ => ⟨rfl, ec14, (by decide : 0 + 0 ≤ _), (by decide : 0 + 0 ≤ _)⟩)
   dsimp only [Pt.U, Pt.locs, Pt.cells, Pt.slots] at Xc23 lc23 yc23 zc23 stc23 hQc23
   subst lc23 yc23 zc23
   obtain ⟨Nqc23, ec23, hAc23⟩ := hQc23
   have Nc23 := Fr.app Nc14 Nqc23
   obtain rfl := hAc23
   have p24 : ∀ t, St p e below Tc23 (mkF m 33 Ls21 [(.ref a_FALSE)]) t → S0 t := fun t k => p22 t (stc23.trans k)
   let Ls25 : Array Slot := #[.val (.int i0), .val (.int i1), .val (.int ((i0 &&& (2147483647 : Int32)) % (3 : Int32))), .val (.int ((i1 &&& (2147483647 : Int32)) % (3 : Int32))), .val (.ref a_FALSE), .val (.ref a_FALSE), .val (.ref a_FALSE), .unset]
   have p26 : ∀ t, St p e below Tc23 (mkF m 36 Ls25 [(.int ((i0 &&& (2147483647 : Int32)) % (3 : Int32)))]) t → S0 t := fun t k => p24 t (by
     show St p e below Tc23 (mkF m 33 Ls21 [(.ref a_FALSE)]) t
     refine XS.astore Xc23.here hx rfl (hb hby at_33) rfl rfl (l' := Ls25) rfl ?_
     show St p e below Tc23 (mkF m 35 Ls25 []) t
     refine XS.iloadN Xc23.here hx rfl (hb hby at_35) rfl ?_
     exact k)
   let Ls28 : Array Slot := #[.val (.int i0), .val (.int i1), .val (.int (0 : Int32)), .val (.int ((i1 &&& (2147483647 : Int32)) % (3 : Int32))), .val (.ref a_FALSE), .val (.ref a_FALSE), .val (.ref a_FALSE), .unset]
   have p27 : ∀ t, St p e below Tc23 (mkF m 36 Ls28 [(.int (0 : Int32))]) t → S0 t := fun t k => p26 t (by show St p e below Tc23 (mkF m 36 #[.val (.int i0), .val (.int i1), .val (.int ((i0 &&& (2147483647 : Int32)) % (3 : Int32))), .val (.int ((i1 &&& (2147483647 : Int32)) % (3 : Int32))), .val (.ref a_FALSE), .val (.ref a_FALSE), .val (.ref a_FALSE), .unset] [(.int ((i0 &&& (2147483647 : Int32)) % (3 : Int32)))]) t; rw [g6]; exact k)
   have p29 : ∀ t, St p e below Tc23 (mkF m 37 Ls28 [(.int ((i1 &&& (2147483647 : Int32)) % (3 : Int32))), (.int (0 : Int32))]) t → S0 t := fun t k => p27 t (by
     show St p e below Tc23 (mkF m 36 Ls28 [(.int (0 : Int32))]) t
     refine XS.iloadN Xc23.here hx rfl (hb hby at_36) rfl ?_
     exact k)
   let Ls31 : Array Slot := #[.val (.int i0), .val (.int i1), .val (.int (0 : Int32)), .val (.int (0 : Int32)), .val (.ref a_FALSE), .val (.ref a_FALSE), .val (.ref a_FALSE), .unset]
   have p30 : ∀ t, St p e below Tc23 (mkF m 37 Ls31 [(.int (0 : Int32)), (.int (0 : Int32))]) t → S0 t := fun t k => p29 t (by show St p e below Tc23 (mkF m 37 #[.val (.int i0), .val (.int i1), .val (.int (0 : Int32)), .val (.int ((i1 &&& (2147483647 : Int32)) % (3 : Int32))), .val (.ref a_FALSE), .val (.ref a_FALSE), .val (.ref a_FALSE), .unset] [(.int ((i1 &&& (2147483647 : Int32)) % (3 : Int32))), (.int (0 : Int32))]) t; rw [g15]; exact k)
   obtain ⟨_, _, ⟨Tc32, Lc32, kc32, nc32⟩, -, Xc32, ⟨Lcc32, hQc32, lc32, yc32, zc32⟩, stc32⟩ := Jvm.LawKit.callS Xc23 hx (y := M2) hown (mvT hZ (ww hw 18 rfl)) (mvT hZ (ww hw 19 rfl)) (mvT hZ (ww hw 20 rfl)) (mvT hZ (ww hw 21 rfl)) (by decide) (backOf (W := 0) (rm3_2 l Z a0 hw [] a_FALSE a_TRUE a_UNKNOWN h0 n0 O0 HE' ) hZ (ww hw 21 rfl) (ww hw 20 rfl) (by decide) (by decide)) (g := (mkF m 37 Ls31 [(.int (0 : Int32)), (.int (0 : Int32))])) rfl (by rw [hml]; rfl) (argsL := [(.int (0 : Int32)), (.int (0 : Int32))]) (rest := []) (lenOf pd2 rfl) rfl (by show 2 * 0 + _ ≤ _; exact Nat.le_of_eq rfl) (hb hby at_37) (fun _ _ => ⟨rfl, ec23, (by decide : 0 + 0 ≤ _), (by decide : 0 + 0 ≤ _)⟩)
   dsimp only [Pt.U, Pt.locs, Pt.cells, Pt.slots] at Xc32 lc32 yc32 zc32 stc32 hQc32
   subst lc32 yc32 zc32
   obtain ⟨Nqc32, ec32, hAc32⟩ := hQc32
   have Nc32 := Fr.app Nc23 Nqc32
   obtain rfl := hAc32
   have p33 : ∀ t, St p e below Tc32 (mkF m 40 Ls31 [(.int (0 : Int32))]) t → S0 t := fun t k => p30 t (stc32 t k)
   let Ls34 : Array Slot := #[.val (.int i0), .val (.int i1), .val (.int (0 : Int32)), .val (.int (0 : Int32)), .val (.ref a_FALSE), .val (.ref a_FALSE), .val (.ref a_FALSE), .val (.int (0 : Int32))]
   have p35 : ∀ t, St p e below Tc32 (mkF m 44 Ls34 [(.ref a_FALSE)]) t → S0 t := fun t k => p33 t (by
     show St p e below Tc32 (mkF m 40 Ls31 [(.int (0 : Int32))]) t
     refine XS.istore Xc32.here hx rfl (hb hby at_40) rfl (l' := Ls34) rfl ?_
     show St p e below Tc32 (mkF m 42 Ls34 []) t
     refine XS.aload Xc32.here hx rfl (hb hby at_42) rfl rfl ?_
     exact k)
   obtain ⟨_, _, ⟨Tc36, Lc36, kc36, nc36⟩, -, Xc36, ⟨Lcc36, hQc36, lc36, yc36, zc36⟩, stc36⟩ := Jvm.LawKit.callS Xc32 hx (y := M3) hown (mvT hZ (ww hw 22 rfl)) (mvT hZ (ww hw 23 rfl)) (mvT hZ (ww hw 3 rfl)) (mvT hZ (ww hw 24 rfl)) (by decide) (backOf (W := 0) (rm4_3 l Z a0 hw [] a_FALSE a_TRUE a_UNKNOWN h0 n0 O0 HE' ) hZ (ww hw 24 rfl) (ww hw 3 rfl) (by decide) (by decide)) (g := (mkF m 44 Ls34 [(.ref a_FALSE)])) rfl (by rw [hml]; rfl) (argsL := [(.ref a_FALSE)]) (rest := []) (lenOf pd3 rfl) rfl (by show 2 * 0 + _ ≤ _; exact Nat.le_of_eq rfl) (hb hby at_44) (fun _ _ => ⟨rfl, ec32, (by decide : 0 + 0 ≤ _), (by decide : 0 + 0 ≤ _)⟩)
   dsimp only [Pt.U, Pt.locs, Pt.cells, Pt.slots] at Xc36 lc36 yc36 zc36 stc36 hQc36
   subst lc36 yc36 zc36
   obtain ⟨Nqc36, ec36, hAc36⟩ := hQc36
   have Nc36 := Fr.app Nc32 Nqc36
   obtain rfl := hAc36
   have p37 : ∀ t, St p e below Tc36 (mkF m 47 Ls34 [(.int (0 : Int32))]) t → S0 t := fun t k => p35 t (stc36 t k)
   have p38 : ∀ t, St p e below Tc36 (mkF m 57 Ls34 [(.int (1 : Int32))]) t → S0 t := fun t k => p37 t (by
     show St p e below Tc36 (mkF m 47 Ls34 [(.int (0 : Int32))]) t
     refine XS.iload Xc36.here hx rfl (hb hby at_47) rfl ?_
     show St p e below Tc36 (mkF m 49 Ls34 [(.int (0 : Int32)), (.int (0 : Int32))]) t
     refine XS.icmpNo Xc36.here hx rfl (hb hby at_49) rfl (teq (by decide : (0 : Int32) = (0 : Int32))).2 ?_
     show St p e below Tc36 (mkF m 52 Ls34 []) t
     refine XT.iconstV Xc36.here hx rfl (1 : Int32) (hb hby at_52) (by decide) ?_
     show St p e below Tc36 (mkF m 53 Ls34 [(.int (1 : Int32))]) t
     refine XS.goto Xc36.here hx rfl (pc0 := 53) (pc' := 57) rfl (hb hby at_53) (by decide) (by decide) ?_
     exact k)
   obtain ⟨fs, hr, hrun, hended, hW, hsame⟩ := Xc36.leave (v := some (.int (1 : Int32))) (fun h => by rw [Bd.returns] at h; cases h)
   refine ⟨_, _, p38 _ ?_, hrun, hended, _, _, rfl, ?_, ⟨_, rfl⟩, hW, hsame.mono (by decide) (by decide)⟩
   · exact retOut Xc36 hx Bd.returns rfl (Or.inl ⟨rfl, by simp, _, rfl⟩) (hb hby at_57) hr
   · exact ⟨rfl, Nc36⟩
  ·
   have p39 : ∀ t, St p e below Tc14 (mkF m 24 Ls12 [(.ref a_UNKNOWN)]) t → S0 t := fun t k => p13 t (stc14 t k)
   let Ls40 : Array Slot := #[.val (.int i0), .val (.int i1), .val (.int ((i0 &&& (2147483647 : Int32)) % (3 : Int32))), .val (.int ((i1 &&& (2147483647 : Int32)) % (3 : Int32))), .val (.ref a_FALSE), .val (.ref a_UNKNOWN), .unset, .unset]
   have p41 : ∀ t, St p e below Tc14 (mkF m 30 Ls40 [(.ref a_UNKNOWN), (.ref a_FALSE)]) t → S0 t := fun t k => p39 t (by
     show St p e below Tc14 (mkF m 24 Ls12 [(.ref a_UNKNOWN)]) t
     refine XS.astore Xc14.here hx rfl (hb hby at_24) rfl rfl (l' := Ls40) rfl ?_
     show St p e below Tc14 (mkF m 26 Ls40 []) t
     refine XS.aload Xc14.here hx rfl (hb hby at_26) rfl rfl ?_
     show St p e below Tc14 (mkF m 28 Ls40 [(.ref a_FALSE)]) t
     refine XS.aload Xc14.here hx rfl (hb hby at_28) rfl rfl ?_
     exact k)
   obtain ⟨cqc42, kqc42, qc42a, qc42b, qc42c⟩ := isOf hZ ec14 (Ea_FALSE.ext O0.2)
   obtain ⟨_, _, ⟨Tc42, Lc42, kc42, nc42⟩, -, Xc42, ⟨Lcc42, hQc42, lc42, yc42, zc42⟩, stc42⟩ := Xc14.virtualBack hx (y := M1) (z := M1) hown (mvT hZ (ww hw 8 rfl)) (mvT hZ (ww hw 9 rfl)) (notFace_of_selects (args := #[]) (mvT hZ (ww hw 11 rfl))) (mvT hZ (ww hw 11 rfl)) (mvT hZ (ww hw 10 rfl)) (by decide) (backOf (W := 0) (rm2_4 l Z a0 hw [] a_FALSE a_TRUE a_UNKNOWN h0 n0 O0 HE' ) hZ (ww hw 12 rfl) (ww hw 6 rfl) (by decide) (by decide)) qc42a qc42c (g := (mkF m 30 Ls40 [(.ref a_UNKNOWN), (.ref a_FALSE)])) rfl (by rw [hml]; rfl) (Steps.refl _) (argsL := [(.ref a_UNKNOWN)]) (rest := []) (lenOf pd1 rfl) rfl (by show 2 * 0 + _ ≤ _; exact Nat.le_of_eq rfl) (hb hby at_30) (fun _ _ => ⟨rfl, ec14, (by decide : 0 + 0 ≤ _), (by decide : 0 + 0 ≤ _)⟩)
   dsimp only [Pt.U, Pt.locs, Pt.cells, Pt.slots] at Xc42 lc42 yc42 zc42 stc42 hQc42
   subst lc42 yc42 zc42
   obtain ⟨Nqc42, ec42, hAc42⟩ := hQc42
   have Nc42 := Fr.app Nc14 Nqc42
   obtain rfl := hAc42
   have p43 : ∀ t, St p e below Tc42 (mkF m 33 Ls40 [(.ref a_UNKNOWN)]) t → S0 t := fun t k => p41 t (stc42.trans k)
   let Ls44 : Array Slot := #[.val (.int i0), .val (.int i1), .val (.int ((i0 &&& (2147483647 : Int32)) % (3 : Int32))), .val (.int ((i1 &&& (2147483647 : Int32)) % (3 : Int32))), .val (.ref a_FALSE), .val (.ref a_UNKNOWN), .val (.ref a_UNKNOWN), .unset]
   have p45 : ∀ t, St p e below Tc42 (mkF m 36 Ls44 [(.int ((i0 &&& (2147483647 : Int32)) % (3 : Int32)))]) t → S0 t := fun t k => p43 t (by
     show St p e below Tc42 (mkF m 33 Ls40 [(.ref a_UNKNOWN)]) t
     refine XS.astore Xc42.here hx rfl (hb hby at_33) rfl rfl (l' := Ls44) rfl ?_
     show St p e below Tc42 (mkF m 35 Ls44 []) t
     refine XS.iloadN Xc42.here hx rfl (hb hby at_35) rfl ?_
     exact k)
   let Ls47 : Array Slot := #[.val (.int i0), .val (.int i1), .val (.int (0 : Int32)), .val (.int ((i1 &&& (2147483647 : Int32)) % (3 : Int32))), .val (.ref a_FALSE), .val (.ref a_UNKNOWN), .val (.ref a_UNKNOWN), .unset]
   have p46 : ∀ t, St p e below Tc42 (mkF m 36 Ls47 [(.int (0 : Int32))]) t → S0 t := fun t k => p45 t (by show St p e below Tc42 (mkF m 36 #[.val (.int i0), .val (.int i1), .val (.int ((i0 &&& (2147483647 : Int32)) % (3 : Int32))), .val (.int ((i1 &&& (2147483647 : Int32)) % (3 : Int32))), .val (.ref a_FALSE), .val (.ref a_UNKNOWN), .val (.ref a_UNKNOWN), .unset] [(.int ((i0 &&& (2147483647 : Int32)) % (3 : Int32)))]) t; rw [g6]; exact k)
   have p48 : ∀ t, St p e below Tc42 (mkF m 37 Ls47 [(.int ((i1 &&& (2147483647 : Int32)) % (3 : Int32))), (.int (0 : Int32))]) t → S0 t := fun t k => p46 t (by
     show St p e below Tc42 (mkF m 36 Ls47 [(.int (0 : Int32))]) t
     refine XS.iloadN Xc42.here hx rfl (hb hby at_36) rfl ?_
     exact k)
   let Ls50 : Array Slot := #[.val (.int i0), .val (.int i1), .val (.int (0 : Int32)), .val (.int (1 : Int32)), .val (.ref a_FALSE), .val (.ref a_UNKNOWN), .val (.ref a_UNKNOWN), .unset]
   have p49 : ∀ t, St p e below Tc42 (mkF m 37 Ls50 [(.int (1 : Int32)), (.int (0 : Int32))]) t → S0 t := fun t k => p48 t (by show St p e below Tc42 (mkF m 37 #[.val (.int i0), .val (.int i1), .val (.int (0 : Int32)), .val (.int ((i1 &&& (2147483647 : Int32)) % (3 : Int32))), .val (.ref a_FALSE), .val (.ref a_UNKNOWN), .val (.ref a_UNKNOWN), .unset] [(.int ((i1 &&& (2147483647 : Int32)) % (3 : Int32))), (.int (0 : Int32))]) t; rw [g17]; exact k)
   obtain ⟨_, _, ⟨Tc51, Lc51, kc51, nc51⟩, -, Xc51, ⟨Lcc51, hQc51, lc51, yc51, zc51⟩, stc51⟩ := Jvm.LawKit.callS Xc42 hx (y := M2) hown (mvT hZ (ww hw 18 rfl)) (mvT hZ (ww hw 19 rfl)) (mvT hZ (ww hw 20 rfl)) (mvT hZ (ww hw 21 rfl)) (by decide) (backOf (W := 0) (rm3_5 l Z a0 hw [] a_FALSE a_TRUE a_UNKNOWN h0 n0 O0 HE' ) hZ (ww hw 21 rfl) (ww hw 20 rfl) (by decide) (by decide)) (g := (mkF m 37 Ls50 [(.int (1 : Int32)), (.int (0 : Int32))])) rfl (by rw [hml]; rfl) (argsL := [(.int (0 : Int32)), (.int (1 : Int32))]) (rest := []) (lenOf pd2 rfl) rfl (by show 2 * 0 + _ ≤ _; exact Nat.le_of_eq rfl) (hb hby at_37) (fun _ _ => ⟨rfl, ec42, (by decide : 0 + 0 ≤ _), (by decide : 0 + 0 ≤ _)⟩)
   dsimp only [Pt.U, Pt.locs, Pt.cells, Pt.slots] at Xc51 lc51 yc51 zc51 stc51 hQc51
   subst lc51 yc51 zc51
   obtain ⟨Nqc51, ec51, hAc51⟩ := hQc51
   have Nc51 := Fr.app Nc42 Nqc51
   obtain rfl := hAc51
   have p52 : ∀ t, St p e below Tc51 (mkF m 40 Ls50 [(.int (1 : Int32))]) t → S0 t := fun t k => p49 t (stc51 t k)
   let Ls53 : Array Slot := #[.val (.int i0), .val (.int i1), .val (.int (0 : Int32)), .val (.int (1 : Int32)), .val (.ref a_FALSE), .val (.ref a_UNKNOWN), .val (.ref a_UNKNOWN), .val (.int (1 : Int32))]
   have p54 : ∀ t, St p e below Tc51 (mkF m 44 Ls53 [(.ref a_UNKNOWN)]) t → S0 t := fun t k => p52 t (by
     show St p e below Tc51 (mkF m 40 Ls50 [(.int (1 : Int32))]) t
     refine XS.istore Xc51.here hx rfl (hb hby at_40) rfl (l' := Ls53) rfl ?_
     show St p e below Tc51 (mkF m 42 Ls53 []) t
     refine XS.aload Xc51.here hx rfl (hb hby at_42) rfl rfl ?_
     exact k)
   obtain ⟨_, _, ⟨Tc55, Lc55, kc55, nc55⟩, -, Xc55, ⟨Lcc55, hQc55, lc55, yc55, zc55⟩, stc55⟩ := Jvm.LawKit.callS Xc51 hx (y := M3) hown (mvT hZ (ww hw 22 rfl)) (mvT hZ (ww hw 23 rfl)) (mvT hZ (ww hw 3 rfl)) (mvT hZ (ww hw 24 rfl)) (by decide) (backOf (W := 0) (rm4_6 l Z a0 hw [] a_FALSE a_TRUE a_UNKNOWN h0 n0 O0 HE' ) hZ (ww hw 24 rfl) (ww hw 3 rfl) (by decide) (by decide)) (g := (mkF m 44 Ls53 [(.ref a_UNKNOWN)])) rfl (by rw [hml]; rfl) (argsL := [(.ref a_UNKNOWN)]) (rest := []) (lenOf pd3 rfl) rfl (by show 2 * 0 + _ ≤ _; exact Nat.le_of_eq rfl) (hb hby at_44) (fun _ _ => ⟨rfl, ec51, (by decide : 0 + 0 ≤ _), (by decide : 0 + 0 ≤ _)⟩)
   dsimp only [Pt.U, Pt.locs, Pt.cells, Pt.slots] at Xc55 lc55 yc55 zc55 stc55 hQc55
   subst lc55 yc55 zc55
   obtain ⟨Nqc55, ec55, hAc55⟩ := hQc55
   have Nc55 := Fr.app Nc51 Nqc55
   obtain rfl := hAc55
   have p56 : ∀ t, St p e below Tc55 (mkF m 47 Ls53 [(.int (1 : Int32))]) t → S0 t := fun t k => p54 t (stc55 t k)
   have p57 : ∀ t, St p e below Tc55 (mkF m 57 Ls53 [(.int (1 : Int32))]) t → S0 t := fun t k => p56 t (by
     show St p e below Tc55 (mkF m 47 Ls53 [(.int (1 : Int32))]) t
     refine XS.iload Xc55.here hx rfl (hb hby at_47) rfl ?_
     show St p e below Tc55 (mkF m 49 Ls53 [(.int (1 : Int32)), (.int (1 : Int32))]) t
     refine XS.icmpNo Xc55.here hx rfl (hb hby at_49) rfl (teq (by decide : (1 : Int32) = (1 : Int32))).2 ?_
     show St p e below Tc55 (mkF m 52 Ls53 []) t
     refine XT.iconstV Xc55.here hx rfl (1 : Int32) (hb hby at_52) (by decide) ?_
     show St p e below Tc55 (mkF m 53 Ls53 [(.int (1 : Int32))]) t
     refine XS.goto Xc55.here hx rfl (pc0 := 53) (pc' := 57) rfl (hb hby at_53) (by decide) (by decide) ?_
     exact k)
   obtain ⟨fs, hr, hrun, hended, hW, hsame⟩ := Xc55.leave (v := some (.int (1 : Int32))) (fun h => by rw [Bd.returns] at h; cases h)
   refine ⟨_, _, p57 _ ?_, hrun, hended, _, _, rfl, ?_, ⟨_, rfl⟩, hW, hsame.mono (by decide) (by decide)⟩
   · exact retOut Xc55 hx Bd.returns rfl (Or.inl ⟨rfl, by simp, _, rfl⟩) (hb hby at_57) hr
   · exact ⟨rfl, Nc55⟩
  ·
   have p58 : ∀ t, St p e below Tc14 (mkF m 24 Ls12 [(.ref a_TRUE)]) t → S0 t := fun t k => p13 t (stc14 t k)
   let Ls59 : Array Slot := #[.val (.int i0), .val (.int i1), .val (.int ((i0 &&& (2147483647 : Int32)) % (3 : Int32))), .val (.int ((i1 &&& (2147483647 : Int32)) % (3 : Int32))), .val (.ref a_FALSE), .val (.ref a_TRUE), .unset, .unset]
   have p60 : ∀ t, St p e below Tc14 (mkF m 30 Ls59 [(.ref a_TRUE), (.ref a_FALSE)]) t → S0 t := fun t k => p58 t (by
     show St p e below Tc14 (mkF m 24 Ls12 [(.ref a_TRUE)]) t
     refine XS.astore Xc14.here hx rfl (hb hby at_24) rfl rfl (l' := Ls59) rfl ?_
     show St p e below Tc14 (mkF m 26 Ls59 []) t
     refine XS.aload Xc14.here hx rfl (hb hby at_26) rfl rfl ?_
     show St p e below Tc14 (mkF m 28 Ls59 [(.ref a_FALSE)]) t
     refine XS.aload Xc14.here hx rfl (hb hby at_28) rfl rfl ?_
     exact k)
   obtain ⟨cqc61, kqc61, qc61a, qc61b, qc61c⟩ := isOf hZ ec14 (Ea_FALSE.ext O0.2)
   obtain ⟨_, _, ⟨Tc61, Lc61, kc61, nc61⟩, -, Xc61, ⟨Lcc61, hQc61, lc61, yc61, zc61⟩, stc61⟩ := Xc14.virtualBack hx (y := M1) (z := M1) hown (mvT hZ (ww hw 8 rfl)) (mvT hZ (ww hw 9 rfl)) (notFace_of_selects (args := #[]) (mvT hZ (ww hw 11 rfl))) (mvT hZ (ww hw 11 rfl)) (mvT hZ (ww hw 10 rfl)) (by decide) (backOf (W := 0) (rm2_7 l Z a0 hw [] a_FALSE a_TRUE a_UNKNOWN h0 n0 O0 HE' ) hZ (ww hw 12 rfl) (ww hw 6 rfl) (by decide) (by decide)) qc61a qc61c (g := (mkF m 30 Ls59 [(.ref a_TRUE), (.ref a_FALSE)])) rfl (by rw [hml]; rfl) (Steps.refl _) (argsL := [(.ref a_TRUE)]) (rest := []) (lenOf pd1 rfl) rfl (by show 2 * 0 + _ ≤ _; exact Nat.le_of_eq rfl) (hb hby at_30) (fun _ _ => ⟨rfl, ec14, (by decide : 0 + 0 ≤ _), (by decide : 0 + 0 ≤ _)⟩)
   dsimp only [Pt.U, Pt.locs, Pt.cells, Pt.slots] at Xc61 lc61 yc61 zc61 stc61 hQc61
   subst lc61 yc61 zc61
   obtain ⟨Nqc61, ec61, hAc61⟩ := hQc61
   have Nc61 := Fr.app Nc14 Nqc61
   obtain rfl := hAc61
   have p62 : ∀ t, St p e below Tc61 (mkF m 33 Ls59 [(.ref a_TRUE)]) t → S0 t := fun t k => p60 t (stc61.trans k)
   let Ls63 : Array Slot := #[.val (.int i0), .val (.int i1), .val (.int ((i0 &&& (2147483647 : Int32)) % (3 : Int32))), .val (.int ((i1 &&& (2147483647 : Int32)) % (3 : Int32))), .val (.ref a_FALSE), .val (.ref a_TRUE), .val (.ref a_TRUE), .unset]
   have p64 : ∀ t, St p e below Tc61 (mkF m 36 Ls63 [(.int ((i0 &&& (2147483647 : Int32)) % (3 : Int32)))]) t → S0 t := fun t k => p62 t (by
     show St p e below Tc61 (mkF m 33 Ls59 [(.ref a_TRUE)]) t
     refine XS.astore Xc61.here hx rfl (hb hby at_33) rfl rfl (l' := Ls63) rfl ?_
     show St p e below Tc61 (mkF m 35 Ls63 []) t
     refine XS.iloadN Xc61.here hx rfl (hb hby at_35) rfl ?_
     exact k)
   let Ls66 : Array Slot := #[.val (.int i0), .val (.int i1), .val (.int (0 : Int32)), .val (.int ((i1 &&& (2147483647 : Int32)) % (3 : Int32))), .val (.ref a_FALSE), .val (.ref a_TRUE), .val (.ref a_TRUE), .unset]
   have p65 : ∀ t, St p e below Tc61 (mkF m 36 Ls66 [(.int (0 : Int32))]) t → S0 t := fun t k => p64 t (by show St p e below Tc61 (mkF m 36 #[.val (.int i0), .val (.int i1), .val (.int ((i0 &&& (2147483647 : Int32)) % (3 : Int32))), .val (.int ((i1 &&& (2147483647 : Int32)) % (3 : Int32))), .val (.ref a_FALSE), .val (.ref a_TRUE), .val (.ref a_TRUE), .unset] [(.int ((i0 &&& (2147483647 : Int32)) % (3 : Int32)))]) t; rw [g6]; exact k)
   have p67 : ∀ t, St p e below Tc61 (mkF m 37 Ls66 [(.int ((i1 &&& (2147483647 : Int32)) % (3 : Int32))), (.int (0 : Int32))]) t → S0 t := fun t k => p65 t (by
     show St p e below Tc61 (mkF m 36 Ls66 [(.int (0 : Int32))]) t
     refine XS.iloadN Xc61.here hx rfl (hb hby at_36) rfl ?_
     exact k)
   obtain ⟨_, _, ⟨Tc68, Lc68, kc68, nc68⟩, -, Xc68, ⟨Lcc68, hQc68, lc68, yc68, zc68⟩, stc68⟩ := Jvm.LawKit.callS Xc61 hx (y := M2) hown (mvT hZ (ww hw 18 rfl)) (mvT hZ (ww hw 19 rfl)) (mvT hZ (ww hw 20 rfl)) (mvT hZ (ww hw 21 rfl)) (by decide) (backOf (W := 0) (rm3_8 l Z a0 hw [] a_FALSE a_TRUE a_UNKNOWN ((i1 &&& (2147483647 : Int32)) % (3 : Int32)) h0 n0 O0 HE' ) hZ (ww hw 21 rfl) (ww hw 20 rfl) (by decide) (by decide)) (g := (mkF m 37 Ls66 [(.int ((i1 &&& (2147483647 : Int32)) % (3 : Int32))), (.int (0 : Int32))])) rfl (by rw [hml]; rfl) (argsL := [(.int (0 : Int32)), (.int ((i1 &&& (2147483647 : Int32)) % (3 : Int32)))]) (rest := []) (lenOf pd2 rfl) rfl (by show 2 * 0 + _ ≤ _; exact Nat.le_of_eq rfl) (hb hby at_37) (fun _ _ => ⟨rfl, ec61, (by decide : 0 + 0 ≤ _), (by decide : 0 + 0 ≤ _)⟩)
   dsimp only [Pt.U, Pt.locs, Pt.cells, Pt.slots] at Xc68 lc68 yc68 zc68 stc68 hQc68
   subst lc68 yc68 zc68
   obtain ⟨Nqc68, ec68, hAc68⟩ := hQc68
   have Nc68 := Fr.app Nc61 Nqc68
   rcases hAc68 with ⟨rfl, g69⟩ | ⟨rfl, g70⟩
   ·
    have p71 : ∀ t, St p e below Tc68 (mkF m 40 Ls66 [(.int ((i1 &&& (2147483647 : Int32)) % (3 : Int32)))]) t → S0 t := fun t k => p67 t (stc68 t k)
    let Ls72 : Array Slot := #[.val (.int i0), .val (.int i1), .val (.int (0 : Int32)), .val (.int ((i1 &&& (2147483647 : Int32)) % (3 : Int32))), .val (.ref a_FALSE), .val (.ref a_TRUE), .val (.ref a_TRUE), .val (.int ((i1 &&& (2147483647 : Int32)) % (3 : Int32)))]
    have p73 : ∀ t, St p e below Tc68 (mkF m 44 Ls72 [(.ref a_TRUE)]) t → S0 t := fun t k => p71 t (by
      show St p e below Tc68 (mkF m 40 Ls66 [(.int ((i1 &&& (2147483647 : Int32)) % (3 : Int32)))]) t
      refine XS.istore Xc68.here hx rfl (hb hby at_40) rfl (l' := Ls72) rfl ?_
      show St p e below Tc68 (mkF m 42 Ls72 []) t
      refine XS.aload Xc68.here hx rfl (hb hby at_42) rfl rfl ?_
      exact k)
    obtain ⟨_, _, ⟨Tc74, Lc74, kc74, nc74⟩, -, Xc74, ⟨Lcc74, hQc74, lc74, yc74, zc74⟩, stc74⟩ := Jvm.LawKit.callS Xc68 hx (y := M3) hown (mvT hZ (ww hw 22 rfl)) (mvT hZ (ww hw 23 rfl)) (mvT hZ (ww hw 3 rfl)) (mvT hZ (ww hw 24 rfl)) (by decide) (backOf (W := 0) (rm4_9 l Z a0 hw [] a_FALSE a_TRUE a_UNKNOWN h0 n0 O0 HE' ) hZ (ww hw 24 rfl) (ww hw 3 rfl) (by decide) (by decide)) (g := (mkF m 44 Ls72 [(.ref a_TRUE)])) rfl (by rw [hml]; rfl) (argsL := [(.ref a_TRUE)]) (rest := []) (lenOf pd3 rfl) rfl (by show 2 * 0 + _ ≤ _; exact Nat.le_of_eq rfl) (hb hby at_44) (fun _ _ => ⟨rfl, ec68, (by decide : 0 + 0 ≤ _), (by decide : 0 + 0 ≤ _)⟩)
    dsimp only [Pt.U, Pt.locs, Pt.cells, Pt.slots] at Xc74 lc74 yc74 zc74 stc74 hQc74
    subst lc74 yc74 zc74
    obtain ⟨Nqc74, ec74, hAc74⟩ := hQc74
    have Nc74 := Fr.app Nc68 Nqc74
    obtain rfl := hAc74
    have p75 : ∀ t, St p e below Tc74 (mkF m 47 Ls72 [(.int (2 : Int32))]) t → S0 t := fun t k => p73 t (stc74 t k)
    have p76 : ∀ t, St p e below Tc74 (mkF m 49 Ls72 [(.int ((i1 &&& (2147483647 : Int32)) % (3 : Int32))), (.int (2 : Int32))]) t → S0 t := fun t k => p75 t (by
      show St p e below Tc74 (mkF m 47 Ls72 [(.int (2 : Int32))]) t
      refine XS.iload Xc74.here hx rfl (hb hby at_47) rfl ?_
      exact k)
    by_cases g77 : (2 : Int32) = ((i1 &&& (2147483647 : Int32)) % (3 : Int32))
    ·
     have p78 : ∀ t, St p e below Tc74 (mkF m 57 Ls72 [(.int (1 : Int32))]) t → S0 t := fun t k => p76 t (by
       show St p e below Tc74 (mkF m 49 Ls72 [(.int ((i1 &&& (2147483647 : Int32)) % (3 : Int32))), (.int (2 : Int32))]) t
       refine XS.icmpNo Xc74.here hx rfl (hb hby at_49) rfl (teq g77).2 ?_
       show St p e below Tc74 (mkF m 52 Ls72 []) t
       refine XT.iconstV Xc74.here hx rfl (1 : Int32) (hb hby at_52) (by decide) ?_
       show St p e below Tc74 (mkF m 53 Ls72 [(.int (1 : Int32))]) t
       refine XS.goto Xc74.here hx rfl (pc0 := 53) (pc' := 57) rfl (hb hby at_53) (by decide) (by decide) ?_
       exact k)
     obtain ⟨fs, hr, hrun, hended, hW, hsame⟩ := Xc74.leave (v := some (.int (1 : Int32))) (fun h => by rw [Bd.returns] at h; cases h)
     refine ⟨_, _, p78 _ ?_, hrun, hended, _, _, rfl, ?_, ⟨_, rfl⟩, hW, hsame.mono (by decide) (by decide)⟩
     · exact retOut Xc74 hx Bd.returns rfl (Or.inl ⟨rfl, by simp, _, rfl⟩) (hb hby at_57) hr
     · exact ⟨rfl, Nc74⟩
    ·
     exfalso
     have q1_ := neI g18
     have q2_ := neI g19
     have q3_ := ltI g69
     have q4_ := neI g77
     have l5_ := rng32 i1
     have l6_ := lI2147483647
     have l7_ : (i1 &&& (2147483647 : Int32)).toInt = i1.toInt % 2147483648 := c_mask i1 (2147483647 : Int32) 31 (by decide) (by decide)
     have l8_ := lI3
     have l9_ := c_irem (i1 &&& (2147483647 : Int32)) (3 : Int32) 3 (by decide)
     have l10_ := lI0
     have l11_ := lI1
     have l12_ := lI2
     omega
   ·
    exfalso
    have q1_ := neI g18
    have q2_ := neI g19
    have q3_ := nltI g70
    have l4_ := rng32 i1
    have l5_ := lI2147483647
    have l6_ : (i1 &&& (2147483647 : Int32)).toInt = i1.toInt % 2147483648 := c_mask i1 (2147483647 : Int32) 31 (by decide) (by decide)
    have l7_ := lI3
    have l8_ := c_irem (i1 &&& (2147483647 : Int32)) (3 : Int32) 3 (by decide)
    have l9_ := lI0
    have l10_ := lI1
    omega
 ·
  have p79 : ∀ t, St p e below Tc5 (mkF m 18 Ls3 [(.ref a_UNKNOWN)]) t → S0 t := fun t k => p4 t (stc5 t k)
  let Ls80 : Array Slot := #[.val (.int i0), .val (.int i1), .val (.int ((i0 &&& (2147483647 : Int32)) % (3 : Int32))), .val (.int ((i1 &&& (2147483647 : Int32)) % (3 : Int32))), .val (.ref a_UNKNOWN), .unset, .unset, .unset]
  have p81 : ∀ t, St p e below Tc5 (mkF m 21 Ls80 [(.int ((i1 &&& (2147483647 : Int32)) % (3 : Int32)))]) t → S0 t := fun t k => p79 t (by
    show St p e below Tc5 (mkF m 18 Ls3 [(.ref a_UNKNOWN)]) t
    refine XS.astore Xc5.here hx rfl (hb hby at_18) rfl rfl (l' := Ls80) rfl ?_
    show St p e below Tc5 (mkF m 20 Ls80 []) t
    refine XS.iloadN Xc5.here hx rfl (hb hby at_20) rfl ?_
    exact k)
  obtain ⟨_, _, ⟨Tc82, Lc82, kc82, nc82⟩, -, Xc82, ⟨Lcc82, hQc82, lc82, yc82, zc82⟩, stc82⟩ := Jvm.LawKit.callS Xc5 hx (y := M0) hown (mvT hZ (ww hw 1 rfl)) (mvT hZ (ww hw 2 rfl)) (mvT hZ (ww hw 3 rfl)) (mvT hZ (ww hw 4 rfl)) (by decide) (backOf (W := 0) (rm1_0 l Z a0 hw [] a_FALSE a_TRUE a_UNKNOWN ((i1 &&& (2147483647 : Int32)) % (3 : Int32)) h0 n0 O0 HE' ) hZ (ww hw 4 rfl) (ww hw 3 rfl) (by decide) (by decide)) (g := (mkF m 21 Ls80 [(.int ((i1 &&& (2147483647 : Int32)) % (3 : Int32)))])) rfl (by rw [hml]; rfl) (argsL := [(.int ((i1 &&& (2147483647 : Int32)) % (3 : Int32)))]) (rest := []) (lenOf pd0 rfl) rfl (by show 2 * 0 + _ ≤ _; exact Nat.le_of_eq rfl) (hb hby at_21) (fun _ _ => ⟨rfl, ec5, (by decide : 0 + 0 ≤ _), (by decide : 0 + 0 ≤ _)⟩)
  dsimp only [Pt.U, Pt.locs, Pt.cells, Pt.slots] at Xc82 lc82 yc82 zc82 stc82 hQc82
  subst lc82 yc82 zc82
  obtain ⟨Nqc82, ec82, hAc82⟩ := hQc82
  have Nc82 := Fr.app Nc5 Nqc82
  rcases hAc82 with ⟨rfl, g83⟩ | ⟨rfl, g84, g85⟩ | ⟨rfl, g86, g87⟩
  ·
   have p88 : ∀ t, St p e below Tc82 (mkF m 24 Ls80 [(.ref a_FALSE)]) t → S0 t := fun t k => p81 t (stc82 t k)
   let Ls89 : Array Slot := #[.val (.int i0), .val (.int i1), .val (.int ((i0 &&& (2147483647 : Int32)) % (3 : Int32))), .val (.int ((i1 &&& (2147483647 : Int32)) % (3 : Int32))), .val (.ref a_UNKNOWN), .val (.ref a_FALSE), .unset, .unset]
   have p90 : ∀ t, St p e below Tc82 (mkF m 30 Ls89 [(.ref a_FALSE), (.ref a_UNKNOWN)]) t → S0 t := fun t k => p88 t (by
     show St p e below Tc82 (mkF m 24 Ls80 [(.ref a_FALSE)]) t
     refine XS.astore Xc82.here hx rfl (hb hby at_24) rfl rfl (l' := Ls89) rfl ?_
     show St p e below Tc82 (mkF m 26 Ls89 []) t
     refine XS.aload Xc82.here hx rfl (hb hby at_26) rfl rfl ?_
     show St p e below Tc82 (mkF m 28 Ls89 [(.ref a_UNKNOWN)]) t
     refine XS.aload Xc82.here hx rfl (hb hby at_28) rfl rfl ?_
     exact k)
   obtain ⟨cqc91, kqc91, qc91a, qc91b, qc91c⟩ := isOf hZ ec82 (Ea_UNKNOWN.ext O0.2)
   obtain ⟨_, _, ⟨Tc91, Lc91, kc91, nc91⟩, -, Xc91, ⟨Lcc91, hQc91, lc91, yc91, zc91⟩, stc91⟩ := Xc82.virtualBack hx (y := M1) (z := M1) hown (mvT hZ (ww hw 8 rfl)) (mvT hZ (ww hw 9 rfl)) (notFace_of_selects (args := #[]) (mvT hZ (ww hw 11 rfl))) (mvT hZ (ww hw 11 rfl)) (mvT hZ (ww hw 10 rfl)) (by decide) (backOf (W := 0) (rm2_10 l Z a0 hw [] a_FALSE a_TRUE a_UNKNOWN h0 n0 O0 HE' ) hZ (ww hw 12 rfl) (ww hw 6 rfl) (by decide) (by decide)) qc91a qc91c (g := (mkF m 30 Ls89 [(.ref a_FALSE), (.ref a_UNKNOWN)])) rfl (by rw [hml]; rfl) (Steps.refl _) (argsL := [(.ref a_FALSE)]) (rest := []) (lenOf pd1 rfl) rfl (by show 2 * 0 + _ ≤ _; exact Nat.le_of_eq rfl) (hb hby at_30) (fun _ _ => ⟨rfl, ec82, (by decide : 0 + 0 ≤ _), (by decide : 0 + 0 ≤ _)⟩)
   dsimp only [Pt.U, Pt.locs, Pt.cells, Pt.slots] at Xc91 lc91 yc91 zc91 stc91 hQc91
   subst lc91 yc91 zc91
   obtain ⟨Nqc91, ec91, hAc91⟩ := hQc91
   have Nc91 := Fr.app Nc82 Nqc91
   obtain rfl := hAc91
   have p92 : ∀ t, St p e below Tc91 (mkF m 33 Ls89 [(.ref a_UNKNOWN)]) t → S0 t := fun t k => p90 t (stc91.trans k)
   let Ls93 : Array Slot := #[.val (.int i0), .val (.int i1), .val (.int ((i0 &&& (2147483647 : Int32)) % (3 : Int32))), .val (.int ((i1 &&& (2147483647 : Int32)) % (3 : Int32))), .val (.ref a_UNKNOWN), .val (.ref a_FALSE), .val (.ref a_UNKNOWN), .unset]
   have p94 : ∀ t, St p e below Tc91 (mkF m 36 Ls93 [(.int ((i0 &&& (2147483647 : Int32)) % (3 : Int32)))]) t → S0 t := fun t k => p92 t (by
     show St p e below Tc91 (mkF m 33 Ls89 [(.ref a_UNKNOWN)]) t
     refine XS.astore Xc91.here hx rfl (hb hby at_33) rfl rfl (l' := Ls93) rfl ?_
     show St p e below Tc91 (mkF m 35 Ls93 []) t
     refine XS.iloadN Xc91.here hx rfl (hb hby at_35) rfl ?_
     exact k)
   let Ls96 : Array Slot := #[.val (.int i0), .val (.int i1), .val (.int (1 : Int32)), .val (.int ((i1 &&& (2147483647 : Int32)) % (3 : Int32))), .val (.ref a_UNKNOWN), .val (.ref a_FALSE), .val (.ref a_UNKNOWN), .unset]
   have p95 : ∀ t, St p e below Tc91 (mkF m 36 Ls96 [(.int (1 : Int32))]) t → S0 t := fun t k => p94 t (by show St p e below Tc91 (mkF m 36 #[.val (.int i0), .val (.int i1), .val (.int ((i0 &&& (2147483647 : Int32)) % (3 : Int32))), .val (.int ((i1 &&& (2147483647 : Int32)) % (3 : Int32))), .val (.ref a_UNKNOWN), .val (.ref a_FALSE), .val (.ref a_UNKNOWN), .unset] [(.int ((i0 &&& (2147483647 : Int32)) % (3 : Int32)))]) t; rw [g8]; exact k)
   have p97 : ∀ t, St p e below Tc91 (mkF m 37 Ls96 [(.int ((i1 &&& (2147483647 : Int32)) % (3 : Int32))), (.int (1 : Int32))]) t → S0 t := fun t k => p95 t (by
     show St p e below Tc91 (mkF m 36 Ls96 [(.int (1 : Int32))]) t
     refine XS.iloadN Xc91.here hx rfl (hb hby at_36) rfl ?_
     exact k)
   let Ls99 : Array Slot := #[.val (.int i0), .val (.int i1), .val (.int (1 : Int32)), .val (.int (0 : Int32)), .val (.ref a_UNKNOWN), .val (.ref a_FALSE), .val (.ref a_UNKNOWN), .unset]
   have p98 : ∀ t, St p e below Tc91 (mkF m 37 Ls99 [(.int (0 : Int32)), (.int (1 : Int32))]) t → S0 t := fun t k => p97 t (by show St p e below Tc91 (mkF m 37 #[.val (.int i0), .val (.int i1), .val (.int (1 : Int32)), .val (.int ((i1 &&& (2147483647 : Int32)) % (3 : Int32))), .val (.ref a_UNKNOWN), .val (.ref a_FALSE), .val (.ref a_UNKNOWN), .unset] [(.int ((i1 &&& (2147483647 : Int32)) % (3 : Int32))), (.int (1 : Int32))]) t; rw [g83]; exact k)
   obtain ⟨_, _, ⟨Tc100, Lc100, kc100, nc100⟩, -, Xc100, ⟨Lcc100, hQc100, lc100, yc100, zc100⟩, stc100⟩ := Jvm.LawKit.callS Xc91 hx (y := M2) hown (mvT hZ (ww hw 18 rfl)) (mvT hZ (ww hw 19 rfl)) (mvT hZ (ww hw 20 rfl)) (mvT hZ (ww hw 21 rfl)) (by decide) (backOf (W := 0) (rm3_11 l Z a0 hw [] a_FALSE a_TRUE a_UNKNOWN h0 n0 O0 HE' ) hZ (ww hw 21 rfl) (ww hw 20 rfl) (by decide) (by decide)) (g := (mkF m 37 Ls99 [(.int (0 : Int32)), (.int (1 : Int32))])) rfl (by rw [hml]; rfl) (argsL := [(.int (1 : Int32)), (.int (0 : Int32))]) (rest := []) (lenOf pd2 rfl) rfl (by show 2 * 0 + _ ≤ _; exact Nat.le_of_eq rfl) (hb hby at_37) (fun _ _ => ⟨rfl, ec91, (by decide : 0 + 0 ≤ _), (by decide : 0 + 0 ≤ _)⟩)
   dsimp only [Pt.U, Pt.locs, Pt.cells, Pt.slots] at Xc100 lc100 yc100 zc100 stc100 hQc100
   subst lc100 yc100 zc100
   obtain ⟨Nqc100, ec100, hAc100⟩ := hQc100
   have Nc100 := Fr.app Nc91 Nqc100
   obtain rfl := hAc100
   have p101 : ∀ t, St p e below Tc100 (mkF m 40 Ls99 [(.int (1 : Int32))]) t → S0 t := fun t k => p98 t (stc100 t k)
   let Ls102 : Array Slot := #[.val (.int i0), .val (.int i1), .val (.int (1 : Int32)), .val (.int (0 : Int32)), .val (.ref a_UNKNOWN), .val (.ref a_FALSE), .val (.ref a_UNKNOWN), .val (.int (1 : Int32))]
   have p103 : ∀ t, St p e below Tc100 (mkF m 44 Ls102 [(.ref a_UNKNOWN)]) t → S0 t := fun t k => p101 t (by
     show St p e below Tc100 (mkF m 40 Ls99 [(.int (1 : Int32))]) t
     refine XS.istore Xc100.here hx rfl (hb hby at_40) rfl (l' := Ls102) rfl ?_
     show St p e below Tc100 (mkF m 42 Ls102 []) t
     refine XS.aload Xc100.here hx rfl (hb hby at_42) rfl rfl ?_
     exact k)
   obtain ⟨_, _, ⟨Tc104, Lc104, kc104, nc104⟩, -, Xc104, ⟨Lcc104, hQc104, lc104, yc104, zc104⟩, stc104⟩ := Jvm.LawKit.callS Xc100 hx (y := M3) hown (mvT hZ (ww hw 22 rfl)) (mvT hZ (ww hw 23 rfl)) (mvT hZ (ww hw 3 rfl)) (mvT hZ (ww hw 24 rfl)) (by decide) (backOf (W := 0) (rm4_6 l Z a0 hw [] a_FALSE a_TRUE a_UNKNOWN h0 n0 O0 HE' ) hZ (ww hw 24 rfl) (ww hw 3 rfl) (by decide) (by decide)) (g := (mkF m 44 Ls102 [(.ref a_UNKNOWN)])) rfl (by rw [hml]; rfl) (argsL := [(.ref a_UNKNOWN)]) (rest := []) (lenOf pd3 rfl) rfl (by show 2 * 0 + _ ≤ _; exact Nat.le_of_eq rfl) (hb hby at_44) (fun _ _ => ⟨rfl, ec100, (by decide : 0 + 0 ≤ _), (by decide : 0 + 0 ≤ _)⟩)
   dsimp only [Pt.U, Pt.locs, Pt.cells, Pt.slots] at Xc104 lc104 yc104 zc104 stc104 hQc104
   subst lc104 yc104 zc104
   obtain ⟨Nqc104, ec104, hAc104⟩ := hQc104
   have Nc104 := Fr.app Nc100 Nqc104
   obtain rfl := hAc104
   have p105 : ∀ t, St p e below Tc104 (mkF m 47 Ls102 [(.int (1 : Int32))]) t → S0 t := fun t k => p103 t (stc104 t k)
   have p106 : ∀ t, St p e below Tc104 (mkF m 57 Ls102 [(.int (1 : Int32))]) t → S0 t := fun t k => p105 t (by
     show St p e below Tc104 (mkF m 47 Ls102 [(.int (1 : Int32))]) t
     refine XS.iload Xc104.here hx rfl (hb hby at_47) rfl ?_
     show St p e below Tc104 (mkF m 49 Ls102 [(.int (1 : Int32)), (.int (1 : Int32))]) t
     refine XS.icmpNo Xc104.here hx rfl (hb hby at_49) rfl (teq (by decide : (1 : Int32) = (1 : Int32))).2 ?_
     show St p e below Tc104 (mkF m 52 Ls102 []) t
     refine XT.iconstV Xc104.here hx rfl (1 : Int32) (hb hby at_52) (by decide) ?_
     show St p e below Tc104 (mkF m 53 Ls102 [(.int (1 : Int32))]) t
     refine XS.goto Xc104.here hx rfl (pc0 := 53) (pc' := 57) rfl (hb hby at_53) (by decide) (by decide) ?_
     exact k)
   obtain ⟨fs, hr, hrun, hended, hW, hsame⟩ := Xc104.leave (v := some (.int (1 : Int32))) (fun h => by rw [Bd.returns] at h; cases h)
   refine ⟨_, _, p106 _ ?_, hrun, hended, _, _, rfl, ?_, ⟨_, rfl⟩, hW, hsame.mono (by decide) (by decide)⟩
   · exact retOut Xc104 hx Bd.returns rfl (Or.inl ⟨rfl, by simp, _, rfl⟩) (hb hby at_57) hr
   · exact ⟨rfl, Nc104⟩
  ·
   have p107 : ∀ t, St p e below Tc82 (mkF m 24 Ls80 [(.ref a_UNKNOWN)]) t → S0 t := fun t k => p81 t (stc82 t k)
   let Ls108 : Array Slot := #[.val (.int i0), .val (.int i1), .val (.int ((i0 &&& (2147483647 : Int32)) % (3 : Int32))), .val (.int ((i1 &&& (2147483647 : Int32)) % (3 : Int32))), .val (.ref a_UNKNOWN), .val (.ref a_UNKNOWN), .unset, .unset]
   have p109 : ∀ t, St p e below Tc82 (mkF m 30 Ls108 [(.ref a_UNKNOWN), (.ref a_UNKNOWN)]) t → S0 t := fun t k => p107 t (by
     show St p e below Tc82 (mkF m 24 Ls80 [(.ref a_UNKNOWN)]) t
     refine XS.astore Xc82.here hx rfl (hb hby at_24) rfl rfl (l' := Ls108) rfl ?_
     show St p e below Tc82 (mkF m 26 Ls108 []) t
     refine XS.aload Xc82.here hx rfl (hb hby at_26) rfl rfl ?_
     show St p e below Tc82 (mkF m 28 Ls108 [(.ref a_UNKNOWN)]) t
     refine XS.aload Xc82.here hx rfl (hb hby at_28) rfl rfl ?_
     exact k)
   obtain ⟨cqc110, kqc110, qc110a, qc110b, qc110c⟩ := isOf hZ ec82 (Ea_UNKNOWN.ext O0.2)
   obtain ⟨_, _, ⟨Tc110, Lc110, kc110, nc110⟩, -, Xc110, ⟨Lcc110, hQc110, lc110, yc110, zc110⟩, stc110⟩ := Xc82.virtualBack hx (y := M1) (z := M1) hown (mvT hZ (ww hw 8 rfl)) (mvT hZ (ww hw 9 rfl)) (notFace_of_selects (args := #[]) (mvT hZ (ww hw 11 rfl))) (mvT hZ (ww hw 11 rfl)) (mvT hZ (ww hw 10 rfl)) (by decide) (backOf (W := 0) (rm2_12 l Z a0 hw [] a_FALSE a_TRUE a_UNKNOWN h0 n0 O0 HE' ) hZ (ww hw 12 rfl) (ww hw 6 rfl) (by decide) (by decide)) qc110a qc110c (g := (mkF m 30 Ls108 [(.ref a_UNKNOWN), (.ref a_UNKNOWN)])) rfl (by rw [hml]; rfl) (Steps.refl _) (argsL := [(.ref a_UNKNOWN)]) (rest := []) (lenOf pd1 rfl) rfl (by show 2 * 0 + _ ≤ _; exact Nat.le_of_eq rfl) (hb hby at_30) (fun _ _ => ⟨rfl, ec82, (by decide : 0 + 0 ≤ _), (by decide : 0 + 0 ≤ _)⟩)
   dsimp only [Pt.U, Pt.locs, Pt.cells, Pt.slots] at Xc110 lc110 yc110 zc110 stc110 hQc110
   subst lc110 yc110 zc110
   obtain ⟨Nqc110, ec110, hAc110⟩ := hQc110
   have Nc110 := Fr.app Nc82 Nqc110
   obtain rfl := hAc110
   have p111 : ∀ t, St p e below Tc110 (mkF m 33 Ls108 [(.ref a_UNKNOWN)]) t → S0 t := fun t k => p109 t (stc110.trans k)
   let Ls112 : Array Slot := #[.val (.int i0), .val (.int i1), .val (.int ((i0 &&& (2147483647 : Int32)) % (3 : Int32))), .val (.int ((i1 &&& (2147483647 : Int32)) % (3 : Int32))), .val (.ref a_UNKNOWN), .val (.ref a_UNKNOWN), .val (.ref a_UNKNOWN), .unset]
   have p113 : ∀ t, St p e below Tc110 (mkF m 36 Ls112 [(.int ((i0 &&& (2147483647 : Int32)) % (3 : Int32)))]) t → S0 t := fun t k => p111 t (by
     show St p e below Tc110 (mkF m 33 Ls108 [(.ref a_UNKNOWN)]) t
     refine XS.astore Xc110.here hx rfl (hb hby at_33) rfl rfl (l' := Ls112) rfl ?_
     show St p e below Tc110 (mkF m 35 Ls112 []) t
     refine XS.iloadN Xc110.here hx rfl (hb hby at_35) rfl ?_
     exact k)
   let Ls115 : Array Slot := #[.val (.int i0), .val (.int i1), .val (.int (1 : Int32)), .val (.int ((i1 &&& (2147483647 : Int32)) % (3 : Int32))), .val (.ref a_UNKNOWN), .val (.ref a_UNKNOWN), .val (.ref a_UNKNOWN), .unset]
   have p114 : ∀ t, St p e below Tc110 (mkF m 36 Ls115 [(.int (1 : Int32))]) t → S0 t := fun t k => p113 t (by show St p e below Tc110 (mkF m 36 #[.val (.int i0), .val (.int i1), .val (.int ((i0 &&& (2147483647 : Int32)) % (3 : Int32))), .val (.int ((i1 &&& (2147483647 : Int32)) % (3 : Int32))), .val (.ref a_UNKNOWN), .val (.ref a_UNKNOWN), .val (.ref a_UNKNOWN), .unset] [(.int ((i0 &&& (2147483647 : Int32)) % (3 : Int32)))]) t; rw [g8]; exact k)
   have p116 : ∀ t, St p e below Tc110 (mkF m 37 Ls115 [(.int ((i1 &&& (2147483647 : Int32)) % (3 : Int32))), (.int (1 : Int32))]) t → S0 t := fun t k => p114 t (by
     show St p e below Tc110 (mkF m 36 Ls115 [(.int (1 : Int32))]) t
     refine XS.iloadN Xc110.here hx rfl (hb hby at_36) rfl ?_
     exact k)
   let Ls118 : Array Slot := #[.val (.int i0), .val (.int i1), .val (.int (1 : Int32)), .val (.int (1 : Int32)), .val (.ref a_UNKNOWN), .val (.ref a_UNKNOWN), .val (.ref a_UNKNOWN), .unset]
   have p117 : ∀ t, St p e below Tc110 (mkF m 37 Ls118 [(.int (1 : Int32)), (.int (1 : Int32))]) t → S0 t := fun t k => p116 t (by show St p e below Tc110 (mkF m 37 #[.val (.int i0), .val (.int i1), .val (.int (1 : Int32)), .val (.int ((i1 &&& (2147483647 : Int32)) % (3 : Int32))), .val (.ref a_UNKNOWN), .val (.ref a_UNKNOWN), .val (.ref a_UNKNOWN), .unset] [(.int ((i1 &&& (2147483647 : Int32)) % (3 : Int32))), (.int (1 : Int32))]) t; rw [g85]; exact k)
   obtain ⟨_, _, ⟨Tc119, Lc119, kc119, nc119⟩, -, Xc119, ⟨Lcc119, hQc119, lc119, yc119, zc119⟩, stc119⟩ := Jvm.LawKit.callS Xc110 hx (y := M2) hown (mvT hZ (ww hw 18 rfl)) (mvT hZ (ww hw 19 rfl)) (mvT hZ (ww hw 20 rfl)) (mvT hZ (ww hw 21 rfl)) (by decide) (backOf (W := 0) (rm3_13 l Z a0 hw [] a_FALSE a_TRUE a_UNKNOWN h0 n0 O0 HE' ) hZ (ww hw 21 rfl) (ww hw 20 rfl) (by decide) (by decide)) (g := (mkF m 37 Ls118 [(.int (1 : Int32)), (.int (1 : Int32))])) rfl (by rw [hml]; rfl) (argsL := [(.int (1 : Int32)), (.int (1 : Int32))]) (rest := []) (lenOf pd2 rfl) rfl (by show 2 * 0 + _ ≤ _; exact Nat.le_of_eq rfl) (hb hby at_37) (fun _ _ => ⟨rfl, ec110, (by decide : 0 + 0 ≤ _), (by decide : 0 + 0 ≤ _)⟩)
   dsimp only [Pt.U, Pt.locs, Pt.cells, Pt.slots] at Xc119 lc119 yc119 zc119 stc119 hQc119
   subst lc119 yc119 zc119
   obtain ⟨Nqc119, ec119, hAc119⟩ := hQc119
   have Nc119 := Fr.app Nc110 Nqc119
   obtain rfl := hAc119
   have p120 : ∀ t, St p e below Tc119 (mkF m 40 Ls118 [(.int (1 : Int32))]) t → S0 t := fun t k => p117 t (stc119 t k)
   let Ls121 : Array Slot := #[.val (.int i0), .val (.int i1), .val (.int (1 : Int32)), .val (.int (1 : Int32)), .val (.ref a_UNKNOWN), .val (.ref a_UNKNOWN), .val (.ref a_UNKNOWN), .val (.int (1 : Int32))]
   have p122 : ∀ t, St p e below Tc119 (mkF m 44 Ls121 [(.ref a_UNKNOWN)]) t → S0 t := fun t k => p120 t (by
     show St p e below Tc119 (mkF m 40 Ls118 [(.int (1 : Int32))]) t
     refine XS.istore Xc119.here hx rfl (hb hby at_40) rfl (l' := Ls121) rfl ?_
     show St p e below Tc119 (mkF m 42 Ls121 []) t
     refine XS.aload Xc119.here hx rfl (hb hby at_42) rfl rfl ?_
     exact k)
   obtain ⟨_, _, ⟨Tc123, Lc123, kc123, nc123⟩, -, Xc123, ⟨Lcc123, hQc123, lc123, yc123, zc123⟩, stc123⟩ := Jvm.LawKit.callS Xc119 hx (y := M3) hown (mvT hZ (ww hw 22 rfl)) (mvT hZ (ww hw 23 rfl)) (mvT hZ (ww hw 3 rfl)) (mvT hZ (ww hw 24 rfl)) (by decide) (backOf (W := 0) (rm4_6 l Z a0 hw [] a_FALSE a_TRUE a_UNKNOWN h0 n0 O0 HE' ) hZ (ww hw 24 rfl) (ww hw 3 rfl) (by decide) (by decide)) (g := (mkF m 44 Ls121 [(.ref a_UNKNOWN)])) rfl (by rw [hml]; rfl) (argsL := [(.ref a_UNKNOWN)]) (rest := []) (lenOf pd3 rfl) rfl (by show 2 * 0 + _ ≤ _; exact Nat.le_of_eq rfl) (hb hby at_44) (fun _ _ => ⟨rfl, ec119, (by decide : 0 + 0 ≤ _), (by decide : 0 + 0 ≤ _)⟩)
   dsimp only [Pt.U, Pt.locs, Pt.cells, Pt.slots] at Xc123 lc123 yc123 zc123 stc123 hQc123
   subst lc123 yc123 zc123
   obtain ⟨Nqc123, ec123, hAc123⟩ := hQc123
   have Nc123 := Fr.app Nc119 Nqc123
   obtain rfl := hAc123
   have p124 : ∀ t, St p e below Tc123 (mkF m 47 Ls121 [(.int (1 : Int32))]) t → S0 t := fun t k => p122 t (stc123 t k)
   have p125 : ∀ t, St p e below Tc123 (mkF m 57 Ls121 [(.int (1 : Int32))]) t → S0 t := fun t k => p124 t (by
     show St p e below Tc123 (mkF m 47 Ls121 [(.int (1 : Int32))]) t
     refine XS.iload Xc123.here hx rfl (hb hby at_47) rfl ?_
     show St p e below Tc123 (mkF m 49 Ls121 [(.int (1 : Int32)), (.int (1 : Int32))]) t
     refine XS.icmpNo Xc123.here hx rfl (hb hby at_49) rfl (teq (by decide : (1 : Int32) = (1 : Int32))).2 ?_
     show St p e below Tc123 (mkF m 52 Ls121 []) t
     refine XT.iconstV Xc123.here hx rfl (1 : Int32) (hb hby at_52) (by decide) ?_
     show St p e below Tc123 (mkF m 53 Ls121 [(.int (1 : Int32))]) t
     refine XS.goto Xc123.here hx rfl (pc0 := 53) (pc' := 57) rfl (hb hby at_53) (by decide) (by decide) ?_
     exact k)
   obtain ⟨fs, hr, hrun, hended, hW, hsame⟩ := Xc123.leave (v := some (.int (1 : Int32))) (fun h => by rw [Bd.returns] at h; cases h)
   refine ⟨_, _, p125 _ ?_, hrun, hended, _, _, rfl, ?_, ⟨_, rfl⟩, hW, hsame.mono (by decide) (by decide)⟩
   · exact retOut Xc123 hx Bd.returns rfl (Or.inl ⟨rfl, by simp, _, rfl⟩) (hb hby at_57) hr
   · exact ⟨rfl, Nc123⟩
  ·
   have p126 : ∀ t, St p e below Tc82 (mkF m 24 Ls80 [(.ref a_TRUE)]) t → S0 t := fun t k => p81 t (stc82 t k)
   let Ls127 : Array Slot := #[.val (.int i0), .val (.int i1), .val (.int ((i0 &&& (2147483647 : Int32)) % (3 : Int32))), .val (.int ((i1 &&& (2147483647 : Int32)) % (3 : Int32))), .val (.ref a_UNKNOWN), .val (.ref a_TRUE), .unset, .unset]
   have p128 : ∀ t, St p e below Tc82 (mkF m 30 Ls127 [(.ref a_TRUE), (.ref a_UNKNOWN)]) t → S0 t := fun t k => p126 t (by
     show St p e below Tc82 (mkF m 24 Ls80 [(.ref a_TRUE)]) t
     refine XS.astore Xc82.here hx rfl (hb hby at_24) rfl rfl (l' := Ls127) rfl ?_
     show St p e below Tc82 (mkF m 26 Ls127 []) t
     refine XS.aload Xc82.here hx rfl (hb hby at_26) rfl rfl ?_
     show St p e below Tc82 (mkF m 28 Ls127 [(.ref a_UNKNOWN)]) t
     refine XS.aload Xc82.here hx rfl (hb hby at_28) rfl rfl ?_
     exact k)
   obtain ⟨cqc129, kqc129, qc129a, qc129b, qc129c⟩ := isOf hZ ec82 (Ea_UNKNOWN.ext O0.2)
   obtain ⟨_, _, ⟨Tc129, Lc129, kc129, nc129⟩, -, Xc129, ⟨Lcc129, hQc129, lc129, yc129, zc129⟩, stc129⟩ := Xc82.virtualBack hx (y := M1) (z := M1) hown (mvT hZ (ww hw 8 rfl)) (mvT hZ (ww hw 9 rfl)) (notFace_of_selects (args := #[]) (mvT hZ (ww hw 11 rfl))) (mvT hZ (ww hw 11 rfl)) (mvT hZ (ww hw 10 rfl)) (by decide) (backOf (W := 0) (rm2_14 l Z a0 hw [] a_FALSE a_TRUE a_UNKNOWN h0 n0 O0 HE' ) hZ (ww hw 12 rfl) (ww hw 6 rfl) (by decide) (by decide)) qc129a qc129c (g := (mkF m 30 Ls127 [(.ref a_TRUE), (.ref a_UNKNOWN)])) rfl (by rw [hml]; rfl) (Steps.refl _) (argsL := [(.ref a_TRUE)]) (rest := []) (lenOf pd1 rfl) rfl (by show 2 * 0 + _ ≤ _; exact Nat.le_of_eq rfl) (hb hby at_30) (fun _ _ => ⟨rfl, ec82, (by decide : 0 + 0 ≤ _), (by decide : 0 + 0 ≤ _)⟩)
   dsimp only [Pt.U, Pt.locs, Pt.cells, Pt.slots] at Xc129 lc129 yc129 zc129 stc129 hQc129
   subst lc129 yc129 zc129
   obtain ⟨Nqc129, ec129, hAc129⟩ := hQc129
   have Nc129 := Fr.app Nc82 Nqc129
   obtain rfl := hAc129
   have p130 : ∀ t, St p e below Tc129 (mkF m 33 Ls127 [(.ref a_TRUE)]) t → S0 t := fun t k => p128 t (stc129.trans k)
   let Ls131 : Array Slot := #[.val (.int i0), .val (.int i1), .val (.int ((i0 &&& (2147483647 : Int32)) % (3 : Int32))), .val (.int ((i1 &&& (2147483647 : Int32)) % (3 : Int32))), .val (.ref a_UNKNOWN), .val (.ref a_TRUE), .val (.ref a_TRUE), .unset]
   have p132 : ∀ t, St p e below Tc129 (mkF m 36 Ls131 [(.int ((i0 &&& (2147483647 : Int32)) % (3 : Int32)))]) t → S0 t := fun t k => p130 t (by
     show St p e below Tc129 (mkF m 33 Ls127 [(.ref a_TRUE)]) t
     refine XS.astore Xc129.here hx rfl (hb hby at_33) rfl rfl (l' := Ls131) rfl ?_
     show St p e below Tc129 (mkF m 35 Ls131 []) t
     refine XS.iloadN Xc129.here hx rfl (hb hby at_35) rfl ?_
     exact k)
   let Ls134 : Array Slot := #[.val (.int i0), .val (.int i1), .val (.int (1 : Int32)), .val (.int ((i1 &&& (2147483647 : Int32)) % (3 : Int32))), .val (.ref a_UNKNOWN), .val (.ref a_TRUE), .val (.ref a_TRUE), .unset]
   have p133 : ∀ t, St p e below Tc129 (mkF m 36 Ls134 [(.int (1 : Int32))]) t → S0 t := fun t k => p132 t (by show St p e below Tc129 (mkF m 36 #[.val (.int i0), .val (.int i1), .val (.int ((i0 &&& (2147483647 : Int32)) % (3 : Int32))), .val (.int ((i1 &&& (2147483647 : Int32)) % (3 : Int32))), .val (.ref a_UNKNOWN), .val (.ref a_TRUE), .val (.ref a_TRUE), .unset] [(.int ((i0 &&& (2147483647 : Int32)) % (3 : Int32)))]) t; rw [g8]; exact k)
   have p135 : ∀ t, St p e below Tc129 (mkF m 37 Ls134 [(.int ((i1 &&& (2147483647 : Int32)) % (3 : Int32))), (.int (1 : Int32))]) t → S0 t := fun t k => p133 t (by
     show St p e below Tc129 (mkF m 36 Ls134 [(.int (1 : Int32))]) t
     refine XS.iloadN Xc129.here hx rfl (hb hby at_36) rfl ?_
     exact k)
   obtain ⟨_, _, ⟨Tc136, Lc136, kc136, nc136⟩, -, Xc136, ⟨Lcc136, hQc136, lc136, yc136, zc136⟩, stc136⟩ := Jvm.LawKit.callS Xc129 hx (y := M2) hown (mvT hZ (ww hw 18 rfl)) (mvT hZ (ww hw 19 rfl)) (mvT hZ (ww hw 20 rfl)) (mvT hZ (ww hw 21 rfl)) (by decide) (backOf (W := 0) (rm3_15 l Z a0 hw [] a_FALSE a_TRUE a_UNKNOWN ((i1 &&& (2147483647 : Int32)) % (3 : Int32)) h0 n0 O0 HE' ) hZ (ww hw 21 rfl) (ww hw 20 rfl) (by decide) (by decide)) (g := (mkF m 37 Ls134 [(.int ((i1 &&& (2147483647 : Int32)) % (3 : Int32))), (.int (1 : Int32))])) rfl (by rw [hml]; rfl) (argsL := [(.int (1 : Int32)), (.int ((i1 &&& (2147483647 : Int32)) % (3 : Int32)))]) (rest := []) (lenOf pd2 rfl) rfl (by show 2 * 0 + _ ≤ _; exact Nat.le_of_eq rfl) (hb hby at_37) (fun _ _ => ⟨rfl, ec129, (by decide : 0 + 0 ≤ _), (by decide : 0 + 0 ≤ _)⟩)
   dsimp only [Pt.U, Pt.locs, Pt.cells, Pt.slots] at Xc136 lc136 yc136 zc136 stc136 hQc136
   subst lc136 yc136 zc136
   obtain ⟨Nqc136, ec136, hAc136⟩ := hQc136
   have Nc136 := Fr.app Nc129 Nqc136
   rcases hAc136 with ⟨rfl, g137⟩ | ⟨rfl, g138⟩
   ·
    have p139 : ∀ t, St p e below Tc136 (mkF m 40 Ls134 [(.int ((i1 &&& (2147483647 : Int32)) % (3 : Int32)))]) t → S0 t := fun t k => p135 t (stc136 t k)
    let Ls140 : Array Slot := #[.val (.int i0), .val (.int i1), .val (.int (1 : Int32)), .val (.int ((i1 &&& (2147483647 : Int32)) % (3 : Int32))), .val (.ref a_UNKNOWN), .val (.ref a_TRUE), .val (.ref a_TRUE), .val (.int ((i1 &&& (2147483647 : Int32)) % (3 : Int32)))]
    have p141 : ∀ t, St p e below Tc136 (mkF m 44 Ls140 [(.ref a_TRUE)]) t → S0 t := fun t k => p139 t (by
      show St p e below Tc136 (mkF m 40 Ls134 [(.int ((i1 &&& (2147483647 : Int32)) % (3 : Int32)))]) t
      refine XS.istore Xc136.here hx rfl (hb hby at_40) rfl (l' := Ls140) rfl ?_
      show St p e below Tc136 (mkF m 42 Ls140 []) t
      refine XS.aload Xc136.here hx rfl (hb hby at_42) rfl rfl ?_
      exact k)
    obtain ⟨_, _, ⟨Tc142, Lc142, kc142, nc142⟩, -, Xc142, ⟨Lcc142, hQc142, lc142, yc142, zc142⟩, stc142⟩ := Jvm.LawKit.callS Xc136 hx (y := M3) hown (mvT hZ (ww hw 22 rfl)) (mvT hZ (ww hw 23 rfl)) (mvT hZ (ww hw 3 rfl)) (mvT hZ (ww hw 24 rfl)) (by decide) (backOf (W := 0) (rm4_9 l Z a0 hw [] a_FALSE a_TRUE a_UNKNOWN h0 n0 O0 HE' ) hZ (ww hw 24 rfl) (ww hw 3 rfl) (by decide) (by decide)) (g := (mkF m 44 Ls140 [(.ref a_TRUE)])) rfl (by rw [hml]; rfl) (argsL := [(.ref a_TRUE)]) (rest := []) (lenOf pd3 rfl) rfl (by show 2 * 0 + _ ≤ _; exact Nat.le_of_eq rfl) (hb hby at_44) (fun _ _ => ⟨rfl, ec136, (by decide : 0 + 0 ≤ _), (by decide : 0 + 0 ≤ _)⟩)
    dsimp only [Pt.U, Pt.locs, Pt.cells, Pt.slots] at Xc142 lc142 yc142 zc142 stc142 hQc142
    subst lc142 yc142 zc142
    obtain ⟨Nqc142, ec142, hAc142⟩ := hQc142
    have Nc142 := Fr.app Nc136 Nqc142
    obtain rfl := hAc142
    have p143 : ∀ t, St p e below Tc142 (mkF m 47 Ls140 [(.int (2 : Int32))]) t → S0 t := fun t k => p141 t (stc142 t k)
    have p144 : ∀ t, St p e below Tc142 (mkF m 49 Ls140 [(.int ((i1 &&& (2147483647 : Int32)) % (3 : Int32))), (.int (2 : Int32))]) t → S0 t := fun t k => p143 t (by
      show St p e below Tc142 (mkF m 47 Ls140 [(.int (2 : Int32))]) t
      refine XS.iload Xc142.here hx rfl (hb hby at_47) rfl ?_
      exact k)
    by_cases g145 : (2 : Int32) = ((i1 &&& (2147483647 : Int32)) % (3 : Int32))
    ·
     have p146 : ∀ t, St p e below Tc142 (mkF m 57 Ls140 [(.int (1 : Int32))]) t → S0 t := fun t k => p144 t (by
       show St p e below Tc142 (mkF m 49 Ls140 [(.int ((i1 &&& (2147483647 : Int32)) % (3 : Int32))), (.int (2 : Int32))]) t
       refine XS.icmpNo Xc142.here hx rfl (hb hby at_49) rfl (teq g145).2 ?_
       show St p e below Tc142 (mkF m 52 Ls140 []) t
       refine XT.iconstV Xc142.here hx rfl (1 : Int32) (hb hby at_52) (by decide) ?_
       show St p e below Tc142 (mkF m 53 Ls140 [(.int (1 : Int32))]) t
       refine XS.goto Xc142.here hx rfl (pc0 := 53) (pc' := 57) rfl (hb hby at_53) (by decide) (by decide) ?_
       exact k)
     obtain ⟨fs, hr, hrun, hended, hW, hsame⟩ := Xc142.leave (v := some (.int (1 : Int32))) (fun h => by rw [Bd.returns] at h; cases h)
     refine ⟨_, _, p146 _ ?_, hrun, hended, _, _, rfl, ?_, ⟨_, rfl⟩, hW, hsame.mono (by decide) (by decide)⟩
     · exact retOut Xc142 hx Bd.returns rfl (Or.inl ⟨rfl, by simp, _, rfl⟩) (hb hby at_57) hr
     · exact ⟨rfl, Nc142⟩
    ·
     exfalso
     have q1_ := neI g86
     have q2_ := neI g87
     have q3_ := ltI g137
     have q4_ := neI g145
     have l5_ := rng32 i1
     have l6_ := lI2147483647
     have l7_ : (i1 &&& (2147483647 : Int32)).toInt = i1.toInt % 2147483648 := c_mask i1 (2147483647 : Int32) 31 (by decide) (by decide)
     have l8_ := lI3
     have l9_ := c_irem (i1 &&& (2147483647 : Int32)) (3 : Int32) 3 (by decide)
     have l10_ := lI0
     have l11_ := lI1
     have l12_ := lI2
     omega
   ·
    exfalso
    have q1_ := neI g86
    have q2_ := neI g87
    have q3_ := nltI g138
    have l4_ := rng32 i1
    have l5_ := lI2147483647
    have l6_ : (i1 &&& (2147483647 : Int32)).toInt = i1.toInt % 2147483648 := c_mask i1 (2147483647 : Int32) 31 (by decide) (by decide)
    have l7_ := lI3
    have l8_ := c_irem (i1 &&& (2147483647 : Int32)) (3 : Int32) 3 (by decide)
    have l9_ := lI0
    have l10_ := lI1
    omega
 ·
  have p147 : ∀ t, St p e below Tc5 (mkF m 18 Ls3 [(.ref a_TRUE)]) t → S0 t := fun t k => p4 t (stc5 t k)
  let Ls148 : Array Slot := #[.val (.int i0), .val (.int i1), .val (.int ((i0 &&& (2147483647 : Int32)) % (3 : Int32))), .val (.int ((i1 &&& (2147483647 : Int32)) % (3 : Int32))), .val (.ref a_TRUE), .unset, .unset, .unset]
  have p149 : ∀ t, St p e below Tc5 (mkF m 21 Ls148 [(.int ((i1 &&& (2147483647 : Int32)) % (3 : Int32)))]) t → S0 t := fun t k => p147 t (by
    show St p e below Tc5 (mkF m 18 Ls3 [(.ref a_TRUE)]) t
    refine XS.astore Xc5.here hx rfl (hb hby at_18) rfl rfl (l' := Ls148) rfl ?_
    show St p e below Tc5 (mkF m 20 Ls148 []) t
    refine XS.iloadN Xc5.here hx rfl (hb hby at_20) rfl ?_
    exact k)
  obtain ⟨_, _, ⟨Tc150, Lc150, kc150, nc150⟩, -, Xc150, ⟨Lcc150, hQc150, lc150, yc150, zc150⟩, stc150⟩ := Jvm.LawKit.callS Xc5 hx (y := M0) hown (mvT hZ (ww hw 1 rfl)) (mvT hZ (ww hw 2 rfl)) (mvT hZ (ww hw 3 rfl)) (mvT hZ (ww hw 4 rfl)) (by decide) (backOf (W := 0) (rm1_0 l Z a0 hw [] a_FALSE a_TRUE a_UNKNOWN ((i1 &&& (2147483647 : Int32)) % (3 : Int32)) h0 n0 O0 HE' ) hZ (ww hw 4 rfl) (ww hw 3 rfl) (by decide) (by decide)) (g := (mkF m 21 Ls148 [(.int ((i1 &&& (2147483647 : Int32)) % (3 : Int32)))])) rfl (by rw [hml]; rfl) (argsL := [(.int ((i1 &&& (2147483647 : Int32)) % (3 : Int32)))]) (rest := []) (lenOf pd0 rfl) rfl (by show 2 * 0 + _ ≤ _; exact Nat.le_of_eq rfl) (hb hby at_21) (fun _ _ => ⟨rfl, ec5, (by decide : 0 + 0 ≤ _), (by decide : 0 + 0 ≤ _)⟩)
  dsimp only [Pt.U, Pt.locs, Pt.cells, Pt.slots] at Xc150 lc150 yc150 zc150 stc150 hQc150
  subst lc150 yc150 zc150
  obtain ⟨Nqc150, ec150, hAc150⟩ := hQc150
  have Nc150 := Fr.app Nc5 Nqc150
  rcases hAc150 with ⟨rfl, g151⟩ | ⟨rfl, g152, g153⟩ | ⟨rfl, g154, g155⟩
  ·
   have p156 : ∀ t, St p e below Tc150 (mkF m 24 Ls148 [(.ref a_FALSE)]) t → S0 t := fun t k => p149 t (stc150 t k)
   let Ls157 : Array Slot := #[.val (.int i0), .val (.int i1), .val (.int ((i0 &&& (2147483647 : Int32)) % (3 : Int32))), .val (.int ((i1 &&& (2147483647 : Int32)) % (3 : Int32))), .val (.ref a_TRUE), .val (.ref a_FALSE), .unset, .unset]
   have p158 : ∀ t, St p e below Tc150 (mkF m 30 Ls157 [(.ref a_FALSE), (.ref a_TRUE)]) t → S0 t := fun t k => p156 t (by
     show St p e below Tc150 (mkF m 24 Ls148 [(.ref a_FALSE)]) t
     refine XS.astore Xc150.here hx rfl (hb hby at_24) rfl rfl (l' := Ls157) rfl ?_
     show St p e below Tc150 (mkF m 26 Ls157 []) t
     refine XS.aload Xc150.here hx rfl (hb hby at_26) rfl rfl ?_
     show St p e below Tc150 (mkF m 28 Ls157 [(.ref a_TRUE)]) t
     refine XS.aload Xc150.here hx rfl (hb hby at_28) rfl rfl ?_
     exact k)
   obtain ⟨cqc159, kqc159, qc159a, qc159b, qc159c⟩ := isOf hZ ec150 (Ea_TRUE.ext O0.2)
   obtain ⟨_, _, ⟨Tc159, Lc159, kc159, nc159⟩, -, Xc159, ⟨Lcc159, hQc159, lc159, yc159, zc159⟩, stc159⟩ := Xc150.virtualBack hx (y := M1) (z := M1) hown (mvT hZ (ww hw 8 rfl)) (mvT hZ (ww hw 9 rfl)) (notFace_of_selects (args := #[]) (mvT hZ (ww hw 11 rfl))) (mvT hZ (ww hw 11 rfl)) (mvT hZ (ww hw 10 rfl)) (by decide) (backOf (W := 0) (rm2_16 l Z a0 hw [] a_FALSE a_TRUE a_UNKNOWN h0 n0 O0 HE' ) hZ (ww hw 12 rfl) (ww hw 6 rfl) (by decide) (by decide)) qc159a qc159c (g := (mkF m 30 Ls157 [(.ref a_FALSE), (.ref a_TRUE)])) rfl (by rw [hml]; rfl) (Steps.refl _) (argsL := [(.ref a_FALSE)]) (rest := []) (lenOf pd1 rfl) rfl (by show 2 * 0 + _ ≤ _; exact Nat.le_of_eq rfl) (hb hby at_30) (fun _ _ => ⟨rfl, ec150, (by decide : 0 + 0 ≤ _), (by decide : 0 + 0 ≤ _)⟩)
   dsimp only [Pt.U, Pt.locs, Pt.cells, Pt.slots] at Xc159 lc159 yc159 zc159 stc159 hQc159
   subst lc159 yc159 zc159
   obtain ⟨Nqc159, ec159, hAc159⟩ := hQc159
   have Nc159 := Fr.app Nc150 Nqc159
   obtain rfl := hAc159
   have p160 : ∀ t, St p e below Tc159 (mkF m 33 Ls157 [(.ref a_TRUE)]) t → S0 t := fun t k => p158 t (stc159.trans k)
   let Ls161 : Array Slot := #[.val (.int i0), .val (.int i1), .val (.int ((i0 &&& (2147483647 : Int32)) % (3 : Int32))), .val (.int ((i1 &&& (2147483647 : Int32)) % (3 : Int32))), .val (.ref a_TRUE), .val (.ref a_FALSE), .val (.ref a_TRUE), .unset]
   have p162 : ∀ t, St p e below Tc159 (mkF m 37 Ls161 [(.int ((i1 &&& (2147483647 : Int32)) % (3 : Int32))), (.int ((i0 &&& (2147483647 : Int32)) % (3 : Int32)))]) t → S0 t := fun t k => p160 t (by
     show St p e below Tc159 (mkF m 33 Ls157 [(.ref a_TRUE)]) t
     refine XS.astore Xc159.here hx rfl (hb hby at_33) rfl rfl (l' := Ls161) rfl ?_
     show St p e below Tc159 (mkF m 35 Ls161 []) t
     refine XS.iloadN Xc159.here hx rfl (hb hby at_35) rfl ?_
     show St p e below Tc159 (mkF m 36 Ls161 [(.int ((i0 &&& (2147483647 : Int32)) % (3 : Int32)))]) t
     refine XS.iloadN Xc159.here hx rfl (hb hby at_36) rfl ?_
     exact k)
   let Ls164 : Array Slot := #[.val (.int i0), .val (.int i1), .val (.int ((i0 &&& (2147483647 : Int32)) % (3 : Int32))), .val (.int (0 : Int32)), .val (.ref a_TRUE), .val (.ref a_FALSE), .val (.ref a_TRUE), .unset]
   have p163 : ∀ t, St p e below Tc159 (mkF m 37 Ls164 [(.int (0 : Int32)), (.int ((i0 &&& (2147483647 : Int32)) % (3 : Int32)))]) t → S0 t := fun t k => p162 t (by show St p e below Tc159 (mkF m 37 #[.val (.int i0), .val (.int i1), .val (.int ((i0 &&& (2147483647 : Int32)) % (3 : Int32))), .val (.int ((i1 &&& (2147483647 : Int32)) % (3 : Int32))), .val (.ref a_TRUE), .val (.ref a_FALSE), .val (.ref a_TRUE), .unset] [(.int ((i1 &&& (2147483647 : Int32)) % (3 : Int32))), (.int ((i0 &&& (2147483647 : Int32)) % (3 : Int32)))]) t; rw [g151]; exact k)
   obtain ⟨_, _, ⟨Tc165, Lc165, kc165, nc165⟩, -, Xc165, ⟨Lcc165, hQc165, lc165, yc165, zc165⟩, stc165⟩ := Jvm.LawKit.callS Xc159 hx (y := M2) hown (mvT hZ (ww hw 18 rfl)) (mvT hZ (ww hw 19 rfl)) (mvT hZ (ww hw 20 rfl)) (mvT hZ (ww hw 21 rfl)) (by decide) (backOf (W := 0) (rm3_17 l Z a0 hw [] a_FALSE a_TRUE a_UNKNOWN ((i0 &&& (2147483647 : Int32)) % (3 : Int32)) h0 n0 O0 HE' ) hZ (ww hw 21 rfl) (ww hw 20 rfl) (by decide) (by decide)) (g := (mkF m 37 Ls164 [(.int (0 : Int32)), (.int ((i0 &&& (2147483647 : Int32)) % (3 : Int32)))])) rfl (by rw [hml]; rfl) (argsL := [(.int ((i0 &&& (2147483647 : Int32)) % (3 : Int32))), (.int (0 : Int32))]) (rest := []) (lenOf pd2 rfl) rfl (by show 2 * 0 + _ ≤ _; exact Nat.le_of_eq rfl) (hb hby at_37) (fun _ _ => ⟨rfl, ec159, (by decide : 0 + 0 ≤ _), (by decide : 0 + 0 ≤ _)⟩)
   dsimp only [Pt.U, Pt.locs, Pt.cells, Pt.slots] at Xc165 lc165 yc165 zc165 stc165 hQc165
   subst lc165 yc165 zc165
   obtain ⟨Nqc165, ec165, hAc165⟩ := hQc165
   have Nc165 := Fr.app Nc159 Nqc165
   rcases hAc165 with ⟨rfl, g166⟩ | ⟨rfl, g167⟩
   ·
    exfalso
    have q1_ := neI g9
    have q2_ := neI g10
    have q3_ := ltI g166
    have l4_ := rng32 i0
    have l5_ := lI2147483647
    have l6_ : (i0 &&& (2147483647 : Int32)).toInt = i0.toInt % 2147483648 := c_mask i0 (2147483647 : Int32) 31 (by decide) (by decide)
    have l7_ := lI3
    have l8_ := c_irem (i0 &&& (2147483647 : Int32)) (3 : Int32) 3 (by decide)
    have l9_ := lI0
    have l10_ := lI1
    omega
   ·
    have p168 : ∀ t, St p e below Tc165 (mkF m 40 Ls164 [(.int ((i0 &&& (2147483647 : Int32)) % (3 : Int32)))]) t → S0 t := fun t k => p163 t (stc165 t k)
    let Ls169 : Array Slot := #[.val (.int i0), .val (.int i1), .val (.int ((i0 &&& (2147483647 : Int32)) % (3 : Int32))), .val (.int (0 : Int32)), .val (.ref a_TRUE), .val (.ref a_FALSE), .val (.ref a_TRUE), .val (.int ((i0 &&& (2147483647 : Int32)) % (3 : Int32)))]
    have p170 : ∀ t, St p e below Tc165 (mkF m 44 Ls169 [(.ref a_TRUE)]) t → S0 t := fun t k => p168 t (by
      show St p e below Tc165 (mkF m 40 Ls164 [(.int ((i0 &&& (2147483647 : Int32)) % (3 : Int32)))]) t
      refine XS.istore Xc165.here hx rfl (hb hby at_40) rfl (l' := Ls169) rfl ?_
      show St p e below Tc165 (mkF m 42 Ls169 []) t
      refine XS.aload Xc165.here hx rfl (hb hby at_42) rfl rfl ?_
      exact k)
    obtain ⟨_, _, ⟨Tc171, Lc171, kc171, nc171⟩, -, Xc171, ⟨Lcc171, hQc171, lc171, yc171, zc171⟩, stc171⟩ := Jvm.LawKit.callS Xc165 hx (y := M3) hown (mvT hZ (ww hw 22 rfl)) (mvT hZ (ww hw 23 rfl)) (mvT hZ (ww hw 3 rfl)) (mvT hZ (ww hw 24 rfl)) (by decide) (backOf (W := 0) (rm4_9 l Z a0 hw [] a_FALSE a_TRUE a_UNKNOWN h0 n0 O0 HE' ) hZ (ww hw 24 rfl) (ww hw 3 rfl) (by decide) (by decide)) (g := (mkF m 44 Ls169 [(.ref a_TRUE)])) rfl (by rw [hml]; rfl) (argsL := [(.ref a_TRUE)]) (rest := []) (lenOf pd3 rfl) rfl (by show 2 * 0 + _ ≤ _; exact Nat.le_of_eq rfl) (hb hby at_44) (fun _ _ => ⟨rfl, ec165, (by decide : 0 + 0 ≤ _), (by decide : 0 + 0 ≤ _)⟩)
    dsimp only [Pt.U, Pt.locs, Pt.cells, Pt.slots] at Xc171 lc171 yc171 zc171 stc171 hQc171
    subst lc171 yc171 zc171
    obtain ⟨Nqc171, ec171, hAc171⟩ := hQc171
    have Nc171 := Fr.app Nc165 Nqc171
    obtain rfl := hAc171
    have p172 : ∀ t, St p e below Tc171 (mkF m 47 Ls169 [(.int (2 : Int32))]) t → S0 t := fun t k => p170 t (stc171 t k)
    have p173 : ∀ t, St p e below Tc171 (mkF m 49 Ls169 [(.int ((i0 &&& (2147483647 : Int32)) % (3 : Int32))), (.int (2 : Int32))]) t → S0 t := fun t k => p172 t (by
      show St p e below Tc171 (mkF m 47 Ls169 [(.int (2 : Int32))]) t
      refine XS.iload Xc171.here hx rfl (hb hby at_47) rfl ?_
      exact k)
    by_cases g174 : (2 : Int32) = ((i0 &&& (2147483647 : Int32)) % (3 : Int32))
    ·
     have p175 : ∀ t, St p e below Tc171 (mkF m 57 Ls169 [(.int (1 : Int32))]) t → S0 t := fun t k => p173 t (by
       show St p e below Tc171 (mkF m 49 Ls169 [(.int ((i0 &&& (2147483647 : Int32)) % (3 : Int32))), (.int (2 : Int32))]) t
       refine XS.icmpNo Xc171.here hx rfl (hb hby at_49) rfl (teq g174).2 ?_
       show St p e below Tc171 (mkF m 52 Ls169 []) t
       refine XT.iconstV Xc171.here hx rfl (1 : Int32) (hb hby at_52) (by decide) ?_
       show St p e below Tc171 (mkF m 53 Ls169 [(.int (1 : Int32))]) t
       refine XS.goto Xc171.here hx rfl (pc0 := 53) (pc' := 57) rfl (hb hby at_53) (by decide) (by decide) ?_
       exact k)
     obtain ⟨fs, hr, hrun, hended, hW, hsame⟩ := Xc171.leave (v := some (.int (1 : Int32))) (fun h => by rw [Bd.returns] at h; cases h)
     refine ⟨_, _, p175 _ ?_, hrun, hended, _, _, rfl, ?_, ⟨_, rfl⟩, hW, hsame.mono (by decide) (by decide)⟩
     · exact retOut Xc171 hx Bd.returns rfl (Or.inl ⟨rfl, by simp, _, rfl⟩) (hb hby at_57) hr
     · exact ⟨rfl, Nc171⟩
    ·
     exfalso
     have q1_ := neI g9
     have q2_ := neI g10
     have q3_ := nltI g167
     have q4_ := neI g174
     have l5_ := rng32 i0
     have l6_ := lI2147483647
     have l7_ : (i0 &&& (2147483647 : Int32)).toInt = i0.toInt % 2147483648 := c_mask i0 (2147483647 : Int32) 31 (by decide) (by decide)
     have l8_ := lI3
     have l9_ := c_irem (i0 &&& (2147483647 : Int32)) (3 : Int32) 3 (by decide)
     have l10_ := lI0
     have l11_ := lI1
     have l12_ := lI2
     omega
  ·
   have p176 : ∀ t, St p e below Tc150 (mkF m 24 Ls148 [(.ref a_UNKNOWN)]) t → S0 t := fun t k => p149 t (stc150 t k)
   let Ls177 : Array Slot := #[.val (.int i0), .val (.int i1), .val (.int ((i0 &&& (2147483647 : Int32)) % (3 : Int32))), .val (.int ((i1 &&& (2147483647 : Int32)) % (3 : Int32))), .val (.ref a_TRUE), .val (.ref a_UNKNOWN), .unset, .unset]
   have p178 : ∀ t, St p e below Tc150 (mkF m 30 Ls177 [(.ref a_UNKNOWN), (.ref a_TRUE)]) t → S0 t := fun t k => p176 t (by
     show St p e below Tc150 (mkF m 24 Ls148 [(.ref a_UNKNOWN)]) t
     refine XS.astore Xc150.here hx rfl (hb hby at_24) rfl rfl (l' := Ls177) rfl ?_
     show St p e below Tc150 (mkF m 26 Ls177 []) t
     refine XS.aload Xc150.here hx rfl (hb hby at_26) rfl rfl ?_
     show St p e below Tc150 (mkF m 28 Ls177 [(.ref a_TRUE)]) t
     refine XS.aload Xc150.here hx rfl (hb hby at_28) rfl rfl ?_
     exact k)
   obtain ⟨cqc179, kqc179, qc179a, qc179b, qc179c⟩ := isOf hZ ec150 (Ea_TRUE.ext O0.2)
   obtain ⟨_, _, ⟨Tc179, Lc179, kc179, nc179⟩, -, Xc179, ⟨Lcc179, hQc179, lc179, yc179, zc179⟩, stc179⟩ := Xc150.virtualBack hx (y := M1) (z := M1) hown (mvT hZ (ww hw 8 rfl)) (mvT hZ (ww hw 9 rfl)) (notFace_of_selects (args := #[]) (mvT hZ (ww hw 11 rfl))) (mvT hZ (ww hw 11 rfl)) (mvT hZ (ww hw 10 rfl)) (by decide) (backOf (W := 0) (rm2_18 l Z a0 hw [] a_FALSE a_TRUE a_UNKNOWN h0 n0 O0 HE' ) hZ (ww hw 12 rfl) (ww hw 6 rfl) (by decide) (by decide)) qc179a qc179c (g := (mkF m 30 Ls177 [(.ref a_UNKNOWN), (.ref a_TRUE)])) rfl (by rw [hml]; rfl) (Steps.refl _) (argsL := [(.ref a_UNKNOWN)]) (rest := []) (lenOf pd1 rfl) rfl (by show 2 * 0 + _ ≤ _; exact Nat.le_of_eq rfl) (hb hby at_30) (fun _ _ => ⟨rfl, ec150, (by decide : 0 + 0 ≤ _), (by decide : 0 + 0 ≤ _)⟩)
   dsimp only [Pt.U, Pt.locs, Pt.cells, Pt.slots] at Xc179 lc179 yc179 zc179 stc179 hQc179
   subst lc179 yc179 zc179
   obtain ⟨Nqc179, ec179, hAc179⟩ := hQc179
   have Nc179 := Fr.app Nc150 Nqc179
   obtain rfl := hAc179
   have p180 : ∀ t, St p e below Tc179 (mkF m 33 Ls177 [(.ref a_TRUE)]) t → S0 t := fun t k => p178 t (stc179.trans k)
   let Ls181 : Array Slot := #[.val (.int i0), .val (.int i1), .val (.int ((i0 &&& (2147483647 : Int32)) % (3 : Int32))), .val (.int ((i1 &&& (2147483647 : Int32)) % (3 : Int32))), .val (.ref a_TRUE), .val (.ref a_UNKNOWN), .val (.ref a_TRUE), .unset]
   have p182 : ∀ t, St p e below Tc179 (mkF m 37 Ls181 [(.int ((i1 &&& (2147483647 : Int32)) % (3 : Int32))), (.int ((i0 &&& (2147483647 : Int32)) % (3 : Int32)))]) t → S0 t := fun t k => p180 t (by
     show St p e below Tc179 (mkF m 33 Ls177 [(.ref a_TRUE)]) t
     refine XS.astore Xc179.here hx rfl (hb hby at_33) rfl rfl (l' := Ls181) rfl ?_
     show St p e below Tc179 (mkF m 35 Ls181 []) t
     refine XS.iloadN Xc179.here hx rfl (hb hby at_35) rfl ?_
     show St p e below Tc179 (mkF m 36 Ls181 [(.int ((i0 &&& (2147483647 : Int32)) % (3 : Int32)))]) t
     refine XS.iloadN Xc179.here hx rfl (hb hby at_36) rfl ?_
     exact k)
   let Ls184 : Array Slot := #[.val (.int i0), .val (.int i1), .val (.int ((i0 &&& (2147483647 : Int32)) % (3 : Int32))), .val (.int (1 : Int32)), .val (.ref a_TRUE), .val (.ref a_UNKNOWN), .val (.ref a_TRUE), .unset]
   have p183 : ∀ t, St p e below Tc179 (mkF m 37 Ls184 [(.int (1 : Int32)), (.int ((i0 &&& (2147483647 : Int32)) % (3 : Int32)))]) t → S0 t := fun t k => p182 t (by show St p e below Tc179 (mkF m 37 #[.val (.int i0), .val (.int i1), .val (.int ((i0 &&& (2147483647 : Int32)) % (3 : Int32))), .val (.int ((i1 &&& (2147483647 : Int32)) % (3 : Int32))), .val (.ref a_TRUE), .val (.ref a_UNKNOWN), .val (.ref a_TRUE), .unset] [(.int ((i1 &&& (2147483647 : Int32)) % (3 : Int32))), (.int ((i0 &&& (2147483647 : Int32)) % (3 : Int32)))]) t; rw [g153]; exact k)
   obtain ⟨_, _, ⟨Tc185, Lc185, kc185, nc185⟩, -, Xc185, ⟨Lcc185, hQc185, lc185, yc185, zc185⟩, stc185⟩ := Jvm.LawKit.callS Xc179 hx (y := M2) hown (mvT hZ (ww hw 18 rfl)) (mvT hZ (ww hw 19 rfl)) (mvT hZ (ww hw 20 rfl)) (mvT hZ (ww hw 21 rfl)) (by decide) (backOf (W := 0) (rm3_19 l Z a0 hw [] a_FALSE a_TRUE a_UNKNOWN ((i0 &&& (2147483647 : Int32)) % (3 : Int32)) h0 n0 O0 HE' ) hZ (ww hw 21 rfl) (ww hw 20 rfl) (by decide) (by decide)) (g := (mkF m 37 Ls184 [(.int (1 : Int32)), (.int ((i0 &&& (2147483647 : Int32)) % (3 : Int32)))])) rfl (by rw [hml]; rfl) (argsL := [(.int ((i0 &&& (2147483647 : Int32)) % (3 : Int32))), (.int (1 : Int32))]) (rest := []) (lenOf pd2 rfl) rfl (by show 2 * 0 + _ ≤ _; exact Nat.le_of_eq rfl) (hb hby at_37) (fun _ _ => ⟨rfl, ec179, (by decide : 0 + 0 ≤ _), (by decide : 0 + 0 ≤ _)⟩)
   dsimp only [Pt.U, Pt.locs, Pt.cells, Pt.slots] at Xc185 lc185 yc185 zc185 stc185 hQc185
   subst lc185 yc185 zc185
   obtain ⟨Nqc185, ec185, hAc185⟩ := hQc185
   have Nc185 := Fr.app Nc179 Nqc185
   rcases hAc185 with ⟨rfl, g186⟩ | ⟨rfl, g187⟩
   ·
    exfalso
    have q1_ := neI g9
    have q2_ := neI g10
    have q3_ := ltI g186
    have l4_ := rng32 i0
    have l5_ := lI2147483647
    have l6_ : (i0 &&& (2147483647 : Int32)).toInt = i0.toInt % 2147483648 := c_mask i0 (2147483647 : Int32) 31 (by decide) (by decide)
    have l7_ := lI3
    have l8_ := c_irem (i0 &&& (2147483647 : Int32)) (3 : Int32) 3 (by decide)
    have l9_ := lI0
    have l10_ := lI1
    omega
   ·
    have p188 : ∀ t, St p e below Tc185 (mkF m 40 Ls184 [(.int ((i0 &&& (2147483647 : Int32)) % (3 : Int32)))]) t → S0 t := fun t k => p183 t (stc185 t k)
    let Ls189 : Array Slot := #[.val (.int i0), .val (.int i1), .val (.int ((i0 &&& (2147483647 : Int32)) % (3 : Int32))), .val (.int (1 : Int32)), .val (.ref a_TRUE), .val (.ref a_UNKNOWN), .val (.ref a_TRUE), .val (.int ((i0 &&& (2147483647 : Int32)) % (3 : Int32)))]
    have p190 : ∀ t, St p e below Tc185 (mkF m 44 Ls189 [(.ref a_TRUE)]) t → S0 t := fun t k => p188 t (by
      show St p e below Tc185 (mkF m 40 Ls184 [(.int ((i0 &&& (2147483647 : Int32)) % (3 : Int32)))]) t
      refine XS.istore Xc185.here hx rfl (hb hby at_40) rfl (l' := Ls189) rfl ?_
      show St p e below Tc185 (mkF m 42 Ls189 []) t
      refine XS.aload Xc185.here hx rfl (hb hby at_42) rfl rfl ?_
      exact k)
    obtain ⟨_, _, ⟨Tc191, Lc191, kc191, nc191⟩, -, Xc191, ⟨Lcc191, hQc191, lc191, yc191, zc191⟩, stc191⟩ := Jvm.LawKit.callS Xc185 hx (y := M3) hown (mvT hZ (ww hw 22 rfl)) (mvT hZ (ww hw 23 rfl)) (mvT hZ (ww hw 3 rfl)) (mvT hZ (ww hw 24 rfl)) (by decide) (backOf (W := 0) (rm4_9 l Z a0 hw [] a_FALSE a_TRUE a_UNKNOWN h0 n0 O0 HE' ) hZ (ww hw 24 rfl) (ww hw 3 rfl) (by decide) (by decide)) (g := (mkF m 44 Ls189 [(.ref a_TRUE)])) rfl (by rw [hml]; rfl) (argsL := [(.ref a_TRUE)]) (rest := []) (lenOf pd3 rfl) rfl (by show 2 * 0 + _ ≤ _; exact Nat.le_of_eq rfl) (hb hby at_44) (fun _ _ => ⟨rfl, ec185, (by decide : 0 + 0 ≤ _), (by decide : 0 + 0 ≤ _)⟩)
    dsimp only [Pt.U, Pt.locs, Pt.cells, Pt.slots] at Xc191 lc191 yc191 zc191 stc191 hQc191
    subst lc191 yc191 zc191
    obtain ⟨Nqc191, ec191, hAc191⟩ := hQc191
    have Nc191 := Fr.app Nc185 Nqc191
    obtain rfl := hAc191
    have p192 : ∀ t, St p e below Tc191 (mkF m 47 Ls189 [(.int (2 : Int32))]) t → S0 t := fun t k => p190 t (stc191 t k)
    have p193 : ∀ t, St p e below Tc191 (mkF m 49 Ls189 [(.int ((i0 &&& (2147483647 : Int32)) % (3 : Int32))), (.int (2 : Int32))]) t → S0 t := fun t k => p192 t (by
      show St p e below Tc191 (mkF m 47 Ls189 [(.int (2 : Int32))]) t
      refine XS.iload Xc191.here hx rfl (hb hby at_47) rfl ?_
      exact k)
    by_cases g194 : (2 : Int32) = ((i0 &&& (2147483647 : Int32)) % (3 : Int32))
    ·
     have p195 : ∀ t, St p e below Tc191 (mkF m 57 Ls189 [(.int (1 : Int32))]) t → S0 t := fun t k => p193 t (by
       show St p e below Tc191 (mkF m 49 Ls189 [(.int ((i0 &&& (2147483647 : Int32)) % (3 : Int32))), (.int (2 : Int32))]) t
       refine XS.icmpNo Xc191.here hx rfl (hb hby at_49) rfl (teq g194).2 ?_
       show St p e below Tc191 (mkF m 52 Ls189 []) t
       refine XT.iconstV Xc191.here hx rfl (1 : Int32) (hb hby at_52) (by decide) ?_
       show St p e below Tc191 (mkF m 53 Ls189 [(.int (1 : Int32))]) t
       refine XS.goto Xc191.here hx rfl (pc0 := 53) (pc' := 57) rfl (hb hby at_53) (by decide) (by decide) ?_
       exact k)
     obtain ⟨fs, hr, hrun, hended, hW, hsame⟩ := Xc191.leave (v := some (.int (1 : Int32))) (fun h => by rw [Bd.returns] at h; cases h)
     refine ⟨_, _, p195 _ ?_, hrun, hended, _, _, rfl, ?_, ⟨_, rfl⟩, hW, hsame.mono (by decide) (by decide)⟩
     · exact retOut Xc191 hx Bd.returns rfl (Or.inl ⟨rfl, by simp, _, rfl⟩) (hb hby at_57) hr
     · exact ⟨rfl, Nc191⟩
    ·
     exfalso
     have q1_ := neI g9
     have q2_ := neI g10
     have q3_ := nltI g187
     have q4_ := neI g194
     have l5_ := rng32 i0
     have l6_ := lI2147483647
     have l7_ : (i0 &&& (2147483647 : Int32)).toInt = i0.toInt % 2147483648 := c_mask i0 (2147483647 : Int32) 31 (by decide) (by decide)
     have l8_ := lI3
     have l9_ := c_irem (i0 &&& (2147483647 : Int32)) (3 : Int32) 3 (by decide)
     have l10_ := lI0
     have l11_ := lI1
     have l12_ := lI2
     omega
  ·
   have p196 : ∀ t, St p e below Tc150 (mkF m 24 Ls148 [(.ref a_TRUE)]) t → S0 t := fun t k => p149 t (stc150 t k)
   let Ls197 : Array Slot := #[.val (.int i0), .val (.int i1), .val (.int ((i0 &&& (2147483647 : Int32)) % (3 : Int32))), .val (.int ((i1 &&& (2147483647 : Int32)) % (3 : Int32))), .val (.ref a_TRUE), .val (.ref a_TRUE), .unset, .unset]
   have p198 : ∀ t, St p e below Tc150 (mkF m 30 Ls197 [(.ref a_TRUE), (.ref a_TRUE)]) t → S0 t := fun t k => p196 t (by
     show St p e below Tc150 (mkF m 24 Ls148 [(.ref a_TRUE)]) t
     refine XS.astore Xc150.here hx rfl (hb hby at_24) rfl rfl (l' := Ls197) rfl ?_
     show St p e below Tc150 (mkF m 26 Ls197 []) t
     refine XS.aload Xc150.here hx rfl (hb hby at_26) rfl rfl ?_
     show St p e below Tc150 (mkF m 28 Ls197 [(.ref a_TRUE)]) t
     refine XS.aload Xc150.here hx rfl (hb hby at_28) rfl rfl ?_
     exact k)
   obtain ⟨cqc199, kqc199, qc199a, qc199b, qc199c⟩ := isOf hZ ec150 (Ea_TRUE.ext O0.2)
   obtain ⟨_, _, ⟨Tc199, Lc199, kc199, nc199⟩, -, Xc199, ⟨Lcc199, hQc199, lc199, yc199, zc199⟩, stc199⟩ := Xc150.virtualBack hx (y := M1) (z := M1) hown (mvT hZ (ww hw 8 rfl)) (mvT hZ (ww hw 9 rfl)) (notFace_of_selects (args := #[]) (mvT hZ (ww hw 11 rfl))) (mvT hZ (ww hw 11 rfl)) (mvT hZ (ww hw 10 rfl)) (by decide) (backOf (W := 0) (rm2_20 l Z a0 hw [] a_FALSE a_TRUE a_UNKNOWN h0 n0 O0 HE' ) hZ (ww hw 12 rfl) (ww hw 6 rfl) (by decide) (by decide)) qc199a qc199c (g := (mkF m 30 Ls197 [(.ref a_TRUE), (.ref a_TRUE)])) rfl (by rw [hml]; rfl) (Steps.refl _) (argsL := [(.ref a_TRUE)]) (rest := []) (lenOf pd1 rfl) rfl (by show 2 * 0 + _ ≤ _; exact Nat.le_of_eq rfl) (hb hby at_30) (fun _ _ => ⟨rfl, ec150, (by decide : 0 + 0 ≤ _), (by decide : 0 + 0 ≤ _)⟩)
   dsimp only [Pt.U, Pt.locs, Pt.cells, Pt.slots] at Xc199 lc199 yc199 zc199 stc199 hQc199
   subst lc199 yc199 zc199
   obtain ⟨Nqc199, ec199, hAc199⟩ := hQc199
   have Nc199 := Fr.app Nc150 Nqc199
   obtain rfl := hAc199
   have p200 : ∀ t, St p e below Tc199 (mkF m 33 Ls197 [(.ref a_TRUE)]) t → S0 t := fun t k => p198 t (stc199.trans k)
   let Ls201 : Array Slot := #[.val (.int i0), .val (.int i1), .val (.int ((i0 &&& (2147483647 : Int32)) % (3 : Int32))), .val (.int ((i1 &&& (2147483647 : Int32)) % (3 : Int32))), .val (.ref a_TRUE), .val (.ref a_TRUE), .val (.ref a_TRUE), .unset]
   have p202 : ∀ t, St p e below Tc199 (mkF m 37 Ls201 [(.int ((i1 &&& (2147483647 : Int32)) % (3 : Int32))), (.int ((i0 &&& (2147483647 : Int32)) % (3 : Int32)))]) t → S0 t := fun t k => p200 t (by
     show St p e below Tc199 (mkF m 33 Ls197 [(.ref a_TRUE)]) t
     refine XS.astore Xc199.here hx rfl (hb hby at_33) rfl rfl (l' := Ls201) rfl ?_
     show St p e below Tc199 (mkF m 35 Ls201 []) t
     refine XS.iloadN Xc199.here hx rfl (hb hby at_35) rfl ?_
     show St p e below Tc199 (mkF m 36 Ls201 [(.int ((i0 &&& (2147483647 : Int32)) % (3 : Int32)))]) t
     refine XS.iloadN Xc199.here hx rfl (hb hby at_36) rfl ?_
     exact k)
   obtain ⟨_, _, ⟨Tc203, Lc203, kc203, nc203⟩, -, Xc203, ⟨Lcc203, hQc203, lc203, yc203, zc203⟩, stc203⟩ := Jvm.LawKit.callS Xc199 hx (y := M2) hown (mvT hZ (ww hw 18 rfl)) (mvT hZ (ww hw 19 rfl)) (mvT hZ (ww hw 20 rfl)) (mvT hZ (ww hw 21 rfl)) (by decide) (backOf (W := 0) (rm3_21 l Z a0 hw [] a_FALSE a_TRUE a_UNKNOWN ((i0 &&& (2147483647 : Int32)) % (3 : Int32)) ((i1 &&& (2147483647 : Int32)) % (3 : Int32)) h0 n0 O0 HE' ) hZ (ww hw 21 rfl) (ww hw 20 rfl) (by decide) (by decide)) (g := (mkF m 37 Ls201 [(.int ((i1 &&& (2147483647 : Int32)) % (3 : Int32))), (.int ((i0 &&& (2147483647 : Int32)) % (3 : Int32)))])) rfl (by rw [hml]; rfl) (argsL := [(.int ((i0 &&& (2147483647 : Int32)) % (3 : Int32))), (.int ((i1 &&& (2147483647 : Int32)) % (3 : Int32)))]) (rest := []) (lenOf pd2 rfl) rfl (by show 2 * 0 + _ ≤ _; exact Nat.le_of_eq rfl) (hb hby at_37) (fun _ _ => ⟨rfl, ec199, (by decide : 0 + 0 ≤ _), (by decide : 0 + 0 ≤ _)⟩)
   dsimp only [Pt.U, Pt.locs, Pt.cells, Pt.slots] at Xc203 lc203 yc203 zc203 stc203 hQc203
   subst lc203 yc203 zc203
   obtain ⟨Nqc203, ec203, hAc203⟩ := hQc203
   have Nc203 := Fr.app Nc199 Nqc203
   rcases hAc203 with ⟨rfl, g204⟩ | ⟨rfl, g205⟩
   ·
    exfalso
    have q1_ := neI g9
    have q2_ := neI g10
    have q3_ := neI g154
    have q4_ := neI g155
    have q5_ := ltI g204
    have l6_ := rng32 i0
    have l7_ := lI2147483647
    have l8_ : (i0 &&& (2147483647 : Int32)).toInt = i0.toInt % 2147483648 := c_mask i0 (2147483647 : Int32) 31 (by decide) (by decide)
    have l9_ := lI3
    have l10_ := c_irem (i0 &&& (2147483647 : Int32)) (3 : Int32) 3 (by decide)
    have l11_ := lI0
    have l12_ := lI1
    have l13_ := rng32 i1
    have l14_ : (i1 &&& (2147483647 : Int32)).toInt = i1.toInt % 2147483648 := c_mask i1 (2147483647 : Int32) 31 (by decide) (by decide)
    have l15_ := c_irem (i1 &&& (2147483647 : Int32)) (3 : Int32) 3 (by decide)
    omega
   ·
    have p206 : ∀ t, St p e below Tc203 (mkF m 40 Ls201 [(.int ((i0 &&& (2147483647 : Int32)) % (3 : Int32)))]) t → S0 t := fun t k => p202 t (stc203 t k)
    let Ls207 : Array Slot := #[.val (.int i0), .val (.int i1), .val (.int ((i0 &&& (2147483647 : Int32)) % (3 : Int32))), .val (.int ((i1 &&& (2147483647 : Int32)) % (3 : Int32))), .val (.ref a_TRUE), .val (.ref a_TRUE), .val (.ref a_TRUE), .val (.int ((i0 &&& (2147483647 : Int32)) % (3 : Int32)))]
    have p208 : ∀ t, St p e below Tc203 (mkF m 44 Ls207 [(.ref a_TRUE)]) t → S0 t := fun t k => p206 t (by
      show St p e below Tc203 (mkF m 40 Ls201 [(.int ((i0 &&& (2147483647 : Int32)) % (3 : Int32)))]) t
      refine XS.istore Xc203.here hx rfl (hb hby at_40) rfl (l' := Ls207) rfl ?_
      show St p e below Tc203 (mkF m 42 Ls207 []) t
      refine XS.aload Xc203.here hx rfl (hb hby at_42) rfl rfl ?_
      exact k)
    obtain ⟨_, _, ⟨Tc209, Lc209, kc209, nc209⟩, -, Xc209, ⟨Lcc209, hQc209, lc209, yc209, zc209⟩, stc209⟩ := Jvm.LawKit.callS Xc203 hx (y := M3) hown (mvT hZ (ww hw 22 rfl)) (mvT hZ (ww hw 23 rfl)) (mvT hZ (ww hw 3 rfl)) (mvT hZ (ww hw 24 rfl)) (by decide) (backOf (W := 0) (rm4_9 l Z a0 hw [] a_FALSE a_TRUE a_UNKNOWN h0 n0 O0 HE' ) hZ (ww hw 24 rfl) (ww hw 3 rfl) (by decide) (by decide)) (g := (mkF m 44 Ls207 [(.ref a_TRUE)])) rfl (by rw [hml]; rfl) (argsL := [(.ref a_TRUE)]) (rest := []) (lenOf pd3 rfl) rfl (by show 2 * 0 + _ ≤ _; exact Nat.le_of_eq rfl) (hb hby at_44) (fun _ _ => ⟨rfl, ec203, (by decide : 0 + 0 ≤ _), (by decide : 0 + 0 ≤ _)⟩)
    dsimp only [Pt.U, Pt.locs, Pt.cells, Pt.slots] at Xc209 lc209 yc209 zc209 stc209 hQc209
    subst lc209 yc209 zc209
    obtain ⟨Nqc209, ec209, hAc209⟩ := hQc209
    have Nc209 := Fr.app Nc203 Nqc209
    obtain rfl := hAc209
    have p210 : ∀ t, St p e below Tc209 (mkF m 47 Ls207 [(.int (2 : Int32))]) t → S0 t := fun t k => p208 t (stc209 t k)
    have p211 : ∀ t, St p e below Tc209 (mkF m 49 Ls207 [(.int ((i0 &&& (2147483647 : Int32)) % (3 : Int32))), (.int (2 : Int32))]) t → S0 t := fun t k => p210 t (by
      show St p e below Tc209 (mkF m 47 Ls207 [(.int (2 : Int32))]) t
      refine XS.iload Xc209.here hx rfl (hb hby at_47) rfl ?_
      exact k)
    by_cases g212 : (2 : Int32) = ((i0 &&& (2147483647 : Int32)) % (3 : Int32))
    ·
     have p213 : ∀ t, St p e below Tc209 (mkF m 57 Ls207 [(.int (1 : Int32))]) t → S0 t := fun t k => p211 t (by
       show St p e below Tc209 (mkF m 49 Ls207 [(.int ((i0 &&& (2147483647 : Int32)) % (3 : Int32))), (.int (2 : Int32))]) t
       refine XS.icmpNo Xc209.here hx rfl (hb hby at_49) rfl (teq g212).2 ?_
       show St p e below Tc209 (mkF m 52 Ls207 []) t
       refine XT.iconstV Xc209.here hx rfl (1 : Int32) (hb hby at_52) (by decide) ?_
       show St p e below Tc209 (mkF m 53 Ls207 [(.int (1 : Int32))]) t
       refine XS.goto Xc209.here hx rfl (pc0 := 53) (pc' := 57) rfl (hb hby at_53) (by decide) (by decide) ?_
       exact k)
     obtain ⟨fs, hr, hrun, hended, hW, hsame⟩ := Xc209.leave (v := some (.int (1 : Int32))) (fun h => by rw [Bd.returns] at h; cases h)
     refine ⟨_, _, p213 _ ?_, hrun, hended, _, _, rfl, ?_, ⟨_, rfl⟩, hW, hsame.mono (by decide) (by decide)⟩
     · exact retOut Xc209 hx Bd.returns rfl (Or.inl ⟨rfl, by simp, _, rfl⟩) (hb hby at_57) hr
     · exact ⟨rfl, Nc209⟩
    ·
     exfalso
     have q1_ := neI g9
     have q2_ := neI g10
     have q3_ := neI g154
     have q4_ := neI g155
     have q5_ := nltI g205
     have q6_ := neI g212
     have l7_ := rng32 i0
     have l8_ := lI2147483647
     have l9_ : (i0 &&& (2147483647 : Int32)).toInt = i0.toInt % 2147483648 := c_mask i0 (2147483647 : Int32) 31 (by decide) (by decide)
     have l10_ := lI3
     have l11_ := c_irem (i0 &&& (2147483647 : Int32)) (3 : Int32) 3 (by decide)
     have l12_ := lI0
     have l13_ := lI1
     have l14_ := rng32 i1
     have l15_ : (i1 &&& (2147483647 : Int32)).toInt = i1.toInt % 2147483648 := c_mask i1 (2147483647 : Int32) 31 (by decide) (by decide)
     have l16_ := c_irem (i1 &&& (2147483647 : Int32)) (3 : Int32) 3 (by decide)
     have l17_ := lI2
     omega
set_option maxRecDepth 65536 in
set_option maxHeartbeats 40000000 in
theorem comes_1 {Post : Tables → Env → Array Value → State → Outcome → State → Prop} (hpost : ∀ tb e args s v u, (limb_1_1.after args s (.returned v) u = true ∧ limb_1_2.after args s (.returned v) u = true ∧ True) → FrameEnd s (.returned v) u (Jvm.fieldLocs frame_1_writes args s ++ Jvm.arrayLocs frame_1_arrays args s ++ Jvm.staticLocs frame_1_statics s) 0 0 → Post tb e args s (.returned v) u) :
    ArmFor flags0 classFile x code maxLocals ret World_1 tables_1 room_1 Calls_1 rest_1 Pre_1 Post := by
  intro l hfl _ _ p e ha hc hk s m args below hf hA hF happ hP
  obtain ⟨hcalls, hrest, hpre⟩ := hP
  obtain ⟨-, -, -, hnamed, -, -, -, hat⟩ := (Spec.applies_iff hf).mp happ
  obtain ⟨hg, hn⟩ := and_e (Cond.before_iff.mp (show (Jvm.Cond.and given_1 narrow_1).before args s = true from hpre))
  obtain ⟨hj1a, hj1b⟩ := and_e hg
  obtain ⟨hj2a, hj2b⟩ := and_e hj1b
  obtain ⟨w0, w1, rfl⟩ : ∃ w0 w1 : Value, args = #[w0, w1] := by
    have hs : args.size = 2 := by simpa [Cond.value, given_1] using hj1a
    obtain ⟨L⟩ := args
    match L, hs with
    | [w0, w1], _ => exact ⟨w0, w1, rfl⟩
  have hw := fun d (hd : d ∈ tables_1) => atoms_spec (ws := Jvm.Cond.code x code maxLocals ret :: tables_1) hat d (List.mem_cons_of_mem _ hd)
  have hfit : Fit s := fun {y c} hc i hi => by
    obtain ⟨ha, rfl⟩ := Array.getElem?_eq_some_iff.mp hc
    have q := List.all_eq_true.mp ((Array.all_eq_true_iff_forall_mem.mp hF) _ (Array.getElem_mem ha)) i (List.mem_range.mpr hi)
    simpa [Array.getElem?_eq_getElem hi] using q
  obtain ⟨i0, ei0⟩ := is_v hj2a
  obtain rfl : w0 = (.int i0) := Option.some.inj ei0
  obtain ⟨i1, ei1⟩ := is_v hj2b
  obtain rfl : w1 = (.int i1) := Option.some.inj ei1
  obtain ⟨hj3a, hj3b⟩ := and_e hn
  obtain ⟨hj4a, hj4b⟩ := and_e hj3b
  obtain ⟨hj5a, hj5b⟩ := and_e hj4b
  obtain ⟨hj6a, hj6b⟩ := and_e hj5b
  obtain ⟨hj7a, hj7b⟩ := and_e hj6b
  have hn0 := hj3a
  have hn1 := hj4a
  have hn2 := hj5a
  have hn3 := hj6a
  have hn4 := hj7a
  have hn5 := hj7b
  obtain ⟨a_FALSE, eva_FALSE⟩ := exa_v hn0
  obtain ⟨a_TRUE, eva_TRUE⟩ := exa_v hn1
  obtain ⟨a_UNKNOWN, eva_UNKNOWN⟩ := exa_v hn4
  obtain ⟨n, o, h1, h2, h3, _, L, rfl, ⟨rfl, N⟩, hq⟩ := rm0 l s _ hw tables_1 a_FALSE a_TRUE a_UNKNOWN i0 i1 s.heap s.heap.size (Old.start s) ⟨(Sta.start eva_FALSE (Or.inr ⟨(ww hw 6 rfl), (ww hw 7 rfl)⟩)), (Exa.start eva_FALSE hn0), (Sta.start eva_TRUE (Or.inr ⟨(ww hw 6 rfl), (ww hw 14 rfl)⟩)), (Exa.start eva_TRUE hn1), (Fld.start ((fld_at eva_FALSE).symm.trans (own_eqI hn2))), (Fld.start ((fld_at eva_TRUE).symm.trans (own_eqI hn3))), (Sta.start eva_UNKNOWN (Or.inr ⟨(ww hw 6 rfl), (ww hw 16 rfl)⟩)), (Exa.start eva_UNKNOWN hn4), (Fld.start ((fld_at eva_UNKNOWN).symm.trans (own_eqI hn5)))⟩ p e ha hc hk s m _ below hf ((Spec.applies_iff_loose hf).mp happ).1 ⟨rfl, State.Warmed39.refl s, rfl⟩ trivial
  refine ⟨n, _, h1, h2, h3, hpost _ _ _ _ _ _ ⟨Cond.after_iff.mpr rfl, Cond.after_iff.mpr (eq_i res_at (Term.int_eval (1)) rfl), trivial⟩ ⟨hq.1, hq.2.1, (hq.2.2.sift fun y hy => Or.inr (N y hy)).mono (by decide) (by decide)⟩⟩
theorem main_1_1 : Claimed_1_1 := comes_1 fun _ _ _ _ _ _ h hF => ⟨h.1, hF⟩
theorem main_1_2 : Claimed_1_2 := comes_1 fun _ _ _ _ _ _ h hF => ⟨h.2.1, hF⟩
end Jvm.Pilot.@@N@@
namespace Jvm.Pilot.@@N@@
open Jvm Jvm.ClassFile Sem Op Lib Jvm.Free Jvm.Stand Jvm.Pilot.@@N@@.Jvm.D
/-! MADE BY PROGRAM (witnessworld.py) out of the Statement's table words and the real class files: 13 classes; the members and pool entries that the words name. The judged class is class 1, her method 3. -/
namespace start1
open Jvm.ClassFile
def u (s : String) : CpInfo := .utf8 (stringToUtf16 s)
/-- a pool by its gaps: so many unusable entries, then the entry; so many at the end -/
def gap : Nat → List CpInfo → List CpInfo
  | 0, r => r
  | n + 1, r => .unusable :: gap n r
def poolList (es : List (Nat × CpInfo)) (last : Nat) : List CpInfo := es.foldr (fun e r => gap e.1 (e.2 :: r)) (gap last [])
def pool (es : List (Nat × CpInfo)) (last : Nat) : Array CpInfo := ⟨poolList es last⟩
def fileOf (pool : Array CpInfo) (this : Nat) (attrs : Array Attribute := #[]) (ms : Array MethodInfo := #[]) (fl : Nat := 33) (sup : Nat := 0) (ifs : Array Nat := #[]) (fds : Array FieldInfo := #[]) : ClassFile where
  minorVersion := 0
  majorVersion := 65
  constantPool := pool
  accessFlags := fl
  thisClass := this
  superClass := sup
  interfaces := ifs
  fields := fds
  methods := ms
  attributes := attrs
def plain (name : String) (sup : Option ClassId) : Class where
  name := name
  kind := .ordinary
  loader := none
  accessFlags := 33
  super := sup
  interfaces := #[]
  cf := none
  fields := #[]
  methods := #[]
  instanceTypes := #[]
  staticTypes := #[]
  resolved := #[]
  callSites := []
  init := .initialized
  statics := none
  mirror := none

def pool0 : Array CpInfo := pool [(5, u "<init>"), (0, u "()V"), (1, .class_ 10), (1, u "java/lang/Object")] 113

def k0m0 : Method := { name := "<init>", desc := "()V", sig := { parameters := [], returnType := none }, accessFlags := 1, code := none }
/-- java/lang/Object -/
def k0 : Class := { plain "java/lang/Object" none with
  accessFlags := 33
  interfaces := #[]
  cf := some (fileOf pool0 8 #[] #[{ accessFlags := 1, nameIndex := 5, descriptorIndex := 6, attributes := #[] }] 33 0 #[] #[])
  fields := #[]
  methods := #[k0m0]
  instanceTypes := #[]
  staticTypes := #[]
  resolved := Array.replicate 124 none
  statics := none }

def pool1 : Array CpInfo := pool [(2, .class_ 4), (1, u "java/lang/Object"), (0, u "<init>"), (0, u "()V"), (0, .fieldref 8 9), (0, .class_ 10), (0, .nameAndType 11 12), (0, u "com/example/herald4/herald4/filter/Truth"), (0, u "FALSE"), (0, u "Lcom/example/herald4/herald4/filter/Truth;"), (0, .fieldref 8 14), (0, .nameAndType 15 12), (0, u "UNKNOWN"), (0, .fieldref 8 17), (0, .nameAndType 18 12), (0, u "TRUE"), (0, .integer 2147483647), (0, .methodref 21 22), (0, .class_ 23), (0, .nameAndType 24 25), (0, u "com/example/herald4/herald4/filter/TruthOrPinLaw"), (0, u "pick"), (0, u "(I)Lcom/example/herald4/herald4/filter/Truth;"), (0, .methodref 8 27), (0, .nameAndType 28 29), (0, u "or"), (0, u "(Lcom/example/herald4/herald4/filter/Truth;)Lcom/example/herald4/herald4/filter/Truth;"), (0, .methodref 31 32), (0, .class_ 33), (0, .nameAndType 34 35), (0, u "java/lang/Math"), (0, u "max"), (0, u "(II)I"), (0, .methodref 21 37), (0, .nameAndType 38 39), (0, u "rank"), (0, u "(Lcom/example/herald4/herald4/filter/Truth;)I"), (3, u "law"), (0, u "(II)Z")] 2

def k1m0 : Method := { name := "<init>", desc := "()V", sig := { parameters := [], returnType := none }, accessFlags := 2, code := none }
def k1c1 : Code := { maxStack := 2, maxLocals := 1, code := method_2_code, exceptionTable := #[], attributes := #[] }
def k1m1 : Method := { name := "pick", desc := "(I)Lcom/example/herald4/herald4/filter/Truth;", sig := { parameters := [.int], returnType := some (.object "com/example/herald4/herald4/filter/Truth") }, accessFlags := 10, code := some k1c1 }
def k1c2 : Code := { maxStack := 2, maxLocals := 1, code := method_3_code, exceptionTable := #[], attributes := #[] }
def k1m2 : Method := { name := "rank", desc := "(Lcom/example/herald4/herald4/filter/Truth;)I", sig := { parameters := [(.object "com/example/herald4/herald4/filter/Truth")], returnType := some .int }, accessFlags := 10, code := some k1c2 }
def k1c3 : Code := { maxStack := 2, maxLocals := 8, code := code, exceptionTable := #[], attributes := #[] }
def k1m3 : Method := { name := "law", desc := "(II)Z", sig := { parameters := [.int, .int], returnType := some .boolean }, accessFlags := 9, code := some k1c3 }
/-- com/example/herald4/herald4/filter/TruthOrPinLaw -/
def k1 : Class := { plain "com/example/herald4/herald4/filter/TruthOrPinLaw" (some 0) with
  accessFlags := 49
  interfaces := #[]
  cf := some (fileOf pool1 21 #[] #[{ accessFlags := 2, nameIndex := 5, descriptorIndex := 6, attributes := #[] }, { accessFlags := 10, nameIndex := 24, descriptorIndex := 25, attributes := #[] }, { accessFlags := 10, nameIndex := 38, descriptorIndex := 39, attributes := #[] }, { accessFlags := 9, nameIndex := 43, descriptorIndex := 44, attributes := #[] }] 49 2 #[] #[])
  fields := #[]
  methods := #[k1m0, k1m1, k1m2, k1m3]
  instanceTypes := #[]
  staticTypes := #[]
  resolved := Array.replicate 47 none
  statics := none }

def pool2 : Array CpInfo := pool [(1, .class_ 2), (0, u "java/lang/constant/Constable"), (0, .class_ 4), (0, u "java/lang/Object")] 6

/-- java/lang/constant/Constable -/
def k2 : Class := { plain "java/lang/constant/Constable" (some 0) with
  accessFlags := 1537
  interfaces := #[]
  cf := some (fileOf pool2 1 #[] #[] 1537 3 #[] #[])
  fields := #[]
  methods := #[]
  instanceTypes := #[]
  staticTypes := #[]
  resolved := Array.replicate 11 none
  statics := none }

def pool3 : Array CpInfo := pool [(1, .class_ 2), (0, u "java/lang/Comparable"), (0, .class_ 4), (0, u "java/lang/Object")] 7

/-- java/lang/Comparable -/
def k3 : Class := { plain "java/lang/Comparable" (some 0) with
  accessFlags := 1537
  interfaces := #[]
  cf := some (fileOf pool3 1 #[] #[] 1537 3 #[] #[])
  fields := #[]
  methods := #[]
  instanceTypes := #[]
  staticTypes := #[]
  resolved := Array.replicate 12 none
  statics := none }

def pool4 : Array CpInfo := pool [(1, .class_ 2), (0, u "java/io/Serializable"), (0, .class_ 4), (0, u "java/lang/Object")] 2

/-- java/io/Serializable -/
def k4 : Class := { plain "java/io/Serializable" (some 0) with
  accessFlags := 1537
  interfaces := #[]
  cf := some (fileOf pool4 1 #[] #[] 1537 3 #[] #[])
  fields := #[]
  methods := #[]
  instanceTypes := #[]
  staticTypes := #[]
  resolved := Array.replicate 7 none
  statics := none }

def pool5 : Array CpInfo := pool [(2, .class_ 4), (1, u "java/lang/Enum"), (0, u "name"), (0, u "Ljava/lang/String;"), (2, u "ordinal"), (0, u "I"), (1, .class_ 14), (1, u "java/lang/Object"), (4, u "hash"), (86, .class_ 108), (1, u "java/lang/Enum$EnumDesc"), (2, .class_ 112), (0, u "java/lang/constant/Constable"), (0, .class_ 114), (0, u "java/lang/Comparable"), (0, .class_ 116), (0, u "java/io/Serializable")] 87

/-- java/lang/Enum -/
def k5 : Class := { plain "java/lang/Enum" (some 0) with
  accessFlags := 1057
  interfaces := #[2, 3, 4]
  cf := some (fileOf pool5 2 #[.nestMembers #[106]] #[] 1057 12 #[111, 113, 115] #[{ accessFlags := 18, nameIndex := 5, descriptorIndex := 6, attributes := #[] }, { accessFlags := 18, nameIndex := 9, descriptorIndex := 10, attributes := #[] }, { accessFlags := 2, nameIndex := 19, descriptorIndex := 10, attributes := #[] }])
  fields := #[{ name := "name", type := (.object "java/lang/String"), accessFlags := 18, slot := 0, constantValue := 0 }, { name := "ordinal", type := .int, accessFlags := 18, slot := 1, constantValue := 0 }, { name := "hash", type := .int, accessFlags := 2, slot := 2, constantValue := 0 }]
  methods := #[]
  instanceTypes := #[(.object "java/lang/String"), .int, .int]
  staticTypes := #[]
  resolved := Array.replicate 204 none
  statics := none }

def pool6 : Array CpInfo := pool [(1, .class_ 2), (0, u "com/example/herald4/herald4/filter/Truth"), (0, .fieldref 1 4), (0, .nameAndType 5 6), (0, u "TRUE"), (0, u "Lcom/example/herald4/herald4/filter/Truth;"), (0, .fieldref 1 8), (0, .nameAndType 9 6), (0, u "FALSE"), (0, .fieldref 1 11), (0, .nameAndType 12 6), (0, u "UNKNOWN"), (2, u "$VALUES"), (0, u "[Lcom/example/herald4/herald4/filter/Truth;"), (6, .class_ 25), (1, u "java/lang/Enum"), (27, u "(Lcom/example/herald4/herald4/filter/Truth;)Lcom/example/herald4/herald4/filter/Truth;"), (0, u "or")] 4

def k6c0 : Code := { maxStack := 2, maxLocals := 3, code := prog_32_method_7_code, exceptionTable := #[], attributes := #[] }
def k6m0 : Method := { name := "or", desc := "(Lcom/example/herald4/herald4/filter/Truth;)Lcom/example/herald4/herald4/filter/Truth;", sig := { parameters := [(.object "com/example/herald4/herald4/filter/Truth")], returnType := some (.object "com/example/herald4/herald4/filter/Truth") }, accessFlags := 0, code := some k6c0 }
/-- com/example/herald4/herald4/filter/Truth -/
def k6 : Class := { plain "com/example/herald4/herald4/filter/Truth" (some 5) with
  accessFlags := 16432
  interfaces := #[]
  cf := some (fileOf pool6 1 #[] #[{ accessFlags := 0, nameIndex := 54, descriptorIndex := 53, attributes := #[] }] 16432 23 #[] #[{ accessFlags := 16409, nameIndex := 5, descriptorIndex := 6, attributes := #[] }, { accessFlags := 16409, nameIndex := 9, descriptorIndex := 6, attributes := #[] }, { accessFlags := 16409, nameIndex := 12, descriptorIndex := 6, attributes := #[] }, { accessFlags := 4122, nameIndex := 15, descriptorIndex := 16, attributes := #[] }])
  fields := #[{ name := "TRUE", type := (.object "com/example/herald4/herald4/filter/Truth"), accessFlags := 16409, slot := 0, constantValue := 0 }, { name := "FALSE", type := (.object "com/example/herald4/herald4/filter/Truth"), accessFlags := 16409, slot := 1, constantValue := 0 }, { name := "UNKNOWN", type := (.object "com/example/herald4/herald4/filter/Truth"), accessFlags := 16409, slot := 2, constantValue := 0 }, { name := "$VALUES", type := (.array (.object "com/example/herald4/herald4/filter/Truth")), accessFlags := 4122, slot := 3, constantValue := 0 }]
  methods := #[k6m0]
  instanceTypes := #[(.object "java/lang/String"), .int, .int]
  staticTypes := #[(.object "com/example/herald4/herald4/filter/Truth"), (.object "com/example/herald4/herald4/filter/Truth"), (.object "com/example/herald4/herald4/filter/Truth"), (.array (.object "com/example/herald4/herald4/filter/Truth"))]
  resolved := Array.replicate 59 none
  statics := some 0 }

def pool7 : Array CpInfo := pool [(1, .class_ 2), (0, u "java/lang/Math"), (1, .class_ 6), (1, u "java/lang/Object"), (0, u "<init>"), (0, u "()V"), (89, .class_ 100), (1, u "java/lang/Math$RandomNumberGeneratorHolder"), (71, u "negativeZeroFloatBits"), (0, u "J"), (2, u "negativeZeroDoubleBits"), (21, u "max"), (46, u "$assertionsDisabled"), (0, u "Z"), (88, u "(II)I"), (2, u "twoToTheDoubleScaleDown"), (0, u "D"), (4, u "twoToTheDoubleScaleUp"), (9, u "E"), (3, u "PI"), (2, u "TAU"), (2, u "DEGREES_TO_RADIANS"), (0, u "RADIANS_TO_DEGREES")] 94

def k7m0 : Method := { name := "<init>", desc := "()V", sig := { parameters := [], returnType := none }, accessFlags := 2, code := none }
def k7c1 : Code := { maxStack := 2, maxLocals := 2, code := jdk_29_method_65_code, exceptionTable := #[], attributes := #[] }
def k7m1 : Method := { name := "max", desc := "(II)I", sig := { parameters := [.int, .int], returnType := some .int }, accessFlags := 9, code := some k7c1 }
/-- java/lang/Math -/
def k7 : Class := { plain "java/lang/Math" (some 0) with
  accessFlags := 49
  interfaces := #[]
  cf := some (fileOf pool7 1 #[.nestMembers #[98]] #[{ accessFlags := 2, nameIndex := 7, descriptorIndex := 8, attributes := #[] }, { accessFlags := 9, nameIndex := 198, descriptorIndex := 335, attributes := #[] }] 49 4 #[] #[{ accessFlags := 25, nameIndex := 354, descriptorIndex := 339, attributes := #[] }, { accessFlags := 25, nameIndex := 358, descriptorIndex := 339, attributes := #[] }, { accessFlags := 25, nameIndex := 361, descriptorIndex := 339, attributes := #[] }, { accessFlags := 26, nameIndex := 364, descriptorIndex := 339, attributes := #[] }, { accessFlags := 26, nameIndex := 365, descriptorIndex := 339, attributes := #[] }, { accessFlags := 26, nameIndex := 172, descriptorIndex := 173, attributes := #[] }, { accessFlags := 26, nameIndex := 176, descriptorIndex := 173, attributes := #[] }, { accessFlags := 8, nameIndex := 344, descriptorIndex := 339, attributes := #[] }, { accessFlags := 8, nameIndex := 338, descriptorIndex := 339, attributes := #[] }, { accessFlags := 4120, nameIndex := 245, descriptorIndex := 246, attributes := #[] }])
  fields := #[{ name := "E", type := .double, accessFlags := 25, slot := 0, constantValue := 0 }, { name := "PI", type := .double, accessFlags := 25, slot := 1, constantValue := 0 }, { name := "TAU", type := .double, accessFlags := 25, slot := 2, constantValue := 0 }, { name := "DEGREES_TO_RADIANS", type := .double, accessFlags := 26, slot := 3, constantValue := 0 }, { name := "RADIANS_TO_DEGREES", type := .double, accessFlags := 26, slot := 4, constantValue := 0 }, { name := "negativeZeroFloatBits", type := .long, accessFlags := 26, slot := 5, constantValue := 0 }, { name := "negativeZeroDoubleBits", type := .long, accessFlags := 26, slot := 6, constantValue := 0 }, { name := "twoToTheDoubleScaleUp", type := .double, accessFlags := 8, slot := 7, constantValue := 0 }, { name := "twoToTheDoubleScaleDown", type := .double, accessFlags := 8, slot := 8, constantValue := 0 }, { name := "$assertionsDisabled", type := .boolean, accessFlags := 4120, slot := 9, constantValue := 0 }]
  methods := #[k7m0, k7m1]
  instanceTypes := #[]
  staticTypes := #[.double, .double, .double, .double, .double, .long, .long, .double, .double, .boolean]
  resolved := Array.replicate 460 none
  statics := none }

def pool8 : Array CpInfo := pool [(1, u "java/lang/Cloneable"), (0, .class_ 1), (0, u "java/lang/Object"), (0, .class_ 3)] 3

/-- java/lang/Cloneable -/
def k8 : Class := { plain "java/lang/Cloneable" (some 0) with
  accessFlags := 1537
  interfaces := #[]
  cf := some (fileOf pool8 2 #[] #[] 1537 4 #[] #[])
  fields := #[]
  methods := #[]
  instanceTypes := #[]
  staticTypes := #[]
  resolved := Array.replicate 8 none
  statics := none }

/-- the primitive byte -/
def k9 : Class := { plain "byte" none with kind := .primitive 'B', accessFlags := 0x411 }
/-- [B -/
def k10 : Class := { plain "[B" (some 0) with kind := .array 9 .byte, interfaces := #[8, 4], accessFlags := 1041 }

/-- the primitive int -/
def k11 : Class := { plain "int" none with kind := .primitive 'I', accessFlags := 0x411 }
/-- [I -/
def k12 : Class := { plain "[I" (some 0) with kind := .array 11 .int, interfaces := #[8, 4], accessFlags := 1041 }

def heap : Heap := #[{ cls := 6, slots := #[.ref 2, .ref 1, .ref 3, .null], vm := .statics 6 },
  { cls := 6, slots := #[.null, .int 1, .int 0], vm := .none },
  { cls := 6, slots := #[.null, .int 0, .int 0], vm := .none },
  { cls := 6, slots := #[.null, .int 2, .int 0], vm := .none }]
def classes : Array Class := #[k0, k1, k2, k3, k4, k5, k6, k7, k8, k9, k10, k11, k12]
def interned : List (Array UInt16 × Addr) := []
def slotsUsed : Nat := 13
def theMethod : MethodId := ⟨1, 3⟩
def args0 : Array Value := #[.int 5, .int 7]
def aboutOver (below : List Frame) : State where
  vm := { classes := classes, interned := interned.toArray }
  heap := heap
  slotsUsed := slotsUsed
  threads := #[{ frames := .invoking theMethod args0 :: below }]
def below0 : List Frame := [.native { method := ⟨0, 0⟩, args := #[] }]
def about1 : State := aboutOver below0
def p0 : Program := .bare "" "" ""
def e0 : Env := launch0.env 0 0 0
theorem w_frames : about1.frames = Frame.invoking theMethod args0 :: below0 := rfl
set_option maxRecDepth 65536 in
theorem w_args : argsFit about1.vm theMethod args0 = true := by decide +kernel
set_option maxRecDepth 65536 in
theorem w_heap : heapFits about1 = true := by decide +kernel
set_option maxRecDepth 65536 in
theorem w_runnable : about1.curStatus? = some .runnable := by decide +kernel
set_option maxRecDepth 65536 in
theorem w_alone : about1.alone = true := by decide +kernel
set_option maxRecDepth 65536 in
theorem w_named : about1.methodNamed? x = some theMethod := by decide +kernel
set_option maxRecDepth 65536 in
theorem w_hears : about1.hears theMethod below0 = true := by decide +kernel
set_option maxRecDepth 65536 in
theorem w_ripe : about1.ripe theMethod args0 below0 = true := by decide +kernel
theorem w_running : about1.status = .running := rfl
set_option maxRecDepth 65536 in
theorem w_room : about1.hasRoom e0.platform room_1 = true :=
  launch0.hasRoom_least _ room_1 (by decide +kernel) (by decide +kernel) (by decide +kernel) (by decide +kernel) (by decide +kernel) (by decide +kernel)
theorem allAtoms_all (ts : List Jvm.Cond) (a : Array Jvm.Value) (st : Jvm.State) : (allAtoms ts).before a st = ts.all (fun c => c.before a st) := by
  induction ts with
  | nil => rfl
  | cons c t ih =>
    show (Jvm.Cond.and c (allAtoms t)).before a st = _
    rw [Jvm.Cond.before_and, ih, List.all_cons]
def words1 : List Jvm.Cond := Jvm.Cond.code x code maxLocals ret :: tables_1
/-- a 'code' word, met by the world's own term for the bytes: nothing is compared byte by byte -/
theorem code_word {y : MethodName} {bytes : ByteArray} {mx : Nat} {rt : Option FieldType} {a : Array Value} {s : State} {m : MethodId} {meth : Method} {c : Code} (h1 : s.methodNamed? y = some m) (h2 : s.vm.method? m = some meth) (h3 : meth.code = some c) (h4 : c.code = bytes)
    (h5 : (c.maxLocals == mx && c.exceptionTable.isEmpty && decide (c.maxStack ≤ mostOperands) && decide (meth.sig.returnType = rt) && !meth.locks && decide (parseMethodDescriptor y.desc = some meth.sig)) = true) : (Jvm.Cond.code y bytes mx rt).before a s = true := by
  simp only [Bool.and_eq_true, beq_iff_eq, Bool.not_eq_true', decide_eq_true_eq] at h5
  obtain ⟨⟨⟨⟨⟨g1, g2⟩, g3⟩, g4⟩, g5⟩, g6⟩ := h5
  simp [Cond.before, Cond.holds, Cond.value, h1, h2, h3, h4, g1, g2, g3, g4, g5, g6]
def isCode : Jvm.Cond → Bool
  | .code _ _ _ _ => true
  | _ => false
theorem all_split {L : List Jvm.Cond} {P : Jvm.Cond → Bool} (h1 : L.all (fun c => isCode c || P c) = true) (h2 : ∀ c ∈ L.filter isCode, P c = true) : L.all P = true := by
  refine List.all_eq_true.mpr fun c hc => ?_
  have h := List.all_eq_true.mp h1 c hc
  rcases Bool.eq_false_or_eq_true (isCode c) with hi | hi
  · exact h2 c (List.mem_filter.mpr ⟨hc, hi⟩)
  · simpa [hi] using h
set_option maxRecDepth 65536 in
theorem w_c0 : (Jvm.Cond.code x code maxLocals ret).before args0 about1 = true := code_word (m := ⟨1, 3⟩) (meth := k1m3) (c := k1c3) (by decide +kernel) rfl rfl rfl (by decide +kernel)
set_option maxRecDepth 65536 in
theorem w_c1 : (Jvm.Cond.code ({ cls := "com/example/herald4/herald4/filter/TruthOrPinLaw", name := "pick", desc := "(I)Lcom/example/herald4/herald4/filter/Truth;" } : Jvm.MethodName) method_2_code (1 : Nat) (Option.some (Jvm.ClassFile.FieldType.object "com/example/herald4/herald4/filter/Truth"))).before args0 about1 = true := code_word (m := ⟨1, 1⟩) (meth := k1m1) (c := k1c1) (by decide +kernel) rfl rfl rfl (by decide +kernel)
set_option maxRecDepth 65536 in
theorem w_c2 : (Jvm.Cond.code ({ cls := "com/example/herald4/herald4/filter/Truth", name := "or", desc := "(Lcom/example/herald4/herald4/filter/Truth;)Lcom/example/herald4/herald4/filter/Truth;" } : Jvm.MethodName) prog_32_method_7_code (3 : Nat) (Option.some (Jvm.ClassFile.FieldType.object "com/example/herald4/herald4/filter/Truth"))).before args0 about1 = true := code_word (m := ⟨6, 0⟩) (meth := k6m0) (c := k6c0) (by decide +kernel) rfl rfl rfl (by decide +kernel)
set_option maxRecDepth 65536 in
theorem w_c3 : (Jvm.Cond.code ({ cls := "java/lang/Math", name := "max", desc := "(II)I" } : Jvm.MethodName) jdk_29_method_65_code (2 : Nat) (Option.some Jvm.ClassFile.FieldType.int)).before args0 about1 = true := code_word (m := ⟨7, 1⟩) (meth := k7m1) (c := k7c1) (by decide +kernel) rfl rfl rfl (by decide +kernel)
set_option maxRecDepth 65536 in
theorem w_c4 : (Jvm.Cond.code ({ cls := "com/example/herald4/herald4/filter/TruthOrPinLaw", name := "rank", desc := "(Lcom/example/herald4/herald4/filter/Truth;)I" } : Jvm.MethodName) method_3_code (1 : Nat) (Option.some Jvm.ClassFile.FieldType.int)).before args0 about1 = true := code_word (m := ⟨1, 2⟩) (meth := k1m2) (c := k1c2) (by decide +kernel) rfl rfl rfl (by decide +kernel)
def codes1 : List Jvm.Cond := [Jvm.Cond.code x code maxLocals ret, Jvm.Cond.code ({ cls := "com/example/herald4/herald4/filter/TruthOrPinLaw", name := "pick", desc := "(I)Lcom/example/herald4/herald4/filter/Truth;" } : Jvm.MethodName) method_2_code (1 : Nat) (Option.some (Jvm.ClassFile.FieldType.object "com/example/herald4/herald4/filter/Truth")), Jvm.Cond.code ({ cls := "com/example/herald4/herald4/filter/Truth", name := "or", desc := "(Lcom/example/herald4/herald4/filter/Truth;)Lcom/example/herald4/herald4/filter/Truth;" } : Jvm.MethodName) prog_32_method_7_code (3 : Nat) (Option.some (Jvm.ClassFile.FieldType.object "com/example/herald4/herald4/filter/Truth")), Jvm.Cond.code ({ cls := "java/lang/Math", name := "max", desc := "(II)I" } : Jvm.MethodName) jdk_29_method_65_code (2 : Nat) (Option.some Jvm.ClassFile.FieldType.int), Jvm.Cond.code ({ cls := "com/example/herald4/herald4/filter/TruthOrPinLaw", name := "rank", desc := "(Lcom/example/herald4/herald4/filter/Truth;)I" } : Jvm.MethodName) method_3_code (1 : Nat) (Option.some Jvm.ClassFile.FieldType.int)]
set_option maxRecDepth 65536 in
theorem codes_eq : words1.filter isCode = codes1 := rfl
theorem w_codes : ∀ c ∈ words1.filter isCode, c.before args0 about1 = true := by
  rw [codes_eq]
  intro c hc
  simp only [codes1, List.mem_cons, List.not_mem_nil, or_false] at hc
  rcases hc with rfl | rfl | rfl | rfl | rfl
  · exact w_c0
  · exact w_c1
  · exact w_c2
  · exact w_c3
  · exact w_c4
set_option maxRecDepth 65536 in
theorem w_t1 : (words1.take 24).all (fun c => isCode c || c.before args0 about1) = true := by decide +kernel
set_option maxRecDepth 65536 in
theorem w_t2 : (words1.drop 24).all (fun c => isCode c || c.before args0 about1) = true := by decide +kernel
theorem w_tables : (allAtoms (Jvm.Cond.code x code maxLocals ret :: tables_1)).before args0 about1 = true := by
  rw [allAtoms_all]
  show words1.all (fun c => c.before args0 about1) = true
  refine all_split ?_ w_codes
  rw [← List.take_append_drop 24 words1, List.all_append, w_t1, w_t2]
  rfl
set_option maxRecDepth 65536 in
theorem w_case : (Jvm.Cond.and given_1 narrow_1).before args0 about1 = true := by decide +kernel
theorem w_applies : (headSpec (Jvm.Cond.code x code maxLocals ret :: tables_1) room_1).applies x e0.platform about1 = true :=
  (Spec.applies_iff w_frames).mpr ⟨w_running, w_runnable, w_alone, w_named, w_hears, w_ripe, w_room, w_tables⟩
theorem atStart : AtStart classFile x code maxLocals ret World_1 tables_1 room_1 Calls_1 rest_1 Pre_1 launch0 p0 e0 about1 theMethod args0 below0 :=
  ⟨lists_1, trivial, launch0.admits_env _ _ _, launch0.least_env, fairChoices_fair.cas, fairChoices_fair.clock, w_frames, w_args, w_heap, w_applies, trivial, trivial, w_case⟩
end start1
theorem witness_1 : WitnessClaimed_1 := ⟨start1.p0, start1.e0, start1.about1, start1.theMethod, start1.args0, start1.below0, start1.atStart⟩
end Jvm.Pilot.@@N@@
