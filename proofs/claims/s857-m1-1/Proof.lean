import JvmDerived
import JvmDerived.Pilot.@@N@@Statement
import JvmDerived.Pilot.@@N@@Code
set_option linter.unusedVariables false
set_option linter.unusedSimpArgs false
namespace Jvm.Pilot.@@N@@
open Jvm Jvm.ClassFile Sem Op Lib Jvm.Free Jvm.Stand Jvm.LawKit Jvm.RoadKit Bundle Jvm.Pilot.@@N@@.Jvm.D
abbrev St (p : Program) (e : Env) (below : List Frame) (T : State) (g : JFrame) (t : State) : Prop := Steps p.tables e below (T.setTop g) t
theorem ww {Z : State} {a0 : Array Value} (hw : ∀ d ∈ tables_1, d.before a0 Z = true) {d : Jvm.Cond} (i : Nat) (h : tables_1[i]? = some d) : d.before a0 Z = true := hw _ (List.mem_of_getElem? h)
theorem ltI {a b : Int32} (h : a < b) : a.toInt < b.toInt := Int32.lt_iff_toInt_lt.mp h
theorem nltI {a b : Int32} (h : ¬ a < b) : ¬ a.toInt < b.toInt := mt Int32.lt_iff_toInt_lt.mpr h
theorem eqI {a b : Int32} (h : a = b) : a.toInt = b.toInt := congrArg Int32.toInt h
theorem neI {a b : Int32} (h : ¬ a = b) : ¬ a.toInt = b.toInt := mt Int32.toInt_inj.mp h
theorem ltJ {a b : Int64} (h : a < b) : a.toInt < b.toInt := Int64.lt_iff_toInt_lt.mp h
theorem nltJ {a b : Int64} (h : ¬ a < b) : ¬ a.toInt < b.toInt := mt Int64.lt_iff_toInt_lt.mpr h
theorem eqJ {a b : Int64} (h : a = b) : a.toInt = b.toInt := congrArg Int64.toInt h
theorem neJ {a b : Int64} (h : ¬ a = b) : ¬ a.toInt = b.toInt := mt Int64.toInt_inj.mp h
theorem own_eqI {args : Array Value} {s : State} {t : Term} {k : Int32} (h : (Jvm.Cond.eq t (.int k)).value args s none s [] = some true) : t.eval args s none [] s = some (.int k) := by
  obtain ⟨x, y, ex, ey, k1, k2⟩ := cmp_v (Or.inl h)
  obtain rfl : y = .int k := Option.some.inj (ey.symm.trans (Term.int_eval k))
  obtain ⟨z, rfl⟩ := k2
  rw [ex, gotT (Cond.eq_ints ex ey) h]
theorem own_eqJ {args : Array Value} {s : State} {t : Term} {k : Int64} (h : (Jvm.Cond.eq t (.long k)).value args s none s [] = some true) : t.eval args s none [] s = some (.long k) := by
  obtain ⟨x, y, ex, ey, k1, k2⟩ := cmp_v (Or.inl h)
  obtain rfl : y = .long k := Option.some.inj (ey.symm.trans (long_at k))
  obtain ⟨z, rfl⟩ := k2
  rw [ex, gotT (eq_L ex ey) h]
theorem own_eqR {args : Array Value} {s : State} {t u : Term} {b : Addr} (h : (Jvm.Cond.eq t u).value args s none s [] = some true) (hu : u.eval args s none [] s = some (.ref b)) : t.eval args s none [] s = some (.ref b) := by
  obtain ⟨x, y, ex, ey, k1, k2⟩ := cmp_v (Or.inl h)
  obtain rfl : y = .ref b := Option.some.inj (ey.symm.trans hu)
  have hx : x.isRef = true := k2.2
  rw [ex, gotT (eq_R ex ey hx rfl) h]
theorem own_len {args : Array Value} {s : State} {t : Term} {a : Addr} {cl : Cell} {ty : FieldType} {k : Int32} (ev : t.eval args s none [] s = some (.ref a)) (A : Arr s s.heap a cl ty) (h : (Term.length t).eval args s none [] s = some (.int k)) : cl.slots.size < 2 ^ 31 ∧ cl.slots.size.toInt32 = k := by
  have ha := A.fin (Vm.Alike.refl _)
  by_cases hl : cl.slots.size < 2 ^ 31
  · exact ⟨hl, Value.int.inj (Option.some.inj ((len_f ev ha hl).symm.trans h))⟩
  · exfalso; simp [Term.eval, ev, ha, hl] at h
theorem own_sel {Z : State} {a0 : Array Value} {y : MethodName} {n : Nat} (wi : (Jvm.Cond.instantiable y.cls n).before a0 Z = true) (wp : (Jvm.Cond.privateMethod y).before a0 Z = true) (wm : (Jvm.Cond.instanceMethod y).before a0 Z = true) (hy : y.cls ≠ "java/lang/invoke/MethodHandle" ∧ y.cls ≠ "java/lang/invoke/VarHandle") : (Jvm.Cond.selects y.cls y y).before a0 Z = true := by
  obtain ⟨c, k, h1, h2, h3, h4, -⟩ := Cond.instantiable_spec wi
  exact selects_self_of_private h1 h2 (by simp only [Bool.or_eq_false_iff] at h4; exact h4.1) (Cond.privateMethod_at wp) wm hy
def own_nz (x : Int64) : Int32 := if x = 0 then 0 else 1
theorem own_c_nz (x : Int64) : (x.toInt = 0 → (own_nz x).toInt = 0) ∧ (x.toInt ≠ 0 → (own_nz x).toInt = 1) := by
  unfold own_nz
  by_cases h : x = 0
  · subst h; exact ⟨fun _ => by decide, fun q => absurd (by decide) q⟩
  · rw [if_neg h]; exact ⟨fun q => absurd (Int64.toInt_inj.mp (q.trans (by decide : (0 : Int) = (0 : Int64).toInt))) h, fun _ => by decide⟩
theorem own_old_le {Z : State} {n0 : Nat} {h : Heap} (O : Old Z n0 h) : n0 ≤ h.size := O.1 ▸ O.2.1
abbrev M0 : MethodName := ⟨"com/example/herald4/herald4/filter/TruthAndPinLaw", "pick", "(I)Lcom/example/herald4/herald4/filter/Truth;"⟩
abbrev M1 : MethodName := ⟨"com/example/herald4/herald4/filter/Truth", "and", "(Lcom/example/herald4/herald4/filter/Truth;)Lcom/example/herald4/herald4/filter/Truth;"⟩
abbrev M2 : MethodName := ⟨"com/example/herald4/herald4/filter/TruthAndPinLaw", "rank", "(Lcom/example/herald4/herald4/filter/Truth;)I"⟩
abbrev M3 : MethodName := ⟨"java/lang/Math", "min", "(II)I"⟩
abbrev M4 : MethodName := ⟨"com/example/herald4/herald4/filter/TruthAndPinLaw", "ofRank", "(I)Lcom/example/herald4/herald4/filter/Truth;"⟩

def Env1 (Z : State) (a_TRUE : Addr) (a_FALSE : Addr) (a_UNKNOWN : Addr) : Prop := Sta Z Z.heap "com/example/herald4/herald4/filter/Truth" "TRUE" "Lcom/example/herald4/herald4/filter/Truth;" (.ref a_TRUE) ∧
  Exa Z Z.heap a_TRUE "com/example/herald4/herald4/filter/Truth" ∧
  Sta Z Z.heap "com/example/herald4/herald4/filter/Truth" "FALSE" "Lcom/example/herald4/herald4/filter/Truth;" (.ref a_FALSE) ∧
  Exa Z Z.heap a_FALSE "com/example/herald4/herald4/filter/Truth" ∧
  Fld Z Z.heap a_TRUE "java/lang/Enum" "ordinal" "I" (.int (0 : Int32)) ∧
  Fld Z Z.heap a_FALSE "java/lang/Enum" "ordinal" "I" (.int (1 : Int32)) ∧
  Sta Z Z.heap "com/example/herald4/herald4/filter/Truth" "UNKNOWN" "Lcom/example/herald4/herald4/filter/Truth;" (.ref a_UNKNOWN) ∧
  Exa Z Z.heap a_UNKNOWN "com/example/herald4/herald4/filter/Truth" ∧
  Fld Z Z.heap a_UNKNOWN "java/lang/Enum" "ordinal" "I" (.int (2 : Int32))
theorem ef0 (m : MethodId) (x0 : Int32) (x1 : Int32) : entryFrame m #[(.int x0), (.int x1)] maxLocals = mkF m 0 #[.val (.int x0), .val (.int x1), .unset, .unset, .unset] [] := by first | (simp [entryFrame, mkF, argsToLocals, Value.category, maxLocals]; done) | rfl
theorem pn0 : plainName "com/example/herald4/herald4/filter/TruthAndPinLaw" = true := by first | (simp [plainName, overriddenIn]; done) | decide +kernel
theorem ef1 (m : MethodId) (x0 : Int32) : entryFrame m #[(.int x0)] 1 = mkF m 0 #[.val (.int x0)] [] := by first | (simp [entryFrame, mkF, argsToLocals, Value.category]; done) | rfl
theorem d1_0 : decode method_2_code 0 = .ok (.iload_n 0, 1) := by decide +kernel
theorem d1_1 : decode method_2_code 1 = .ok (.ifCond .ne 7, 3) := by decide +kernel
theorem d1_4 : decode method_2_code 4 = .ok (.getstatic 7, 3) := by decide +kernel
theorem d1_7 : decode method_2_code 7 = .ok (.areturn, 1) := by decide +kernel
theorem d1_8 : decode method_2_code 8 = .ok (.iload_n 0, 1) := by decide +kernel
theorem d1_9 : decode method_2_code 9 = .ok (.iconst 1, 1) := by decide +kernel
theorem d1_10 : decode method_2_code 10 = .ok (.if_icmp .ne 7, 3) := by decide +kernel
theorem d1_13 : decode method_2_code 13 = .ok (.getstatic 13, 3) := by decide +kernel
theorem d1_16 : decode method_2_code 16 = .ok (.areturn, 1) := by decide +kernel
theorem d1_17 : decode method_2_code 17 = .ok (.getstatic 16, 3) := by decide +kernel
theorem d1_20 : decode method_2_code 20 = .ok (.areturn, 1) := by decide +kernel
def Q1_0 (Z : State) (a_TRUE : Addr) (a_FALSE : Addr) (a_UNKNOWN : Addr) (i0 : Int32) (h0 : Heap) (n0 : Nat) (v : Option Value) (h : Heap) (L : List Loc) : Prop := Fr n0 L ∧ h = h0 ∧ ((v = some (.ref a_TRUE) ∧ i0 = (0 : Int32)) ∨ (v = some (.ref a_FALSE) ∧ ¬ (i0 = (0 : Int32)) ∧ i0 = (1 : Int32)) ∨ (v = some (.ref a_UNKNOWN) ∧ ¬ (i0 = (0 : Int32)) ∧ ¬ (i0 = (1 : Int32))))
set_option maxRecDepth 65536 in
set_option maxHeartbeats 40000000 in
theorem rm1_0 (l : Launch) (Z : State) (a0 : Array Value) (hw : ∀ d ∈ tables_1, d.before a0 Z = true) (ws : List Jvm.Cond) (a_TRUE : Addr) (a_FALSE : Addr) (a_UNKNOWN : Addr) (i0 : Int32) (h0 : Heap) (n0 : Nat) (O0 : Old Z n0 h0) (HE : Env1 Z a_TRUE a_FALSE a_UNKNOWN)  :
    MetFree l M0 (head1 (Jvm.Cond.code M0 method_2_code 1 (some (.object "com/example/herald4/herald4/filter/Truth")) :: ws) ({ frames := 0, cells := 0, slots := 0, locals := 0 } : Room)) (fun a U => a = #[(.int i0)] ∧ Z.Warmed39 U.vm ∧ U.heap = h0) (fun _ _ _ _ _ => True) (fun _ U o U' => ∃ v L, o = .returned v ∧ Q1_0 Z a_TRUE a_FALSE a_UNKNOWN i0 h0 n0 v U'.heap L ∧ FrameEnd U o U' L ({ frames := 0, cells := 0, slots := 0, locals := 0 } : Room).cells ({ frames := 0, cells := 0, slots := 0, locals := 0 } : Room).slots) := by
 refine MetFree.of_bodySF (plainFor_of_name pn0) hisR ?_
 intro p e s m args below meth c s₁ Bd hml0 hP hK
 obtain ⟨rfl, hZ, hh⟩ := hP
 have hx := Bd.exec
 have hby := Bd.bytes
 have hml : c.maxLocals = 1 := hml0
 have hown : s.vm.findClass "com/example/herald4/herald4/filter/TruthAndPinLaw" = some m.cls := findClass_of_methodNamed Bd.named
 have hnm := (name_of_methodNamed Bd.named Bd.method).1
 have X0 : Stand p l e ({ frames := 0, cells := 0, slots := 0, locals := 0 } : Room) s m #[(.int i0)] below meth c s₁ [] 0 0 := Stand.of_body Bd
 have e0 : s₁.heap = h0 := by rw [← hh, Bd.state]; rfl
 have N0 := Fr.nil n0
 let S0 : State → Prop := fun t => Steps p.tables e below (s₁.setTop (entryFrame m #[(.int i0)] 1)) t
 have p0 : ∀ t, St p e below s₁ (mkF m 0 #[.val (.int i0)] []) t → S0 t := fun t k => castTop (ef1 m i0) k
 have HE' := HE
 obtain ⟨Sa_TRUE, Ea_TRUE, Sa_FALSE, Ea_FALSE, Fa_TRUE_ordinal, Fa_FALSE_ordinal, Sa_UNKNOWN, Ea_UNKNOWN, Fa_UNKNOWN_ordinal⟩ := HE
 have p1 : ∀ t, St p e below s₁ (mkF m 1 #[.val (.int i0)] [(.int i0)]) t → S0 t := fun t k => p0 t (by
   show St p e below s₁ (mkF m 0 #[.val (.int i0)] []) t
   refine XS.iloadN X0.here hx rfl (hb hby d1_0) rfl ?_
   exact k)
 by_cases g2 : i0 = (0 : Int32)
 ·
  have p3 : ∀ t, St p e below s₁ (mkF m 4 #[.val (.int i0)] []) t → S0 t := fun t k => p1 t (by
    show St p e below s₁ (mkF m 1 #[.val (.int i0)] [(.int i0)]) t
    refine XS.ifNo X0.here hx rfl (hb hby d1_1) rfl ((if0 _ _).trans (teq g2).2) ?_
    exact k)
  obtain ⟨T4, X4, e4, st4⟩ := getS2 X0 hx hZ hown (host := "") (Or.inl (ww hw 5 rfl)) Via.refl e0 (Sa_TRUE.ext O0.2) (g := (mkF m 4 #[.val (.int i0)] [])) rfl (hb hby d1_4)
  have p5 : ∀ t, St p e below T4 (mkF m 7 #[.val (.int i0)] [(.ref a_TRUE)]) t → S0 t := fun t k => p3 t (st4 t k)
  obtain ⟨fs, hr, hrun, hended, hW, hsame⟩ := X4.leave (v := some (.ref a_TRUE)) (fun h => by rw [Bd.returns] at h; cases h)
  refine ⟨_, _, p5 _ ?_, hrun, hended, _, _, rfl, ?_, ⟨_, rfl⟩, hW, hsame.mono (by decide) (by decide)⟩
  · exact retOut X4 hx Bd.returns rfl (Or.inr (Or.inr (Or.inr (Or.inr ⟨rfl, rfl, rfl⟩)))) (hb hby d1_7) hr
  · show Q1_0 Z a_TRUE a_FALSE a_UNKNOWN i0 h0 n0 _ T4.heap _
    exact ⟨N0, e4, (Or.inl ⟨rfl, g2⟩)⟩
 ·
  have p6 : ∀ t, St p e below s₁ (mkF m 10 #[.val (.int i0)] [(.int (1 : Int32)), (.int i0)]) t → S0 t := fun t k => p1 t (by
    show St p e below s₁ (mkF m 1 #[.val (.int i0)] [(.int i0)]) t
    refine XS.ifYes X0.here hx rfl (pc0 := 1) (pc' := 8) rfl (hb hby d1_1) rfl ((if0 _ _).trans (feq g2).2) (by decide) (by decide) ?_
    show St p e below s₁ (mkF m 8 #[.val (.int i0)] []) t
    refine XS.iloadN X0.here hx rfl (hb hby d1_8) rfl ?_
    show St p e below s₁ (mkF m 9 #[.val (.int i0)] [(.int i0)]) t
    refine XT.iconstV X0.here hx rfl (1 : Int32) (hb hby d1_9) (by decide) ?_
    exact k)
  by_cases g7 : i0 = (1 : Int32)
  ·
   have p8 : ∀ t, St p e below s₁ (mkF m 13 #[.val (.int i0)] []) t → S0 t := fun t k => p6 t (by
     show St p e below s₁ (mkF m 10 #[.val (.int i0)] [(.int (1 : Int32)), (.int i0)]) t
     refine XS.icmpNo X0.here hx rfl (hb hby d1_10) rfl (teq g7).2 ?_
     exact k)
   obtain ⟨T9, X9, e9, st9⟩ := getS2 X0 hx hZ hown (host := "") (Or.inl (ww hw 21 rfl)) Via.refl e0 (Sa_FALSE.ext O0.2) (g := (mkF m 13 #[.val (.int i0)] [])) rfl (hb hby d1_13)
   have p10 : ∀ t, St p e below T9 (mkF m 16 #[.val (.int i0)] [(.ref a_FALSE)]) t → S0 t := fun t k => p8 t (st9 t k)
   obtain ⟨fs, hr, hrun, hended, hW, hsame⟩ := X9.leave (v := some (.ref a_FALSE)) (fun h => by rw [Bd.returns] at h; cases h)
   refine ⟨_, _, p10 _ ?_, hrun, hended, _, _, rfl, ?_, ⟨_, rfl⟩, hW, hsame.mono (by decide) (by decide)⟩
   · exact retOut X9 hx Bd.returns rfl (Or.inr (Or.inr (Or.inr (Or.inr ⟨rfl, rfl, rfl⟩)))) (hb hby d1_16) hr
   · show Q1_0 Z a_TRUE a_FALSE a_UNKNOWN i0 h0 n0 _ T9.heap _
     exact ⟨N0, e9, (Or.inr (Or.inl ⟨rfl, g2, g7⟩))⟩
  ·
   have p11 : ∀ t, St p e below s₁ (mkF m 17 #[.val (.int i0)] []) t → S0 t := fun t k => p6 t (by
     show St p e below s₁ (mkF m 10 #[.val (.int i0)] [(.int (1 : Int32)), (.int i0)]) t
     refine XS.icmpYes X0.here hx rfl (pc0 := 10) (pc' := 17) rfl (hb hby d1_10) rfl (feq g7).2 (by decide) (by decide) ?_
     exact k)
   obtain ⟨T12, X12, e12, st12⟩ := getS2 X0 hx hZ hown (host := "") (Or.inl (ww hw 22 rfl)) Via.refl e0 (Sa_UNKNOWN.ext O0.2) (g := (mkF m 17 #[.val (.int i0)] [])) rfl (hb hby d1_17)
   have p13 : ∀ t, St p e below T12 (mkF m 20 #[.val (.int i0)] [(.ref a_UNKNOWN)]) t → S0 t := fun t k => p11 t (st12 t k)
   obtain ⟨fs, hr, hrun, hended, hW, hsame⟩ := X12.leave (v := some (.ref a_UNKNOWN)) (fun h => by rw [Bd.returns] at h; cases h)
   refine ⟨_, _, p13 _ ?_, hrun, hended, _, _, rfl, ?_, ⟨_, rfl⟩, hW, hsame.mono (by decide) (by decide)⟩
   · exact retOut X12 hx Bd.returns rfl (Or.inr (Or.inr (Or.inr (Or.inr ⟨rfl, rfl, rfl⟩)))) (hb hby d1_20) hr
   · show Q1_0 Z a_TRUE a_FALSE a_UNKNOWN i0 h0 n0 _ T12.heap _
     exact ⟨N0, e12, (Or.inr (Or.inr (⟨rfl, g2, g7⟩)))⟩
theorem pd0 : parseMethodDescriptor "(I)Lcom/example/herald4/herald4/filter/Truth;" = some ⟨[.int], some (.object "com/example/herald4/herald4/filter/Truth")⟩ := by decide +kernel
theorem ef2 (m : MethodId) (x0 : Addr) (x1 : Addr) : entryFrame m #[(.ref x0), (.ref x1)] 3 = mkF m 0 #[.val (.ref x0), .val (.ref x1), .unset] [] := by first | (simp [entryFrame, mkF, argsToLocals, Value.category]; done) | rfl
theorem pn1 : plainName "com/example/herald4/herald4/filter/Truth" = true := by first | (simp [plainName, overriddenIn]; done) | decide +kernel
theorem d2_0 : decode prog_32_method_6_code 0 = .ok (.aload_n 0, 1) := by decide +kernel
theorem d2_1 : decode prog_32_method_6_code 1 = .ok (.getstatic 7, 3) := by decide +kernel
theorem d2_4 : decode prog_32_method_6_code 4 = .ok (.if_acmp .eq 10, 3) := by decide +kernel
theorem d2_7 : decode prog_32_method_6_code 7 = .ok (.aload_n 1, 1) := by decide +kernel
theorem d2_8 : decode prog_32_method_6_code 8 = .ok (.getstatic 7, 3) := by decide +kernel
theorem d2_11 : decode prog_32_method_6_code 11 = .ok (.if_acmp .ne 10, 3) := by decide +kernel
theorem d2_21 : decode prog_32_method_6_code 21 = .ok (.aload_n 0, 1) := by decide +kernel
theorem d2_22 : decode prog_32_method_6_code 22 = .ok (.getstatic 10, 3) := by decide +kernel
theorem d2_25 : decode prog_32_method_6_code 25 = .ok (.if_acmp .eq 10, 3) := by decide +kernel
theorem d2_28 : decode prog_32_method_6_code 28 = .ok (.aload_n 1, 1) := by decide +kernel
theorem d2_29 : decode prog_32_method_6_code 29 = .ok (.getstatic 10, 3) := by decide +kernel
theorem d2_32 : decode prog_32_method_6_code 32 = .ok (.if_acmp .ne 10, 3) := by decide +kernel
theorem d2_42 : decode prog_32_method_6_code 42 = .ok (.getstatic 3, 3) := by decide +kernel
theorem d2_45 : decode prog_32_method_6_code 45 = .ok (.astore_n 2, 1) := by decide +kernel
theorem d2_46 : decode prog_32_method_6_code 46 = .ok (.aload_n 2, 1) := by decide +kernel
theorem d2_47 : decode prog_32_method_6_code 47 = .ok (.areturn, 1) := by decide +kernel
def Q2_1 (Z : State) (a_TRUE : Addr) (a_FALSE : Addr) (a_UNKNOWN : Addr) (h0 : Heap) (n0 : Nat) (v : Option Value) (h : Heap) (L : List Loc) : Prop := Fr n0 L ∧ h = h0 ∧ ((v = some (.ref a_TRUE)))
set_option maxRecDepth 65536 in
set_option maxHeartbeats 40000000 in
theorem rm2_1 (l : Launch) (Z : State) (a0 : Array Value) (hw : ∀ d ∈ tables_1, d.before a0 Z = true) (ws : List Jvm.Cond) (a_TRUE : Addr) (a_FALSE : Addr) (a_UNKNOWN : Addr) (h0 : Heap) (n0 : Nat) (O0 : Old Z n0 h0) (HE : Env1 Z a_TRUE a_FALSE a_UNKNOWN)  :
    MetFree l M1 (head1 (Jvm.Cond.code M1 prog_32_method_6_code 3 (some (.object "com/example/herald4/herald4/filter/Truth")) :: ws) ({ frames := 0, cells := 0, slots := 0, locals := 0 } : Room)) (fun a U => a = #[(.ref a_TRUE), (.ref a_TRUE)] ∧ Z.Warmed39 U.vm ∧ U.heap = h0) (fun _ _ _ _ _ => True) (fun _ U o U' => ∃ v L, o = .returned v ∧ Q2_1 Z a_TRUE a_FALSE a_UNKNOWN h0 n0 v U'.heap L ∧ FrameEnd U o U' L ({ frames := 0, cells := 0, slots := 0, locals := 0 } : Room).cells ({ frames := 0, cells := 0, slots := 0, locals := 0 } : Room).slots) := by
 refine MetFree.of_bodySF (plainFor_of_name pn1) hisR ?_
 intro p e s m args below meth c s₁ Bd hml0 hP hK
 obtain ⟨rfl, hZ, hh⟩ := hP
 have hx := Bd.exec
 have hby := Bd.bytes
 have hml : c.maxLocals = 3 := hml0
 have hown : s.vm.findClass "com/example/herald4/herald4/filter/Truth" = some m.cls := findClass_of_methodNamed Bd.named
 have hnm := (name_of_methodNamed Bd.named Bd.method).1
 have X0 : Stand p l e ({ frames := 0, cells := 0, slots := 0, locals := 0 } : Room) s m #[(.ref a_TRUE), (.ref a_TRUE)] below meth c s₁ [] 0 0 := Stand.of_body Bd
 have e0 : s₁.heap = h0 := by rw [← hh, Bd.state]; rfl
 have N0 := Fr.nil n0
 let S0 : State → Prop := fun t => Steps p.tables e below (s₁.setTop (entryFrame m #[(.ref a_TRUE), (.ref a_TRUE)] 3)) t
 have p0 : ∀ t, St p e below s₁ (mkF m 0 #[.val (.ref a_TRUE), .val (.ref a_TRUE), .unset] []) t → S0 t := fun t k => castTop (ef2 m a_TRUE a_TRUE) k
 have HE' := HE
 obtain ⟨Sa_TRUE, Ea_TRUE, Sa_FALSE, Ea_FALSE, Fa_TRUE_ordinal, Fa_FALSE_ordinal, Sa_UNKNOWN, Ea_UNKNOWN, Fa_UNKNOWN_ordinal⟩ := HE
 have p1 : ∀ t, St p e below s₁ (mkF m 1 #[.val (.ref a_TRUE), .val (.ref a_TRUE), .unset] [(.ref a_TRUE)]) t → S0 t := fun t k => p0 t (by
   show St p e below s₁ (mkF m 0 #[.val (.ref a_TRUE), .val (.ref a_TRUE), .unset] []) t
   refine XS.aloadN X0.here hx rfl (hb hby d2_0) rfl rfl ?_
   exact k)
 obtain ⟨T2, X2, e2, st2⟩ := getS2 X0 hx hZ hown (host := "") (Or.inl (ww hw 13 rfl)) Via.refl e0 (Sa_FALSE.ext O0.2) (g := (mkF m 1 #[.val (.ref a_TRUE), .val (.ref a_TRUE), .unset] [(.ref a_TRUE)])) rfl (hb hby d2_1)
 have p3 : ∀ t, St p e below T2 (mkF m 4 #[.val (.ref a_TRUE), .val (.ref a_TRUE), .unset] [(.ref a_FALSE), (.ref a_TRUE)]) t → S0 t := fun t k => p1 t (st2 t k)
 have p4 : ∀ t, St p e below T2 (mkF m 8 #[.val (.ref a_TRUE), .val (.ref a_TRUE), .unset] [(.ref a_TRUE)]) t → S0 t := fun t k => p3 t (by
   show St p e below T2 (mkF m 4 #[.val (.ref a_TRUE), .val (.ref a_TRUE), .unset] [(.ref a_FALSE), (.ref a_TRUE)]) t
   refine Jvm.RoadKit.acmp (g := (mkF m 4 #[.val (.ref a_TRUE), .val (.ref a_TRUE), .unset] [(.ref a_FALSE), (.ref a_TRUE)])) X2 hx rfl rfl rfl (pc0 := 4) (pc' := 7) (same := false) rfl (hb hby d2_4) rfl (decide_eq_false fun q => (Fld.ne Fa_TRUE_ordinal Fa_FALSE_ordinal (fun q => absurd (Value.int.inj q) (by decide))) (Value.ref.inj q)) (by decide) (by decide) ?_
   show St p e below T2 (mkF m 7 #[.val (.ref a_TRUE), .val (.ref a_TRUE), .unset] []) t
   refine XS.aloadN X2.here hx rfl (hb hby d2_7) rfl rfl ?_
   exact k)
 obtain ⟨T5, X5, e5, st5⟩ := getS2 X2 hx hZ hown (host := "") (Or.inl (ww hw 13 rfl)) Via.refl e2 (Sa_FALSE.ext O0.2) (g := (mkF m 8 #[.val (.ref a_TRUE), .val (.ref a_TRUE), .unset] [(.ref a_TRUE)])) rfl (hb hby d2_8)
 have p6 : ∀ t, St p e below T5 (mkF m 11 #[.val (.ref a_TRUE), .val (.ref a_TRUE), .unset] [(.ref a_FALSE), (.ref a_TRUE)]) t → S0 t := fun t k => p4 t (st5 t k)
 have p7 : ∀ t, St p e below T5 (mkF m 22 #[.val (.ref a_TRUE), .val (.ref a_TRUE), .unset] [(.ref a_TRUE)]) t → S0 t := fun t k => p6 t (by
   show St p e below T5 (mkF m 11 #[.val (.ref a_TRUE), .val (.ref a_TRUE), .unset] [(.ref a_FALSE), (.ref a_TRUE)]) t
   refine Jvm.RoadKit.acmp (g := (mkF m 11 #[.val (.ref a_TRUE), .val (.ref a_TRUE), .unset] [(.ref a_FALSE), (.ref a_TRUE)])) X5 hx rfl rfl rfl (pc0 := 11) (pc' := 21) (same := false) rfl (hb hby d2_11) rfl (decide_eq_false fun q => (Fld.ne Fa_TRUE_ordinal Fa_FALSE_ordinal (fun q => absurd (Value.int.inj q) (by decide))) (Value.ref.inj q)) (by decide) (by decide) ?_
   show St p e below T5 (mkF m 21 #[.val (.ref a_TRUE), .val (.ref a_TRUE), .unset] []) t
   refine XS.aloadN X5.here hx rfl (hb hby d2_21) rfl rfl ?_
   exact k)
 obtain ⟨T8, X8, e8, st8⟩ := getS2 X5 hx hZ hown (host := "") (Or.inl (ww hw 15 rfl)) Via.refl e5 (Sa_UNKNOWN.ext O0.2) (g := (mkF m 22 #[.val (.ref a_TRUE), .val (.ref a_TRUE), .unset] [(.ref a_TRUE)])) rfl (hb hby d2_22)
 have p9 : ∀ t, St p e below T8 (mkF m 25 #[.val (.ref a_TRUE), .val (.ref a_TRUE), .unset] [(.ref a_UNKNOWN), (.ref a_TRUE)]) t → S0 t := fun t k => p7 t (st8 t k)
 have p10 : ∀ t, St p e below T8 (mkF m 29 #[.val (.ref a_TRUE), .val (.ref a_TRUE), .unset] [(.ref a_TRUE)]) t → S0 t := fun t k => p9 t (by
   show St p e below T8 (mkF m 25 #[.val (.ref a_TRUE), .val (.ref a_TRUE), .unset] [(.ref a_UNKNOWN), (.ref a_TRUE)]) t
   refine Jvm.RoadKit.acmp (g := (mkF m 25 #[.val (.ref a_TRUE), .val (.ref a_TRUE), .unset] [(.ref a_UNKNOWN), (.ref a_TRUE)])) X8 hx rfl rfl rfl (pc0 := 25) (pc' := 28) (same := false) rfl (hb hby d2_25) rfl (decide_eq_false fun q => (Fld.ne Fa_TRUE_ordinal Fa_UNKNOWN_ordinal (fun q => absurd (Value.int.inj q) (by decide))) (Value.ref.inj q)) (by decide) (by decide) ?_
   show St p e below T8 (mkF m 28 #[.val (.ref a_TRUE), .val (.ref a_TRUE), .unset] []) t
   refine XS.aloadN X8.here hx rfl (hb hby d2_28) rfl rfl ?_
   exact k)
 obtain ⟨T11, X11, e11, st11⟩ := getS2 X8 hx hZ hown (host := "") (Or.inl (ww hw 15 rfl)) Via.refl e8 (Sa_UNKNOWN.ext O0.2) (g := (mkF m 29 #[.val (.ref a_TRUE), .val (.ref a_TRUE), .unset] [(.ref a_TRUE)])) rfl (hb hby d2_29)
 have p12 : ∀ t, St p e below T11 (mkF m 32 #[.val (.ref a_TRUE), .val (.ref a_TRUE), .unset] [(.ref a_UNKNOWN), (.ref a_TRUE)]) t → S0 t := fun t k => p10 t (st11 t k)
 have p13 : ∀ t, St p e below T11 (mkF m 42 #[.val (.ref a_TRUE), .val (.ref a_TRUE), .unset] []) t → S0 t := fun t k => p12 t (by
   show St p e below T11 (mkF m 32 #[.val (.ref a_TRUE), .val (.ref a_TRUE), .unset] [(.ref a_UNKNOWN), (.ref a_TRUE)]) t
   refine Jvm.RoadKit.acmp (g := (mkF m 32 #[.val (.ref a_TRUE), .val (.ref a_TRUE), .unset] [(.ref a_UNKNOWN), (.ref a_TRUE)])) X11 hx rfl rfl rfl (pc0 := 32) (pc' := 42) (same := false) rfl (hb hby d2_32) rfl (decide_eq_false fun q => (Fld.ne Fa_TRUE_ordinal Fa_UNKNOWN_ordinal (fun q => absurd (Value.int.inj q) (by decide))) (Value.ref.inj q)) (by decide) (by decide) ?_
   exact k)
 obtain ⟨T14, X14, e14, st14⟩ := getS2 X11 hx hZ hown (host := "") (Or.inl (ww hw 17 rfl)) Via.refl e11 (Sa_TRUE.ext O0.2) (g := (mkF m 42 #[.val (.ref a_TRUE), .val (.ref a_TRUE), .unset] [])) rfl (hb hby d2_42)
 have p15 : ∀ t, St p e below T14 (mkF m 45 #[.val (.ref a_TRUE), .val (.ref a_TRUE), .unset] [(.ref a_TRUE)]) t → S0 t := fun t k => p13 t (st14 t k)
 let Ls16 : Array Slot := #[.val (.ref a_TRUE), .val (.ref a_TRUE), .val (.ref a_TRUE)]
 have p17 : ∀ t, St p e below T14 (mkF m 47 Ls16 [(.ref a_TRUE)]) t → S0 t := fun t k => p15 t (by
   show St p e below T14 (mkF m 45 #[.val (.ref a_TRUE), .val (.ref a_TRUE), .unset] [(.ref a_TRUE)]) t
   refine XS.astoreN X14.here hx rfl (hb hby d2_45) rfl rfl (l' := Ls16) rfl ?_
   show St p e below T14 (mkF m 46 Ls16 []) t
   refine XS.aloadN X14.here hx rfl (hb hby d2_46) rfl rfl ?_
   exact k)
 obtain ⟨fs, hr, hrun, hended, hW, hsame⟩ := X14.leave (v := some (.ref a_TRUE)) (fun h => by rw [Bd.returns] at h; cases h)
 refine ⟨_, _, p17 _ ?_, hrun, hended, _, _, rfl, ?_, ⟨_, rfl⟩, hW, hsame.mono (by decide) (by decide)⟩
 · exact retOut X14 hx Bd.returns rfl (Or.inr (Or.inr (Or.inr (Or.inr ⟨rfl, rfl, rfl⟩)))) (hb hby d2_47) hr
 · show Q2_1 Z a_TRUE a_FALSE a_UNKNOWN h0 n0 _ T14.heap _
   exact ⟨N0, e14, rfl⟩
theorem pd1 : parseMethodDescriptor "(Lcom/example/herald4/herald4/filter/Truth;)Lcom/example/herald4/herald4/filter/Truth;" = some ⟨[(.object "com/example/herald4/herald4/filter/Truth")], some (.object "com/example/herald4/herald4/filter/Truth")⟩ := by decide +kernel
theorem ef3 (m : MethodId) (x0 : Addr) : entryFrame m #[(.ref x0)] 1 = mkF m 0 #[.val (.ref x0)] [] := by first | (simp [entryFrame, mkF, argsToLocals, Value.category]; done) | rfl
theorem d3_0 : decode method_3_code 0 = .ok (.aload_n 0, 1) := by decide +kernel
theorem d3_1 : decode method_3_code 1 = .ok (.getstatic 13, 3) := by decide +kernel
theorem d3_4 : decode method_3_code 4 = .ok (.if_acmp .ne 5, 3) := by decide +kernel
theorem d3_9 : decode method_3_code 9 = .ok (.aload_n 0, 1) := by decide +kernel
theorem d3_10 : decode method_3_code 10 = .ok (.getstatic 16, 3) := by decide +kernel
theorem d3_13 : decode method_3_code 13 = .ok (.if_acmp .ne 5, 3) := by decide +kernel
theorem d3_18 : decode method_3_code 18 = .ok (.iconst 2, 1) := by decide +kernel
theorem d3_19 : decode method_3_code 19 = .ok (.ireturn, 1) := by decide +kernel
def Q3_2 (Z : State) (a_TRUE : Addr) (a_FALSE : Addr) (a_UNKNOWN : Addr) (h0 : Heap) (n0 : Nat) (v : Option Value) (h : Heap) (L : List Loc) : Prop := Fr n0 L ∧ h = h0 ∧ ((v = some (.int (2 : Int32))))
set_option maxRecDepth 65536 in
set_option maxHeartbeats 40000000 in
theorem rm3_2 (l : Launch) (Z : State) (a0 : Array Value) (hw : ∀ d ∈ tables_1, d.before a0 Z = true) (ws : List Jvm.Cond) (a_TRUE : Addr) (a_FALSE : Addr) (a_UNKNOWN : Addr) (h0 : Heap) (n0 : Nat) (O0 : Old Z n0 h0) (HE : Env1 Z a_TRUE a_FALSE a_UNKNOWN)  :
    MetFree l M2 (head1 (Jvm.Cond.code M2 method_3_code 1 (some .int) :: ws) ({ frames := 0, cells := 0, slots := 0, locals := 0 } : Room)) (fun a U => a = #[(.ref a_TRUE)] ∧ Z.Warmed39 U.vm ∧ U.heap = h0) (fun _ _ _ _ _ => True) (fun _ U o U' => ∃ v L, o = .returned v ∧ Q3_2 Z a_TRUE a_FALSE a_UNKNOWN h0 n0 v U'.heap L ∧ FrameEnd U o U' L ({ frames := 0, cells := 0, slots := 0, locals := 0 } : Room).cells ({ frames := 0, cells := 0, slots := 0, locals := 0 } : Room).slots) := by
 refine MetFree.of_bodySF (plainFor_of_name pn0) hisR ?_
 intro p e s m args below meth c s₁ Bd hml0 hP hK
 obtain ⟨rfl, hZ, hh⟩ := hP
 have hx := Bd.exec
 have hby := Bd.bytes
 have hml : c.maxLocals = 1 := hml0
 have hown : s.vm.findClass "com/example/herald4/herald4/filter/TruthAndPinLaw" = some m.cls := findClass_of_methodNamed Bd.named
 have hnm := (name_of_methodNamed Bd.named Bd.method).1
 have X0 : Stand p l e ({ frames := 0, cells := 0, slots := 0, locals := 0 } : Room) s m #[(.ref a_TRUE)] below meth c s₁ [] 0 0 := Stand.of_body Bd
 have e0 : s₁.heap = h0 := by rw [← hh, Bd.state]; rfl
 have N0 := Fr.nil n0
 let S0 : State → Prop := fun t => Steps p.tables e below (s₁.setTop (entryFrame m #[(.ref a_TRUE)] 1)) t
 have p0 : ∀ t, St p e below s₁ (mkF m 0 #[.val (.ref a_TRUE)] []) t → S0 t := fun t k => castTop (ef3 m a_TRUE) k
 have HE' := HE
 obtain ⟨Sa_TRUE, Ea_TRUE, Sa_FALSE, Ea_FALSE, Fa_TRUE_ordinal, Fa_FALSE_ordinal, Sa_UNKNOWN, Ea_UNKNOWN, Fa_UNKNOWN_ordinal⟩ := HE
 have p1 : ∀ t, St p e below s₁ (mkF m 1 #[.val (.ref a_TRUE)] [(.ref a_TRUE)]) t → S0 t := fun t k => p0 t (by
   show St p e below s₁ (mkF m 0 #[.val (.ref a_TRUE)] []) t
   refine XS.aloadN X0.here hx rfl (hb hby d3_0) rfl rfl ?_
   exact k)
 obtain ⟨T2, X2, e2, st2⟩ := getS2 X0 hx hZ hown (host := "") (Or.inl (ww hw 21 rfl)) Via.refl e0 (Sa_FALSE.ext O0.2) (g := (mkF m 1 #[.val (.ref a_TRUE)] [(.ref a_TRUE)])) rfl (hb hby d3_1)
 have p3 : ∀ t, St p e below T2 (mkF m 4 #[.val (.ref a_TRUE)] [(.ref a_FALSE), (.ref a_TRUE)]) t → S0 t := fun t k => p1 t (st2 t k)
 have p4 : ∀ t, St p e below T2 (mkF m 10 #[.val (.ref a_TRUE)] [(.ref a_TRUE)]) t → S0 t := fun t k => p3 t (by
   show St p e below T2 (mkF m 4 #[.val (.ref a_TRUE)] [(.ref a_FALSE), (.ref a_TRUE)]) t
   refine Jvm.RoadKit.acmp (g := (mkF m 4 #[.val (.ref a_TRUE)] [(.ref a_FALSE), (.ref a_TRUE)])) X2 hx rfl rfl rfl (pc0 := 4) (pc' := 9) (same := false) rfl (hb hby d3_4) rfl (decide_eq_false fun q => (Fld.ne Fa_TRUE_ordinal Fa_FALSE_ordinal (fun q => absurd (Value.int.inj q) (by decide))) (Value.ref.inj q)) (by decide) (by decide) ?_
   show St p e below T2 (mkF m 9 #[.val (.ref a_TRUE)] []) t
   refine XS.aloadN X2.here hx rfl (hb hby d3_9) rfl rfl ?_
   exact k)
 obtain ⟨T5, X5, e5, st5⟩ := getS2 X2 hx hZ hown (host := "") (Or.inl (ww hw 22 rfl)) Via.refl e2 (Sa_UNKNOWN.ext O0.2) (g := (mkF m 10 #[.val (.ref a_TRUE)] [(.ref a_TRUE)])) rfl (hb hby d3_10)
 have p6 : ∀ t, St p e below T5 (mkF m 13 #[.val (.ref a_TRUE)] [(.ref a_UNKNOWN), (.ref a_TRUE)]) t → S0 t := fun t k => p4 t (st5 t k)
 have p7 : ∀ t, St p e below T5 (mkF m 19 #[.val (.ref a_TRUE)] [(.int (2 : Int32))]) t → S0 t := fun t k => p6 t (by
   show St p e below T5 (mkF m 13 #[.val (.ref a_TRUE)] [(.ref a_UNKNOWN), (.ref a_TRUE)]) t
   refine Jvm.RoadKit.acmp (g := (mkF m 13 #[.val (.ref a_TRUE)] [(.ref a_UNKNOWN), (.ref a_TRUE)])) X5 hx rfl rfl rfl (pc0 := 13) (pc' := 18) (same := false) rfl (hb hby d3_13) rfl (decide_eq_false fun q => (Fld.ne Fa_TRUE_ordinal Fa_UNKNOWN_ordinal (fun q => absurd (Value.int.inj q) (by decide))) (Value.ref.inj q)) (by decide) (by decide) ?_
   show St p e below T5 (mkF m 18 #[.val (.ref a_TRUE)] []) t
   refine XT.iconstV X5.here hx rfl (2 : Int32) (hb hby d3_18) (by decide) ?_
   exact k)
 obtain ⟨fs, hr, hrun, hended, hW, hsame⟩ := X5.leave (v := some (.int (2 : Int32))) (fun h => by rw [Bd.returns] at h; cases h)
 refine ⟨_, _, p7 _ ?_, hrun, hended, _, _, rfl, ?_, ⟨_, rfl⟩, hW, hsame.mono (by decide) (by decide)⟩
 · exact retOut X5 hx Bd.returns rfl (Or.inl ⟨rfl, by simp, _, rfl⟩) (hb hby d3_19) hr
 · show Q3_2 Z a_TRUE a_FALSE a_UNKNOWN h0 n0 _ T5.heap _
   exact ⟨N0, e5, rfl⟩
theorem pd2 : parseMethodDescriptor "(Lcom/example/herald4/herald4/filter/Truth;)I" = some ⟨[(.object "com/example/herald4/herald4/filter/Truth")], some .int⟩ := by decide +kernel
theorem ef4 (m : MethodId) (x0 : Int32) (x1 : Int32) : entryFrame m #[(.int x0), (.int x1)] 2 = mkF m 0 #[.val (.int x0), .val (.int x1)] [] := by first | (simp [entryFrame, mkF, argsToLocals, Value.category]; done) | rfl
theorem d4_0 : decode jdk_29_method_69_code 0 = .ok (.iload_n 0, 1) := by decide +kernel
theorem d4_1 : decode jdk_29_method_69_code 1 = .ok (.iload_n 1, 1) := by decide +kernel
theorem d4_2 : decode jdk_29_method_69_code 2 = .ok (.if_icmp .gt 7, 3) := by decide +kernel
theorem d4_5 : decode jdk_29_method_69_code 5 = .ok (.iload_n 0, 1) := by decide +kernel
theorem d4_6 : decode jdk_29_method_69_code 6 = .ok (.goto 4, 3) := by decide +kernel
theorem d4_10 : decode jdk_29_method_69_code 10 = .ok (.ireturn, 1) := by decide +kernel
def Q4_3 (Z : State) (a_TRUE : Addr) (a_FALSE : Addr) (a_UNKNOWN : Addr) (h0 : Heap) (n0 : Nat) (v : Option Value) (h : Heap) (L : List Loc) : Prop := Fr n0 L ∧ h = h0 ∧ ((v = some (.int (2 : Int32))))
set_option maxRecDepth 65536 in
set_option maxHeartbeats 40000000 in
theorem rm4_3 (l : Launch) (Z : State) (a0 : Array Value) (hw : ∀ d ∈ tables_1, d.before a0 Z = true) (ws : List Jvm.Cond) (a_TRUE : Addr) (a_FALSE : Addr) (a_UNKNOWN : Addr) (h0 : Heap) (n0 : Nat) (O0 : Old Z n0 h0) (HE : Env1 Z a_TRUE a_FALSE a_UNKNOWN)  :
    MetFree l M3 (head1 (Jvm.Cond.code M3 jdk_29_method_69_code 2 (some .int) :: ws) ({ frames := 0, cells := 0, slots := 0, locals := 0 } : Room)) (fun a U => a = #[(.int (2 : Int32)), (.int (2 : Int32))] ∧ Z.Warmed39 U.vm ∧ U.heap = h0) (fun _ _ _ _ _ => True) (fun _ U o U' => ∃ v L, o = .returned v ∧ Q4_3 Z a_TRUE a_FALSE a_UNKNOWN h0 n0 v U'.heap L ∧ FrameEnd U o U' L ({ frames := 0, cells := 0, slots := 0, locals := 0 } : Room).cells ({ frames := 0, cells := 0, slots := 0, locals := 0 } : Room).slots) := by
 refine MetFree.of_bodySF (Jvm.Free.JP.mathPlain rfl (by decide +kernel)) hisR ?_
 intro p e s m args below meth c s₁ Bd hml0 hP hK
 obtain ⟨rfl, hZ, hh⟩ := hP
 have hx := Bd.exec
 have hby := Bd.bytes
 have hml : c.maxLocals = 2 := hml0
 have hown : s.vm.findClass "java/lang/Math" = some m.cls := findClass_of_methodNamed Bd.named
 have hnm := (name_of_methodNamed Bd.named Bd.method).1
 have X0 : Stand p l e ({ frames := 0, cells := 0, slots := 0, locals := 0 } : Room) s m #[(.int (2 : Int32)), (.int (2 : Int32))] below meth c s₁ [] 0 0 := Stand.of_body Bd
 have e0 : s₁.heap = h0 := by rw [← hh, Bd.state]; rfl
 have N0 := Fr.nil n0
 let S0 : State → Prop := fun t => Steps p.tables e below (s₁.setTop (entryFrame m #[(.int (2 : Int32)), (.int (2 : Int32))] 2)) t
 have p0 : ∀ t, St p e below s₁ (mkF m 0 #[.val (.int (2 : Int32)), .val (.int (2 : Int32))] []) t → S0 t := fun t k => castTop (ef4 m (2 : Int32) (2 : Int32)) k
 have HE' := HE
 obtain ⟨Sa_TRUE, Ea_TRUE, Sa_FALSE, Ea_FALSE, Fa_TRUE_ordinal, Fa_FALSE_ordinal, Sa_UNKNOWN, Ea_UNKNOWN, Fa_UNKNOWN_ordinal⟩ := HE
 have p1 : ∀ t, St p e below s₁ (mkF m 10 #[.val (.int (2 : Int32)), .val (.int (2 : Int32))] [(.int (2 : Int32))]) t → S0 t := fun t k => p0 t (by
   show St p e below s₁ (mkF m 0 #[.val (.int (2 : Int32)), .val (.int (2 : Int32))] []) t
   refine XS.iloadN X0.here hx rfl (hb hby d4_0) rfl ?_
   show St p e below s₁ (mkF m 1 #[.val (.int (2 : Int32)), .val (.int (2 : Int32))] [(.int (2 : Int32))]) t
   refine XS.iloadN X0.here hx rfl (hb hby d4_1) rfl ?_
   show St p e below s₁ (mkF m 2 #[.val (.int (2 : Int32)), .val (.int (2 : Int32))] [(.int (2 : Int32)), (.int (2 : Int32))]) t
   refine XS.icmpNo X0.here hx rfl (hb hby d4_2) rfl (flt (by decide : ¬ ((2 : Int32) < (2 : Int32)))).2.2.1 ?_
   show St p e below s₁ (mkF m 5 #[.val (.int (2 : Int32)), .val (.int (2 : Int32))] []) t
   refine XS.iloadN X0.here hx rfl (hb hby d4_5) rfl ?_
   show St p e below s₁ (mkF m 6 #[.val (.int (2 : Int32)), .val (.int (2 : Int32))] [(.int (2 : Int32))]) t
   refine XS.goto X0.here hx rfl (pc0 := 6) (pc' := 10) rfl (hb hby d4_6) (by decide) (by decide) ?_
   exact k)
 obtain ⟨fs, hr, hrun, hended, hW, hsame⟩ := X0.leave (v := some (.int (2 : Int32))) (fun h => by rw [Bd.returns] at h; cases h)
 refine ⟨_, _, p1 _ ?_, hrun, hended, _, _, rfl, ?_, ⟨_, rfl⟩, hW, hsame.mono (by decide) (by decide)⟩
 · exact retOut X0 hx Bd.returns rfl (Or.inl ⟨rfl, by simp, _, rfl⟩) (hb hby d4_10) hr
 · show Q4_3 Z a_TRUE a_FALSE a_UNKNOWN h0 n0 _ s₁.heap _
   exact ⟨N0, e0, rfl⟩
theorem pd3 : parseMethodDescriptor "(II)I" = some ⟨[.int, .int], some .int⟩ := by decide +kernel
theorem ef5 (m : MethodId) (x0 : Int32) : entryFrame m #[(.int x0)] 1 = mkF m 0 #[.val (.int x0)] [] := by first | (simp [entryFrame, mkF, argsToLocals, Value.category]; done) | rfl
theorem d5_0 : decode method_4_code 0 = .ok (.iload_n 0, 1) := by decide +kernel
theorem d5_1 : decode method_4_code 1 = .ok (.ifCond .ne 7, 3) := by decide +kernel
theorem d5_8 : decode method_4_code 8 = .ok (.iload_n 0, 1) := by decide +kernel
theorem d5_9 : decode method_4_code 9 = .ok (.iconst 1, 1) := by decide +kernel
theorem d5_10 : decode method_4_code 10 = .ok (.if_icmp .ne 7, 3) := by decide +kernel
theorem d5_17 : decode method_4_code 17 = .ok (.getstatic 7, 3) := by decide +kernel
theorem d5_20 : decode method_4_code 20 = .ok (.areturn, 1) := by decide +kernel
def Q5_4 (Z : State) (a_TRUE : Addr) (a_FALSE : Addr) (a_UNKNOWN : Addr) (h0 : Heap) (n0 : Nat) (v : Option Value) (h : Heap) (L : List Loc) : Prop := Fr n0 L ∧ h = h0 ∧ ((v = some (.ref a_TRUE)))
set_option maxRecDepth 65536 in
set_option maxHeartbeats 40000000 in
theorem rm5_4 (l : Launch) (Z : State) (a0 : Array Value) (hw : ∀ d ∈ tables_1, d.before a0 Z = true) (ws : List Jvm.Cond) (a_TRUE : Addr) (a_FALSE : Addr) (a_UNKNOWN : Addr) (h0 : Heap) (n0 : Nat) (O0 : Old Z n0 h0) (HE : Env1 Z a_TRUE a_FALSE a_UNKNOWN)  :
    MetFree l M4 (head1 (Jvm.Cond.code M4 method_4_code 1 (some (.object "com/example/herald4/herald4/filter/Truth")) :: ws) ({ frames := 0, cells := 0, slots := 0, locals := 0 } : Room)) (fun a U => a = #[(.int (2 : Int32))] ∧ Z.Warmed39 U.vm ∧ U.heap = h0) (fun _ _ _ _ _ => True) (fun _ U o U' => ∃ v L, o = .returned v ∧ Q5_4 Z a_TRUE a_FALSE a_UNKNOWN h0 n0 v U'.heap L ∧ FrameEnd U o U' L ({ frames := 0, cells := 0, slots := 0, locals := 0 } : Room).cells ({ frames := 0, cells := 0, slots := 0, locals := 0 } : Room).slots) := by
 refine MetFree.of_bodySF (plainFor_of_name pn0) hisR ?_
 intro p e s m args below meth c s₁ Bd hml0 hP hK
 obtain ⟨rfl, hZ, hh⟩ := hP
 have hx := Bd.exec
 have hby := Bd.bytes
 have hml : c.maxLocals = 1 := hml0
 have hown : s.vm.findClass "com/example/herald4/herald4/filter/TruthAndPinLaw" = some m.cls := findClass_of_methodNamed Bd.named
 have hnm := (name_of_methodNamed Bd.named Bd.method).1
 have X0 : Stand p l e ({ frames := 0, cells := 0, slots := 0, locals := 0 } : Room) s m #[(.int (2 : Int32))] below meth c s₁ [] 0 0 := Stand.of_body Bd
 have e0 : s₁.heap = h0 := by rw [← hh, Bd.state]; rfl
 have N0 := Fr.nil n0
 let S0 : State → Prop := fun t => Steps p.tables e below (s₁.setTop (entryFrame m #[(.int (2 : Int32))] 1)) t
 have p0 : ∀ t, St p e below s₁ (mkF m 0 #[.val (.int (2 : Int32))] []) t → S0 t := fun t k => castTop (ef5 m (2 : Int32)) k
 have HE' := HE
 obtain ⟨Sa_TRUE, Ea_TRUE, Sa_FALSE, Ea_FALSE, Fa_TRUE_ordinal, Fa_FALSE_ordinal, Sa_UNKNOWN, Ea_UNKNOWN, Fa_UNKNOWN_ordinal⟩ := HE
 have p1 : ∀ t, St p e below s₁ (mkF m 17 #[.val (.int (2 : Int32))] []) t → S0 t := fun t k => p0 t (by
   show St p e below s₁ (mkF m 0 #[.val (.int (2 : Int32))] []) t
   refine XS.iloadN X0.here hx rfl (hb hby d5_0) rfl ?_
   show St p e below s₁ (mkF m 1 #[.val (.int (2 : Int32))] [(.int (2 : Int32))]) t
   refine XS.ifYes X0.here hx rfl (pc0 := 1) (pc' := 8) rfl (hb hby d5_1) rfl ((if0 _ _).trans (feq (by decide : ¬ ((2 : Int32) = (0 : Int32)))).2) (by decide) (by decide) ?_
   show St p e below s₁ (mkF m 8 #[.val (.int (2 : Int32))] []) t
   refine XS.iloadN X0.here hx rfl (hb hby d5_8) rfl ?_
   show St p e below s₁ (mkF m 9 #[.val (.int (2 : Int32))] [(.int (2 : Int32))]) t
   refine XT.iconstV X0.here hx rfl (1 : Int32) (hb hby d5_9) (by decide) ?_
   show St p e below s₁ (mkF m 10 #[.val (.int (2 : Int32))] [(.int (1 : Int32)), (.int (2 : Int32))]) t
   refine XS.icmpYes X0.here hx rfl (pc0 := 10) (pc' := 17) rfl (hb hby d5_10) rfl (feq (by decide : ¬ ((2 : Int32) = (1 : Int32)))).2 (by decide) (by decide) ?_
   exact k)
 obtain ⟨T2, X2, e2, st2⟩ := getS2 X0 hx hZ hown (host := "") (Or.inl (ww hw 5 rfl)) Via.refl e0 (Sa_TRUE.ext O0.2) (g := (mkF m 17 #[.val (.int (2 : Int32))] [])) rfl (hb hby d5_17)
 have p3 : ∀ t, St p e below T2 (mkF m 20 #[.val (.int (2 : Int32))] [(.ref a_TRUE)]) t → S0 t := fun t k => p1 t (st2 t k)
 obtain ⟨fs, hr, hrun, hended, hW, hsame⟩ := X2.leave (v := some (.ref a_TRUE)) (fun h => by rw [Bd.returns] at h; cases h)
 refine ⟨_, _, p3 _ ?_, hrun, hended, _, _, rfl, ?_, ⟨_, rfl⟩, hW, hsame.mono (by decide) (by decide)⟩
 · exact retOut X2 hx Bd.returns rfl (Or.inr (Or.inr (Or.inr (Or.inr ⟨rfl, rfl, rfl⟩)))) (hb hby d5_20) hr
 · show Q5_4 Z a_TRUE a_FALSE a_UNKNOWN h0 n0 _ T2.heap _
   exact ⟨N0, e2, rfl⟩
theorem d2_14 : decode prog_32_method_6_code 14 = .ok (.getstatic 7, 3) := by decide +kernel
theorem d2_17 : decode prog_32_method_6_code 17 = .ok (.astore_n 2, 1) := by decide +kernel
theorem d2_18 : decode prog_32_method_6_code 18 = .ok (.goto 28, 3) := by decide +kernel
def Q2_5 (Z : State) (a_TRUE : Addr) (a_FALSE : Addr) (a_UNKNOWN : Addr) (h0 : Heap) (n0 : Nat) (v : Option Value) (h : Heap) (L : List Loc) : Prop := Fr n0 L ∧ h = h0 ∧ ((v = some (.ref a_FALSE)))
set_option maxRecDepth 65536 in
set_option maxHeartbeats 40000000 in
theorem rm2_5 (l : Launch) (Z : State) (a0 : Array Value) (hw : ∀ d ∈ tables_1, d.before a0 Z = true) (ws : List Jvm.Cond) (a_TRUE : Addr) (a_FALSE : Addr) (a_UNKNOWN : Addr) (h0 : Heap) (n0 : Nat) (O0 : Old Z n0 h0) (HE : Env1 Z a_TRUE a_FALSE a_UNKNOWN)  :
    MetFree l M1 (head1 (Jvm.Cond.code M1 prog_32_method_6_code 3 (some (.object "com/example/herald4/herald4/filter/Truth")) :: ws) ({ frames := 0, cells := 0, slots := 0, locals := 0 } : Room)) (fun a U => a = #[(.ref a_TRUE), (.ref a_FALSE)] ∧ Z.Warmed39 U.vm ∧ U.heap = h0) (fun _ _ _ _ _ => True) (fun _ U o U' => ∃ v L, o = .returned v ∧ Q2_5 Z a_TRUE a_FALSE a_UNKNOWN h0 n0 v U'.heap L ∧ FrameEnd U o U' L ({ frames := 0, cells := 0, slots := 0, locals := 0 } : Room).cells ({ frames := 0, cells := 0, slots := 0, locals := 0 } : Room).slots) := by
 refine MetFree.of_bodySF (plainFor_of_name pn1) hisR ?_
 intro p e s m args below meth c s₁ Bd hml0 hP hK
 obtain ⟨rfl, hZ, hh⟩ := hP
 have hx := Bd.exec
 have hby := Bd.bytes
 have hml : c.maxLocals = 3 := hml0
 have hown : s.vm.findClass "com/example/herald4/herald4/filter/Truth" = some m.cls := findClass_of_methodNamed Bd.named
 have hnm := (name_of_methodNamed Bd.named Bd.method).1
 have X0 : Stand p l e ({ frames := 0, cells := 0, slots := 0, locals := 0 } : Room) s m #[(.ref a_TRUE), (.ref a_FALSE)] below meth c s₁ [] 0 0 := Stand.of_body Bd
 have e0 : s₁.heap = h0 := by rw [← hh, Bd.state]; rfl
 have N0 := Fr.nil n0
 let S0 : State → Prop := fun t => Steps p.tables e below (s₁.setTop (entryFrame m #[(.ref a_TRUE), (.ref a_FALSE)] 3)) t
 have p0 : ∀ t, St p e below s₁ (mkF m 0 #[.val (.ref a_TRUE), .val (.ref a_FALSE), .unset] []) t → S0 t := fun t k => castTop (ef2 m a_TRUE a_FALSE) k
 have HE' := HE
 obtain ⟨Sa_TRUE, Ea_TRUE, Sa_FALSE, Ea_FALSE, Fa_TRUE_ordinal, Fa_FALSE_ordinal, Sa_UNKNOWN, Ea_UNKNOWN, Fa_UNKNOWN_ordinal⟩ := HE
 have p1 : ∀ t, St p e below s₁ (mkF m 1 #[.val (.ref a_TRUE), .val (.ref a_FALSE), .unset] [(.ref a_TRUE)]) t → S0 t := fun t k => p0 t (by
   show St p e below s₁ (mkF m 0 #[.val (.ref a_TRUE), .val (.ref a_FALSE), .unset] []) t
   refine XS.aloadN X0.here hx rfl (hb hby d2_0) rfl rfl ?_
   exact k)
 obtain ⟨T2, X2, e2, st2⟩ := getS2 X0 hx hZ hown (host := "") (Or.inl (ww hw 13 rfl)) Via.refl e0 (Sa_FALSE.ext O0.2) (g := (mkF m 1 #[.val (.ref a_TRUE), .val (.ref a_FALSE), .unset] [(.ref a_TRUE)])) rfl (hb hby d2_1)
 have p3 : ∀ t, St p e below T2 (mkF m 4 #[.val (.ref a_TRUE), .val (.ref a_FALSE), .unset] [(.ref a_FALSE), (.ref a_TRUE)]) t → S0 t := fun t k => p1 t (st2 t k)
 have p4 : ∀ t, St p e below T2 (mkF m 8 #[.val (.ref a_TRUE), .val (.ref a_FALSE), .unset] [(.ref a_FALSE)]) t → S0 t := fun t k => p3 t (by
   show St p e below T2 (mkF m 4 #[.val (.ref a_TRUE), .val (.ref a_FALSE), .unset] [(.ref a_FALSE), (.ref a_TRUE)]) t
   refine Jvm.RoadKit.acmp (g := (mkF m 4 #[.val (.ref a_TRUE), .val (.ref a_FALSE), .unset] [(.ref a_FALSE), (.ref a_TRUE)])) X2 hx rfl rfl rfl (pc0 := 4) (pc' := 7) (same := false) rfl (hb hby d2_4) rfl (decide_eq_false fun q => (Fld.ne Fa_TRUE_ordinal Fa_FALSE_ordinal (fun q => absurd (Value.int.inj q) (by decide))) (Value.ref.inj q)) (by decide) (by decide) ?_
   show St p e below T2 (mkF m 7 #[.val (.ref a_TRUE), .val (.ref a_FALSE), .unset] []) t
   refine XS.aloadN X2.here hx rfl (hb hby d2_7) rfl rfl ?_
   exact k)
 obtain ⟨T5, X5, e5, st5⟩ := getS2 X2 hx hZ hown (host := "") (Or.inl (ww hw 13 rfl)) Via.refl e2 (Sa_FALSE.ext O0.2) (g := (mkF m 8 #[.val (.ref a_TRUE), .val (.ref a_FALSE), .unset] [(.ref a_FALSE)])) rfl (hb hby d2_8)
 have p6 : ∀ t, St p e below T5 (mkF m 11 #[.val (.ref a_TRUE), .val (.ref a_FALSE), .unset] [(.ref a_FALSE), (.ref a_FALSE)]) t → S0 t := fun t k => p4 t (st5 t k)
 have p7 : ∀ t, St p e below T5 (mkF m 14 #[.val (.ref a_TRUE), .val (.ref a_FALSE), .unset] []) t → S0 t := fun t k => p6 t (by
   show St p e below T5 (mkF m 11 #[.val (.ref a_TRUE), .val (.ref a_FALSE), .unset] [(.ref a_FALSE), (.ref a_FALSE)]) t
   refine Jvm.RoadKit.acmp (g := (mkF m 11 #[.val (.ref a_TRUE), .val (.ref a_FALSE), .unset] [(.ref a_FALSE), (.ref a_FALSE)])) X5 hx rfl rfl rfl (pc0 := 11) (pc' := 14) (same := true) rfl (hb hby d2_11) rfl (decide_eq_true rfl) (by decide) (by decide) ?_
   exact k)
 obtain ⟨T8, X8, e8, st8⟩ := getS2 X5 hx hZ hown (host := "") (Or.inl (ww hw 13 rfl)) Via.refl e5 (Sa_FALSE.ext O0.2) (g := (mkF m 14 #[.val (.ref a_TRUE), .val (.ref a_FALSE), .unset] [])) rfl (hb hby d2_14)
 have p9 : ∀ t, St p e below T8 (mkF m 17 #[.val (.ref a_TRUE), .val (.ref a_FALSE), .unset] [(.ref a_FALSE)]) t → S0 t := fun t k => p7 t (st8 t k)
 let Ls10 : Array Slot := #[.val (.ref a_TRUE), .val (.ref a_FALSE), .val (.ref a_FALSE)]
 have p11 : ∀ t, St p e below T8 (mkF m 47 Ls10 [(.ref a_FALSE)]) t → S0 t := fun t k => p9 t (by
   show St p e below T8 (mkF m 17 #[.val (.ref a_TRUE), .val (.ref a_FALSE), .unset] [(.ref a_FALSE)]) t
   refine XS.astoreN X8.here hx rfl (hb hby d2_17) rfl rfl (l' := Ls10) rfl ?_
   show St p e below T8 (mkF m 18 Ls10 []) t
   refine XS.goto X8.here hx rfl (pc0 := 18) (pc' := 46) rfl (hb hby d2_18) (by decide) (by decide) ?_
   show St p e below T8 (mkF m 46 Ls10 []) t
   refine XS.aloadN X8.here hx rfl (hb hby d2_46) rfl rfl ?_
   exact k)
 obtain ⟨fs, hr, hrun, hended, hW, hsame⟩ := X8.leave (v := some (.ref a_FALSE)) (fun h => by rw [Bd.returns] at h; cases h)
 refine ⟨_, _, p11 _ ?_, hrun, hended, _, _, rfl, ?_, ⟨_, rfl⟩, hW, hsame.mono (by decide) (by decide)⟩
 · exact retOut X8 hx Bd.returns rfl (Or.inr (Or.inr (Or.inr (Or.inr ⟨rfl, rfl, rfl⟩)))) (hb hby d2_47) hr
 · show Q2_5 Z a_TRUE a_FALSE a_UNKNOWN h0 n0 _ T8.heap _
   exact ⟨N0, e8, rfl⟩
theorem d3_7 : decode method_3_code 7 = .ok (.iconst 0, 1) := by decide +kernel
theorem d3_8 : decode method_3_code 8 = .ok (.ireturn, 1) := by decide +kernel
def Q3_6 (Z : State) (a_TRUE : Addr) (a_FALSE : Addr) (a_UNKNOWN : Addr) (h0 : Heap) (n0 : Nat) (v : Option Value) (h : Heap) (L : List Loc) : Prop := Fr n0 L ∧ h = h0 ∧ ((v = some (.int (0 : Int32))))
set_option maxRecDepth 65536 in
set_option maxHeartbeats 40000000 in
theorem rm3_6 (l : Launch) (Z : State) (a0 : Array Value) (hw : ∀ d ∈ tables_1, d.before a0 Z = true) (ws : List Jvm.Cond) (a_TRUE : Addr) (a_FALSE : Addr) (a_UNKNOWN : Addr) (h0 : Heap) (n0 : Nat) (O0 : Old Z n0 h0) (HE : Env1 Z a_TRUE a_FALSE a_UNKNOWN)  :
    MetFree l M2 (head1 (Jvm.Cond.code M2 method_3_code 1 (some .int) :: ws) ({ frames := 0, cells := 0, slots := 0, locals := 0 } : Room)) (fun a U => a = #[(.ref a_FALSE)] ∧ Z.Warmed39 U.vm ∧ U.heap = h0) (fun _ _ _ _ _ => True) (fun _ U o U' => ∃ v L, o = .returned v ∧ Q3_6 Z a_TRUE a_FALSE a_UNKNOWN h0 n0 v U'.heap L ∧ FrameEnd U o U' L ({ frames := 0, cells := 0, slots := 0, locals := 0 } : Room).cells ({ frames := 0, cells := 0, slots := 0, locals := 0 } : Room).slots) := by
 refine MetFree.of_bodySF (plainFor_of_name pn0) hisR ?_
 intro p e s m args below meth c s₁ Bd hml0 hP hK
 obtain ⟨rfl, hZ, hh⟩ := hP
 have hx := Bd.exec
 have hby := Bd.bytes
 have hml : c.maxLocals = 1 := hml0
 have hown : s.vm.findClass "com/example/herald4/herald4/filter/TruthAndPinLaw" = some m.cls := findClass_of_methodNamed Bd.named
 have hnm := (name_of_methodNamed Bd.named Bd.method).1
 have X0 : Stand p l e ({ frames := 0, cells := 0, slots := 0, locals := 0 } : Room) s m #[(.ref a_FALSE)] below meth c s₁ [] 0 0 := Stand.of_body Bd
 have e0 : s₁.heap = h0 := by rw [← hh, Bd.state]; rfl
 have N0 := Fr.nil n0
 let S0 : State → Prop := fun t => Steps p.tables e below (s₁.setTop (entryFrame m #[(.ref a_FALSE)] 1)) t
 have p0 : ∀ t, St p e below s₁ (mkF m 0 #[.val (.ref a_FALSE)] []) t → S0 t := fun t k => castTop (ef3 m a_FALSE) k
 have HE' := HE
 obtain ⟨Sa_TRUE, Ea_TRUE, Sa_FALSE, Ea_FALSE, Fa_TRUE_ordinal, Fa_FALSE_ordinal, Sa_UNKNOWN, Ea_UNKNOWN, Fa_UNKNOWN_ordinal⟩ := HE
 have p1 : ∀ t, St p e below s₁ (mkF m 1 #[.val (.ref a_FALSE)] [(.ref a_FALSE)]) t → S0 t := fun t k => p0 t (by
   show St p e below s₁ (mkF m 0 #[.val (.ref a_FALSE)] []) t
   refine XS.aloadN X0.here hx rfl (hb hby d3_0) rfl rfl ?_
   exact k)
 obtain ⟨T2, X2, e2, st2⟩ := getS2 X0 hx hZ hown (host := "") (Or.inl (ww hw 21 rfl)) Via.refl e0 (Sa_FALSE.ext O0.2) (g := (mkF m 1 #[.val (.ref a_FALSE)] [(.ref a_FALSE)])) rfl (hb hby d3_1)
 have p3 : ∀ t, St p e below T2 (mkF m 4 #[.val (.ref a_FALSE)] [(.ref a_FALSE), (.ref a_FALSE)]) t → S0 t := fun t k => p1 t (st2 t k)
 have p4 : ∀ t, St p e below T2 (mkF m 8 #[.val (.ref a_FALSE)] [(.int (0 : Int32))]) t → S0 t := fun t k => p3 t (by
   show St p e below T2 (mkF m 4 #[.val (.ref a_FALSE)] [(.ref a_FALSE), (.ref a_FALSE)]) t
   refine Jvm.RoadKit.acmp (g := (mkF m 4 #[.val (.ref a_FALSE)] [(.ref a_FALSE), (.ref a_FALSE)])) X2 hx rfl rfl rfl (pc0 := 4) (pc' := 7) (same := true) rfl (hb hby d3_4) rfl (decide_eq_true rfl) (by decide) (by decide) ?_
   show St p e below T2 (mkF m 7 #[.val (.ref a_FALSE)] []) t
   refine XT.iconstV X2.here hx rfl (0 : Int32) (hb hby d3_7) (by decide) ?_
   exact k)
 obtain ⟨fs, hr, hrun, hended, hW, hsame⟩ := X2.leave (v := some (.int (0 : Int32))) (fun h => by rw [Bd.returns] at h; cases h)
 refine ⟨_, _, p4 _ ?_, hrun, hended, _, _, rfl, ?_, ⟨_, rfl⟩, hW, hsame.mono (by decide) (by decide)⟩
 · exact retOut X2 hx Bd.returns rfl (Or.inl ⟨rfl, by simp, _, rfl⟩) (hb hby d3_8) hr
 · show Q3_6 Z a_TRUE a_FALSE a_UNKNOWN h0 n0 _ T2.heap _
   exact ⟨N0, e2, rfl⟩
theorem d4_9 : decode jdk_29_method_69_code 9 = .ok (.iload_n 1, 1) := by decide +kernel
def Q4_7 (Z : State) (a_TRUE : Addr) (a_FALSE : Addr) (a_UNKNOWN : Addr) (h0 : Heap) (n0 : Nat) (v : Option Value) (h : Heap) (L : List Loc) : Prop := Fr n0 L ∧ h = h0 ∧ ((v = some (.int (0 : Int32))))
set_option maxRecDepth 65536 in
set_option maxHeartbeats 40000000 in
theorem rm4_7 (l : Launch) (Z : State) (a0 : Array Value) (hw : ∀ d ∈ tables_1, d.before a0 Z = true) (ws : List Jvm.Cond) (a_TRUE : Addr) (a_FALSE : Addr) (a_UNKNOWN : Addr) (h0 : Heap) (n0 : Nat) (O0 : Old Z n0 h0) (HE : Env1 Z a_TRUE a_FALSE a_UNKNOWN)  :
    MetFree l M3 (head1 (Jvm.Cond.code M3 jdk_29_method_69_code 2 (some .int) :: ws) ({ frames := 0, cells := 0, slots := 0, locals := 0 } : Room)) (fun a U => a = #[(.int (2 : Int32)), (.int (0 : Int32))] ∧ Z.Warmed39 U.vm ∧ U.heap = h0) (fun _ _ _ _ _ => True) (fun _ U o U' => ∃ v L, o = .returned v ∧ Q4_7 Z a_TRUE a_FALSE a_UNKNOWN h0 n0 v U'.heap L ∧ FrameEnd U o U' L ({ frames := 0, cells := 0, slots := 0, locals := 0 } : Room).cells ({ frames := 0, cells := 0, slots := 0, locals := 0 } : Room).slots) := by
 refine MetFree.of_bodySF (Jvm.Free.JP.mathPlain rfl (by decide +kernel)) hisR ?_
 intro p e s m args below meth c s₁ Bd hml0 hP hK
 obtain ⟨rfl, hZ, hh⟩ := hP
 have hx := Bd.exec
 have hby := Bd.bytes
 have hml : c.maxLocals = 2 := hml0
 have hown : s.vm.findClass "java/lang/Math" = some m.cls := findClass_of_methodNamed Bd.named
 have hnm := (name_of_methodNamed Bd.named Bd.method).1
 have X0 : Stand p l e ({ frames := 0, cells := 0, slots := 0, locals := 0 } : Room) s m #[(.int (2 : Int32)), (.int (0 : Int32))] below meth c s₁ [] 0 0 := Stand.of_body Bd
 have e0 : s₁.heap = h0 := by rw [← hh, Bd.state]; rfl
 have N0 := Fr.nil n0
 let S0 : State → Prop := fun t => Steps p.tables e below (s₁.setTop (entryFrame m #[(.int (2 : Int32)), (.int (0 : Int32))] 2)) t
 have p0 : ∀ t, St p e below s₁ (mkF m 0 #[.val (.int (2 : Int32)), .val (.int (0 : Int32))] []) t → S0 t := fun t k => castTop (ef4 m (2 : Int32) (0 : Int32)) k
 have HE' := HE
 obtain ⟨Sa_TRUE, Ea_TRUE, Sa_FALSE, Ea_FALSE, Fa_TRUE_ordinal, Fa_FALSE_ordinal, Sa_UNKNOWN, Ea_UNKNOWN, Fa_UNKNOWN_ordinal⟩ := HE
 have p1 : ∀ t, St p e below s₁ (mkF m 10 #[.val (.int (2 : Int32)), .val (.int (0 : Int32))] [(.int (0 : Int32))]) t → S0 t := fun t k => p0 t (by
   show St p e below s₁ (mkF m 0 #[.val (.int (2 : Int32)), .val (.int (0 : Int32))] []) t
   refine XS.iloadN X0.here hx rfl (hb hby d4_0) rfl ?_
   show St p e below s₁ (mkF m 1 #[.val (.int (2 : Int32)), .val (.int (0 : Int32))] [(.int (2 : Int32))]) t
   refine XS.iloadN X0.here hx rfl (hb hby d4_1) rfl ?_
   show St p e below s₁ (mkF m 2 #[.val (.int (2 : Int32)), .val (.int (0 : Int32))] [(.int (0 : Int32)), (.int (2 : Int32))]) t
   refine XS.icmpYes X0.here hx rfl (pc0 := 2) (pc' := 9) rfl (hb hby d4_2) rfl (tlt (by decide : (0 : Int32) < (2 : Int32))).2.2.1 (by decide) (by decide) ?_
   show St p e below s₁ (mkF m 9 #[.val (.int (2 : Int32)), .val (.int (0 : Int32))] []) t
   refine XS.iloadN X0.here hx rfl (hb hby d4_9) rfl ?_
   exact k)
 obtain ⟨fs, hr, hrun, hended, hW, hsame⟩ := X0.leave (v := some (.int (0 : Int32))) (fun h => by rw [Bd.returns] at h; cases h)
 refine ⟨_, _, p1 _ ?_, hrun, hended, _, _, rfl, ?_, ⟨_, rfl⟩, hW, hsame.mono (by decide) (by decide)⟩
 · exact retOut X0 hx Bd.returns rfl (Or.inl ⟨rfl, by simp, _, rfl⟩) (hb hby d4_10) hr
 · show Q4_7 Z a_TRUE a_FALSE a_UNKNOWN h0 n0 _ s₁.heap _
   exact ⟨N0, e0, rfl⟩
theorem d5_4 : decode method_4_code 4 = .ok (.getstatic 13, 3) := by decide +kernel
theorem d5_7 : decode method_4_code 7 = .ok (.areturn, 1) := by decide +kernel
def Q5_8 (Z : State) (a_TRUE : Addr) (a_FALSE : Addr) (a_UNKNOWN : Addr) (h0 : Heap) (n0 : Nat) (v : Option Value) (h : Heap) (L : List Loc) : Prop := Fr n0 L ∧ h = h0 ∧ ((v = some (.ref a_FALSE)))
set_option maxRecDepth 65536 in
set_option maxHeartbeats 40000000 in
theorem rm5_8 (l : Launch) (Z : State) (a0 : Array Value) (hw : ∀ d ∈ tables_1, d.before a0 Z = true) (ws : List Jvm.Cond) (a_TRUE : Addr) (a_FALSE : Addr) (a_UNKNOWN : Addr) (h0 : Heap) (n0 : Nat) (O0 : Old Z n0 h0) (HE : Env1 Z a_TRUE a_FALSE a_UNKNOWN)  :
    MetFree l M4 (head1 (Jvm.Cond.code M4 method_4_code 1 (some (.object "com/example/herald4/herald4/filter/Truth")) :: ws) ({ frames := 0, cells := 0, slots := 0, locals := 0 } : Room)) (fun a U => a = #[(.int (0 : Int32))] ∧ Z.Warmed39 U.vm ∧ U.heap = h0) (fun _ _ _ _ _ => True) (fun _ U o U' => ∃ v L, o = .returned v ∧ Q5_8 Z a_TRUE a_FALSE a_UNKNOWN h0 n0 v U'.heap L ∧ FrameEnd U o U' L ({ frames := 0, cells := 0, slots := 0, locals := 0 } : Room).cells ({ frames := 0, cells := 0, slots := 0, locals := 0 } : Room).slots) := by
 refine MetFree.of_bodySF (plainFor_of_name pn0) hisR ?_
 intro p e s m args below meth c s₁ Bd hml0 hP hK
 obtain ⟨rfl, hZ, hh⟩ := hP
 have hx := Bd.exec
 have hby := Bd.bytes
 have hml : c.maxLocals = 1 := hml0
 have hown : s.vm.findClass "com/example/herald4/herald4/filter/TruthAndPinLaw" = some m.cls := findClass_of_methodNamed Bd.named
 have hnm := (name_of_methodNamed Bd.named Bd.method).1
 have X0 : Stand p l e ({ frames := 0, cells := 0, slots := 0, locals := 0 } : Room) s m #[(.int (0 : Int32))] below meth c s₁ [] 0 0 := Stand.of_body Bd
 have e0 : s₁.heap = h0 := by rw [← hh, Bd.state]; rfl
 have N0 := Fr.nil n0
 let S0 : State → Prop := fun t => Steps p.tables e below (s₁.setTop (entryFrame m #[(.int (0 : Int32))] 1)) t
 have p0 : ∀ t, St p e below s₁ (mkF m 0 #[.val (.int (0 : Int32))] []) t → S0 t := fun t k => castTop (ef5 m (0 : Int32)) k
 have HE' := HE
 obtain ⟨Sa_TRUE, Ea_TRUE, Sa_FALSE, Ea_FALSE, Fa_TRUE_ordinal, Fa_FALSE_ordinal, Sa_UNKNOWN, Ea_UNKNOWN, Fa_UNKNOWN_ordinal⟩ := HE
 have p1 : ∀ t, St p e below s₁ (mkF m 4 #[.val (.int (0 : Int32))] []) t → S0 t := fun t k => p0 t (by
   show St p e below s₁ (mkF m 0 #[.val (.int (0 : Int32))] []) t
   refine XS.iloadN X0.here hx rfl (hb hby d5_0) rfl ?_
   show St p e below s₁ (mkF m 1 #[.val (.int (0 : Int32))] [(.int (0 : Int32))]) t
   refine XS.ifNo X0.here hx rfl (hb hby d5_1) rfl ((if0 _ _).trans (teq (by decide : (0 : Int32) = (0 : Int32))).2) ?_
   exact k)
 obtain ⟨T2, X2, e2, st2⟩ := getS2 X0 hx hZ hown (host := "") (Or.inl (ww hw 21 rfl)) Via.refl e0 (Sa_FALSE.ext O0.2) (g := (mkF m 4 #[.val (.int (0 : Int32))] [])) rfl (hb hby d5_4)
 have p3 : ∀ t, St p e below T2 (mkF m 7 #[.val (.int (0 : Int32))] [(.ref a_FALSE)]) t → S0 t := fun t k => p1 t (st2 t k)
 obtain ⟨fs, hr, hrun, hended, hW, hsame⟩ := X2.leave (v := some (.ref a_FALSE)) (fun h => by rw [Bd.returns] at h; cases h)
 refine ⟨_, _, p3 _ ?_, hrun, hended, _, _, rfl, ?_, ⟨_, rfl⟩, hW, hsame.mono (by decide) (by decide)⟩
 · exact retOut X2 hx Bd.returns rfl (Or.inr (Or.inr (Or.inr (Or.inr ⟨rfl, rfl, rfl⟩)))) (hb hby d5_7) hr
 · show Q5_8 Z a_TRUE a_FALSE a_UNKNOWN h0 n0 _ T2.heap _
   exact ⟨N0, e2, rfl⟩
theorem d2_35 : decode prog_32_method_6_code 35 = .ok (.getstatic 10, 3) := by decide +kernel
theorem d2_38 : decode prog_32_method_6_code 38 = .ok (.astore_n 2, 1) := by decide +kernel
theorem d2_39 : decode prog_32_method_6_code 39 = .ok (.goto 7, 3) := by decide +kernel
def Q2_9 (Z : State) (a_TRUE : Addr) (a_FALSE : Addr) (a_UNKNOWN : Addr) (h0 : Heap) (n0 : Nat) (v : Option Value) (h : Heap) (L : List Loc) : Prop := Fr n0 L ∧ h = h0 ∧ ((v = some (.ref a_UNKNOWN)))
set_option maxRecDepth 65536 in
set_option maxHeartbeats 40000000 in
theorem rm2_9 (l : Launch) (Z : State) (a0 : Array Value) (hw : ∀ d ∈ tables_1, d.before a0 Z = true) (ws : List Jvm.Cond) (a_TRUE : Addr) (a_FALSE : Addr) (a_UNKNOWN : Addr) (h0 : Heap) (n0 : Nat) (O0 : Old Z n0 h0) (HE : Env1 Z a_TRUE a_FALSE a_UNKNOWN)  :
    MetFree l M1 (head1 (Jvm.Cond.code M1 prog_32_method_6_code 3 (some (.object "com/example/herald4/herald4/filter/Truth")) :: ws) ({ frames := 0, cells := 0, slots := 0, locals := 0 } : Room)) (fun a U => a = #[(.ref a_TRUE), (.ref a_UNKNOWN)] ∧ Z.Warmed39 U.vm ∧ U.heap = h0) (fun _ _ _ _ _ => True) (fun _ U o U' => ∃ v L, o = .returned v ∧ Q2_9 Z a_TRUE a_FALSE a_UNKNOWN h0 n0 v U'.heap L ∧ FrameEnd U o U' L ({ frames := 0, cells := 0, slots := 0, locals := 0 } : Room).cells ({ frames := 0, cells := 0, slots := 0, locals := 0 } : Room).slots) := by
 refine MetFree.of_bodySF (plainFor_of_name pn1) hisR ?_
 intro p e s m args below meth c s₁ Bd hml0 hP hK
 obtain ⟨rfl, hZ, hh⟩ := hP
 have hx := Bd.exec
 have hby := Bd.bytes
 have hml : c.maxLocals = 3 := hml0
 have hown : s.vm.findClass "com/example/herald4/herald4/filter/Truth" = some m.cls := findClass_of_methodNamed Bd.named
 have hnm := (name_of_methodNamed Bd.named Bd.method).1
 have X0 : Stand p l e ({ frames := 0, cells := 0, slots := 0, locals := 0 } : Room) s m #[(.ref a_TRUE), (.ref a_UNKNOWN)] below meth c s₁ [] 0 0 := Stand.of_body Bd
 have e0 : s₁.heap = h0 := by rw [← hh, Bd.state]; rfl
 have N0 := Fr.nil n0
 let S0 : State → Prop := fun t => Steps p.tables e below (s₁.setTop (entryFrame m #[(.ref a_TRUE), (.ref a_UNKNOWN)] 3)) t
 have p0 : ∀ t, St p e below s₁ (mkF m 0 #[.val (.ref a_TRUE), .val (.ref a_UNKNOWN), .unset] []) t → S0 t := fun t k => castTop (ef2 m a_TRUE a_UNKNOWN) k
 have HE' := HE
 obtain ⟨Sa_TRUE, Ea_TRUE, Sa_FALSE, Ea_FALSE, Fa_TRUE_ordinal, Fa_FALSE_ordinal, Sa_UNKNOWN, Ea_UNKNOWN, Fa_UNKNOWN_ordinal⟩ := HE
 have p1 : ∀ t, St p e below s₁ (mkF m 1 #[.val (.ref a_TRUE), .val (.ref a_UNKNOWN), .unset] [(.ref a_TRUE)]) t → S0 t := fun t k => p0 t (by
   show St p e below s₁ (mkF m 0 #[.val (.ref a_TRUE), .val (.ref a_UNKNOWN), .unset] []) t
   refine XS.aloadN X0.here hx rfl (hb hby d2_0) rfl rfl ?_
   exact k)
 obtain ⟨T2, X2, e2, st2⟩ := getS2 X0 hx hZ hown (host := "") (Or.inl (ww hw 13 rfl)) Via.refl e0 (Sa_FALSE.ext O0.2) (g := (mkF m 1 #[.val (.ref a_TRUE), .val (.ref a_UNKNOWN), .unset] [(.ref a_TRUE)])) rfl (hb hby d2_1)
 have p3 : ∀ t, St p e below T2 (mkF m 4 #[.val (.ref a_TRUE), .val (.ref a_UNKNOWN), .unset] [(.ref a_FALSE), (.ref a_TRUE)]) t → S0 t := fun t k => p1 t (st2 t k)
 have p4 : ∀ t, St p e below T2 (mkF m 8 #[.val (.ref a_TRUE), .val (.ref a_UNKNOWN), .unset] [(.ref a_UNKNOWN)]) t → S0 t := fun t k => p3 t (by
   show St p e below T2 (mkF m 4 #[.val (.ref a_TRUE), .val (.ref a_UNKNOWN), .unset] [(.ref a_FALSE), (.ref a_TRUE)]) t
   refine Jvm.RoadKit.acmp (g := (mkF m 4 #[.val (.ref a_TRUE), .val (.ref a_UNKNOWN), .unset] [(.ref a_FALSE), (.ref a_TRUE)])) X2 hx rfl rfl rfl (pc0 := 4) (pc' := 7) (same := false) rfl (hb hby d2_4) rfl (decide_eq_false fun q => (Fld.ne Fa_TRUE_ordinal Fa_FALSE_ordinal (fun q => absurd (Value.int.inj q) (by decide))) (Value.ref.inj q)) (by decide) (by decide) ?_
   show St p e below T2 (mkF m 7 #[.val (.ref a_TRUE), .val (.ref a_UNKNOWN), .unset] []) t
   refine XS.aloadN X2.here hx rfl (hb hby d2_7) rfl rfl ?_
   exact k)
 obtain ⟨T5, X5, e5, st5⟩ := getS2 X2 hx hZ hown (host := "") (Or.inl (ww hw 13 rfl)) Via.refl e2 (Sa_FALSE.ext O0.2) (g := (mkF m 8 #[.val (.ref a_TRUE), .val (.ref a_UNKNOWN), .unset] [(.ref a_UNKNOWN)])) rfl (hb hby d2_8)
 have p6 : ∀ t, St p e below T5 (mkF m 11 #[.val (.ref a_TRUE), .val (.ref a_UNKNOWN), .unset] [(.ref a_FALSE), (.ref a_UNKNOWN)]) t → S0 t := fun t k => p4 t (st5 t k)
 have p7 : ∀ t, St p e below T5 (mkF m 22 #[.val (.ref a_TRUE), .val (.ref a_UNKNOWN), .unset] [(.ref a_TRUE)]) t → S0 t := fun t k => p6 t (by
   show St p e below T5 (mkF m 11 #[.val (.ref a_TRUE), .val (.ref a_UNKNOWN), .unset] [(.ref a_FALSE), (.ref a_UNKNOWN)]) t
   refine Jvm.RoadKit.acmp (g := (mkF m 11 #[.val (.ref a_TRUE), .val (.ref a_UNKNOWN), .unset] [(.ref a_FALSE), (.ref a_UNKNOWN)])) X5 hx rfl rfl rfl (pc0 := 11) (pc' := 21) (same := false) rfl (hb hby d2_11) rfl (decide_eq_false fun q => (Fld.ne Fa_UNKNOWN_ordinal Fa_FALSE_ordinal (fun q => absurd (Value.int.inj q) (by decide))) (Value.ref.inj q)) (by decide) (by decide) ?_
   show St p e below T5 (mkF m 21 #[.val (.ref a_TRUE), .val (.ref a_UNKNOWN), .unset] []) t
   refine XS.aloadN X5.here hx rfl (hb hby d2_21) rfl rfl ?_
   exact k)
 obtain ⟨T8, X8, e8, st8⟩ := getS2 X5 hx hZ hown (host := "") (Or.inl (ww hw 15 rfl)) Via.refl e5 (Sa_UNKNOWN.ext O0.2) (g := (mkF m 22 #[.val (.ref a_TRUE), .val (.ref a_UNKNOWN), .unset] [(.ref a_TRUE)])) rfl (hb hby d2_22)
 have p9 : ∀ t, St p e below T8 (mkF m 25 #[.val (.ref a_TRUE), .val (.ref a_UNKNOWN), .unset] [(.ref a_UNKNOWN), (.ref a_TRUE)]) t → S0 t := fun t k => p7 t (st8 t k)
 have p10 : ∀ t, St p e below T8 (mkF m 29 #[.val (.ref a_TRUE), .val (.ref a_UNKNOWN), .unset] [(.ref a_UNKNOWN)]) t → S0 t := fun t k => p9 t (by
   show St p e below T8 (mkF m 25 #[.val (.ref a_TRUE), .val (.ref a_UNKNOWN), .unset] [(.ref a_UNKNOWN), (.ref a_TRUE)]) t
   refine Jvm.RoadKit.acmp (g := (mkF m 25 #[.val (.ref a_TRUE), .val (.ref a_UNKNOWN), .unset] [(.ref a_UNKNOWN), (.ref a_TRUE)])) X8 hx rfl rfl rfl (pc0 := 25) (pc' := 28) (same := false) rfl (hb hby d2_25) rfl (decide_eq_false fun q => (Fld.ne Fa_TRUE_ordinal Fa_UNKNOWN_ordinal (fun q => absurd (Value.int.inj q) (by decide))) (Value.ref.inj q)) (by decide) (by decide) ?_
   show St p e below T8 (mkF m 28 #[.val (.ref a_TRUE), .val (.ref a_UNKNOWN), .unset] []) t
   refine XS.aloadN X8.here hx rfl (hb hby d2_28) rfl rfl ?_
   exact k)
 obtain ⟨T11, X11, e11, st11⟩ := getS2 X8 hx hZ hown (host := "") (Or.inl (ww hw 15 rfl)) Via.refl e8 (Sa_UNKNOWN.ext O0.2) (g := (mkF m 29 #[.val (.ref a_TRUE), .val (.ref a_UNKNOWN), .unset] [(.ref a_UNKNOWN)])) rfl (hb hby d2_29)
 have p12 : ∀ t, St p e below T11 (mkF m 32 #[.val (.ref a_TRUE), .val (.ref a_UNKNOWN), .unset] [(.ref a_UNKNOWN), (.ref a_UNKNOWN)]) t → S0 t := fun t k => p10 t (st11 t k)
 have p13 : ∀ t, St p e below T11 (mkF m 35 #[.val (.ref a_TRUE), .val (.ref a_UNKNOWN), .unset] []) t → S0 t := fun t k => p12 t (by
   show St p e below T11 (mkF m 32 #[.val (.ref a_TRUE), .val (.ref a_UNKNOWN), .unset] [(.ref a_UNKNOWN), (.ref a_UNKNOWN)]) t
   refine Jvm.RoadKit.acmp (g := (mkF m 32 #[.val (.ref a_TRUE), .val (.ref a_UNKNOWN), .unset] [(.ref a_UNKNOWN), (.ref a_UNKNOWN)])) X11 hx rfl rfl rfl (pc0 := 32) (pc' := 35) (same := true) rfl (hb hby d2_32) rfl (decide_eq_true rfl) (by decide) (by decide) ?_
   exact k)
 obtain ⟨T14, X14, e14, st14⟩ := getS2 X11 hx hZ hown (host := "") (Or.inl (ww hw 15 rfl)) Via.refl e11 (Sa_UNKNOWN.ext O0.2) (g := (mkF m 35 #[.val (.ref a_TRUE), .val (.ref a_UNKNOWN), .unset] [])) rfl (hb hby d2_35)
 have p15 : ∀ t, St p e below T14 (mkF m 38 #[.val (.ref a_TRUE), .val (.ref a_UNKNOWN), .unset] [(.ref a_UNKNOWN)]) t → S0 t := fun t k => p13 t (st14 t k)
 let Ls16 : Array Slot := #[.val (.ref a_TRUE), .val (.ref a_UNKNOWN), .val (.ref a_UNKNOWN)]
 have p17 : ∀ t, St p e below T14 (mkF m 47 Ls16 [(.ref a_UNKNOWN)]) t → S0 t := fun t k => p15 t (by
   show St p e below T14 (mkF m 38 #[.val (.ref a_TRUE), .val (.ref a_UNKNOWN), .unset] [(.ref a_UNKNOWN)]) t
   refine XS.astoreN X14.here hx rfl (hb hby d2_38) rfl rfl (l' := Ls16) rfl ?_
   show St p e below T14 (mkF m 39 Ls16 []) t
   refine XS.goto X14.here hx rfl (pc0 := 39) (pc' := 46) rfl (hb hby d2_39) (by decide) (by decide) ?_
   show St p e below T14 (mkF m 46 Ls16 []) t
   refine XS.aloadN X14.here hx rfl (hb hby d2_46) rfl rfl ?_
   exact k)
 obtain ⟨fs, hr, hrun, hended, hW, hsame⟩ := X14.leave (v := some (.ref a_UNKNOWN)) (fun h => by rw [Bd.returns] at h; cases h)
 refine ⟨_, _, p17 _ ?_, hrun, hended, _, _, rfl, ?_, ⟨_, rfl⟩, hW, hsame.mono (by decide) (by decide)⟩
 · exact retOut X14 hx Bd.returns rfl (Or.inr (Or.inr (Or.inr (Or.inr ⟨rfl, rfl, rfl⟩)))) (hb hby d2_47) hr
 · show Q2_9 Z a_TRUE a_FALSE a_UNKNOWN h0 n0 _ T14.heap _
   exact ⟨N0, e14, rfl⟩
theorem d3_16 : decode method_3_code 16 = .ok (.iconst 1, 1) := by decide +kernel
theorem d3_17 : decode method_3_code 17 = .ok (.ireturn, 1) := by decide +kernel
def Q3_10 (Z : State) (a_TRUE : Addr) (a_FALSE : Addr) (a_UNKNOWN : Addr) (h0 : Heap) (n0 : Nat) (v : Option Value) (h : Heap) (L : List Loc) : Prop := Fr n0 L ∧ h = h0 ∧ ((v = some (.int (1 : Int32))))
set_option maxRecDepth 65536 in
set_option maxHeartbeats 40000000 in
theorem rm3_10 (l : Launch) (Z : State) (a0 : Array Value) (hw : ∀ d ∈ tables_1, d.before a0 Z = true) (ws : List Jvm.Cond) (a_TRUE : Addr) (a_FALSE : Addr) (a_UNKNOWN : Addr) (h0 : Heap) (n0 : Nat) (O0 : Old Z n0 h0) (HE : Env1 Z a_TRUE a_FALSE a_UNKNOWN)  :
    MetFree l M2 (head1 (Jvm.Cond.code M2 method_3_code 1 (some .int) :: ws) ({ frames := 0, cells := 0, slots := 0, locals := 0 } : Room)) (fun a U => a = #[(.ref a_UNKNOWN)] ∧ Z.Warmed39 U.vm ∧ U.heap = h0) (fun _ _ _ _ _ => True) (fun _ U o U' => ∃ v L, o = .returned v ∧ Q3_10 Z a_TRUE a_FALSE a_UNKNOWN h0 n0 v U'.heap L ∧ FrameEnd U o U' L ({ frames := 0, cells := 0, slots := 0, locals := 0 } : Room).cells ({ frames := 0, cells := 0, slots := 0, locals := 0 } : Room).slots) := by
 refine MetFree.of_bodySF (plainFor_of_name pn0) hisR ?_
 intro p e s m args below meth c s₁ Bd hml0 hP hK
 obtain ⟨rfl, hZ, hh⟩ := hP
 have hx := Bd.exec
 have hby := Bd.bytes
 have hml : c.maxLocals = 1 := hml0
 have hown : s.vm.findClass "com/example/herald4/herald4/filter/TruthAndPinLaw" = some m.cls := findClass_of_methodNamed Bd.named
 have hnm := (name_of_methodNamed Bd.named Bd.method).1
 have X0 : Stand p l e ({ frames := 0, cells := 0, slots := 0, locals := 0 } : Room) s m #[(.ref a_UNKNOWN)] below meth c s₁ [] 0 0 := Stand.of_body Bd
 have e0 : s₁.heap = h0 := by rw [← hh, Bd.state]; rfl
 have N0 := Fr.nil n0
 let S0 : State → Prop := fun t => Steps p.tables e below (s₁.setTop (entryFrame m #[(.ref a_UNKNOWN)] 1)) t
 have p0 : ∀ t, St p e below s₁ (mkF m 0 #[.val (.ref a_UNKNOWN)] []) t → S0 t := fun t k => castTop (ef3 m a_UNKNOWN) k
 have HE' := HE
 obtain ⟨Sa_TRUE, Ea_TRUE, Sa_FALSE, Ea_FALSE, Fa_TRUE_ordinal, Fa_FALSE_ordinal, Sa_UNKNOWN, Ea_UNKNOWN, Fa_UNKNOWN_ordinal⟩ := HE
 have p1 : ∀ t, St p e below s₁ (mkF m 1 #[.val (.ref a_UNKNOWN)] [(.ref a_UNKNOWN)]) t → S0 t := fun t k => p0 t (by
   show St p e below s₁ (mkF m 0 #[.val (.ref a_UNKNOWN)] []) t
   refine XS.aloadN X0.here hx rfl (hb hby d3_0) rfl rfl ?_
   exact k)
 obtain ⟨T2, X2, e2, st2⟩ := getS2 X0 hx hZ hown (host := "") (Or.inl (ww hw 21 rfl)) Via.refl e0 (Sa_FALSE.ext O0.2) (g := (mkF m 1 #[.val (.ref a_UNKNOWN)] [(.ref a_UNKNOWN)])) rfl (hb hby d3_1)
 have p3 : ∀ t, St p e below T2 (mkF m 4 #[.val (.ref a_UNKNOWN)] [(.ref a_FALSE), (.ref a_UNKNOWN)]) t → S0 t := fun t k => p1 t (st2 t k)
 have p4 : ∀ t, St p e below T2 (mkF m 10 #[.val (.ref a_UNKNOWN)] [(.ref a_UNKNOWN)]) t → S0 t := fun t k => p3 t (by
   show St p e below T2 (mkF m 4 #[.val (.ref a_UNKNOWN)] [(.ref a_FALSE), (.ref a_UNKNOWN)]) t
   refine Jvm.RoadKit.acmp (g := (mkF m 4 #[.val (.ref a_UNKNOWN)] [(.ref a_FALSE), (.ref a_UNKNOWN)])) X2 hx rfl rfl rfl (pc0 := 4) (pc' := 9) (same := false) rfl (hb hby d3_4) rfl (decide_eq_false fun q => (Fld.ne Fa_UNKNOWN_ordinal Fa_FALSE_ordinal (fun q => absurd (Value.int.inj q) (by decide))) (Value.ref.inj q)) (by decide) (by decide) ?_
   show St p e below T2 (mkF m 9 #[.val (.ref a_UNKNOWN)] []) t
   refine XS.aloadN X2.here hx rfl (hb hby d3_9) rfl rfl ?_
   exact k)
 obtain ⟨T5, X5, e5, st5⟩ := getS2 X2 hx hZ hown (host := "") (Or.inl (ww hw 22 rfl)) Via.refl e2 (Sa_UNKNOWN.ext O0.2) (g := (mkF m 10 #[.val (.ref a_UNKNOWN)] [(.ref a_UNKNOWN)])) rfl (hb hby d3_10)
 have p6 : ∀ t, St p e below T5 (mkF m 13 #[.val (.ref a_UNKNOWN)] [(.ref a_UNKNOWN), (.ref a_UNKNOWN)]) t → S0 t := fun t k => p4 t (st5 t k)
 have p7 : ∀ t, St p e below T5 (mkF m 17 #[.val (.ref a_UNKNOWN)] [(.int (1 : Int32))]) t → S0 t := fun t k => p6 t (by
   show St p e below T5 (mkF m 13 #[.val (.ref a_UNKNOWN)] [(.ref a_UNKNOWN), (.ref a_UNKNOWN)]) t
   refine Jvm.RoadKit.acmp (g := (mkF m 13 #[.val (.ref a_UNKNOWN)] [(.ref a_UNKNOWN), (.ref a_UNKNOWN)])) X5 hx rfl rfl rfl (pc0 := 13) (pc' := 16) (same := true) rfl (hb hby d3_13) rfl (decide_eq_true rfl) (by decide) (by decide) ?_
   show St p e below T5 (mkF m 16 #[.val (.ref a_UNKNOWN)] []) t
   refine XT.iconstV X5.here hx rfl (1 : Int32) (hb hby d3_16) (by decide) ?_
   exact k)
 obtain ⟨fs, hr, hrun, hended, hW, hsame⟩ := X5.leave (v := some (.int (1 : Int32))) (fun h => by rw [Bd.returns] at h; cases h)
 refine ⟨_, _, p7 _ ?_, hrun, hended, _, _, rfl, ?_, ⟨_, rfl⟩, hW, hsame.mono (by decide) (by decide)⟩
 · exact retOut X5 hx Bd.returns rfl (Or.inl ⟨rfl, by simp, _, rfl⟩) (hb hby d3_17) hr
 · show Q3_10 Z a_TRUE a_FALSE a_UNKNOWN h0 n0 _ T5.heap _
   exact ⟨N0, e5, rfl⟩
def Q4_11 (Z : State) (a_TRUE : Addr) (a_FALSE : Addr) (a_UNKNOWN : Addr) (h0 : Heap) (n0 : Nat) (v : Option Value) (h : Heap) (L : List Loc) : Prop := Fr n0 L ∧ h = h0 ∧ ((v = some (.int (1 : Int32))))
set_option maxRecDepth 65536 in
set_option maxHeartbeats 40000000 in
theorem rm4_11 (l : Launch) (Z : State) (a0 : Array Value) (hw : ∀ d ∈ tables_1, d.before a0 Z = true) (ws : List Jvm.Cond) (a_TRUE : Addr) (a_FALSE : Addr) (a_UNKNOWN : Addr) (h0 : Heap) (n0 : Nat) (O0 : Old Z n0 h0) (HE : Env1 Z a_TRUE a_FALSE a_UNKNOWN)  :
    MetFree l M3 (head1 (Jvm.Cond.code M3 jdk_29_method_69_code 2 (some .int) :: ws) ({ frames := 0, cells := 0, slots := 0, locals := 0 } : Room)) (fun a U => a = #[(.int (2 : Int32)), (.int (1 : Int32))] ∧ Z.Warmed39 U.vm ∧ U.heap = h0) (fun _ _ _ _ _ => True) (fun _ U o U' => ∃ v L, o = .returned v ∧ Q4_11 Z a_TRUE a_FALSE a_UNKNOWN h0 n0 v U'.heap L ∧ FrameEnd U o U' L ({ frames := 0, cells := 0, slots := 0, locals := 0 } : Room).cells ({ frames := 0, cells := 0, slots := 0, locals := 0 } : Room).slots) := by
 refine MetFree.of_bodySF (Jvm.Free.JP.mathPlain rfl (by decide +kernel)) hisR ?_
 intro p e s m args below meth c s₁ Bd hml0 hP hK
 obtain ⟨rfl, hZ, hh⟩ := hP
 have hx := Bd.exec
 have hby := Bd.bytes
 have hml : c.maxLocals = 2 := hml0
 have hown : s.vm.findClass "java/lang/Math" = some m.cls := findClass_of_methodNamed Bd.named
 have hnm := (name_of_methodNamed Bd.named Bd.method).1
 have X0 : Stand p l e ({ frames := 0, cells := 0, slots := 0, locals := 0 } : Room) s m #[(.int (2 : Int32)), (.int (1 : Int32))] below meth c s₁ [] 0 0 := Stand.of_body Bd
 have e0 : s₁.heap = h0 := by rw [← hh, Bd.state]; rfl
 have N0 := Fr.nil n0
 let S0 : State → Prop := fun t => Steps p.tables e below (s₁.setTop (entryFrame m #[(.int (2 : Int32)), (.int (1 : Int32))] 2)) t
 have p0 : ∀ t, St p e below s₁ (mkF m 0 #[.val (.int (2 : Int32)), .val (.int (1 : Int32))] []) t → S0 t := fun t k => castTop (ef4 m (2 : Int32) (1 : Int32)) k
 have HE' := HE
 obtain ⟨Sa_TRUE, Ea_TRUE, Sa_FALSE, Ea_FALSE, Fa_TRUE_ordinal, Fa_FALSE_ordinal, Sa_UNKNOWN, Ea_UNKNOWN, Fa_UNKNOWN_ordinal⟩ := HE
 have p1 : ∀ t, St p e below s₁ (mkF m 10 #[.val (.int (2 : Int32)), .val (.int (1 : Int32))] [(.int (1 : Int32))]) t → S0 t := fun t k => p0 t (by
   show St p e below s₁ (mkF m 0 #[.val (.int (2 : Int32)), .val (.int (1 : Int32))] []) t
   refine XS.iloadN X0.here hx rfl (hb hby d4_0) rfl ?_
   show St p e below s₁ (mkF m 1 #[.val (.int (2 : Int32)), .val (.int (1 : Int32))] [(.int (2 : Int32))]) t
   refine XS.iloadN X0.here hx rfl (hb hby d4_1) rfl ?_
   show St p e below s₁ (mkF m 2 #[.val (.int (2 : Int32)), .val (.int (1 : Int32))] [(.int (1 : Int32)), (.int (2 : Int32))]) t
   refine XS.icmpYes X0.here hx rfl (pc0 := 2) (pc' := 9) rfl (hb hby d4_2) rfl (tlt (by decide : (1 : Int32) < (2 : Int32))).2.2.1 (by decide) (by decide) ?_
   show St p e below s₁ (mkF m 9 #[.val (.int (2 : Int32)), .val (.int (1 : Int32))] []) t
   refine XS.iloadN X0.here hx rfl (hb hby d4_9) rfl ?_
   exact k)
 obtain ⟨fs, hr, hrun, hended, hW, hsame⟩ := X0.leave (v := some (.int (1 : Int32))) (fun h => by rw [Bd.returns] at h; cases h)
 refine ⟨_, _, p1 _ ?_, hrun, hended, _, _, rfl, ?_, ⟨_, rfl⟩, hW, hsame.mono (by decide) (by decide)⟩
 · exact retOut X0 hx Bd.returns rfl (Or.inl ⟨rfl, by simp, _, rfl⟩) (hb hby d4_10) hr
 · show Q4_11 Z a_TRUE a_FALSE a_UNKNOWN h0 n0 _ s₁.heap _
   exact ⟨N0, e0, rfl⟩
theorem d5_13 : decode method_4_code 13 = .ok (.getstatic 16, 3) := by decide +kernel
theorem d5_16 : decode method_4_code 16 = .ok (.areturn, 1) := by decide +kernel
def Q5_12 (Z : State) (a_TRUE : Addr) (a_FALSE : Addr) (a_UNKNOWN : Addr) (h0 : Heap) (n0 : Nat) (v : Option Value) (h : Heap) (L : List Loc) : Prop := Fr n0 L ∧ h = h0 ∧ ((v = some (.ref a_UNKNOWN)))
set_option maxRecDepth 65536 in
set_option maxHeartbeats 40000000 in
theorem rm5_12 (l : Launch) (Z : State) (a0 : Array Value) (hw : ∀ d ∈ tables_1, d.before a0 Z = true) (ws : List Jvm.Cond) (a_TRUE : Addr) (a_FALSE : Addr) (a_UNKNOWN : Addr) (h0 : Heap) (n0 : Nat) (O0 : Old Z n0 h0) (HE : Env1 Z a_TRUE a_FALSE a_UNKNOWN)  :
    MetFree l M4 (head1 (Jvm.Cond.code M4 method_4_code 1 (some (.object "com/example/herald4/herald4/filter/Truth")) :: ws) ({ frames := 0, cells := 0, slots := 0, locals := 0 } : Room)) (fun a U => a = #[(.int (1 : Int32))] ∧ Z.Warmed39 U.vm ∧ U.heap = h0) (fun _ _ _ _ _ => True) (fun _ U o U' => ∃ v L, o = .returned v ∧ Q5_12 Z a_TRUE a_FALSE a_UNKNOWN h0 n0 v U'.heap L ∧ FrameEnd U o U' L ({ frames := 0, cells := 0, slots := 0, locals := 0 } : Room).cells ({ frames := 0, cells := 0, slots := 0, locals := 0 } : Room).slots) := by
 refine MetFree.of_bodySF (plainFor_of_name pn0) hisR ?_
 intro p e s m args below meth c s₁ Bd hml0 hP hK
 obtain ⟨rfl, hZ, hh⟩ := hP
 have hx := Bd.exec
 have hby := Bd.bytes
 have hml : c.maxLocals = 1 := hml0
 have hown : s.vm.findClass "com/example/herald4/herald4/filter/TruthAndPinLaw" = some m.cls := findClass_of_methodNamed Bd.named
 have hnm := (name_of_methodNamed Bd.named Bd.method).1
 have X0 : Stand p l e ({ frames := 0, cells := 0, slots := 0, locals := 0 } : Room) s m #[(.int (1 : Int32))] below meth c s₁ [] 0 0 := Stand.of_body Bd
 have e0 : s₁.heap = h0 := by rw [← hh, Bd.state]; rfl
 have N0 := Fr.nil n0
 let S0 : State → Prop := fun t => Steps p.tables e below (s₁.setTop (entryFrame m #[(.int (1 : Int32))] 1)) t
 have p0 : ∀ t, St p e below s₁ (mkF m 0 #[.val (.int (1 : Int32))] []) t → S0 t := fun t k => castTop (ef5 m (1 : Int32)) k
 have HE' := HE
 obtain ⟨Sa_TRUE, Ea_TRUE, Sa_FALSE, Ea_FALSE, Fa_TRUE_ordinal, Fa_FALSE_ordinal, Sa_UNKNOWN, Ea_UNKNOWN, Fa_UNKNOWN_ordinal⟩ := HE
 have p1 : ∀ t, St p e below s₁ (mkF m 13 #[.val (.int (1 : Int32))] []) t → S0 t := fun t k => p0 t (by
   show St p e below s₁ (mkF m 0 #[.val (.int (1 : Int32))] []) t
   refine XS.iloadN X0.here hx rfl (hb hby d5_0) rfl ?_
   show St p e below s₁ (mkF m 1 #[.val (.int (1 : Int32))] [(.int (1 : Int32))]) t
   refine XS.ifYes X0.here hx rfl (pc0 := 1) (pc' := 8) rfl (hb hby d5_1) rfl ((if0 _ _).trans (feq (by decide : ¬ ((1 : Int32) = (0 : Int32)))).2) (by decide) (by decide) ?_
   show St p e below s₁ (mkF m 8 #[.val (.int (1 : Int32))] []) t
   refine XS.iloadN X0.here hx rfl (hb hby d5_8) rfl ?_
   show St p e below s₁ (mkF m 9 #[.val (.int (1 : Int32))] [(.int (1 : Int32))]) t
   refine XT.iconstV X0.here hx rfl (1 : Int32) (hb hby d5_9) (by decide) ?_
   show St p e below s₁ (mkF m 10 #[.val (.int (1 : Int32))] [(.int (1 : Int32)), (.int (1 : Int32))]) t
   refine XS.icmpNo X0.here hx rfl (hb hby d5_10) rfl (teq (by decide : (1 : Int32) = (1 : Int32))).2 ?_
   exact k)
 obtain ⟨T2, X2, e2, st2⟩ := getS2 X0 hx hZ hown (host := "") (Or.inl (ww hw 22 rfl)) Via.refl e0 (Sa_UNKNOWN.ext O0.2) (g := (mkF m 13 #[.val (.int (1 : Int32))] [])) rfl (hb hby d5_13)
 have p3 : ∀ t, St p e below T2 (mkF m 16 #[.val (.int (1 : Int32))] [(.ref a_UNKNOWN)]) t → S0 t := fun t k => p1 t (st2 t k)
 obtain ⟨fs, hr, hrun, hended, hW, hsame⟩ := X2.leave (v := some (.ref a_UNKNOWN)) (fun h => by rw [Bd.returns] at h; cases h)
 refine ⟨_, _, p3 _ ?_, hrun, hended, _, _, rfl, ?_, ⟨_, rfl⟩, hW, hsame.mono (by decide) (by decide)⟩
 · exact retOut X2 hx Bd.returns rfl (Or.inr (Or.inr (Or.inr (Or.inr ⟨rfl, rfl, rfl⟩)))) (hb hby d5_16) hr
 · show Q5_12 Z a_TRUE a_FALSE a_UNKNOWN h0 n0 _ T2.heap _
   exact ⟨N0, e2, rfl⟩
def Q2_13 (Z : State) (a_TRUE : Addr) (a_FALSE : Addr) (a_UNKNOWN : Addr) (h0 : Heap) (n0 : Nat) (v : Option Value) (h : Heap) (L : List Loc) : Prop := Fr n0 L ∧ h = h0 ∧ ((v = some (.ref a_FALSE)))
set_option maxRecDepth 65536 in
set_option maxHeartbeats 40000000 in
theorem rm2_13 (l : Launch) (Z : State) (a0 : Array Value) (hw : ∀ d ∈ tables_1, d.before a0 Z = true) (ws : List Jvm.Cond) (a_TRUE : Addr) (a_FALSE : Addr) (a_UNKNOWN : Addr) (h0 : Heap) (n0 : Nat) (O0 : Old Z n0 h0) (HE : Env1 Z a_TRUE a_FALSE a_UNKNOWN)  :
    MetFree l M1 (head1 (Jvm.Cond.code M1 prog_32_method_6_code 3 (some (.object "com/example/herald4/herald4/filter/Truth")) :: ws) ({ frames := 0, cells := 0, slots := 0, locals := 0 } : Room)) (fun a U => a = #[(.ref a_FALSE), (.ref a_TRUE)] ∧ Z.Warmed39 U.vm ∧ U.heap = h0) (fun _ _ _ _ _ => True) (fun _ U o U' => ∃ v L, o = .returned v ∧ Q2_13 Z a_TRUE a_FALSE a_UNKNOWN h0 n0 v U'.heap L ∧ FrameEnd U o U' L ({ frames := 0, cells := 0, slots := 0, locals := 0 } : Room).cells ({ frames := 0, cells := 0, slots := 0, locals := 0 } : Room).slots) := by
 refine MetFree.of_bodySF (plainFor_of_name pn1) hisR ?_
 intro p e s m args below meth c s₁ Bd hml0 hP hK
 obtain ⟨rfl, hZ, hh⟩ := hP
 have hx := Bd.exec
 have hby := Bd.bytes
 have hml : c.maxLocals = 3 := hml0
 have hown : s.vm.findClass "com/example/herald4/herald4/filter/Truth" = some m.cls := findClass_of_methodNamed Bd.named
 have hnm := (name_of_methodNamed Bd.named Bd.method).1
 have X0 : Stand p l e ({ frames := 0, cells := 0, slots := 0, locals := 0 } : Room) s m #[(.ref a_FALSE), (.ref a_TRUE)] below meth c s₁ [] 0 0 := Stand.of_body Bd
 have e0 : s₁.heap = h0 := by rw [← hh, Bd.state]; rfl
 have N0 := Fr.nil n0
 let S0 : State → Prop := fun t => Steps p.tables e below (s₁.setTop (entryFrame m #[(.ref a_FALSE), (.ref a_TRUE)] 3)) t
 have p0 : ∀ t, St p e below s₁ (mkF m 0 #[.val (.ref a_FALSE), .val (.ref a_TRUE), .unset] []) t → S0 t := fun t k => castTop (ef2 m a_FALSE a_TRUE) k
 have HE' := HE
 obtain ⟨Sa_TRUE, Ea_TRUE, Sa_FALSE, Ea_FALSE, Fa_TRUE_ordinal, Fa_FALSE_ordinal, Sa_UNKNOWN, Ea_UNKNOWN, Fa_UNKNOWN_ordinal⟩ := HE
 have p1 : ∀ t, St p e below s₁ (mkF m 1 #[.val (.ref a_FALSE), .val (.ref a_TRUE), .unset] [(.ref a_FALSE)]) t → S0 t := fun t k => p0 t (by
   show St p e below s₁ (mkF m 0 #[.val (.ref a_FALSE), .val (.ref a_TRUE), .unset] []) t
   refine XS.aloadN X0.here hx rfl (hb hby d2_0) rfl rfl ?_
   exact k)
 obtain ⟨T2, X2, e2, st2⟩ := getS2 X0 hx hZ hown (host := "") (Or.inl (ww hw 13 rfl)) Via.refl e0 (Sa_FALSE.ext O0.2) (g := (mkF m 1 #[.val (.ref a_FALSE), .val (.ref a_TRUE), .unset] [(.ref a_FALSE)])) rfl (hb hby d2_1)
 have p3 : ∀ t, St p e below T2 (mkF m 4 #[.val (.ref a_FALSE), .val (.ref a_TRUE), .unset] [(.ref a_FALSE), (.ref a_FALSE)]) t → S0 t := fun t k => p1 t (st2 t k)
 have p4 : ∀ t, St p e below T2 (mkF m 14 #[.val (.ref a_FALSE), .val (.ref a_TRUE), .unset] []) t → S0 t := fun t k => p3 t (by
   show St p e below T2 (mkF m 4 #[.val (.ref a_FALSE), .val (.ref a_TRUE), .unset] [(.ref a_FALSE), (.ref a_FALSE)]) t
   refine Jvm.RoadKit.acmp (g := (mkF m 4 #[.val (.ref a_FALSE), .val (.ref a_TRUE), .unset] [(.ref a_FALSE), (.ref a_FALSE)])) X2 hx rfl rfl rfl (pc0 := 4) (pc' := 14) (same := true) rfl (hb hby d2_4) rfl (decide_eq_true rfl) (by decide) (by decide) ?_
   exact k)
 obtain ⟨T5, X5, e5, st5⟩ := getS2 X2 hx hZ hown (host := "") (Or.inl (ww hw 13 rfl)) Via.refl e2 (Sa_FALSE.ext O0.2) (g := (mkF m 14 #[.val (.ref a_FALSE), .val (.ref a_TRUE), .unset] [])) rfl (hb hby d2_14)
 have p6 : ∀ t, St p e below T5 (mkF m 17 #[.val (.ref a_FALSE), .val (.ref a_TRUE), .unset] [(.ref a_FALSE)]) t → S0 t := fun t k => p4 t (st5 t k)
 let Ls7 : Array Slot := #[.val (.ref a_FALSE), .val (.ref a_TRUE), .val (.ref a_FALSE)]
 have p8 : ∀ t, St p e below T5 (mkF m 47 Ls7 [(.ref a_FALSE)]) t → S0 t := fun t k => p6 t (by
   show St p e below T5 (mkF m 17 #[.val (.ref a_FALSE), .val (.ref a_TRUE), .unset] [(.ref a_FALSE)]) t
   refine XS.astoreN X5.here hx rfl (hb hby d2_17) rfl rfl (l' := Ls7) rfl ?_
   show St p e below T5 (mkF m 18 Ls7 []) t
   refine XS.goto X5.here hx rfl (pc0 := 18) (pc' := 46) rfl (hb hby d2_18) (by decide) (by decide) ?_
   show St p e below T5 (mkF m 46 Ls7 []) t
   refine XS.aloadN X5.here hx rfl (hb hby d2_46) rfl rfl ?_
   exact k)
 obtain ⟨fs, hr, hrun, hended, hW, hsame⟩ := X5.leave (v := some (.ref a_FALSE)) (fun h => by rw [Bd.returns] at h; cases h)
 refine ⟨_, _, p8 _ ?_, hrun, hended, _, _, rfl, ?_, ⟨_, rfl⟩, hW, hsame.mono (by decide) (by decide)⟩
 · exact retOut X5 hx Bd.returns rfl (Or.inr (Or.inr (Or.inr (Or.inr ⟨rfl, rfl, rfl⟩)))) (hb hby d2_47) hr
 · show Q2_13 Z a_TRUE a_FALSE a_UNKNOWN h0 n0 _ T5.heap _
   exact ⟨N0, e5, rfl⟩
def Q4_14 (Z : State) (a_TRUE : Addr) (a_FALSE : Addr) (a_UNKNOWN : Addr) (h0 : Heap) (n0 : Nat) (v : Option Value) (h : Heap) (L : List Loc) : Prop := Fr n0 L ∧ h = h0 ∧ ((v = some (.int (0 : Int32))))
set_option maxRecDepth 65536 in
set_option maxHeartbeats 40000000 in
theorem rm4_14 (l : Launch) (Z : State) (a0 : Array Value) (hw : ∀ d ∈ tables_1, d.before a0 Z = true) (ws : List Jvm.Cond) (a_TRUE : Addr) (a_FALSE : Addr) (a_UNKNOWN : Addr) (h0 : Heap) (n0 : Nat) (O0 : Old Z n0 h0) (HE : Env1 Z a_TRUE a_FALSE a_UNKNOWN)  :
    MetFree l M3 (head1 (Jvm.Cond.code M3 jdk_29_method_69_code 2 (some .int) :: ws) ({ frames := 0, cells := 0, slots := 0, locals := 0 } : Room)) (fun a U => a = #[(.int (0 : Int32)), (.int (2 : Int32))] ∧ Z.Warmed39 U.vm ∧ U.heap = h0) (fun _ _ _ _ _ => True) (fun _ U o U' => ∃ v L, o = .returned v ∧ Q4_14 Z a_TRUE a_FALSE a_UNKNOWN h0 n0 v U'.heap L ∧ FrameEnd U o U' L ({ frames := 0, cells := 0, slots := 0, locals := 0 } : Room).cells ({ frames := 0, cells := 0, slots := 0, locals := 0 } : Room).slots) := by
 refine MetFree.of_bodySF (Jvm.Free.JP.mathPlain rfl (by decide +kernel)) hisR ?_
 intro p e s m args below meth c s₁ Bd hml0 hP hK
 obtain ⟨rfl, hZ, hh⟩ := hP
 have hx := Bd.exec
 have hby := Bd.bytes
 have hml : c.maxLocals = 2 := hml0
 have hown : s.vm.findClass "java/lang/Math" = some m.cls := findClass_of_methodNamed Bd.named
 have hnm := (name_of_methodNamed Bd.named Bd.method).1
 have X0 : Stand p l e ({ frames := 0, cells := 0, slots := 0, locals := 0 } : Room) s m #[(.int (0 : Int32)), (.int (2 : Int32))] below meth c s₁ [] 0 0 := Stand.of_body Bd
 have e0 : s₁.heap = h0 := by rw [← hh, Bd.state]; rfl
 have N0 := Fr.nil n0
 let S0 : State → Prop := fun t => Steps p.tables e below (s₁.setTop (entryFrame m #[(.int (0 : Int32)), (.int (2 : Int32))] 2)) t
 have p0 : ∀ t, St p e below s₁ (mkF m 0 #[.val (.int (0 : Int32)), .val (.int (2 : Int32))] []) t → S0 t := fun t k => castTop (ef4 m (0 : Int32) (2 : Int32)) k
 have HE' := HE
 obtain ⟨Sa_TRUE, Ea_TRUE, Sa_FALSE, Ea_FALSE, Fa_TRUE_ordinal, Fa_FALSE_ordinal, Sa_UNKNOWN, Ea_UNKNOWN, Fa_UNKNOWN_ordinal⟩ := HE
 have p1 : ∀ t, St p e below s₁ (mkF m 10 #[.val (.int (0 : Int32)), .val (.int (2 : Int32))] [(.int (0 : Int32))]) t → S0 t := fun t k => p0 t (by
   show St p e below s₁ (mkF m 0 #[.val (.int (0 : Int32)), .val (.int (2 : Int32))] []) t
   refine XS.iloadN X0.here hx rfl (hb hby d4_0) rfl ?_
   show St p e below s₁ (mkF m 1 #[.val (.int (0 : Int32)), .val (.int (2 : Int32))] [(.int (0 : Int32))]) t
   refine XS.iloadN X0.here hx rfl (hb hby d4_1) rfl ?_
   show St p e below s₁ (mkF m 2 #[.val (.int (0 : Int32)), .val (.int (2 : Int32))] [(.int (2 : Int32)), (.int (0 : Int32))]) t
   refine XS.icmpNo X0.here hx rfl (hb hby d4_2) rfl (flt (by decide : ¬ ((2 : Int32) < (0 : Int32)))).2.2.1 ?_
   show St p e below s₁ (mkF m 5 #[.val (.int (0 : Int32)), .val (.int (2 : Int32))] []) t
   refine XS.iloadN X0.here hx rfl (hb hby d4_5) rfl ?_
   show St p e below s₁ (mkF m 6 #[.val (.int (0 : Int32)), .val (.int (2 : Int32))] [(.int (0 : Int32))]) t
   refine XS.goto X0.here hx rfl (pc0 := 6) (pc' := 10) rfl (hb hby d4_6) (by decide) (by decide) ?_
   exact k)
 obtain ⟨fs, hr, hrun, hended, hW, hsame⟩ := X0.leave (v := some (.int (0 : Int32))) (fun h => by rw [Bd.returns] at h; cases h)
 refine ⟨_, _, p1 _ ?_, hrun, hended, _, _, rfl, ?_, ⟨_, rfl⟩, hW, hsame.mono (by decide) (by decide)⟩
 · exact retOut X0 hx Bd.returns rfl (Or.inl ⟨rfl, by simp, _, rfl⟩) (hb hby d4_10) hr
 · show Q4_14 Z a_TRUE a_FALSE a_UNKNOWN h0 n0 _ s₁.heap _
   exact ⟨N0, e0, rfl⟩
def Q2_15 (Z : State) (a_TRUE : Addr) (a_FALSE : Addr) (a_UNKNOWN : Addr) (h0 : Heap) (n0 : Nat) (v : Option Value) (h : Heap) (L : List Loc) : Prop := Fr n0 L ∧ h = h0 ∧ ((v = some (.ref a_FALSE)))
set_option maxRecDepth 65536 in
set_option maxHeartbeats 40000000 in
theorem rm2_15 (l : Launch) (Z : State) (a0 : Array Value) (hw : ∀ d ∈ tables_1, d.before a0 Z = true) (ws : List Jvm.Cond) (a_TRUE : Addr) (a_FALSE : Addr) (a_UNKNOWN : Addr) (h0 : Heap) (n0 : Nat) (O0 : Old Z n0 h0) (HE : Env1 Z a_TRUE a_FALSE a_UNKNOWN)  :
    MetFree l M1 (head1 (Jvm.Cond.code M1 prog_32_method_6_code 3 (some (.object "com/example/herald4/herald4/filter/Truth")) :: ws) ({ frames := 0, cells := 0, slots := 0, locals := 0 } : Room)) (fun a U => a = #[(.ref a_FALSE), (.ref a_FALSE)] ∧ Z.Warmed39 U.vm ∧ U.heap = h0) (fun _ _ _ _ _ => True) (fun _ U o U' => ∃ v L, o = .returned v ∧ Q2_15 Z a_TRUE a_FALSE a_UNKNOWN h0 n0 v U'.heap L ∧ FrameEnd U o U' L ({ frames := 0, cells := 0, slots := 0, locals := 0 } : Room).cells ({ frames := 0, cells := 0, slots := 0, locals := 0 } : Room).slots) := by
 refine MetFree.of_bodySF (plainFor_of_name pn1) hisR ?_
 intro p e s m args below meth c s₁ Bd hml0 hP hK
 obtain ⟨rfl, hZ, hh⟩ := hP
 have hx := Bd.exec
 have hby := Bd.bytes
 have hml : c.maxLocals = 3 := hml0
 have hown : s.vm.findClass "com/example/herald4/herald4/filter/Truth" = some m.cls := findClass_of_methodNamed Bd.named
 have hnm := (name_of_methodNamed Bd.named Bd.method).1
 have X0 : Stand p l e ({ frames := 0, cells := 0, slots := 0, locals := 0 } : Room) s m #[(.ref a_FALSE), (.ref a_FALSE)] below meth c s₁ [] 0 0 := Stand.of_body Bd
 have e0 : s₁.heap = h0 := by rw [← hh, Bd.state]; rfl
 have N0 := Fr.nil n0
 let S0 : State → Prop := fun t => Steps p.tables e below (s₁.setTop (entryFrame m #[(.ref a_FALSE), (.ref a_FALSE)] 3)) t
 have p0 : ∀ t, St p e below s₁ (mkF m 0 #[.val (.ref a_FALSE), .val (.ref a_FALSE), .unset] []) t → S0 t := fun t k => castTop (ef2 m a_FALSE a_FALSE) k
 have HE' := HE
 obtain ⟨Sa_TRUE, Ea_TRUE, Sa_FALSE, Ea_FALSE, Fa_TRUE_ordinal, Fa_FALSE_ordinal, Sa_UNKNOWN, Ea_UNKNOWN, Fa_UNKNOWN_ordinal⟩ := HE
 have p1 : ∀ t, St p e below s₁ (mkF m 1 #[.val (.ref a_FALSE), .val (.ref a_FALSE), .unset] [(.ref a_FALSE)]) t → S0 t := fun t k => p0 t (by
   show St p e below s₁ (mkF m 0 #[.val (.ref a_FALSE), .val (.ref a_FALSE), .unset] []) t
   refine XS.aloadN X0.here hx rfl (hb hby d2_0) rfl rfl ?_
   exact k)
 obtain ⟨T2, X2, e2, st2⟩ := getS2 X0 hx hZ hown (host := "") (Or.inl (ww hw 13 rfl)) Via.refl e0 (Sa_FALSE.ext O0.2) (g := (mkF m 1 #[.val (.ref a_FALSE), .val (.ref a_FALSE), .unset] [(.ref a_FALSE)])) rfl (hb hby d2_1)
 have p3 : ∀ t, St p e below T2 (mkF m 4 #[.val (.ref a_FALSE), .val (.ref a_FALSE), .unset] [(.ref a_FALSE), (.ref a_FALSE)]) t → S0 t := fun t k => p1 t (st2 t k)
 have p4 : ∀ t, St p e below T2 (mkF m 14 #[.val (.ref a_FALSE), .val (.ref a_FALSE), .unset] []) t → S0 t := fun t k => p3 t (by
   show St p e below T2 (mkF m 4 #[.val (.ref a_FALSE), .val (.ref a_FALSE), .unset] [(.ref a_FALSE), (.ref a_FALSE)]) t
   refine Jvm.RoadKit.acmp (g := (mkF m 4 #[.val (.ref a_FALSE), .val (.ref a_FALSE), .unset] [(.ref a_FALSE), (.ref a_FALSE)])) X2 hx rfl rfl rfl (pc0 := 4) (pc' := 14) (same := true) rfl (hb hby d2_4) rfl (decide_eq_true rfl) (by decide) (by decide) ?_
   exact k)
 obtain ⟨T5, X5, e5, st5⟩ := getS2 X2 hx hZ hown (host := "") (Or.inl (ww hw 13 rfl)) Via.refl e2 (Sa_FALSE.ext O0.2) (g := (mkF m 14 #[.val (.ref a_FALSE), .val (.ref a_FALSE), .unset] [])) rfl (hb hby d2_14)
 have p6 : ∀ t, St p e below T5 (mkF m 17 #[.val (.ref a_FALSE), .val (.ref a_FALSE), .unset] [(.ref a_FALSE)]) t → S0 t := fun t k => p4 t (st5 t k)
 let Ls7 : Array Slot := #[.val (.ref a_FALSE), .val (.ref a_FALSE), .val (.ref a_FALSE)]
 have p8 : ∀ t, St p e below T5 (mkF m 47 Ls7 [(.ref a_FALSE)]) t → S0 t := fun t k => p6 t (by
   show St p e below T5 (mkF m 17 #[.val (.ref a_FALSE), .val (.ref a_FALSE), .unset] [(.ref a_FALSE)]) t
   refine XS.astoreN X5.here hx rfl (hb hby d2_17) rfl rfl (l' := Ls7) rfl ?_
   show St p e below T5 (mkF m 18 Ls7 []) t
   refine XS.goto X5.here hx rfl (pc0 := 18) (pc' := 46) rfl (hb hby d2_18) (by decide) (by decide) ?_
   show St p e below T5 (mkF m 46 Ls7 []) t
   refine XS.aloadN X5.here hx rfl (hb hby d2_46) rfl rfl ?_
   exact k)
 obtain ⟨fs, hr, hrun, hended, hW, hsame⟩ := X5.leave (v := some (.ref a_FALSE)) (fun h => by rw [Bd.returns] at h; cases h)
 refine ⟨_, _, p8 _ ?_, hrun, hended, _, _, rfl, ?_, ⟨_, rfl⟩, hW, hsame.mono (by decide) (by decide)⟩
 · exact retOut X5 hx Bd.returns rfl (Or.inr (Or.inr (Or.inr (Or.inr ⟨rfl, rfl, rfl⟩)))) (hb hby d2_47) hr
 · show Q2_15 Z a_TRUE a_FALSE a_UNKNOWN h0 n0 _ T5.heap _
   exact ⟨N0, e5, rfl⟩
def Q4_16 (Z : State) (a_TRUE : Addr) (a_FALSE : Addr) (a_UNKNOWN : Addr) (h0 : Heap) (n0 : Nat) (v : Option Value) (h : Heap) (L : List Loc) : Prop := Fr n0 L ∧ h = h0 ∧ ((v = some (.int (0 : Int32))))
set_option maxRecDepth 65536 in
set_option maxHeartbeats 40000000 in
theorem rm4_16 (l : Launch) (Z : State) (a0 : Array Value) (hw : ∀ d ∈ tables_1, d.before a0 Z = true) (ws : List Jvm.Cond) (a_TRUE : Addr) (a_FALSE : Addr) (a_UNKNOWN : Addr) (h0 : Heap) (n0 : Nat) (O0 : Old Z n0 h0) (HE : Env1 Z a_TRUE a_FALSE a_UNKNOWN)  :
    MetFree l M3 (head1 (Jvm.Cond.code M3 jdk_29_method_69_code 2 (some .int) :: ws) ({ frames := 0, cells := 0, slots := 0, locals := 0 } : Room)) (fun a U => a = #[(.int (0 : Int32)), (.int (0 : Int32))] ∧ Z.Warmed39 U.vm ∧ U.heap = h0) (fun _ _ _ _ _ => True) (fun _ U o U' => ∃ v L, o = .returned v ∧ Q4_16 Z a_TRUE a_FALSE a_UNKNOWN h0 n0 v U'.heap L ∧ FrameEnd U o U' L ({ frames := 0, cells := 0, slots := 0, locals := 0 } : Room).cells ({ frames := 0, cells := 0, slots := 0, locals := 0 } : Room).slots) := by
 refine MetFree.of_bodySF (Jvm.Free.JP.mathPlain rfl (by decide +kernel)) hisR ?_
 intro p e s m args below meth c s₁ Bd hml0 hP hK
 obtain ⟨rfl, hZ, hh⟩ := hP
 have hx := Bd.exec
 have hby := Bd.bytes
 have hml : c.maxLocals = 2 := hml0
 have hown : s.vm.findClass "java/lang/Math" = some m.cls := findClass_of_methodNamed Bd.named
 have hnm := (name_of_methodNamed Bd.named Bd.method).1
 have X0 : Stand p l e ({ frames := 0, cells := 0, slots := 0, locals := 0 } : Room) s m #[(.int (0 : Int32)), (.int (0 : Int32))] below meth c s₁ [] 0 0 := Stand.of_body Bd
 have e0 : s₁.heap = h0 := by rw [← hh, Bd.state]; rfl
 have N0 := Fr.nil n0
 let S0 : State → Prop := fun t => Steps p.tables e below (s₁.setTop (entryFrame m #[(.int (0 : Int32)), (.int (0 : Int32))] 2)) t
 have p0 : ∀ t, St p e below s₁ (mkF m 0 #[.val (.int (0 : Int32)), .val (.int (0 : Int32))] []) t → S0 t := fun t k => castTop (ef4 m (0 : Int32) (0 : Int32)) k
 have HE' := HE
 obtain ⟨Sa_TRUE, Ea_TRUE, Sa_FALSE, Ea_FALSE, Fa_TRUE_ordinal, Fa_FALSE_ordinal, Sa_UNKNOWN, Ea_UNKNOWN, Fa_UNKNOWN_ordinal⟩ := HE
 have p1 : ∀ t, St p e below s₁ (mkF m 10 #[.val (.int (0 : Int32)), .val (.int (0 : Int32))] [(.int (0 : Int32))]) t → S0 t := fun t k => p0 t (by
   show St p e below s₁ (mkF m 0 #[.val (.int (0 : Int32)), .val (.int (0 : Int32))] []) t
   refine XS.iloadN X0.here hx rfl (hb hby d4_0) rfl ?_
   show St p e below s₁ (mkF m 1 #[.val (.int (0 : Int32)), .val (.int (0 : Int32))] [(.int (0 : Int32))]) t
   refine XS.iloadN X0.here hx rfl (hb hby d4_1) rfl ?_
   show St p e below s₁ (mkF m 2 #[.val (.int (0 : Int32)), .val (.int (0 : Int32))] [(.int (0 : Int32)), (.int (0 : Int32))]) t
   refine XS.icmpNo X0.here hx rfl (hb hby d4_2) rfl (flt (by decide : ¬ ((0 : Int32) < (0 : Int32)))).2.2.1 ?_
   show St p e below s₁ (mkF m 5 #[.val (.int (0 : Int32)), .val (.int (0 : Int32))] []) t
   refine XS.iloadN X0.here hx rfl (hb hby d4_5) rfl ?_
   show St p e below s₁ (mkF m 6 #[.val (.int (0 : Int32)), .val (.int (0 : Int32))] [(.int (0 : Int32))]) t
   refine XS.goto X0.here hx rfl (pc0 := 6) (pc' := 10) rfl (hb hby d4_6) (by decide) (by decide) ?_
   exact k)
 obtain ⟨fs, hr, hrun, hended, hW, hsame⟩ := X0.leave (v := some (.int (0 : Int32))) (fun h => by rw [Bd.returns] at h; cases h)
 refine ⟨_, _, p1 _ ?_, hrun, hended, _, _, rfl, ?_, ⟨_, rfl⟩, hW, hsame.mono (by decide) (by decide)⟩
 · exact retOut X0 hx Bd.returns rfl (Or.inl ⟨rfl, by simp, _, rfl⟩) (hb hby d4_10) hr
 · show Q4_16 Z a_TRUE a_FALSE a_UNKNOWN h0 n0 _ s₁.heap _
   exact ⟨N0, e0, rfl⟩
def Q2_17 (Z : State) (a_TRUE : Addr) (a_FALSE : Addr) (a_UNKNOWN : Addr) (h0 : Heap) (n0 : Nat) (v : Option Value) (h : Heap) (L : List Loc) : Prop := Fr n0 L ∧ h = h0 ∧ ((v = some (.ref a_FALSE)))
set_option maxRecDepth 65536 in
set_option maxHeartbeats 40000000 in
theorem rm2_17 (l : Launch) (Z : State) (a0 : Array Value) (hw : ∀ d ∈ tables_1, d.before a0 Z = true) (ws : List Jvm.Cond) (a_TRUE : Addr) (a_FALSE : Addr) (a_UNKNOWN : Addr) (h0 : Heap) (n0 : Nat) (O0 : Old Z n0 h0) (HE : Env1 Z a_TRUE a_FALSE a_UNKNOWN)  :
    MetFree l M1 (head1 (Jvm.Cond.code M1 prog_32_method_6_code 3 (some (.object "com/example/herald4/herald4/filter/Truth")) :: ws) ({ frames := 0, cells := 0, slots := 0, locals := 0 } : Room)) (fun a U => a = #[(.ref a_FALSE), (.ref a_UNKNOWN)] ∧ Z.Warmed39 U.vm ∧ U.heap = h0) (fun _ _ _ _ _ => True) (fun _ U o U' => ∃ v L, o = .returned v ∧ Q2_17 Z a_TRUE a_FALSE a_UNKNOWN h0 n0 v U'.heap L ∧ FrameEnd U o U' L ({ frames := 0, cells := 0, slots := 0, locals := 0 } : Room).cells ({ frames := 0, cells := 0, slots := 0, locals := 0 } : Room).slots) := by
 refine MetFree.of_bodySF (plainFor_of_name pn1) hisR ?_
 intro p e s m args below meth c s₁ Bd hml0 hP hK
 obtain ⟨rfl, hZ, hh⟩ := hP
 have hx := Bd.exec
 have hby := Bd.bytes
 have hml : c.maxLocals = 3 := hml0
 have hown : s.vm.findClass "com/example/herald4/herald4/filter/Truth" = some m.cls := findClass_of_methodNamed Bd.named
 have hnm := (name_of_methodNamed Bd.named Bd.method).1
 have X0 : Stand p l e ({ frames := 0, cells := 0, slots := 0, locals := 0 } : Room) s m #[(.ref a_FALSE), (.ref a_UNKNOWN)] below meth c s₁ [] 0 0 := Stand.of_body Bd
 have e0 : s₁.heap = h0 := by rw [← hh, Bd.state]; rfl
 have N0 := Fr.nil n0
 let S0 : State → Prop := fun t => Steps p.tables e below (s₁.setTop (entryFrame m #[(.ref a_FALSE), (.ref a_UNKNOWN)] 3)) t
 have p0 : ∀ t, St p e below s₁ (mkF m 0 #[.val (.ref a_FALSE), .val (.ref a_UNKNOWN), .unset] []) t → S0 t := fun t k => castTop (ef2 m a_FALSE a_UNKNOWN) k
 have HE' := HE
 obtain ⟨Sa_TRUE, Ea_TRUE, Sa_FALSE, Ea_FALSE, Fa_TRUE_ordinal, Fa_FALSE_ordinal, Sa_UNKNOWN, Ea_UNKNOWN, Fa_UNKNOWN_ordinal⟩ := HE
 have p1 : ∀ t, St p e below s₁ (mkF m 1 #[.val (.ref a_FALSE), .val (.ref a_UNKNOWN), .unset] [(.ref a_FALSE)]) t → S0 t := fun t k => p0 t (by
   show St p e below s₁ (mkF m 0 #[.val (.ref a_FALSE), .val (.ref a_UNKNOWN), .unset] []) t
   refine XS.aloadN X0.here hx rfl (hb hby d2_0) rfl rfl ?_
   exact k)
 obtain ⟨T2, X2, e2, st2⟩ := getS2 X0 hx hZ hown (host := "") (Or.inl (ww hw 13 rfl)) Via.refl e0 (Sa_FALSE.ext O0.2) (g := (mkF m 1 #[.val (.ref a_FALSE), .val (.ref a_UNKNOWN), .unset] [(.ref a_FALSE)])) rfl (hb hby d2_1)
 have p3 : ∀ t, St p e below T2 (mkF m 4 #[.val (.ref a_FALSE), .val (.ref a_UNKNOWN), .unset] [(.ref a_FALSE), (.ref a_FALSE)]) t → S0 t := fun t k => p1 t (st2 t k)
 have p4 : ∀ t, St p e below T2 (mkF m 14 #[.val (.ref a_FALSE), .val (.ref a_UNKNOWN), .unset] []) t → S0 t := fun t k => p3 t (by
   show St p e below T2 (mkF m 4 #[.val (.ref a_FALSE), .val (.ref a_UNKNOWN), .unset] [(.ref a_FALSE), (.ref a_FALSE)]) t
   refine Jvm.RoadKit.acmp (g := (mkF m 4 #[.val (.ref a_FALSE), .val (.ref a_UNKNOWN), .unset] [(.ref a_FALSE), (.ref a_FALSE)])) X2 hx rfl rfl rfl (pc0 := 4) (pc' := 14) (same := true) rfl (hb hby d2_4) rfl (decide_eq_true rfl) (by decide) (by decide) ?_
   exact k)
 obtain ⟨T5, X5, e5, st5⟩ := getS2 X2 hx hZ hown (host := "") (Or.inl (ww hw 13 rfl)) Via.refl e2 (Sa_FALSE.ext O0.2) (g := (mkF m 14 #[.val (.ref a_FALSE), .val (.ref a_UNKNOWN), .unset] [])) rfl (hb hby d2_14)
 have p6 : ∀ t, St p e below T5 (mkF m 17 #[.val (.ref a_FALSE), .val (.ref a_UNKNOWN), .unset] [(.ref a_FALSE)]) t → S0 t := fun t k => p4 t (st5 t k)
 let Ls7 : Array Slot := #[.val (.ref a_FALSE), .val (.ref a_UNKNOWN), .val (.ref a_FALSE)]
 have p8 : ∀ t, St p e below T5 (mkF m 47 Ls7 [(.ref a_FALSE)]) t → S0 t := fun t k => p6 t (by
   show St p e below T5 (mkF m 17 #[.val (.ref a_FALSE), .val (.ref a_UNKNOWN), .unset] [(.ref a_FALSE)]) t
   refine XS.astoreN X5.here hx rfl (hb hby d2_17) rfl rfl (l' := Ls7) rfl ?_
   show St p e below T5 (mkF m 18 Ls7 []) t
   refine XS.goto X5.here hx rfl (pc0 := 18) (pc' := 46) rfl (hb hby d2_18) (by decide) (by decide) ?_
   show St p e below T5 (mkF m 46 Ls7 []) t
   refine XS.aloadN X5.here hx rfl (hb hby d2_46) rfl rfl ?_
   exact k)
 obtain ⟨fs, hr, hrun, hended, hW, hsame⟩ := X5.leave (v := some (.ref a_FALSE)) (fun h => by rw [Bd.returns] at h; cases h)
 refine ⟨_, _, p8 _ ?_, hrun, hended, _, _, rfl, ?_, ⟨_, rfl⟩, hW, hsame.mono (by decide) (by decide)⟩
 · exact retOut X5 hx Bd.returns rfl (Or.inr (Or.inr (Or.inr (Or.inr ⟨rfl, rfl, rfl⟩)))) (hb hby d2_47) hr
 · show Q2_17 Z a_TRUE a_FALSE a_UNKNOWN h0 n0 _ T5.heap _
   exact ⟨N0, e5, rfl⟩
def Q4_18 (Z : State) (a_TRUE : Addr) (a_FALSE : Addr) (a_UNKNOWN : Addr) (h0 : Heap) (n0 : Nat) (v : Option Value) (h : Heap) (L : List Loc) : Prop := Fr n0 L ∧ h = h0 ∧ ((v = some (.int (0 : Int32))))
set_option maxRecDepth 65536 in
set_option maxHeartbeats 40000000 in
theorem rm4_18 (l : Launch) (Z : State) (a0 : Array Value) (hw : ∀ d ∈ tables_1, d.before a0 Z = true) (ws : List Jvm.Cond) (a_TRUE : Addr) (a_FALSE : Addr) (a_UNKNOWN : Addr) (h0 : Heap) (n0 : Nat) (O0 : Old Z n0 h0) (HE : Env1 Z a_TRUE a_FALSE a_UNKNOWN)  :
    MetFree l M3 (head1 (Jvm.Cond.code M3 jdk_29_method_69_code 2 (some .int) :: ws) ({ frames := 0, cells := 0, slots := 0, locals := 0 } : Room)) (fun a U => a = #[(.int (0 : Int32)), (.int (1 : Int32))] ∧ Z.Warmed39 U.vm ∧ U.heap = h0) (fun _ _ _ _ _ => True) (fun _ U o U' => ∃ v L, o = .returned v ∧ Q4_18 Z a_TRUE a_FALSE a_UNKNOWN h0 n0 v U'.heap L ∧ FrameEnd U o U' L ({ frames := 0, cells := 0, slots := 0, locals := 0 } : Room).cells ({ frames := 0, cells := 0, slots := 0, locals := 0 } : Room).slots) := by
 refine MetFree.of_bodySF (Jvm.Free.JP.mathPlain rfl (by decide +kernel)) hisR ?_
 intro p e s m args below meth c s₁ Bd hml0 hP hK
 obtain ⟨rfl, hZ, hh⟩ := hP
 have hx := Bd.exec
 have hby := Bd.bytes
 have hml : c.maxLocals = 2 := hml0
 have hown : s.vm.findClass "java/lang/Math" = some m.cls := findClass_of_methodNamed Bd.named
 have hnm := (name_of_methodNamed Bd.named Bd.method).1
 have X0 : Stand p l e ({ frames := 0, cells := 0, slots := 0, locals := 0 } : Room) s m #[(.int (0 : Int32)), (.int (1 : Int32))] below meth c s₁ [] 0 0 := Stand.of_body Bd
 have e0 : s₁.heap = h0 := by rw [← hh, Bd.state]; rfl
 have N0 := Fr.nil n0
 let S0 : State → Prop := fun t => Steps p.tables e below (s₁.setTop (entryFrame m #[(.int (0 : Int32)), (.int (1 : Int32))] 2)) t
 have p0 : ∀ t, St p e below s₁ (mkF m 0 #[.val (.int (0 : Int32)), .val (.int (1 : Int32))] []) t → S0 t := fun t k => castTop (ef4 m (0 : Int32) (1 : Int32)) k
 have HE' := HE
 obtain ⟨Sa_TRUE, Ea_TRUE, Sa_FALSE, Ea_FALSE, Fa_TRUE_ordinal, Fa_FALSE_ordinal, Sa_UNKNOWN, Ea_UNKNOWN, Fa_UNKNOWN_ordinal⟩ := HE
 have p1 : ∀ t, St p e below s₁ (mkF m 10 #[.val (.int (0 : Int32)), .val (.int (1 : Int32))] [(.int (0 : Int32))]) t → S0 t := fun t k => p0 t (by
   show St p e below s₁ (mkF m 0 #[.val (.int (0 : Int32)), .val (.int (1 : Int32))] []) t
   refine XS.iloadN X0.here hx rfl (hb hby d4_0) rfl ?_
   show St p e below s₁ (mkF m 1 #[.val (.int (0 : Int32)), .val (.int (1 : Int32))] [(.int (0 : Int32))]) t
   refine XS.iloadN X0.here hx rfl (hb hby d4_1) rfl ?_
   show St p e below s₁ (mkF m 2 #[.val (.int (0 : Int32)), .val (.int (1 : Int32))] [(.int (1 : Int32)), (.int (0 : Int32))]) t
   refine XS.icmpNo X0.here hx rfl (hb hby d4_2) rfl (flt (by decide : ¬ ((1 : Int32) < (0 : Int32)))).2.2.1 ?_
   show St p e below s₁ (mkF m 5 #[.val (.int (0 : Int32)), .val (.int (1 : Int32))] []) t
   refine XS.iloadN X0.here hx rfl (hb hby d4_5) rfl ?_
   show St p e below s₁ (mkF m 6 #[.val (.int (0 : Int32)), .val (.int (1 : Int32))] [(.int (0 : Int32))]) t
   refine XS.goto X0.here hx rfl (pc0 := 6) (pc' := 10) rfl (hb hby d4_6) (by decide) (by decide) ?_
   exact k)
 obtain ⟨fs, hr, hrun, hended, hW, hsame⟩ := X0.leave (v := some (.int (0 : Int32))) (fun h => by rw [Bd.returns] at h; cases h)
 refine ⟨_, _, p1 _ ?_, hrun, hended, _, _, rfl, ?_, ⟨_, rfl⟩, hW, hsame.mono (by decide) (by decide)⟩
 · exact retOut X0 hx Bd.returns rfl (Or.inl ⟨rfl, by simp, _, rfl⟩) (hb hby d4_10) hr
 · show Q4_18 Z a_TRUE a_FALSE a_UNKNOWN h0 n0 _ s₁.heap _
   exact ⟨N0, e0, rfl⟩
def Q2_19 (Z : State) (a_TRUE : Addr) (a_FALSE : Addr) (a_UNKNOWN : Addr) (h0 : Heap) (n0 : Nat) (v : Option Value) (h : Heap) (L : List Loc) : Prop := Fr n0 L ∧ h = h0 ∧ ((v = some (.ref a_UNKNOWN)))
set_option maxRecDepth 65536 in
set_option maxHeartbeats 40000000 in
theorem rm2_19 (l : Launch) (Z : State) (a0 : Array Value) (hw : ∀ d ∈ tables_1, d.before a0 Z = true) (ws : List Jvm.Cond) (a_TRUE : Addr) (a_FALSE : Addr) (a_UNKNOWN : Addr) (h0 : Heap) (n0 : Nat) (O0 : Old Z n0 h0) (HE : Env1 Z a_TRUE a_FALSE a_UNKNOWN)  :
    MetFree l M1 (head1 (Jvm.Cond.code M1 prog_32_method_6_code 3 (some (.object "com/example/herald4/herald4/filter/Truth")) :: ws) ({ frames := 0, cells := 0, slots := 0, locals := 0 } : Room)) (fun a U => a = #[(.ref a_UNKNOWN), (.ref a_TRUE)] ∧ Z.Warmed39 U.vm ∧ U.heap = h0) (fun _ _ _ _ _ => True) (fun _ U o U' => ∃ v L, o = .returned v ∧ Q2_19 Z a_TRUE a_FALSE a_UNKNOWN h0 n0 v U'.heap L ∧ FrameEnd U o U' L ({ frames := 0, cells := 0, slots := 0, locals := 0 } : Room).cells ({ frames := 0, cells := 0, slots := 0, locals := 0 } : Room).slots) := by
 refine MetFree.of_bodySF (plainFor_of_name pn1) hisR ?_
 intro p e s m args below meth c s₁ Bd hml0 hP hK
 obtain ⟨rfl, hZ, hh⟩ := hP
 have hx := Bd.exec
 have hby := Bd.bytes
 have hml : c.maxLocals = 3 := hml0
 have hown : s.vm.findClass "com/example/herald4/herald4/filter/Truth" = some m.cls := findClass_of_methodNamed Bd.named
 have hnm := (name_of_methodNamed Bd.named Bd.method).1
 have X0 : Stand p l e ({ frames := 0, cells := 0, slots := 0, locals := 0 } : Room) s m #[(.ref a_UNKNOWN), (.ref a_TRUE)] below meth c s₁ [] 0 0 := Stand.of_body Bd
 have e0 : s₁.heap = h0 := by rw [← hh, Bd.state]; rfl
 have N0 := Fr.nil n0
 let S0 : State → Prop := fun t => Steps p.tables e below (s₁.setTop (entryFrame m #[(.ref a_UNKNOWN), (.ref a_TRUE)] 3)) t
 have p0 : ∀ t, St p e below s₁ (mkF m 0 #[.val (.ref a_UNKNOWN), .val (.ref a_TRUE), .unset] []) t → S0 t := fun t k => castTop (ef2 m a_UNKNOWN a_TRUE) k
 have HE' := HE
 obtain ⟨Sa_TRUE, Ea_TRUE, Sa_FALSE, Ea_FALSE, Fa_TRUE_ordinal, Fa_FALSE_ordinal, Sa_UNKNOWN, Ea_UNKNOWN, Fa_UNKNOWN_ordinal⟩ := HE
 have p1 : ∀ t, St p e below s₁ (mkF m 1 #[.val (.ref a_UNKNOWN), .val (.ref a_TRUE), .unset] [(.ref a_UNKNOWN)]) t → S0 t := fun t k => p0 t (by
   show St p e below s₁ (mkF m 0 #[.val (.ref a_UNKNOWN), .val (.ref a_TRUE), .unset] []) t
   refine XS.aloadN X0.here hx rfl (hb hby d2_0) rfl rfl ?_
   exact k)
 obtain ⟨T2, X2, e2, st2⟩ := getS2 X0 hx hZ hown (host := "") (Or.inl (ww hw 13 rfl)) Via.refl e0 (Sa_FALSE.ext O0.2) (g := (mkF m 1 #[.val (.ref a_UNKNOWN), .val (.ref a_TRUE), .unset] [(.ref a_UNKNOWN)])) rfl (hb hby d2_1)
 have p3 : ∀ t, St p e below T2 (mkF m 4 #[.val (.ref a_UNKNOWN), .val (.ref a_TRUE), .unset] [(.ref a_FALSE), (.ref a_UNKNOWN)]) t → S0 t := fun t k => p1 t (st2 t k)
 have p4 : ∀ t, St p e below T2 (mkF m 8 #[.val (.ref a_UNKNOWN), .val (.ref a_TRUE), .unset] [(.ref a_TRUE)]) t → S0 t := fun t k => p3 t (by
   show St p e below T2 (mkF m 4 #[.val (.ref a_UNKNOWN), .val (.ref a_TRUE), .unset] [(.ref a_FALSE), (.ref a_UNKNOWN)]) t
   refine Jvm.RoadKit.acmp (g := (mkF m 4 #[.val (.ref a_UNKNOWN), .val (.ref a_TRUE), .unset] [(.ref a_FALSE), (.ref a_UNKNOWN)])) X2 hx rfl rfl rfl (pc0 := 4) (pc' := 7) (same := false) rfl (hb hby d2_4) rfl (decide_eq_false fun q => (Fld.ne Fa_UNKNOWN_ordinal Fa_FALSE_ordinal (fun q => absurd (Value.int.inj q) (by decide))) (Value.ref.inj q)) (by decide) (by decide) ?_
   show St p e below T2 (mkF m 7 #[.val (.ref a_UNKNOWN), .val (.ref a_TRUE), .unset] []) t
   refine XS.aloadN X2.here hx rfl (hb hby d2_7) rfl rfl ?_
   exact k)
 obtain ⟨T5, X5, e5, st5⟩ := getS2 X2 hx hZ hown (host := "") (Or.inl (ww hw 13 rfl)) Via.refl e2 (Sa_FALSE.ext O0.2) (g := (mkF m 8 #[.val (.ref a_UNKNOWN), .val (.ref a_TRUE), .unset] [(.ref a_TRUE)])) rfl (hb hby d2_8)
 have p6 : ∀ t, St p e below T5 (mkF m 11 #[.val (.ref a_UNKNOWN), .val (.ref a_TRUE), .unset] [(.ref a_FALSE), (.ref a_TRUE)]) t → S0 t := fun t k => p4 t (st5 t k)
 have p7 : ∀ t, St p e below T5 (mkF m 22 #[.val (.ref a_UNKNOWN), .val (.ref a_TRUE), .unset] [(.ref a_UNKNOWN)]) t → S0 t := fun t k => p6 t (by
   show St p e below T5 (mkF m 11 #[.val (.ref a_UNKNOWN), .val (.ref a_TRUE), .unset] [(.ref a_FALSE), (.ref a_TRUE)]) t
   refine Jvm.RoadKit.acmp (g := (mkF m 11 #[.val (.ref a_UNKNOWN), .val (.ref a_TRUE), .unset] [(.ref a_FALSE), (.ref a_TRUE)])) X5 hx rfl rfl rfl (pc0 := 11) (pc' := 21) (same := false) rfl (hb hby d2_11) rfl (decide_eq_false fun q => (Fld.ne Fa_TRUE_ordinal Fa_FALSE_ordinal (fun q => absurd (Value.int.inj q) (by decide))) (Value.ref.inj q)) (by decide) (by decide) ?_
   show St p e below T5 (mkF m 21 #[.val (.ref a_UNKNOWN), .val (.ref a_TRUE), .unset] []) t
   refine XS.aloadN X5.here hx rfl (hb hby d2_21) rfl rfl ?_
   exact k)
 obtain ⟨T8, X8, e8, st8⟩ := getS2 X5 hx hZ hown (host := "") (Or.inl (ww hw 15 rfl)) Via.refl e5 (Sa_UNKNOWN.ext O0.2) (g := (mkF m 22 #[.val (.ref a_UNKNOWN), .val (.ref a_TRUE), .unset] [(.ref a_UNKNOWN)])) rfl (hb hby d2_22)
 have p9 : ∀ t, St p e below T8 (mkF m 25 #[.val (.ref a_UNKNOWN), .val (.ref a_TRUE), .unset] [(.ref a_UNKNOWN), (.ref a_UNKNOWN)]) t → S0 t := fun t k => p7 t (st8 t k)
 have p10 : ∀ t, St p e below T8 (mkF m 35 #[.val (.ref a_UNKNOWN), .val (.ref a_TRUE), .unset] []) t → S0 t := fun t k => p9 t (by
   show St p e below T8 (mkF m 25 #[.val (.ref a_UNKNOWN), .val (.ref a_TRUE), .unset] [(.ref a_UNKNOWN), (.ref a_UNKNOWN)]) t
   refine Jvm.RoadKit.acmp (g := (mkF m 25 #[.val (.ref a_UNKNOWN), .val (.ref a_TRUE), .unset] [(.ref a_UNKNOWN), (.ref a_UNKNOWN)])) X8 hx rfl rfl rfl (pc0 := 25) (pc' := 35) (same := true) rfl (hb hby d2_25) rfl (decide_eq_true rfl) (by decide) (by decide) ?_
   exact k)
 obtain ⟨T11, X11, e11, st11⟩ := getS2 X8 hx hZ hown (host := "") (Or.inl (ww hw 15 rfl)) Via.refl e8 (Sa_UNKNOWN.ext O0.2) (g := (mkF m 35 #[.val (.ref a_UNKNOWN), .val (.ref a_TRUE), .unset] [])) rfl (hb hby d2_35)
 have p12 : ∀ t, St p e below T11 (mkF m 38 #[.val (.ref a_UNKNOWN), .val (.ref a_TRUE), .unset] [(.ref a_UNKNOWN)]) t → S0 t := fun t k => p10 t (st11 t k)
 let Ls13 : Array Slot := #[.val (.ref a_UNKNOWN), .val (.ref a_TRUE), .val (.ref a_UNKNOWN)]
 have p14 : ∀ t, St p e below T11 (mkF m 47 Ls13 [(.ref a_UNKNOWN)]) t → S0 t := fun t k => p12 t (by
   show St p e below T11 (mkF m 38 #[.val (.ref a_UNKNOWN), .val (.ref a_TRUE), .unset] [(.ref a_UNKNOWN)]) t
   refine XS.astoreN X11.here hx rfl (hb hby d2_38) rfl rfl (l' := Ls13) rfl ?_
   show St p e below T11 (mkF m 39 Ls13 []) t
   refine XS.goto X11.here hx rfl (pc0 := 39) (pc' := 46) rfl (hb hby d2_39) (by decide) (by decide) ?_
   show St p e below T11 (mkF m 46 Ls13 []) t
   refine XS.aloadN X11.here hx rfl (hb hby d2_46) rfl rfl ?_
   exact k)
 obtain ⟨fs, hr, hrun, hended, hW, hsame⟩ := X11.leave (v := some (.ref a_UNKNOWN)) (fun h => by rw [Bd.returns] at h; cases h)
 refine ⟨_, _, p14 _ ?_, hrun, hended, _, _, rfl, ?_, ⟨_, rfl⟩, hW, hsame.mono (by decide) (by decide)⟩
 · exact retOut X11 hx Bd.returns rfl (Or.inr (Or.inr (Or.inr (Or.inr ⟨rfl, rfl, rfl⟩)))) (hb hby d2_47) hr
 · show Q2_19 Z a_TRUE a_FALSE a_UNKNOWN h0 n0 _ T11.heap _
   exact ⟨N0, e11, rfl⟩
def Q4_20 (Z : State) (a_TRUE : Addr) (a_FALSE : Addr) (a_UNKNOWN : Addr) (h0 : Heap) (n0 : Nat) (v : Option Value) (h : Heap) (L : List Loc) : Prop := Fr n0 L ∧ h = h0 ∧ ((v = some (.int (1 : Int32))))
set_option maxRecDepth 65536 in
set_option maxHeartbeats 40000000 in
theorem rm4_20 (l : Launch) (Z : State) (a0 : Array Value) (hw : ∀ d ∈ tables_1, d.before a0 Z = true) (ws : List Jvm.Cond) (a_TRUE : Addr) (a_FALSE : Addr) (a_UNKNOWN : Addr) (h0 : Heap) (n0 : Nat) (O0 : Old Z n0 h0) (HE : Env1 Z a_TRUE a_FALSE a_UNKNOWN)  :
    MetFree l M3 (head1 (Jvm.Cond.code M3 jdk_29_method_69_code 2 (some .int) :: ws) ({ frames := 0, cells := 0, slots := 0, locals := 0 } : Room)) (fun a U => a = #[(.int (1 : Int32)), (.int (2 : Int32))] ∧ Z.Warmed39 U.vm ∧ U.heap = h0) (fun _ _ _ _ _ => True) (fun _ U o U' => ∃ v L, o = .returned v ∧ Q4_20 Z a_TRUE a_FALSE a_UNKNOWN h0 n0 v U'.heap L ∧ FrameEnd U o U' L ({ frames := 0, cells := 0, slots := 0, locals := 0 } : Room).cells ({ frames := 0, cells := 0, slots := 0, locals := 0 } : Room).slots) := by
 refine MetFree.of_bodySF (Jvm.Free.JP.mathPlain rfl (by decide +kernel)) hisR ?_
 intro p e s m args below meth c s₁ Bd hml0 hP hK
 obtain ⟨rfl, hZ, hh⟩ := hP
 have hx := Bd.exec
 have hby := Bd.bytes
 have hml : c.maxLocals = 2 := hml0
 have hown : s.vm.findClass "java/lang/Math" = some m.cls := findClass_of_methodNamed Bd.named
 have hnm := (name_of_methodNamed Bd.named Bd.method).1
 have X0 : Stand p l e ({ frames := 0, cells := 0, slots := 0, locals := 0 } : Room) s m #[(.int (1 : Int32)), (.int (2 : Int32))] below meth c s₁ [] 0 0 := Stand.of_body Bd
 have e0 : s₁.heap = h0 := by rw [← hh, Bd.state]; rfl
 have N0 := Fr.nil n0
 let S0 : State → Prop := fun t => Steps p.tables e below (s₁.setTop (entryFrame m #[(.int (1 : Int32)), (.int (2 : Int32))] 2)) t
 have p0 : ∀ t, St p e below s₁ (mkF m 0 #[.val (.int (1 : Int32)), .val (.int (2 : Int32))] []) t → S0 t := fun t k => castTop (ef4 m (1 : Int32) (2 : Int32)) k
 have HE' := HE
 obtain ⟨Sa_TRUE, Ea_TRUE, Sa_FALSE, Ea_FALSE, Fa_TRUE_ordinal, Fa_FALSE_ordinal, Sa_UNKNOWN, Ea_UNKNOWN, Fa_UNKNOWN_ordinal⟩ := HE
 have p1 : ∀ t, St p e below s₁ (mkF m 10 #[.val (.int (1 : Int32)), .val (.int (2 : Int32))] [(.int (1 : Int32))]) t → S0 t := fun t k => p0 t (by
   show St p e below s₁ (mkF m 0 #[.val (.int (1 : Int32)), .val (.int (2 : Int32))] []) t
   refine XS.iloadN X0.here hx rfl (hb hby d4_0) rfl ?_
   show St p e below s₁ (mkF m 1 #[.val (.int (1 : Int32)), .val (.int (2 : Int32))] [(.int (1 : Int32))]) t
   refine XS.iloadN X0.here hx rfl (hb hby d4_1) rfl ?_
   show St p e below s₁ (mkF m 2 #[.val (.int (1 : Int32)), .val (.int (2 : Int32))] [(.int (2 : Int32)), (.int (1 : Int32))]) t
   refine XS.icmpNo X0.here hx rfl (hb hby d4_2) rfl (flt (by decide : ¬ ((2 : Int32) < (1 : Int32)))).2.2.1 ?_
   show St p e below s₁ (mkF m 5 #[.val (.int (1 : Int32)), .val (.int (2 : Int32))] []) t
   refine XS.iloadN X0.here hx rfl (hb hby d4_5) rfl ?_
   show St p e below s₁ (mkF m 6 #[.val (.int (1 : Int32)), .val (.int (2 : Int32))] [(.int (1 : Int32))]) t
   refine XS.goto X0.here hx rfl (pc0 := 6) (pc' := 10) rfl (hb hby d4_6) (by decide) (by decide) ?_
   exact k)
 obtain ⟨fs, hr, hrun, hended, hW, hsame⟩ := X0.leave (v := some (.int (1 : Int32))) (fun h => by rw [Bd.returns] at h; cases h)
 refine ⟨_, _, p1 _ ?_, hrun, hended, _, _, rfl, ?_, ⟨_, rfl⟩, hW, hsame.mono (by decide) (by decide)⟩
 · exact retOut X0 hx Bd.returns rfl (Or.inl ⟨rfl, by simp, _, rfl⟩) (hb hby d4_10) hr
 · show Q4_20 Z a_TRUE a_FALSE a_UNKNOWN h0 n0 _ s₁.heap _
   exact ⟨N0, e0, rfl⟩
def Q2_21 (Z : State) (a_TRUE : Addr) (a_FALSE : Addr) (a_UNKNOWN : Addr) (h0 : Heap) (n0 : Nat) (v : Option Value) (h : Heap) (L : List Loc) : Prop := Fr n0 L ∧ h = h0 ∧ ((v = some (.ref a_FALSE)))
set_option maxRecDepth 65536 in
set_option maxHeartbeats 40000000 in
theorem rm2_21 (l : Launch) (Z : State) (a0 : Array Value) (hw : ∀ d ∈ tables_1, d.before a0 Z = true) (ws : List Jvm.Cond) (a_TRUE : Addr) (a_FALSE : Addr) (a_UNKNOWN : Addr) (h0 : Heap) (n0 : Nat) (O0 : Old Z n0 h0) (HE : Env1 Z a_TRUE a_FALSE a_UNKNOWN)  :
    MetFree l M1 (head1 (Jvm.Cond.code M1 prog_32_method_6_code 3 (some (.object "com/example/herald4/herald4/filter/Truth")) :: ws) ({ frames := 0, cells := 0, slots := 0, locals := 0 } : Room)) (fun a U => a = #[(.ref a_UNKNOWN), (.ref a_FALSE)] ∧ Z.Warmed39 U.vm ∧ U.heap = h0) (fun _ _ _ _ _ => True) (fun _ U o U' => ∃ v L, o = .returned v ∧ Q2_21 Z a_TRUE a_FALSE a_UNKNOWN h0 n0 v U'.heap L ∧ FrameEnd U o U' L ({ frames := 0, cells := 0, slots := 0, locals := 0 } : Room).cells ({ frames := 0, cells := 0, slots := 0, locals := 0 } : Room).slots) := by
 refine MetFree.of_bodySF (plainFor_of_name pn1) hisR ?_
 intro p e s m args below meth c s₁ Bd hml0 hP hK
 obtain ⟨rfl, hZ, hh⟩ := hP
 have hx := Bd.exec
 have hby := Bd.bytes
 have hml : c.maxLocals = 3 := hml0
 have hown : s.vm.findClass "com/example/herald4/herald4/filter/Truth" = some m.cls := findClass_of_methodNamed Bd.named
 have hnm := (name_of_methodNamed Bd.named Bd.method).1
 have X0 : Stand p l e ({ frames := 0, cells := 0, slots := 0, locals := 0 } : Room) s m #[(.ref a_UNKNOWN), (.ref a_FALSE)] below meth c s₁ [] 0 0 := Stand.of_body Bd
 have e0 : s₁.heap = h0 := by rw [← hh, Bd.state]; rfl
 have N0 := Fr.nil n0
 let S0 : State → Prop := fun t => Steps p.tables e below (s₁.setTop (entryFrame m #[(.ref a_UNKNOWN), (.ref a_FALSE)] 3)) t
 have p0 : ∀ t, St p e below s₁ (mkF m 0 #[.val (.ref a_UNKNOWN), .val (.ref a_FALSE), .unset] []) t → S0 t := fun t k => castTop (ef2 m a_UNKNOWN a_FALSE) k
 have HE' := HE
 obtain ⟨Sa_TRUE, Ea_TRUE, Sa_FALSE, Ea_FALSE, Fa_TRUE_ordinal, Fa_FALSE_ordinal, Sa_UNKNOWN, Ea_UNKNOWN, Fa_UNKNOWN_ordinal⟩ := HE
 have p1 : ∀ t, St p e below s₁ (mkF m 1 #[.val (.ref a_UNKNOWN), .val (.ref a_FALSE), .unset] [(.ref a_UNKNOWN)]) t → S0 t := fun t k => p0 t (by
   show St p e below s₁ (mkF m 0 #[.val (.ref a_UNKNOWN), .val (.ref a_FALSE), .unset] []) t
   refine XS.aloadN X0.here hx rfl (hb hby d2_0) rfl rfl ?_
   exact k)
 obtain ⟨T2, X2, e2, st2⟩ := getS2 X0 hx hZ hown (host := "") (Or.inl (ww hw 13 rfl)) Via.refl e0 (Sa_FALSE.ext O0.2) (g := (mkF m 1 #[.val (.ref a_UNKNOWN), .val (.ref a_FALSE), .unset] [(.ref a_UNKNOWN)])) rfl (hb hby d2_1)
 have p3 : ∀ t, St p e below T2 (mkF m 4 #[.val (.ref a_UNKNOWN), .val (.ref a_FALSE), .unset] [(.ref a_FALSE), (.ref a_UNKNOWN)]) t → S0 t := fun t k => p1 t (st2 t k)
 have p4 : ∀ t, St p e below T2 (mkF m 8 #[.val (.ref a_UNKNOWN), .val (.ref a_FALSE), .unset] [(.ref a_FALSE)]) t → S0 t := fun t k => p3 t (by
   show St p e below T2 (mkF m 4 #[.val (.ref a_UNKNOWN), .val (.ref a_FALSE), .unset] [(.ref a_FALSE), (.ref a_UNKNOWN)]) t
   refine Jvm.RoadKit.acmp (g := (mkF m 4 #[.val (.ref a_UNKNOWN), .val (.ref a_FALSE), .unset] [(.ref a_FALSE), (.ref a_UNKNOWN)])) X2 hx rfl rfl rfl (pc0 := 4) (pc' := 7) (same := false) rfl (hb hby d2_4) rfl (decide_eq_false fun q => (Fld.ne Fa_UNKNOWN_ordinal Fa_FALSE_ordinal (fun q => absurd (Value.int.inj q) (by decide))) (Value.ref.inj q)) (by decide) (by decide) ?_
   show St p e below T2 (mkF m 7 #[.val (.ref a_UNKNOWN), .val (.ref a_FALSE), .unset] []) t
   refine XS.aloadN X2.here hx rfl (hb hby d2_7) rfl rfl ?_
   exact k)
 obtain ⟨T5, X5, e5, st5⟩ := getS2 X2 hx hZ hown (host := "") (Or.inl (ww hw 13 rfl)) Via.refl e2 (Sa_FALSE.ext O0.2) (g := (mkF m 8 #[.val (.ref a_UNKNOWN), .val (.ref a_FALSE), .unset] [(.ref a_FALSE)])) rfl (hb hby d2_8)
 have p6 : ∀ t, St p e below T5 (mkF m 11 #[.val (.ref a_UNKNOWN), .val (.ref a_FALSE), .unset] [(.ref a_FALSE), (.ref a_FALSE)]) t → S0 t := fun t k => p4 t (st5 t k)
 have p7 : ∀ t, St p e below T5 (mkF m 14 #[.val (.ref a_UNKNOWN), .val (.ref a_FALSE), .unset] []) t → S0 t := fun t k => p6 t (by
   show St p e below T5 (mkF m 11 #[.val (.ref a_UNKNOWN), .val (.ref a_FALSE), .unset] [(.ref a_FALSE), (.ref a_FALSE)]) t
   refine Jvm.RoadKit.acmp (g := (mkF m 11 #[.val (.ref a_UNKNOWN), .val (.ref a_FALSE), .unset] [(.ref a_FALSE), (.ref a_FALSE)])) X5 hx rfl rfl rfl (pc0 := 11) (pc' := 14) (same := true) rfl (hb hby d2_11) rfl (decide_eq_true rfl) (by decide) (by decide) ?_
   exact k)
 obtain ⟨T8, X8, e8, st8⟩ := getS2 X5 hx hZ hown (host := "") (Or.inl (ww hw 13 rfl)) Via.refl e5 (Sa_FALSE.ext O0.2) (g := (mkF m 14 #[.val (.ref a_UNKNOWN), .val (.ref a_FALSE), .unset] [])) rfl (hb hby d2_14)
 have p9 : ∀ t, St p e below T8 (mkF m 17 #[.val (.ref a_UNKNOWN), .val (.ref a_FALSE), .unset] [(.ref a_FALSE)]) t → S0 t := fun t k => p7 t (st8 t k)
 let Ls10 : Array Slot := #[.val (.ref a_UNKNOWN), .val (.ref a_FALSE), .val (.ref a_FALSE)]
 have p11 : ∀ t, St p e below T8 (mkF m 47 Ls10 [(.ref a_FALSE)]) t → S0 t := fun t k => p9 t (by
   show St p e below T8 (mkF m 17 #[.val (.ref a_UNKNOWN), .val (.ref a_FALSE), .unset] [(.ref a_FALSE)]) t
   refine XS.astoreN X8.here hx rfl (hb hby d2_17) rfl rfl (l' := Ls10) rfl ?_
   show St p e below T8 (mkF m 18 Ls10 []) t
   refine XS.goto X8.here hx rfl (pc0 := 18) (pc' := 46) rfl (hb hby d2_18) (by decide) (by decide) ?_
   show St p e below T8 (mkF m 46 Ls10 []) t
   refine XS.aloadN X8.here hx rfl (hb hby d2_46) rfl rfl ?_
   exact k)
 obtain ⟨fs, hr, hrun, hended, hW, hsame⟩ := X8.leave (v := some (.ref a_FALSE)) (fun h => by rw [Bd.returns] at h; cases h)
 refine ⟨_, _, p11 _ ?_, hrun, hended, _, _, rfl, ?_, ⟨_, rfl⟩, hW, hsame.mono (by decide) (by decide)⟩
 · exact retOut X8 hx Bd.returns rfl (Or.inr (Or.inr (Or.inr (Or.inr ⟨rfl, rfl, rfl⟩)))) (hb hby d2_47) hr
 · show Q2_21 Z a_TRUE a_FALSE a_UNKNOWN h0 n0 _ T8.heap _
   exact ⟨N0, e8, rfl⟩
def Q4_22 (Z : State) (a_TRUE : Addr) (a_FALSE : Addr) (a_UNKNOWN : Addr) (h0 : Heap) (n0 : Nat) (v : Option Value) (h : Heap) (L : List Loc) : Prop := Fr n0 L ∧ h = h0 ∧ ((v = some (.int (0 : Int32))))
set_option maxRecDepth 65536 in
set_option maxHeartbeats 40000000 in
theorem rm4_22 (l : Launch) (Z : State) (a0 : Array Value) (hw : ∀ d ∈ tables_1, d.before a0 Z = true) (ws : List Jvm.Cond) (a_TRUE : Addr) (a_FALSE : Addr) (a_UNKNOWN : Addr) (h0 : Heap) (n0 : Nat) (O0 : Old Z n0 h0) (HE : Env1 Z a_TRUE a_FALSE a_UNKNOWN)  :
    MetFree l M3 (head1 (Jvm.Cond.code M3 jdk_29_method_69_code 2 (some .int) :: ws) ({ frames := 0, cells := 0, slots := 0, locals := 0 } : Room)) (fun a U => a = #[(.int (1 : Int32)), (.int (0 : Int32))] ∧ Z.Warmed39 U.vm ∧ U.heap = h0) (fun _ _ _ _ _ => True) (fun _ U o U' => ∃ v L, o = .returned v ∧ Q4_22 Z a_TRUE a_FALSE a_UNKNOWN h0 n0 v U'.heap L ∧ FrameEnd U o U' L ({ frames := 0, cells := 0, slots := 0, locals := 0 } : Room).cells ({ frames := 0, cells := 0, slots := 0, locals := 0 } : Room).slots) := by
 refine MetFree.of_bodySF (Jvm.Free.JP.mathPlain rfl (by decide +kernel)) hisR ?_
 intro p e s m args below meth c s₁ Bd hml0 hP hK
 obtain ⟨rfl, hZ, hh⟩ := hP
 have hx := Bd.exec
 have hby := Bd.bytes
 have hml : c.maxLocals = 2 := hml0
 have hown : s.vm.findClass "java/lang/Math" = some m.cls := findClass_of_methodNamed Bd.named
 have hnm := (name_of_methodNamed Bd.named Bd.method).1
 have X0 : Stand p l e ({ frames := 0, cells := 0, slots := 0, locals := 0 } : Room) s m #[(.int (1 : Int32)), (.int (0 : Int32))] below meth c s₁ [] 0 0 := Stand.of_body Bd
 have e0 : s₁.heap = h0 := by rw [← hh, Bd.state]; rfl
 have N0 := Fr.nil n0
 let S0 : State → Prop := fun t => Steps p.tables e below (s₁.setTop (entryFrame m #[(.int (1 : Int32)), (.int (0 : Int32))] 2)) t
 have p0 : ∀ t, St p e below s₁ (mkF m 0 #[.val (.int (1 : Int32)), .val (.int (0 : Int32))] []) t → S0 t := fun t k => castTop (ef4 m (1 : Int32) (0 : Int32)) k
 have HE' := HE
 obtain ⟨Sa_TRUE, Ea_TRUE, Sa_FALSE, Ea_FALSE, Fa_TRUE_ordinal, Fa_FALSE_ordinal, Sa_UNKNOWN, Ea_UNKNOWN, Fa_UNKNOWN_ordinal⟩ := HE
 have p1 : ∀ t, St p e below s₁ (mkF m 10 #[.val (.int (1 : Int32)), .val (.int (0 : Int32))] [(.int (0 : Int32))]) t → S0 t := fun t k => p0 t (by
   show St p e below s₁ (mkF m 0 #[.val (.int (1 : Int32)), .val (.int (0 : Int32))] []) t
   refine XS.iloadN X0.here hx rfl (hb hby d4_0) rfl ?_
   show St p e below s₁ (mkF m 1 #[.val (.int (1 : Int32)), .val (.int (0 : Int32))] [(.int (1 : Int32))]) t
   refine XS.iloadN X0.here hx rfl (hb hby d4_1) rfl ?_
   show St p e below s₁ (mkF m 2 #[.val (.int (1 : Int32)), .val (.int (0 : Int32))] [(.int (0 : Int32)), (.int (1 : Int32))]) t
   refine XS.icmpYes X0.here hx rfl (pc0 := 2) (pc' := 9) rfl (hb hby d4_2) rfl (tlt (by decide : (0 : Int32) < (1 : Int32))).2.2.1 (by decide) (by decide) ?_
   show St p e below s₁ (mkF m 9 #[.val (.int (1 : Int32)), .val (.int (0 : Int32))] []) t
   refine XS.iloadN X0.here hx rfl (hb hby d4_9) rfl ?_
   exact k)
 obtain ⟨fs, hr, hrun, hended, hW, hsame⟩ := X0.leave (v := some (.int (0 : Int32))) (fun h => by rw [Bd.returns] at h; cases h)
 refine ⟨_, _, p1 _ ?_, hrun, hended, _, _, rfl, ?_, ⟨_, rfl⟩, hW, hsame.mono (by decide) (by decide)⟩
 · exact retOut X0 hx Bd.returns rfl (Or.inl ⟨rfl, by simp, _, rfl⟩) (hb hby d4_10) hr
 · show Q4_22 Z a_TRUE a_FALSE a_UNKNOWN h0 n0 _ s₁.heap _
   exact ⟨N0, e0, rfl⟩
def Q2_23 (Z : State) (a_TRUE : Addr) (a_FALSE : Addr) (a_UNKNOWN : Addr) (h0 : Heap) (n0 : Nat) (v : Option Value) (h : Heap) (L : List Loc) : Prop := Fr n0 L ∧ h = h0 ∧ ((v = some (.ref a_UNKNOWN)))
set_option maxRecDepth 65536 in
set_option maxHeartbeats 40000000 in
theorem rm2_23 (l : Launch) (Z : State) (a0 : Array Value) (hw : ∀ d ∈ tables_1, d.before a0 Z = true) (ws : List Jvm.Cond) (a_TRUE : Addr) (a_FALSE : Addr) (a_UNKNOWN : Addr) (h0 : Heap) (n0 : Nat) (O0 : Old Z n0 h0) (HE : Env1 Z a_TRUE a_FALSE a_UNKNOWN)  :
    MetFree l M1 (head1 (Jvm.Cond.code M1 prog_32_method_6_code 3 (some (.object "com/example/herald4/herald4/filter/Truth")) :: ws) ({ frames := 0, cells := 0, slots := 0, locals := 0 } : Room)) (fun a U => a = #[(.ref a_UNKNOWN), (.ref a_UNKNOWN)] ∧ Z.Warmed39 U.vm ∧ U.heap = h0) (fun _ _ _ _ _ => True) (fun _ U o U' => ∃ v L, o = .returned v ∧ Q2_23 Z a_TRUE a_FALSE a_UNKNOWN h0 n0 v U'.heap L ∧ FrameEnd U o U' L ({ frames := 0, cells := 0, slots := 0, locals := 0 } : Room).cells ({ frames := 0, cells := 0, slots := 0, locals := 0 } : Room).slots) := by
 refine MetFree.of_bodySF (plainFor_of_name pn1) hisR ?_
 intro p e s m args below meth c s₁ Bd hml0 hP hK
 obtain ⟨rfl, hZ, hh⟩ := hP
 have hx := Bd.exec
 have hby := Bd.bytes
 have hml : c.maxLocals = 3 := hml0
 have hown : s.vm.findClass "com/example/herald4/herald4/filter/Truth" = some m.cls := findClass_of_methodNamed Bd.named
 have hnm := (name_of_methodNamed Bd.named Bd.method).1
 have X0 : Stand p l e ({ frames := 0, cells := 0, slots := 0, locals := 0 } : Room) s m #[(.ref a_UNKNOWN), (.ref a_UNKNOWN)] below meth c s₁ [] 0 0 := Stand.of_body Bd
 have e0 : s₁.heap = h0 := by rw [← hh, Bd.state]; rfl
 have N0 := Fr.nil n0
 let S0 : State → Prop := fun t => Steps p.tables e below (s₁.setTop (entryFrame m #[(.ref a_UNKNOWN), (.ref a_UNKNOWN)] 3)) t
 have p0 : ∀ t, St p e below s₁ (mkF m 0 #[.val (.ref a_UNKNOWN), .val (.ref a_UNKNOWN), .unset] []) t → S0 t := fun t k => castTop (ef2 m a_UNKNOWN a_UNKNOWN) k
 have HE' := HE
 obtain ⟨Sa_TRUE, Ea_TRUE, Sa_FALSE, Ea_FALSE, Fa_TRUE_ordinal, Fa_FALSE_ordinal, Sa_UNKNOWN, Ea_UNKNOWN, Fa_UNKNOWN_ordinal⟩ := HE
 have p1 : ∀ t, St p e below s₁ (mkF m 1 #[.val (.ref a_UNKNOWN), .val (.ref a_UNKNOWN), .unset] [(.ref a_UNKNOWN)]) t → S0 t := fun t k => p0 t (by
   show St p e below s₁ (mkF m 0 #[.val (.ref a_UNKNOWN), .val (.ref a_UNKNOWN), .unset] []) t
   refine XS.aloadN X0.here hx rfl (hb hby d2_0) rfl rfl ?_
   exact k)
 obtain ⟨T2, X2, e2, st2⟩ := getS2 X0 hx hZ hown (host := "") (Or.inl (ww hw 13 rfl)) Via.refl e0 (Sa_FALSE.ext O0.2) (g := (mkF m 1 #[.val (.ref a_UNKNOWN), .val (.ref a_UNKNOWN), .unset] [(.ref a_UNKNOWN)])) rfl (hb hby d2_1)
 have p3 : ∀ t, St p e below T2 (mkF m 4 #[.val (.ref a_UNKNOWN), .val (.ref a_UNKNOWN), .unset] [(.ref a_FALSE), (.ref a_UNKNOWN)]) t → S0 t := fun t k => p1 t (st2 t k)
 have p4 : ∀ t, St p e below T2 (mkF m 8 #[.val (.ref a_UNKNOWN), .val (.ref a_UNKNOWN), .unset] [(.ref a_UNKNOWN)]) t → S0 t := fun t k => p3 t (by
   show St p e below T2 (mkF m 4 #[.val (.ref a_UNKNOWN), .val (.ref a_UNKNOWN), .unset] [(.ref a_FALSE), (.ref a_UNKNOWN)]) t
   refine Jvm.RoadKit.acmp (g := (mkF m 4 #[.val (.ref a_UNKNOWN), .val (.ref a_UNKNOWN), .unset] [(.ref a_FALSE), (.ref a_UNKNOWN)])) X2 hx rfl rfl rfl (pc0 := 4) (pc' := 7) (same := false) rfl (hb hby d2_4) rfl (decide_eq_false fun q => (Fld.ne Fa_UNKNOWN_ordinal Fa_FALSE_ordinal (fun q => absurd (Value.int.inj q) (by decide))) (Value.ref.inj q)) (by decide) (by decide) ?_
   show St p e below T2 (mkF m 7 #[.val (.ref a_UNKNOWN), .val (.ref a_UNKNOWN), .unset] []) t
   refine XS.aloadN X2.here hx rfl (hb hby d2_7) rfl rfl ?_
   exact k)
 obtain ⟨T5, X5, e5, st5⟩ := getS2 X2 hx hZ hown (host := "") (Or.inl (ww hw 13 rfl)) Via.refl e2 (Sa_FALSE.ext O0.2) (g := (mkF m 8 #[.val (.ref a_UNKNOWN), .val (.ref a_UNKNOWN), .unset] [(.ref a_UNKNOWN)])) rfl (hb hby d2_8)
 have p6 : ∀ t, St p e below T5 (mkF m 11 #[.val (.ref a_UNKNOWN), .val (.ref a_UNKNOWN), .unset] [(.ref a_FALSE), (.ref a_UNKNOWN)]) t → S0 t := fun t k => p4 t (st5 t k)
 have p7 : ∀ t, St p e below T5 (mkF m 22 #[.val (.ref a_UNKNOWN), .val (.ref a_UNKNOWN), .unset] [(.ref a_UNKNOWN)]) t → S0 t := fun t k => p6 t (by
   show St p e below T5 (mkF m 11 #[.val (.ref a_UNKNOWN), .val (.ref a_UNKNOWN), .unset] [(.ref a_FALSE), (.ref a_UNKNOWN)]) t
   refine Jvm.RoadKit.acmp (g := (mkF m 11 #[.val (.ref a_UNKNOWN), .val (.ref a_UNKNOWN), .unset] [(.ref a_FALSE), (.ref a_UNKNOWN)])) X5 hx rfl rfl rfl (pc0 := 11) (pc' := 21) (same := false) rfl (hb hby d2_11) rfl (decide_eq_false fun q => (Fld.ne Fa_UNKNOWN_ordinal Fa_FALSE_ordinal (fun q => absurd (Value.int.inj q) (by decide))) (Value.ref.inj q)) (by decide) (by decide) ?_
   show St p e below T5 (mkF m 21 #[.val (.ref a_UNKNOWN), .val (.ref a_UNKNOWN), .unset] []) t
   refine XS.aloadN X5.here hx rfl (hb hby d2_21) rfl rfl ?_
   exact k)
 obtain ⟨T8, X8, e8, st8⟩ := getS2 X5 hx hZ hown (host := "") (Or.inl (ww hw 15 rfl)) Via.refl e5 (Sa_UNKNOWN.ext O0.2) (g := (mkF m 22 #[.val (.ref a_UNKNOWN), .val (.ref a_UNKNOWN), .unset] [(.ref a_UNKNOWN)])) rfl (hb hby d2_22)
 have p9 : ∀ t, St p e below T8 (mkF m 25 #[.val (.ref a_UNKNOWN), .val (.ref a_UNKNOWN), .unset] [(.ref a_UNKNOWN), (.ref a_UNKNOWN)]) t → S0 t := fun t k => p7 t (st8 t k)
 have p10 : ∀ t, St p e below T8 (mkF m 35 #[.val (.ref a_UNKNOWN), .val (.ref a_UNKNOWN), .unset] []) t → S0 t := fun t k => p9 t (by
   show St p e below T8 (mkF m 25 #[.val (.ref a_UNKNOWN), .val (.ref a_UNKNOWN), .unset] [(.ref a_UNKNOWN), (.ref a_UNKNOWN)]) t
   refine Jvm.RoadKit.acmp (g := (mkF m 25 #[.val (.ref a_UNKNOWN), .val (.ref a_UNKNOWN), .unset] [(.ref a_UNKNOWN), (.ref a_UNKNOWN)])) X8 hx rfl rfl rfl (pc0 := 25) (pc' := 35) (same := true) rfl (hb hby d2_25) rfl (decide_eq_true rfl) (by decide) (by decide) ?_
   exact k)
 obtain ⟨T11, X11, e11, st11⟩ := getS2 X8 hx hZ hown (host := "") (Or.inl (ww hw 15 rfl)) Via.refl e8 (Sa_UNKNOWN.ext O0.2) (g := (mkF m 35 #[.val (.ref a_UNKNOWN), .val (.ref a_UNKNOWN), .unset] [])) rfl (hb hby d2_35)
 have p12 : ∀ t, St p e below T11 (mkF m 38 #[.val (.ref a_UNKNOWN), .val (.ref a_UNKNOWN), .unset] [(.ref a_UNKNOWN)]) t → S0 t := fun t k => p10 t (st11 t k)
 let Ls13 : Array Slot := #[.val (.ref a_UNKNOWN), .val (.ref a_UNKNOWN), .val (.ref a_UNKNOWN)]
 have p14 : ∀ t, St p e below T11 (mkF m 47 Ls13 [(.ref a_UNKNOWN)]) t → S0 t := fun t k => p12 t (by
   show St p e below T11 (mkF m 38 #[.val (.ref a_UNKNOWN), .val (.ref a_UNKNOWN), .unset] [(.ref a_UNKNOWN)]) t
   refine XS.astoreN X11.here hx rfl (hb hby d2_38) rfl rfl (l' := Ls13) rfl ?_
   show St p e below T11 (mkF m 39 Ls13 []) t
   refine XS.goto X11.here hx rfl (pc0 := 39) (pc' := 46) rfl (hb hby d2_39) (by decide) (by decide) ?_
   show St p e below T11 (mkF m 46 Ls13 []) t
   refine XS.aloadN X11.here hx rfl (hb hby d2_46) rfl rfl ?_
   exact k)
 obtain ⟨fs, hr, hrun, hended, hW, hsame⟩ := X11.leave (v := some (.ref a_UNKNOWN)) (fun h => by rw [Bd.returns] at h; cases h)
 refine ⟨_, _, p14 _ ?_, hrun, hended, _, _, rfl, ?_, ⟨_, rfl⟩, hW, hsame.mono (by decide) (by decide)⟩
 · exact retOut X11 hx Bd.returns rfl (Or.inr (Or.inr (Or.inr (Or.inr ⟨rfl, rfl, rfl⟩)))) (hb hby d2_47) hr
 · show Q2_23 Z a_TRUE a_FALSE a_UNKNOWN h0 n0 _ T11.heap _
   exact ⟨N0, e11, rfl⟩
def Q4_24 (Z : State) (a_TRUE : Addr) (a_FALSE : Addr) (a_UNKNOWN : Addr) (h0 : Heap) (n0 : Nat) (v : Option Value) (h : Heap) (L : List Loc) : Prop := Fr n0 L ∧ h = h0 ∧ ((v = some (.int (1 : Int32))))
set_option maxRecDepth 65536 in
set_option maxHeartbeats 40000000 in
theorem rm4_24 (l : Launch) (Z : State) (a0 : Array Value) (hw : ∀ d ∈ tables_1, d.before a0 Z = true) (ws : List Jvm.Cond) (a_TRUE : Addr) (a_FALSE : Addr) (a_UNKNOWN : Addr) (h0 : Heap) (n0 : Nat) (O0 : Old Z n0 h0) (HE : Env1 Z a_TRUE a_FALSE a_UNKNOWN)  :
    MetFree l M3 (head1 (Jvm.Cond.code M3 jdk_29_method_69_code 2 (some .int) :: ws) ({ frames := 0, cells := 0, slots := 0, locals := 0 } : Room)) (fun a U => a = #[(.int (1 : Int32)), (.int (1 : Int32))] ∧ Z.Warmed39 U.vm ∧ U.heap = h0) (fun _ _ _ _ _ => True) (fun _ U o U' => ∃ v L, o = .returned v ∧ Q4_24 Z a_TRUE a_FALSE a_UNKNOWN h0 n0 v U'.heap L ∧ FrameEnd U o U' L ({ frames := 0, cells := 0, slots := 0, locals := 0 } : Room).cells ({ frames := 0, cells := 0, slots := 0, locals := 0 } : Room).slots) := by
 refine MetFree.of_bodySF (Jvm.Free.JP.mathPlain rfl (by decide +kernel)) hisR ?_
 intro p e s m args below meth c s₁ Bd hml0 hP hK
 obtain ⟨rfl, hZ, hh⟩ := hP
 have hx := Bd.exec
 have hby := Bd.bytes
 have hml : c.maxLocals = 2 := hml0
 have hown : s.vm.findClass "java/lang/Math" = some m.cls := findClass_of_methodNamed Bd.named
 have hnm := (name_of_methodNamed Bd.named Bd.method).1
 have X0 : Stand p l e ({ frames := 0, cells := 0, slots := 0, locals := 0 } : Room) s m #[(.int (1 : Int32)), (.int (1 : Int32))] below meth c s₁ [] 0 0 := Stand.of_body Bd
 have e0 : s₁.heap = h0 := by rw [← hh, Bd.state]; rfl
 have N0 := Fr.nil n0
 let S0 : State → Prop := fun t => Steps p.tables e below (s₁.setTop (entryFrame m #[(.int (1 : Int32)), (.int (1 : Int32))] 2)) t
 have p0 : ∀ t, St p e below s₁ (mkF m 0 #[.val (.int (1 : Int32)), .val (.int (1 : Int32))] []) t → S0 t := fun t k => castTop (ef4 m (1 : Int32) (1 : Int32)) k
 have HE' := HE
 obtain ⟨Sa_TRUE, Ea_TRUE, Sa_FALSE, Ea_FALSE, Fa_TRUE_ordinal, Fa_FALSE_ordinal, Sa_UNKNOWN, Ea_UNKNOWN, Fa_UNKNOWN_ordinal⟩ := HE
 have p1 : ∀ t, St p e below s₁ (mkF m 10 #[.val (.int (1 : Int32)), .val (.int (1 : Int32))] [(.int (1 : Int32))]) t → S0 t := fun t k => p0 t (by
   show St p e below s₁ (mkF m 0 #[.val (.int (1 : Int32)), .val (.int (1 : Int32))] []) t
   refine XS.iloadN X0.here hx rfl (hb hby d4_0) rfl ?_
   show St p e below s₁ (mkF m 1 #[.val (.int (1 : Int32)), .val (.int (1 : Int32))] [(.int (1 : Int32))]) t
   refine XS.iloadN X0.here hx rfl (hb hby d4_1) rfl ?_
   show St p e below s₁ (mkF m 2 #[.val (.int (1 : Int32)), .val (.int (1 : Int32))] [(.int (1 : Int32)), (.int (1 : Int32))]) t
   refine XS.icmpNo X0.here hx rfl (hb hby d4_2) rfl (flt (by decide : ¬ ((1 : Int32) < (1 : Int32)))).2.2.1 ?_
   show St p e below s₁ (mkF m 5 #[.val (.int (1 : Int32)), .val (.int (1 : Int32))] []) t
   refine XS.iloadN X0.here hx rfl (hb hby d4_5) rfl ?_
   show St p e below s₁ (mkF m 6 #[.val (.int (1 : Int32)), .val (.int (1 : Int32))] [(.int (1 : Int32))]) t
   refine XS.goto X0.here hx rfl (pc0 := 6) (pc' := 10) rfl (hb hby d4_6) (by decide) (by decide) ?_
   exact k)
 obtain ⟨fs, hr, hrun, hended, hW, hsame⟩ := X0.leave (v := some (.int (1 : Int32))) (fun h => by rw [Bd.returns] at h; cases h)
 refine ⟨_, _, p1 _ ?_, hrun, hended, _, _, rfl, ?_, ⟨_, rfl⟩, hW, hsame.mono (by decide) (by decide)⟩
 · exact retOut X0 hx Bd.returns rfl (Or.inl ⟨rfl, by simp, _, rfl⟩) (hb hby d4_10) hr
 · show Q4_24 Z a_TRUE a_FALSE a_UNKNOWN h0 n0 _ s₁.heap _
   exact ⟨N0, e0, rfl⟩
def Q0 (Z : State) (a_TRUE : Addr) (a_FALSE : Addr) (a_UNKNOWN : Addr) (i0 : Int32) (i1 : Int32) (h0 : Heap) (n0 : Nat) (v : Option Value) (h : Heap) (L : List Loc) : Prop := v = some (.int 1) ∧ Fr n0 L
set_option maxRecDepth 65536 in
set_option maxHeartbeats 40000000 in
theorem rm0 (l : Launch) (Z : State) (a0 : Array Value) (hw : ∀ d ∈ tables_1, d.before a0 Z = true) (ws : List Jvm.Cond) (a_TRUE : Addr) (a_FALSE : Addr) (a_UNKNOWN : Addr) (i0 : Int32) (i1 : Int32) (h0 : Heap) (n0 : Nat) (O0 : Old Z n0 h0) (HE : Env1 Z a_TRUE a_FALSE a_UNKNOWN)  :
    MetFree l x (head1 (Jvm.Cond.code x code maxLocals ret :: ws) room_1) (fun a U => a = #[(.int i0), (.int i1)] ∧ Z.Warmed39 U.vm ∧ U.heap = h0) (fun _ _ _ _ _ => True) (fun _ U o U' => ∃ v L, o = .returned v ∧ Q0 Z a_TRUE a_FALSE a_UNKNOWN i0 i1 h0 n0 v U'.heap L ∧ FrameEnd U o U' L 0 0) := by
 refine MetFree.of_bodySF (plainFor_of_name pn0) hisR ?_
 intro p e s m args below meth c s₁ Bd hml0 hP hK
 obtain ⟨rfl, hZ, hh⟩ := hP
 have hx := Bd.exec
 have hby := Bd.bytes
 have hml : c.maxLocals = 5 := hml0
 have hown : s.vm.findClass "com/example/herald4/herald4/filter/TruthAndPinLaw" = some m.cls := findClass_of_methodNamed Bd.named
 have hnm := (name_of_methodNamed Bd.named Bd.method).1
 have X0 : Stand p l e room_1 s m #[(.int i0), (.int i1)] below meth c s₁ [] 0 0 := Stand.of_body Bd
 have e0 : s₁.heap = h0 := by rw [← hh, Bd.state]; rfl
 have N0 := Fr.nil n0
 let S0 : State → Prop := fun t => Steps p.tables e below (s₁.setTop (entryFrame m #[(.int i0), (.int i1)] maxLocals)) t
 have p0 : ∀ t, St p e below s₁ (mkF m 0 #[.val (.int i0), .val (.int i1), .unset, .unset, .unset] []) t → S0 t := fun t k => castTop (ef0 m i0 i1) k
 have HE' := HE
 obtain ⟨Sa_TRUE, Ea_TRUE, Sa_FALSE, Ea_FALSE, Fa_TRUE_ordinal, Fa_FALSE_ordinal, Sa_UNKNOWN, Ea_UNKNOWN, Fa_UNKNOWN_ordinal⟩ := HE
 have p1 : ∀ t, St p e below s₁ (mkF m 6 #[.val (.int i0), .val (.int i1), .unset, .unset, .unset] [(.int ((i0 &&& (2147483647 : Int32)) % (3 : Int32)))]) t → S0 t := fun t k => p0 t (by
   show St p e below s₁ (mkF m 0 #[.val (.int i0), .val (.int i1), .unset, .unset, .unset] []) t
   refine XS.iloadN X0.here hx rfl (hb hby at_0) rfl ?_
   show St p e below s₁ (mkF m 1 #[.val (.int i0), .val (.int i1), .unset, .unset, .unset] [(.int i0)]) t
   refine X0.ldcI hx hown (mvT hZ (ww hw 0 rfl)) rfl (hb hby at_1) ?_
   show St p e below s₁ (mkF m 3 #[.val (.int i0), .val (.int i1), .unset, .unset, .unset] [(.int (2147483647 : Int32)), (.int i0)]) t
   refine XS.iand X0.here hx rfl (hb hby at_3) rfl ?_
   show St p e below s₁ (mkF m 4 #[.val (.int i0), .val (.int i1), .unset, .unset, .unset] [(.int (i0 &&& (2147483647 : Int32)))]) t
   refine XT.iconstV X0.here hx rfl (3 : Int32) (hb hby at_4) (by decide) ?_
   show St p e below s₁ (mkF m 5 #[.val (.int i0), .val (.int i1), .unset, .unset, .unset] [(.int (3 : Int32)), (.int (i0 &&& (2147483647 : Int32)))]) t
   refine iremM X0 hx rfl (hb hby at_5) rfl (by decide : ¬ ((3 : Int32) = (0 : Int32))) ?_
   exact k)
 obtain ⟨_, _, ⟨Tc2, Lc2, kc2, nc2⟩, -, Xc2, ⟨Lcc2, hQc2, lc2, yc2, zc2⟩, stc2⟩ := Jvm.LawKit.callS X0 hx (y := M0) hown (mvT hZ (ww hw 1 rfl)) (mvT hZ (ww hw 2 rfl)) (mvT hZ (ww hw 3 rfl)) (mvT hZ (ww hw 4 rfl)) (by decide) (backOf (W := 0) (rm1_0 l Z a0 hw [] a_TRUE a_FALSE a_UNKNOWN ((i0 &&& (2147483647 : Int32)) % (3 : Int32)) h0 n0 O0 HE' ) hZ (ww hw 4 rfl) (ww hw 3 rfl) (by decide) (by decide)) (g := (mkF m 6 #[.val (.int i0), .val (.int i1), .unset, .unset, .unset] [(.int ((i0 &&& (2147483647 : Int32)) % (3 : Int32)))])) rfl (by rw [hml]; rfl) (argsL := [(.int ((i0 &&& (2147483647 : Int32)) % (3 : Int32)))]) (rest := []) (lenOf pd0 rfl) rfl (by show 2 * 0 + _ ≤ _; exact Nat.le_of_eq rfl) (hb hby at_6) (fun _ _ => ⟨rfl, e0, (by decide : 0 + 0 ≤ _), (by decide : 0 + 0 ≤ _)⟩)
 dsimp only [Pt.U, Pt.locs, Pt.cells, Pt.slots] at Xc2 lc2 yc2 zc2 stc2 hQc2
 subst lc2 yc2 zc2
 obtain ⟨Nqc2, ec2, hAc2⟩ := hQc2
 have Nc2 := Fr.app N0 Nqc2
 rcases hAc2 with ⟨rfl, g3⟩ | ⟨rfl, g4, g5⟩ | ⟨rfl, g6, g7⟩
 ·
  have p8 : ∀ t, St p e below Tc2 (mkF m 9 #[.val (.int i0), .val (.int i1), .unset, .unset, .unset] [(.ref a_TRUE)]) t → S0 t := fun t k => p1 t (stc2 t k)
  let Ls9 : Array Slot := #[.val (.int i0), .val (.int i1), .val (.ref a_TRUE), .unset, .unset]
  have p10 : ∀ t, St p e below Tc2 (mkF m 16 Ls9 [(.int ((i1 &&& (2147483647 : Int32)) % (3 : Int32)))]) t → S0 t := fun t k => p8 t (by
    show St p e below Tc2 (mkF m 9 #[.val (.int i0), .val (.int i1), .unset, .unset, .unset] [(.ref a_TRUE)]) t
    refine XS.astoreN Xc2.here hx rfl (hb hby at_9) rfl rfl (l' := Ls9) rfl ?_
    show St p e below Tc2 (mkF m 10 Ls9 []) t
    refine XS.iloadN Xc2.here hx rfl (hb hby at_10) rfl ?_
    show St p e below Tc2 (mkF m 11 Ls9 [(.int i1)]) t
    refine Xc2.ldcI hx hown (mvT hZ (ww hw 0 rfl)) rfl (hb hby at_11) ?_
    show St p e below Tc2 (mkF m 13 Ls9 [(.int (2147483647 : Int32)), (.int i1)]) t
    refine XS.iand Xc2.here hx rfl (hb hby at_13) rfl ?_
    show St p e below Tc2 (mkF m 14 Ls9 [(.int (i1 &&& (2147483647 : Int32)))]) t
    refine XT.iconstV Xc2.here hx rfl (3 : Int32) (hb hby at_14) (by decide) ?_
    show St p e below Tc2 (mkF m 15 Ls9 [(.int (3 : Int32)), (.int (i1 &&& (2147483647 : Int32)))]) t
    refine iremM Xc2 hx rfl (hb hby at_15) rfl (by decide : ¬ ((3 : Int32) = (0 : Int32))) ?_
    exact k)
  obtain ⟨_, _, ⟨Tc11, Lc11, kc11, nc11⟩, -, Xc11, ⟨Lcc11, hQc11, lc11, yc11, zc11⟩, stc11⟩ := Jvm.LawKit.callS Xc2 hx (y := M0) hown (mvT hZ (ww hw 1 rfl)) (mvT hZ (ww hw 2 rfl)) (mvT hZ (ww hw 3 rfl)) (mvT hZ (ww hw 4 rfl)) (by decide) (backOf (W := 0) (rm1_0 l Z a0 hw [] a_TRUE a_FALSE a_UNKNOWN ((i1 &&& (2147483647 : Int32)) % (3 : Int32)) h0 n0 O0 HE' ) hZ (ww hw 4 rfl) (ww hw 3 rfl) (by decide) (by decide)) (g := (mkF m 16 Ls9 [(.int ((i1 &&& (2147483647 : Int32)) % (3 : Int32)))])) rfl (by rw [hml]; rfl) (argsL := [(.int ((i1 &&& (2147483647 : Int32)) % (3 : Int32)))]) (rest := []) (lenOf pd0 rfl) rfl (by show 2 * 0 + _ ≤ _; exact Nat.le_of_eq rfl) (hb hby at_16) (fun _ _ => ⟨rfl, ec2, (by decide : 0 + 0 ≤ _), (by decide : 0 + 0 ≤ _)⟩)
  dsimp only [Pt.U, Pt.locs, Pt.cells, Pt.slots] at Xc11 lc11 yc11 zc11 stc11 hQc11
  subst lc11 yc11 zc11
  obtain ⟨Nqc11, ec11, hAc11⟩ := hQc11
  have Nc11 := Fr.app Nc2 Nqc11
  rcases hAc11 with ⟨rfl, g12⟩ | ⟨rfl, g13, g14⟩ | ⟨rfl, g15, g16⟩
  ·
   have p17 : ∀ t, St p e below Tc11 (mkF m 19 Ls9 [(.ref a_TRUE)]) t → S0 t := fun t k => p10 t (stc11 t k)
   let Ls18 : Array Slot := #[.val (.int i0), .val (.int i1), .val (.ref a_TRUE), .val (.ref a_TRUE), .unset]
   have p19 : ∀ t, St p e below Tc11 (mkF m 22 Ls18 [(.ref a_TRUE), (.ref a_TRUE)]) t → S0 t := fun t k => p17 t (by
     show St p e below Tc11 (mkF m 19 Ls9 [(.ref a_TRUE)]) t
     refine XS.astoreN Xc11.here hx rfl (hb hby at_19) rfl rfl (l' := Ls18) rfl ?_
     show St p e below Tc11 (mkF m 20 Ls18 []) t
     refine XS.aloadN Xc11.here hx rfl (hb hby at_20) rfl rfl ?_
     show St p e below Tc11 (mkF m 21 Ls18 [(.ref a_TRUE)]) t
     refine XS.aloadN Xc11.here hx rfl (hb hby at_21) rfl rfl ?_
     exact k)
   obtain ⟨cqc20, kqc20, qc20a, qc20b, qc20c⟩ := isOf hZ ec11 (Ea_TRUE.ext O0.2)
   obtain ⟨_, _, ⟨Tc20, Lc20, kc20, nc20⟩, -, Xc20, ⟨Lcc20, hQc20, lc20, yc20, zc20⟩, stc20⟩ := Xc11.virtualBack hx (y := M1) (z := M1) hown (mvT hZ (ww hw 8 rfl)) (mvT hZ (ww hw 9 rfl)) (notFace_of_selects (args := #[]) (mvT hZ (ww hw 11 rfl))) (mvT hZ (ww hw 11 rfl)) (mvT hZ (ww hw 10 rfl)) (by decide) (backOf (W := 0) (rm2_1 l Z a0 hw [] a_TRUE a_FALSE a_UNKNOWN h0 n0 O0 HE' ) hZ (ww hw 12 rfl) (ww hw 6 rfl) (by decide) (by decide)) qc20a qc20c (g := (mkF m 22 Ls18 [(.ref a_TRUE), (.ref a_TRUE)])) rfl (by rw [hml]; rfl) (Steps.refl _) (argsL := [(.ref a_TRUE)]) (rest := []) (lenOf pd1 rfl) rfl (by show 2 * 0 + _ ≤ _; exact Nat.le_of_eq rfl) (hb hby at_22) (fun _ _ => ⟨rfl, ec11, (by decide : 0 + 0 ≤ _), (by decide : 0 + 0 ≤ _)⟩)
   dsimp only [Pt.U, Pt.locs, Pt.cells, Pt.slots] at Xc20 lc20 yc20 zc20 stc20 hQc20
   subst lc20 yc20 zc20
   obtain ⟨Nqc20, ec20, hAc20⟩ := hQc20
   have Nc20 := Fr.app Nc11 Nqc20
   obtain rfl := hAc20
   have p21 : ∀ t, St p e below Tc20 (mkF m 25 Ls18 [(.ref a_TRUE)]) t → S0 t := fun t k => p19 t (stc20.trans k)
   let Ls22 : Array Slot := #[.val (.int i0), .val (.int i1), .val (.ref a_TRUE), .val (.ref a_TRUE), .val (.ref a_TRUE)]
   have p23 : ∀ t, St p e below Tc20 (mkF m 30 Ls22 [(.ref a_TRUE), (.ref a_TRUE)]) t → S0 t := fun t k => p21 t (by
     show St p e below Tc20 (mkF m 25 Ls18 [(.ref a_TRUE)]) t
     refine XS.astore Xc20.here hx rfl (hb hby at_25) rfl rfl (l' := Ls22) rfl ?_
     show St p e below Tc20 (mkF m 27 Ls22 []) t
     refine XS.aload Xc20.here hx rfl (hb hby at_27) rfl rfl ?_
     show St p e below Tc20 (mkF m 29 Ls22 [(.ref a_TRUE)]) t
     refine XS.aloadN Xc20.here hx rfl (hb hby at_29) rfl rfl ?_
     exact k)
   obtain ⟨_, _, ⟨Tc24, Lc24, kc24, nc24⟩, -, Xc24, ⟨Lcc24, hQc24, lc24, yc24, zc24⟩, stc24⟩ := Jvm.LawKit.callS Xc20 hx (y := M2) hown (mvT hZ (ww hw 18 rfl)) (mvT hZ (ww hw 19 rfl)) (mvT hZ (ww hw 3 rfl)) (mvT hZ (ww hw 20 rfl)) (by decide) (backOf (W := 1) (rm3_2 l Z a0 hw [] a_TRUE a_FALSE a_UNKNOWN h0 n0 O0 HE' ) hZ (ww hw 20 rfl) (ww hw 3 rfl) (by decide) (by decide)) (g := (mkF m 30 Ls22 [(.ref a_TRUE), (.ref a_TRUE)])) rfl (by rw [hml]; rfl) (argsL := [(.ref a_TRUE)]) (rest := [(.ref a_TRUE)]) (lenOf pd2 rfl) rfl (by show 2 * 0 + _ ≤ _; exact Nat.le_of_eq rfl) (hb hby at_30) (fun _ _ => ⟨rfl, ec20, (by decide : 0 + 0 ≤ _), (by decide : 0 + 0 ≤ _)⟩)
   dsimp only [Pt.U, Pt.locs, Pt.cells, Pt.slots] at Xc24 lc24 yc24 zc24 stc24 hQc24
   subst lc24 yc24 zc24
   obtain ⟨Nqc24, ec24, hAc24⟩ := hQc24
   have Nc24 := Fr.app Nc20 Nqc24
   obtain rfl := hAc24
   have p25 : ∀ t, St p e below Tc24 (mkF m 33 Ls22 [(.int (2 : Int32)), (.ref a_TRUE)]) t → S0 t := fun t k => p23 t (stc24 t k)
   have p26 : ∀ t, St p e below Tc24 (mkF m 34 Ls22 [(.ref a_TRUE), (.int (2 : Int32)), (.ref a_TRUE)]) t → S0 t := fun t k => p25 t (by
     show St p e below Tc24 (mkF m 33 Ls22 [(.int (2 : Int32)), (.ref a_TRUE)]) t
     refine XS.aloadN Xc24.here hx rfl (hb hby at_33) rfl rfl ?_
     exact k)
   obtain ⟨_, _, ⟨Tc27, Lc27, kc27, nc27⟩, -, Xc27, ⟨Lcc27, hQc27, lc27, yc27, zc27⟩, stc27⟩ := Jvm.LawKit.callS Xc24 hx (y := M2) hown (mvT hZ (ww hw 18 rfl)) (mvT hZ (ww hw 19 rfl)) (mvT hZ (ww hw 3 rfl)) (mvT hZ (ww hw 20 rfl)) (by decide) (backOf (W := 2) (rm3_2 l Z a0 hw [] a_TRUE a_FALSE a_UNKNOWN h0 n0 O0 HE' ) hZ (ww hw 20 rfl) (ww hw 3 rfl) (by decide) (by decide)) (g := (mkF m 34 Ls22 [(.ref a_TRUE), (.int (2 : Int32)), (.ref a_TRUE)])) rfl (by rw [hml]; rfl) (argsL := [(.ref a_TRUE)]) (rest := [(.int (2 : Int32)), (.ref a_TRUE)]) (lenOf pd2 rfl) rfl (by show 2 * 0 + _ ≤ _; exact Nat.le_of_eq rfl) (hb hby at_34) (fun _ _ => ⟨rfl, ec24, (by decide : 0 + 0 ≤ _), (by decide : 0 + 0 ≤ _)⟩)
   dsimp only [Pt.U, Pt.locs, Pt.cells, Pt.slots] at Xc27 lc27 yc27 zc27 stc27 hQc27
   subst lc27 yc27 zc27
   obtain ⟨Nqc27, ec27, hAc27⟩ := hQc27
   have Nc27 := Fr.app Nc24 Nqc27
   obtain rfl := hAc27
   have p28 : ∀ t, St p e below Tc27 (mkF m 37 Ls22 [(.int (2 : Int32)), (.int (2 : Int32)), (.ref a_TRUE)]) t → S0 t := fun t k => p26 t (stc27 t k)
   obtain ⟨_, _, ⟨Tc29, Lc29, kc29, nc29⟩, -, Xc29, ⟨Lcc29, hQc29, lc29, yc29, zc29⟩, stc29⟩ := Jvm.LawKit.callS Xc27 hx (y := M3) hown (mvT hZ (ww hw 23 rfl)) (mvT hZ (ww hw 24 rfl)) (mvT hZ (ww hw 25 rfl)) (mvT hZ (ww hw 26 rfl)) (by decide) (backOf (W := 1) (rm4_3 l Z a0 hw [] a_TRUE a_FALSE a_UNKNOWN h0 n0 O0 HE' ) hZ (ww hw 26 rfl) (ww hw 25 rfl) (by decide) (by decide)) (g := (mkF m 37 Ls22 [(.int (2 : Int32)), (.int (2 : Int32)), (.ref a_TRUE)])) rfl (by rw [hml]; rfl) (argsL := [(.int (2 : Int32)), (.int (2 : Int32))]) (rest := [(.ref a_TRUE)]) (lenOf pd3 rfl) rfl (by show 2 * 0 + _ ≤ _; exact Nat.le_of_eq rfl) (hb hby at_37) (fun _ _ => ⟨rfl, ec27, (by decide : 0 + 0 ≤ _), (by decide : 0 + 0 ≤ _)⟩)
   dsimp only [Pt.U, Pt.locs, Pt.cells, Pt.slots] at Xc29 lc29 yc29 zc29 stc29 hQc29
   subst lc29 yc29 zc29
   obtain ⟨Nqc29, ec29, hAc29⟩ := hQc29
   have Nc29 := Fr.app Nc27 Nqc29
   obtain rfl := hAc29
   have p30 : ∀ t, St p e below Tc29 (mkF m 40 Ls22 [(.int (2 : Int32)), (.ref a_TRUE)]) t → S0 t := fun t k => p28 t (stc29 t k)
   obtain ⟨_, _, ⟨Tc31, Lc31, kc31, nc31⟩, -, Xc31, ⟨Lcc31, hQc31, lc31, yc31, zc31⟩, stc31⟩ := Jvm.LawKit.callS Xc29 hx (y := M4) hown (mvT hZ (ww hw 27 rfl)) (mvT hZ (ww hw 28 rfl)) (mvT hZ (ww hw 3 rfl)) (mvT hZ (ww hw 29 rfl)) (by decide) (backOf (W := 1) (rm5_4 l Z a0 hw [] a_TRUE a_FALSE a_UNKNOWN h0 n0 O0 HE' ) hZ (ww hw 29 rfl) (ww hw 3 rfl) (by decide) (by decide)) (g := (mkF m 40 Ls22 [(.int (2 : Int32)), (.ref a_TRUE)])) rfl (by rw [hml]; rfl) (argsL := [(.int (2 : Int32))]) (rest := [(.ref a_TRUE)]) (lenOf pd0 rfl) rfl (by show 2 * 0 + _ ≤ _; exact Nat.le_of_eq rfl) (hb hby at_40) (fun _ _ => ⟨rfl, ec29, (by decide : 0 + 0 ≤ _), (by decide : 0 + 0 ≤ _)⟩)
   dsimp only [Pt.U, Pt.locs, Pt.cells, Pt.slots] at Xc31 lc31 yc31 zc31 stc31 hQc31
   subst lc31 yc31 zc31
   obtain ⟨Nqc31, ec31, hAc31⟩ := hQc31
   have Nc31 := Fr.app Nc29 Nqc31
   obtain rfl := hAc31
   have p32 : ∀ t, St p e below Tc31 (mkF m 43 Ls22 [(.ref a_TRUE), (.ref a_TRUE)]) t → S0 t := fun t k => p30 t (stc31 t k)
   have p33 : ∀ t, St p e below Tc31 (mkF m 51 Ls22 [(.int (1 : Int32))]) t → S0 t := fun t k => p32 t (by
     show St p e below Tc31 (mkF m 43 Ls22 [(.ref a_TRUE), (.ref a_TRUE)]) t
     refine Jvm.RoadKit.acmp (g := (mkF m 43 Ls22 [(.ref a_TRUE), (.ref a_TRUE)])) Xc31 hx rfl rfl rfl (pc0 := 43) (pc' := 46) (same := true) rfl (hb hby at_43) rfl (decide_eq_true rfl) (by decide) (by decide) ?_
     show St p e below Tc31 (mkF m 46 Ls22 []) t
     refine XT.iconstV Xc31.here hx rfl (1 : Int32) (hb hby at_46) (by decide) ?_
     show St p e below Tc31 (mkF m 47 Ls22 [(.int (1 : Int32))]) t
     refine XS.goto Xc31.here hx rfl (pc0 := 47) (pc' := 51) rfl (hb hby at_47) (by decide) (by decide) ?_
     exact k)
   obtain ⟨fs, hr, hrun, hended, hW, hsame⟩ := Xc31.leave (v := some (.int (1 : Int32))) (fun h => by rw [Bd.returns] at h; cases h)
   refine ⟨_, _, p33 _ ?_, hrun, hended, _, _, rfl, ?_, ⟨_, rfl⟩, hW, hsame.mono (by decide) (by decide)⟩
   · exact retOut Xc31 hx Bd.returns rfl (Or.inl ⟨rfl, by simp, _, rfl⟩) (hb hby at_51) hr
   · exact ⟨rfl, Nc31⟩
  ·
   have p34 : ∀ t, St p e below Tc11 (mkF m 19 Ls9 [(.ref a_FALSE)]) t → S0 t := fun t k => p10 t (stc11 t k)
   let Ls35 : Array Slot := #[.val (.int i0), .val (.int i1), .val (.ref a_TRUE), .val (.ref a_FALSE), .unset]
   have p36 : ∀ t, St p e below Tc11 (mkF m 22 Ls35 [(.ref a_FALSE), (.ref a_TRUE)]) t → S0 t := fun t k => p34 t (by
     show St p e below Tc11 (mkF m 19 Ls9 [(.ref a_FALSE)]) t
     refine XS.astoreN Xc11.here hx rfl (hb hby at_19) rfl rfl (l' := Ls35) rfl ?_
     show St p e below Tc11 (mkF m 20 Ls35 []) t
     refine XS.aloadN Xc11.here hx rfl (hb hby at_20) rfl rfl ?_
     show St p e below Tc11 (mkF m 21 Ls35 [(.ref a_TRUE)]) t
     refine XS.aloadN Xc11.here hx rfl (hb hby at_21) rfl rfl ?_
     exact k)
   obtain ⟨cqc37, kqc37, qc37a, qc37b, qc37c⟩ := isOf hZ ec11 (Ea_TRUE.ext O0.2)
   obtain ⟨_, _, ⟨Tc37, Lc37, kc37, nc37⟩, -, Xc37, ⟨Lcc37, hQc37, lc37, yc37, zc37⟩, stc37⟩ := Xc11.virtualBack hx (y := M1) (z := M1) hown (mvT hZ (ww hw 8 rfl)) (mvT hZ (ww hw 9 rfl)) (notFace_of_selects (args := #[]) (mvT hZ (ww hw 11 rfl))) (mvT hZ (ww hw 11 rfl)) (mvT hZ (ww hw 10 rfl)) (by decide) (backOf (W := 0) (rm2_5 l Z a0 hw [] a_TRUE a_FALSE a_UNKNOWN h0 n0 O0 HE' ) hZ (ww hw 12 rfl) (ww hw 6 rfl) (by decide) (by decide)) qc37a qc37c (g := (mkF m 22 Ls35 [(.ref a_FALSE), (.ref a_TRUE)])) rfl (by rw [hml]; rfl) (Steps.refl _) (argsL := [(.ref a_FALSE)]) (rest := []) (lenOf pd1 rfl) rfl (by show 2 * 0 + _ ≤ _; exact Nat.le_of_eq rfl) (hb hby at_22) (fun _ _ => ⟨rfl, ec11, (by decide : 0 + 0 ≤ _), (by decide : 0 + 0 ≤ _)⟩)
   dsimp only [Pt.U, Pt.locs, Pt.cells, Pt.slots] at Xc37 lc37 yc37 zc37 stc37 hQc37
   subst lc37 yc37 zc37
   obtain ⟨Nqc37, ec37, hAc37⟩ := hQc37
   have Nc37 := Fr.app Nc11 Nqc37
   obtain rfl := hAc37
   have p38 : ∀ t, St p e below Tc37 (mkF m 25 Ls35 [(.ref a_FALSE)]) t → S0 t := fun t k => p36 t (stc37.trans k)
   let Ls39 : Array Slot := #[.val (.int i0), .val (.int i1), .val (.ref a_TRUE), .val (.ref a_FALSE), .val (.ref a_FALSE)]
   have p40 : ∀ t, St p e below Tc37 (mkF m 30 Ls39 [(.ref a_TRUE), (.ref a_FALSE)]) t → S0 t := fun t k => p38 t (by
     show St p e below Tc37 (mkF m 25 Ls35 [(.ref a_FALSE)]) t
     refine XS.astore Xc37.here hx rfl (hb hby at_25) rfl rfl (l' := Ls39) rfl ?_
     show St p e below Tc37 (mkF m 27 Ls39 []) t
     refine XS.aload Xc37.here hx rfl (hb hby at_27) rfl rfl ?_
     show St p e below Tc37 (mkF m 29 Ls39 [(.ref a_FALSE)]) t
     refine XS.aloadN Xc37.here hx rfl (hb hby at_29) rfl rfl ?_
     exact k)
   obtain ⟨_, _, ⟨Tc41, Lc41, kc41, nc41⟩, -, Xc41, ⟨Lcc41, hQc41, lc41, yc41, zc41⟩, stc41⟩ := Jvm.LawKit.callS Xc37 hx (y := M2) hown (mvT hZ (ww hw 18 rfl)) (mvT hZ (ww hw 19 rfl)) (mvT hZ (ww hw 3 rfl)) (mvT hZ (ww hw 20 rfl)) (by decide) (backOf (W := 1) (rm3_2 l Z a0 hw [] a_TRUE a_FALSE a_UNKNOWN h0 n0 O0 HE' ) hZ (ww hw 20 rfl) (ww hw 3 rfl) (by decide) (by decide)) (g := (mkF m 30 Ls39 [(.ref a_TRUE), (.ref a_FALSE)])) rfl (by rw [hml]; rfl) (argsL := [(.ref a_TRUE)]) (rest := [(.ref a_FALSE)]) (lenOf pd2 rfl) rfl (by show 2 * 0 + _ ≤ _; exact Nat.le_of_eq rfl) (hb hby at_30) (fun _ _ => ⟨rfl, ec37, (by decide : 0 + 0 ≤ _), (by decide : 0 + 0 ≤ _)⟩)
   dsimp only [Pt.U, Pt.locs, Pt.cells, Pt.slots] at Xc41 lc41 yc41 zc41 stc41 hQc41
   subst lc41 yc41 zc41
   obtain ⟨Nqc41, ec41, hAc41⟩ := hQc41
   have Nc41 := Fr.app Nc37 Nqc41
   obtain rfl := hAc41
   have p42 : ∀ t, St p e below Tc41 (mkF m 33 Ls39 [(.int (2 : Int32)), (.ref a_FALSE)]) t → S0 t := fun t k => p40 t (stc41 t k)
   have p43 : ∀ t, St p e below Tc41 (mkF m 34 Ls39 [(.ref a_FALSE), (.int (2 : Int32)), (.ref a_FALSE)]) t → S0 t := fun t k => p42 t (by
     show St p e below Tc41 (mkF m 33 Ls39 [(.int (2 : Int32)), (.ref a_FALSE)]) t
     refine XS.aloadN Xc41.here hx rfl (hb hby at_33) rfl rfl ?_
     exact k)
   obtain ⟨_, _, ⟨Tc44, Lc44, kc44, nc44⟩, -, Xc44, ⟨Lcc44, hQc44, lc44, yc44, zc44⟩, stc44⟩ := Jvm.LawKit.callS Xc41 hx (y := M2) hown (mvT hZ (ww hw 18 rfl)) (mvT hZ (ww hw 19 rfl)) (mvT hZ (ww hw 3 rfl)) (mvT hZ (ww hw 20 rfl)) (by decide) (backOf (W := 2) (rm3_6 l Z a0 hw [] a_TRUE a_FALSE a_UNKNOWN h0 n0 O0 HE' ) hZ (ww hw 20 rfl) (ww hw 3 rfl) (by decide) (by decide)) (g := (mkF m 34 Ls39 [(.ref a_FALSE), (.int (2 : Int32)), (.ref a_FALSE)])) rfl (by rw [hml]; rfl) (argsL := [(.ref a_FALSE)]) (rest := [(.int (2 : Int32)), (.ref a_FALSE)]) (lenOf pd2 rfl) rfl (by show 2 * 0 + _ ≤ _; exact Nat.le_of_eq rfl) (hb hby at_34) (fun _ _ => ⟨rfl, ec41, (by decide : 0 + 0 ≤ _), (by decide : 0 + 0 ≤ _)⟩)
   dsimp only [Pt.U, Pt.locs, Pt.cells, Pt.slots] at Xc44 lc44 yc44 zc44 stc44 hQc44
   subst lc44 yc44 zc44
   obtain ⟨Nqc44, ec44, hAc44⟩ := hQc44
   have Nc44 := Fr.app Nc41 Nqc44
   obtain rfl := hAc44
   have p45 : ∀ t, St p e below Tc44 (mkF m 37 Ls39 [(.int (0 : Int32)), (.int (2 : Int32)), (.ref a_FALSE)]) t → S0 t := fun t k => p43 t (stc44 t k)
   obtain ⟨_, _, ⟨Tc46, Lc46, kc46, nc46⟩, -, Xc46, ⟨Lcc46, hQc46, lc46, yc46, zc46⟩, stc46⟩ := Jvm.LawKit.callS Xc44 hx (y := M3) hown (mvT hZ (ww hw 23 rfl)) (mvT hZ (ww hw 24 rfl)) (mvT hZ (ww hw 25 rfl)) (mvT hZ (ww hw 26 rfl)) (by decide) (backOf (W := 1) (rm4_7 l Z a0 hw [] a_TRUE a_FALSE a_UNKNOWN h0 n0 O0 HE' ) hZ (ww hw 26 rfl) (ww hw 25 rfl) (by decide) (by decide)) (g := (mkF m 37 Ls39 [(.int (0 : Int32)), (.int (2 : Int32)), (.ref a_FALSE)])) rfl (by rw [hml]; rfl) (argsL := [(.int (2 : Int32)), (.int (0 : Int32))]) (rest := [(.ref a_FALSE)]) (lenOf pd3 rfl) rfl (by show 2 * 0 + _ ≤ _; exact Nat.le_of_eq rfl) (hb hby at_37) (fun _ _ => ⟨rfl, ec44, (by decide : 0 + 0 ≤ _), (by decide : 0 + 0 ≤ _)⟩)
   dsimp only [Pt.U, Pt.locs, Pt.cells, Pt.slots] at Xc46 lc46 yc46 zc46 stc46 hQc46
   subst lc46 yc46 zc46
   obtain ⟨Nqc46, ec46, hAc46⟩ := hQc46
   have Nc46 := Fr.app Nc44 Nqc46
   obtain rfl := hAc46
   have p47 : ∀ t, St p e below Tc46 (mkF m 40 Ls39 [(.int (0 : Int32)), (.ref a_FALSE)]) t → S0 t := fun t k => p45 t (stc46 t k)
   obtain ⟨_, _, ⟨Tc48, Lc48, kc48, nc48⟩, -, Xc48, ⟨Lcc48, hQc48, lc48, yc48, zc48⟩, stc48⟩ := Jvm.LawKit.callS Xc46 hx (y := M4) hown (mvT hZ (ww hw 27 rfl)) (mvT hZ (ww hw 28 rfl)) (mvT hZ (ww hw 3 rfl)) (mvT hZ (ww hw 29 rfl)) (by decide) (backOf (W := 1) (rm5_8 l Z a0 hw [] a_TRUE a_FALSE a_UNKNOWN h0 n0 O0 HE' ) hZ (ww hw 29 rfl) (ww hw 3 rfl) (by decide) (by decide)) (g := (mkF m 40 Ls39 [(.int (0 : Int32)), (.ref a_FALSE)])) rfl (by rw [hml]; rfl) (argsL := [(.int (0 : Int32))]) (rest := [(.ref a_FALSE)]) (lenOf pd0 rfl) rfl (by show 2 * 0 + _ ≤ _; exact Nat.le_of_eq rfl) (hb hby at_40) (fun _ _ => ⟨rfl, ec46, (by decide : 0 + 0 ≤ _), (by decide : 0 + 0 ≤ _)⟩)
   dsimp only [Pt.U, Pt.locs, Pt.cells, Pt.slots] at Xc48 lc48 yc48 zc48 stc48 hQc48
   subst lc48 yc48 zc48
   obtain ⟨Nqc48, ec48, hAc48⟩ := hQc48
   have Nc48 := Fr.app Nc46 Nqc48
   obtain rfl := hAc48
   have p49 : ∀ t, St p e below Tc48 (mkF m 43 Ls39 [(.ref a_FALSE), (.ref a_FALSE)]) t → S0 t := fun t k => p47 t (stc48 t k)
   have p50 : ∀ t, St p e below Tc48 (mkF m 51 Ls39 [(.int (1 : Int32))]) t → S0 t := fun t k => p49 t (by
     show St p e below Tc48 (mkF m 43 Ls39 [(.ref a_FALSE), (.ref a_FALSE)]) t
     refine Jvm.RoadKit.acmp (g := (mkF m 43 Ls39 [(.ref a_FALSE), (.ref a_FALSE)])) Xc48 hx rfl rfl rfl (pc0 := 43) (pc' := 46) (same := true) rfl (hb hby at_43) rfl (decide_eq_true rfl) (by decide) (by decide) ?_
     show St p e below Tc48 (mkF m 46 Ls39 []) t
     refine XT.iconstV Xc48.here hx rfl (1 : Int32) (hb hby at_46) (by decide) ?_
     show St p e below Tc48 (mkF m 47 Ls39 [(.int (1 : Int32))]) t
     refine XS.goto Xc48.here hx rfl (pc0 := 47) (pc' := 51) rfl (hb hby at_47) (by decide) (by decide) ?_
     exact k)
   obtain ⟨fs, hr, hrun, hended, hW, hsame⟩ := Xc48.leave (v := some (.int (1 : Int32))) (fun h => by rw [Bd.returns] at h; cases h)
   refine ⟨_, _, p50 _ ?_, hrun, hended, _, _, rfl, ?_, ⟨_, rfl⟩, hW, hsame.mono (by decide) (by decide)⟩
   · exact retOut Xc48 hx Bd.returns rfl (Or.inl ⟨rfl, by simp, _, rfl⟩) (hb hby at_51) hr
   · exact ⟨rfl, Nc48⟩
  ·
   have p51 : ∀ t, St p e below Tc11 (mkF m 19 Ls9 [(.ref a_UNKNOWN)]) t → S0 t := fun t k => p10 t (stc11 t k)
   let Ls52 : Array Slot := #[.val (.int i0), .val (.int i1), .val (.ref a_TRUE), .val (.ref a_UNKNOWN), .unset]
   have p53 : ∀ t, St p e below Tc11 (mkF m 22 Ls52 [(.ref a_UNKNOWN), (.ref a_TRUE)]) t → S0 t := fun t k => p51 t (by
     show St p e below Tc11 (mkF m 19 Ls9 [(.ref a_UNKNOWN)]) t
     refine XS.astoreN Xc11.here hx rfl (hb hby at_19) rfl rfl (l' := Ls52) rfl ?_
     show St p e below Tc11 (mkF m 20 Ls52 []) t
     refine XS.aloadN Xc11.here hx rfl (hb hby at_20) rfl rfl ?_
     show St p e below Tc11 (mkF m 21 Ls52 [(.ref a_TRUE)]) t
     refine XS.aloadN Xc11.here hx rfl (hb hby at_21) rfl rfl ?_
     exact k)
   obtain ⟨cqc54, kqc54, qc54a, qc54b, qc54c⟩ := isOf hZ ec11 (Ea_TRUE.ext O0.2)
   obtain ⟨_, _, ⟨Tc54, Lc54, kc54, nc54⟩, -, Xc54, ⟨Lcc54, hQc54, lc54, yc54, zc54⟩, stc54⟩ := Xc11.virtualBack hx (y := M1) (z := M1) hown (mvT hZ (ww hw 8 rfl)) (mvT hZ (ww hw 9 rfl)) (notFace_of_selects (args := #[]) (mvT hZ (ww hw 11 rfl))) (mvT hZ (ww hw 11 rfl)) (mvT hZ (ww hw 10 rfl)) (by decide) (backOf (W := 0) (rm2_9 l Z a0 hw [] a_TRUE a_FALSE a_UNKNOWN h0 n0 O0 HE' ) hZ (ww hw 12 rfl) (ww hw 6 rfl) (by decide) (by decide)) qc54a qc54c (g := (mkF m 22 Ls52 [(.ref a_UNKNOWN), (.ref a_TRUE)])) rfl (by rw [hml]; rfl) (Steps.refl _) (argsL := [(.ref a_UNKNOWN)]) (rest := []) (lenOf pd1 rfl) rfl (by show 2 * 0 + _ ≤ _; exact Nat.le_of_eq rfl) (hb hby at_22) (fun _ _ => ⟨rfl, ec11, (by decide : 0 + 0 ≤ _), (by decide : 0 + 0 ≤ _)⟩)
   dsimp only [Pt.U, Pt.locs, Pt.cells, Pt.slots] at Xc54 lc54 yc54 zc54 stc54 hQc54
   subst lc54 yc54 zc54
   obtain ⟨Nqc54, ec54, hAc54⟩ := hQc54
   have Nc54 := Fr.app Nc11 Nqc54
   obtain rfl := hAc54
   have p55 : ∀ t, St p e below Tc54 (mkF m 25 Ls52 [(.ref a_UNKNOWN)]) t → S0 t := fun t k => p53 t (stc54.trans k)
   let Ls56 : Array Slot := #[.val (.int i0), .val (.int i1), .val (.ref a_TRUE), .val (.ref a_UNKNOWN), .val (.ref a_UNKNOWN)]
   have p57 : ∀ t, St p e below Tc54 (mkF m 30 Ls56 [(.ref a_TRUE), (.ref a_UNKNOWN)]) t → S0 t := fun t k => p55 t (by
     show St p e below Tc54 (mkF m 25 Ls52 [(.ref a_UNKNOWN)]) t
     refine XS.astore Xc54.here hx rfl (hb hby at_25) rfl rfl (l' := Ls56) rfl ?_
     show St p e below Tc54 (mkF m 27 Ls56 []) t
     refine XS.aload Xc54.here hx rfl (hb hby at_27) rfl rfl ?_
     show St p e below Tc54 (mkF m 29 Ls56 [(.ref a_UNKNOWN)]) t
     refine XS.aloadN Xc54.here hx rfl (hb hby at_29) rfl rfl ?_
     exact k)
   obtain ⟨_, _, ⟨Tc58, Lc58, kc58, nc58⟩, -, Xc58, ⟨Lcc58, hQc58, lc58, yc58, zc58⟩, stc58⟩ := Jvm.LawKit.callS Xc54 hx (y := M2) hown (mvT hZ (ww hw 18 rfl)) (mvT hZ (ww hw 19 rfl)) (mvT hZ (ww hw 3 rfl)) (mvT hZ (ww hw 20 rfl)) (by decide) (backOf (W := 1) (rm3_2 l Z a0 hw [] a_TRUE a_FALSE a_UNKNOWN h0 n0 O0 HE' ) hZ (ww hw 20 rfl) (ww hw 3 rfl) (by decide) (by decide)) (g := (mkF m 30 Ls56 [(.ref a_TRUE), (.ref a_UNKNOWN)])) rfl (by rw [hml]; rfl) (argsL := [(.ref a_TRUE)]) (rest := [(.ref a_UNKNOWN)]) (lenOf pd2 rfl) rfl (by show 2 * 0 + _ ≤ _; exact Nat.le_of_eq rfl) (hb hby at_30) (fun _ _ => ⟨rfl, ec54, (by decide : 0 + 0 ≤ _), (by decide : 0 + 0 ≤ _)⟩)
   dsimp only [Pt.U, Pt.locs, Pt.cells, Pt.slots] at Xc58 lc58 yc58 zc58 stc58 hQc58
   subst lc58 yc58 zc58
   obtain ⟨Nqc58, ec58, hAc58⟩ := hQc58
   have Nc58 := Fr.app Nc54 Nqc58
   obtain rfl := hAc58
   have p59 : ∀ t, St p e below Tc58 (mkF m 33 Ls56 [(.int (2 : Int32)), (.ref a_UNKNOWN)]) t → S0 t := fun t k => p57 t (stc58 t k)
   have p60 : ∀ t, St p e below Tc58 (mkF m 34 Ls56 [(.ref a_UNKNOWN), (.int (2 : Int32)), (.ref a_UNKNOWN)]) t → S0 t := fun t k => p59 t (by
     show St p e below Tc58 (mkF m 33 Ls56 [(.int (2 : Int32)), (.ref a_UNKNOWN)]) t
     refine XS.aloadN Xc58.here hx rfl (hb hby at_33) rfl rfl ?_
     exact k)
   obtain ⟨_, _, ⟨Tc61, Lc61, kc61, nc61⟩, -, Xc61, ⟨Lcc61, hQc61, lc61, yc61, zc61⟩, stc61⟩ := Jvm.LawKit.callS Xc58 hx (y := M2) hown (mvT hZ (ww hw 18 rfl)) (mvT hZ (ww hw 19 rfl)) (mvT hZ (ww hw 3 rfl)) (mvT hZ (ww hw 20 rfl)) (by decide) (backOf (W := 2) (rm3_10 l Z a0 hw [] a_TRUE a_FALSE a_UNKNOWN h0 n0 O0 HE' ) hZ (ww hw 20 rfl) (ww hw 3 rfl) (by decide) (by decide)) (g := (mkF m 34 Ls56 [(.ref a_UNKNOWN), (.int (2 : Int32)), (.ref a_UNKNOWN)])) rfl (by rw [hml]; rfl) (argsL := [(.ref a_UNKNOWN)]) (rest := [(.int (2 : Int32)), (.ref a_UNKNOWN)]) (lenOf pd2 rfl) rfl (by show 2 * 0 + _ ≤ _; exact Nat.le_of_eq rfl) (hb hby at_34) (fun _ _ => ⟨rfl, ec58, (by decide : 0 + 0 ≤ _), (by decide : 0 + 0 ≤ _)⟩)
   dsimp only [Pt.U, Pt.locs, Pt.cells, Pt.slots] at Xc61 lc61 yc61 zc61 stc61 hQc61
   subst lc61 yc61 zc61
   obtain ⟨Nqc61, ec61, hAc61⟩ := hQc61
   have Nc61 := Fr.app Nc58 Nqc61
   obtain rfl := hAc61
   have p62 : ∀ t, St p e below Tc61 (mkF m 37 Ls56 [(.int (1 : Int32)), (.int (2 : Int32)), (.ref a_UNKNOWN)]) t → S0 t := fun t k => p60 t (stc61 t k)
   obtain ⟨_, _, ⟨Tc63, Lc63, kc63, nc63⟩, -, Xc63, ⟨Lcc63, hQc63, lc63, yc63, zc63⟩, stc63⟩ := Jvm.LawKit.callS Xc61 hx (y := M3) hown (mvT hZ (ww hw 23 rfl)) (mvT hZ (ww hw 24 rfl)) (mvT hZ (ww hw 25 rfl)) (mvT hZ (ww hw 26 rfl)) (by decide) (backOf (W := 1) (rm4_11 l Z a0 hw [] a_TRUE a_FALSE a_UNKNOWN h0 n0 O0 HE' ) hZ (ww hw 26 rfl) (ww hw 25 rfl) (by decide) (by decide)) (g := (mkF m 37 Ls56 [(.int (1 : Int32)), (.int (2 : Int32)), (.ref a_UNKNOWN)])) rfl (by rw [hml]; rfl) (argsL := [(.int (2 : Int32)), (.int (1 : Int32))]) (rest := [(.ref a_UNKNOWN)]) (lenOf pd3 rfl) rfl (by show 2 * 0 + _ ≤ _; exact Nat.le_of_eq rfl) (hb hby at_37) (fun _ _ => ⟨rfl, ec61, (by decide : 0 + 0 ≤ _), (by decide : 0 + 0 ≤ _)⟩)
   dsimp only [Pt.U, Pt.locs, Pt.cells, Pt.slots] at Xc63 lc63 yc63 zc63 stc63 hQc63
   subst lc63 yc63 zc63
   obtain ⟨Nqc63, ec63, hAc63⟩ := hQc63
   have Nc63 := Fr.app Nc61 Nqc63
   obtain rfl := hAc63
   have p64 : ∀ t, St p e below Tc63 (mkF m 40 Ls56 [(.int (1 : Int32)), (.ref a_UNKNOWN)]) t → S0 t := fun t k => p62 t (stc63 t k)
   obtain ⟨_, _, ⟨Tc65, Lc65, kc65, nc65⟩, -, Xc65, ⟨Lcc65, hQc65, lc65, yc65, zc65⟩, stc65⟩ := Jvm.LawKit.callS Xc63 hx (y := M4) hown (mvT hZ (ww hw 27 rfl)) (mvT hZ (ww hw 28 rfl)) (mvT hZ (ww hw 3 rfl)) (mvT hZ (ww hw 29 rfl)) (by decide) (backOf (W := 1) (rm5_12 l Z a0 hw [] a_TRUE a_FALSE a_UNKNOWN h0 n0 O0 HE' ) hZ (ww hw 29 rfl) (ww hw 3 rfl) (by decide) (by decide)) (g := (mkF m 40 Ls56 [(.int (1 : Int32)), (.ref a_UNKNOWN)])) rfl (by rw [hml]; rfl) (argsL := [(.int (1 : Int32))]) (rest := [(.ref a_UNKNOWN)]) (lenOf pd0 rfl) rfl (by show 2 * 0 + _ ≤ _; exact Nat.le_of_eq rfl) (hb hby at_40) (fun _ _ => ⟨rfl, ec63, (by decide : 0 + 0 ≤ _), (by decide : 0 + 0 ≤ _)⟩)
   dsimp only [Pt.U, Pt.locs, Pt.cells, Pt.slots] at Xc65 lc65 yc65 zc65 stc65 hQc65
   subst lc65 yc65 zc65
   obtain ⟨Nqc65, ec65, hAc65⟩ := hQc65
   have Nc65 := Fr.app Nc63 Nqc65
   obtain rfl := hAc65
   have p66 : ∀ t, St p e below Tc65 (mkF m 43 Ls56 [(.ref a_UNKNOWN), (.ref a_UNKNOWN)]) t → S0 t := fun t k => p64 t (stc65 t k)
   have p67 : ∀ t, St p e below Tc65 (mkF m 51 Ls56 [(.int (1 : Int32))]) t → S0 t := fun t k => p66 t (by
     show St p e below Tc65 (mkF m 43 Ls56 [(.ref a_UNKNOWN), (.ref a_UNKNOWN)]) t
     refine Jvm.RoadKit.acmp (g := (mkF m 43 Ls56 [(.ref a_UNKNOWN), (.ref a_UNKNOWN)])) Xc65 hx rfl rfl rfl (pc0 := 43) (pc' := 46) (same := true) rfl (hb hby at_43) rfl (decide_eq_true rfl) (by decide) (by decide) ?_
     show St p e below Tc65 (mkF m 46 Ls56 []) t
     refine XT.iconstV Xc65.here hx rfl (1 : Int32) (hb hby at_46) (by decide) ?_
     show St p e below Tc65 (mkF m 47 Ls56 [(.int (1 : Int32))]) t
     refine XS.goto Xc65.here hx rfl (pc0 := 47) (pc' := 51) rfl (hb hby at_47) (by decide) (by decide) ?_
     exact k)
   obtain ⟨fs, hr, hrun, hended, hW, hsame⟩ := Xc65.leave (v := some (.int (1 : Int32))) (fun h => by rw [Bd.returns] at h; cases h)
   refine ⟨_, _, p67 _ ?_, hrun, hended, _, _, rfl, ?_, ⟨_, rfl⟩, hW, hsame.mono (by decide) (by decide)⟩
   · exact retOut Xc65 hx Bd.returns rfl (Or.inl ⟨rfl, by simp, _, rfl⟩) (hb hby at_51) hr
   · exact ⟨rfl, Nc65⟩
 ·
  have p68 : ∀ t, St p e below Tc2 (mkF m 9 #[.val (.int i0), .val (.int i1), .unset, .unset, .unset] [(.ref a_FALSE)]) t → S0 t := fun t k => p1 t (stc2 t k)
  let Ls69 : Array Slot := #[.val (.int i0), .val (.int i1), .val (.ref a_FALSE), .unset, .unset]
  have p70 : ∀ t, St p e below Tc2 (mkF m 16 Ls69 [(.int ((i1 &&& (2147483647 : Int32)) % (3 : Int32)))]) t → S0 t := fun t k => p68 t (by
    show St p e below Tc2 (mkF m 9 #[.val (.int i0), .val (.int i1), .unset, .unset, .unset] [(.ref a_FALSE)]) t
    refine XS.astoreN Xc2.here hx rfl (hb hby at_9) rfl rfl (l' := Ls69) rfl ?_
    show St p e below Tc2 (mkF m 10 Ls69 []) t
    refine XS.iloadN Xc2.here hx rfl (hb hby at_10) rfl ?_
    show St p e below Tc2 (mkF m 11 Ls69 [(.int i1)]) t
    refine Xc2.ldcI hx hown (mvT hZ (ww hw 0 rfl)) rfl (hb hby at_11) ?_
    show St p e below Tc2 (mkF m 13 Ls69 [(.int (2147483647 : Int32)), (.int i1)]) t
    refine XS.iand Xc2.here hx rfl (hb hby at_13) rfl ?_
    show St p e below Tc2 (mkF m 14 Ls69 [(.int (i1 &&& (2147483647 : Int32)))]) t
    refine XT.iconstV Xc2.here hx rfl (3 : Int32) (hb hby at_14) (by decide) ?_
    show St p e below Tc2 (mkF m 15 Ls69 [(.int (3 : Int32)), (.int (i1 &&& (2147483647 : Int32)))]) t
    refine iremM Xc2 hx rfl (hb hby at_15) rfl (by decide : ¬ ((3 : Int32) = (0 : Int32))) ?_
    exact k)
  obtain ⟨_, _, ⟨Tc71, Lc71, kc71, nc71⟩, -, Xc71, ⟨Lcc71, hQc71, lc71, yc71, zc71⟩, stc71⟩ := Jvm.LawKit.callS Xc2 hx (y := M0) hown (mvT hZ (ww hw 1 rfl)) (mvT hZ (ww hw 2 rfl)) (mvT hZ (ww hw 3 rfl)) (mvT hZ (ww hw 4 rfl)) (by decide) (backOf (W := 0) (rm1_0 l Z a0 hw [] a_TRUE a_FALSE a_UNKNOWN ((i1 &&& (2147483647 : Int32)) % (3 : Int32)) h0 n0 O0 HE' ) hZ (ww hw 4 rfl) (ww hw 3 rfl) (by decide) (by decide)) (g := (mkF m 16 Ls69 [(.int ((i1 &&& (2147483647 : Int32)) % (3 : Int32)))])) rfl (by rw [hml]; rfl) (argsL := [(.int ((i1 &&& (2147483647 : Int32)) % (3 : Int32)))]) (rest := []) (lenOf pd0 rfl) rfl (by show 2 * 0 + _ ≤ _; exact Nat.le_of_eq rfl) (hb hby at_16) (fun _ _ => ⟨rfl, ec2, (by decide : 0 + 0 ≤ _), (by decide : 0 + 0 ≤ _)⟩)
  dsimp only [Pt.U, Pt.locs, Pt.cells, Pt.slots] at Xc71 lc71 yc71 zc71 stc71 hQc71
  subst lc71 yc71 zc71
  obtain ⟨Nqc71, ec71, hAc71⟩ := hQc71
  have Nc71 := Fr.app Nc2 Nqc71
  rcases hAc71 with ⟨rfl, g72⟩ | ⟨rfl, g73, g74⟩ | ⟨rfl, g75, g76⟩
  ·
   have p77 : ∀ t, St p e below Tc71 (mkF m 19 Ls69 [(.ref a_TRUE)]) t → S0 t := fun t k => p70 t (stc71 t k)
   let Ls78 : Array Slot := #[.val (.int i0), .val (.int i1), .val (.ref a_FALSE), .val (.ref a_TRUE), .unset]
   have p79 : ∀ t, St p e below Tc71 (mkF m 22 Ls78 [(.ref a_TRUE), (.ref a_FALSE)]) t → S0 t := fun t k => p77 t (by
     show St p e below Tc71 (mkF m 19 Ls69 [(.ref a_TRUE)]) t
     refine XS.astoreN Xc71.here hx rfl (hb hby at_19) rfl rfl (l' := Ls78) rfl ?_
     show St p e below Tc71 (mkF m 20 Ls78 []) t
     refine XS.aloadN Xc71.here hx rfl (hb hby at_20) rfl rfl ?_
     show St p e below Tc71 (mkF m 21 Ls78 [(.ref a_FALSE)]) t
     refine XS.aloadN Xc71.here hx rfl (hb hby at_21) rfl rfl ?_
     exact k)
   obtain ⟨cqc80, kqc80, qc80a, qc80b, qc80c⟩ := isOf hZ ec71 (Ea_FALSE.ext O0.2)
   obtain ⟨_, _, ⟨Tc80, Lc80, kc80, nc80⟩, -, Xc80, ⟨Lcc80, hQc80, lc80, yc80, zc80⟩, stc80⟩ := Xc71.virtualBack hx (y := M1) (z := M1) hown (mvT hZ (ww hw 8 rfl)) (mvT hZ (ww hw 9 rfl)) (notFace_of_selects (args := #[]) (mvT hZ (ww hw 11 rfl))) (mvT hZ (ww hw 11 rfl)) (mvT hZ (ww hw 10 rfl)) (by decide) (backOf (W := 0) (rm2_13 l Z a0 hw [] a_TRUE a_FALSE a_UNKNOWN h0 n0 O0 HE' ) hZ (ww hw 12 rfl) (ww hw 6 rfl) (by decide) (by decide)) qc80a qc80c (g := (mkF m 22 Ls78 [(.ref a_TRUE), (.ref a_FALSE)])) rfl (by rw [hml]; rfl) (Steps.refl _) (argsL := [(.ref a_TRUE)]) (rest := []) (lenOf pd1 rfl) rfl (by show 2 * 0 + _ ≤ _; exact Nat.le_of_eq rfl) (hb hby at_22) (fun _ _ => ⟨rfl, ec71, (by decide : 0 + 0 ≤ _), (by decide : 0 + 0 ≤ _)⟩)
   dsimp only [Pt.U, Pt.locs, Pt.cells, Pt.slots] at Xc80 lc80 yc80 zc80 stc80 hQc80
   subst lc80 yc80 zc80
   obtain ⟨Nqc80, ec80, hAc80⟩ := hQc80
   have Nc80 := Fr.app Nc71 Nqc80
   obtain rfl := hAc80
   have p81 : ∀ t, St p e below Tc80 (mkF m 25 Ls78 [(.ref a_FALSE)]) t → S0 t := fun t k => p79 t (stc80.trans k)
   let Ls82 : Array Slot := #[.val (.int i0), .val (.int i1), .val (.ref a_FALSE), .val (.ref a_TRUE), .val (.ref a_FALSE)]
   have p83 : ∀ t, St p e below Tc80 (mkF m 30 Ls82 [(.ref a_FALSE), (.ref a_FALSE)]) t → S0 t := fun t k => p81 t (by
     show St p e below Tc80 (mkF m 25 Ls78 [(.ref a_FALSE)]) t
     refine XS.astore Xc80.here hx rfl (hb hby at_25) rfl rfl (l' := Ls82) rfl ?_
     show St p e below Tc80 (mkF m 27 Ls82 []) t
     refine XS.aload Xc80.here hx rfl (hb hby at_27) rfl rfl ?_
     show St p e below Tc80 (mkF m 29 Ls82 [(.ref a_FALSE)]) t
     refine XS.aloadN Xc80.here hx rfl (hb hby at_29) rfl rfl ?_
     exact k)
   obtain ⟨_, _, ⟨Tc84, Lc84, kc84, nc84⟩, -, Xc84, ⟨Lcc84, hQc84, lc84, yc84, zc84⟩, stc84⟩ := Jvm.LawKit.callS Xc80 hx (y := M2) hown (mvT hZ (ww hw 18 rfl)) (mvT hZ (ww hw 19 rfl)) (mvT hZ (ww hw 3 rfl)) (mvT hZ (ww hw 20 rfl)) (by decide) (backOf (W := 1) (rm3_6 l Z a0 hw [] a_TRUE a_FALSE a_UNKNOWN h0 n0 O0 HE' ) hZ (ww hw 20 rfl) (ww hw 3 rfl) (by decide) (by decide)) (g := (mkF m 30 Ls82 [(.ref a_FALSE), (.ref a_FALSE)])) rfl (by rw [hml]; rfl) (argsL := [(.ref a_FALSE)]) (rest := [(.ref a_FALSE)]) (lenOf pd2 rfl) rfl (by show 2 * 0 + _ ≤ _; exact Nat.le_of_eq rfl) (hb hby at_30) (fun _ _ => ⟨rfl, ec80, (by decide : 0 + 0 ≤ _), (by decide : 0 + 0 ≤ _)⟩)
   dsimp only [Pt.U, Pt.locs, Pt.cells, Pt.slots] at Xc84 lc84 yc84 zc84 stc84 hQc84
   subst lc84 yc84 zc84
   obtain ⟨Nqc84, ec84, hAc84⟩ := hQc84
   have Nc84 := Fr.app Nc80 Nqc84
   obtain rfl := hAc84
   have p85 : ∀ t, St p e below Tc84 (mkF m 33 Ls82 [(.int (0 : Int32)), (.ref a_FALSE)]) t → S0 t := fun t k => p83 t (stc84 t k)
   have p86 : ∀ t, St p e below Tc84 (mkF m 34 Ls82 [(.ref a_TRUE), (.int (0 : Int32)), (.ref a_FALSE)]) t → S0 t := fun t k => p85 t (by
     show St p e below Tc84 (mkF m 33 Ls82 [(.int (0 : Int32)), (.ref a_FALSE)]) t
     refine XS.aloadN Xc84.here hx rfl (hb hby at_33) rfl rfl ?_
     exact k)
   obtain ⟨_, _, ⟨Tc87, Lc87, kc87, nc87⟩, -, Xc87, ⟨Lcc87, hQc87, lc87, yc87, zc87⟩, stc87⟩ := Jvm.LawKit.callS Xc84 hx (y := M2) hown (mvT hZ (ww hw 18 rfl)) (mvT hZ (ww hw 19 rfl)) (mvT hZ (ww hw 3 rfl)) (mvT hZ (ww hw 20 rfl)) (by decide) (backOf (W := 2) (rm3_2 l Z a0 hw [] a_TRUE a_FALSE a_UNKNOWN h0 n0 O0 HE' ) hZ (ww hw 20 rfl) (ww hw 3 rfl) (by decide) (by decide)) (g := (mkF m 34 Ls82 [(.ref a_TRUE), (.int (0 : Int32)), (.ref a_FALSE)])) rfl (by rw [hml]; rfl) (argsL := [(.ref a_TRUE)]) (rest := [(.int (0 : Int32)), (.ref a_FALSE)]) (lenOf pd2 rfl) rfl (by show 2 * 0 + _ ≤ _; exact Nat.le_of_eq rfl) (hb hby at_34) (fun _ _ => ⟨rfl, ec84, (by decide : 0 + 0 ≤ _), (by decide : 0 + 0 ≤ _)⟩)
   dsimp only [Pt.U, Pt.locs, Pt.cells, Pt.slots] at Xc87 lc87 yc87 zc87 stc87 hQc87
   subst lc87 yc87 zc87
   obtain ⟨Nqc87, ec87, hAc87⟩ := hQc87
   have Nc87 := Fr.app Nc84 Nqc87
   obtain rfl := hAc87
   have p88 : ∀ t, St p e below Tc87 (mkF m 37 Ls82 [(.int (2 : Int32)), (.int (0 : Int32)), (.ref a_FALSE)]) t → S0 t := fun t k => p86 t (stc87 t k)
   obtain ⟨_, _, ⟨Tc89, Lc89, kc89, nc89⟩, -, Xc89, ⟨Lcc89, hQc89, lc89, yc89, zc89⟩, stc89⟩ := Jvm.LawKit.callS Xc87 hx (y := M3) hown (mvT hZ (ww hw 23 rfl)) (mvT hZ (ww hw 24 rfl)) (mvT hZ (ww hw 25 rfl)) (mvT hZ (ww hw 26 rfl)) (by decide) (backOf (W := 1) (rm4_14 l Z a0 hw [] a_TRUE a_FALSE a_UNKNOWN h0 n0 O0 HE' ) hZ (ww hw 26 rfl) (ww hw 25 rfl) (by decide) (by decide)) (g := (mkF m 37 Ls82 [(.int (2 : Int32)), (.int (0 : Int32)), (.ref a_FALSE)])) rfl (by rw [hml]; rfl) (argsL := [(.int (0 : Int32)), (.int (2 : Int32))]) (rest := [(.ref a_FALSE)]) (lenOf pd3 rfl) rfl (by show 2 * 0 + _ ≤ _; exact Nat.le_of_eq rfl) (hb hby at_37) (fun _ _ => ⟨rfl, ec87, (by decide : 0 + 0 ≤ _), (by decide : 0 + 0 ≤ _)⟩)
   dsimp only [Pt.U, Pt.locs, Pt.cells, Pt.slots] at Xc89 lc89 yc89 zc89 stc89 hQc89
   subst lc89 yc89 zc89
   obtain ⟨Nqc89, ec89, hAc89⟩ := hQc89
   have Nc89 := Fr.app Nc87 Nqc89
   obtain rfl := hAc89
   have p90 : ∀ t, St p e below Tc89 (mkF m 40 Ls82 [(.int (0 : Int32)), (.ref a_FALSE)]) t → S0 t := fun t k => p88 t (stc89 t k)
   obtain ⟨_, _, ⟨Tc91, Lc91, kc91, nc91⟩, -, Xc91, ⟨Lcc91, hQc91, lc91, yc91, zc91⟩, stc91⟩ := Jvm.LawKit.callS Xc89 hx (y := M4) hown (mvT hZ (ww hw 27 rfl)) (mvT hZ (ww hw 28 rfl)) (mvT hZ (ww hw 3 rfl)) (mvT hZ (ww hw 29 rfl)) (by decide) (backOf (W := 1) (rm5_8 l Z a0 hw [] a_TRUE a_FALSE a_UNKNOWN h0 n0 O0 HE' ) hZ (ww hw 29 rfl) (ww hw 3 rfl) (by decide) (by decide)) (g := (mkF m 40 Ls82 [(.int (0 : Int32)), (.ref a_FALSE)])) rfl (by rw [hml]; rfl) (argsL := [(.int (0 : Int32))]) (rest := [(.ref a_FALSE)]) (lenOf pd0 rfl) rfl (by show 2 * 0 + _ ≤ _; exact Nat.le_of_eq rfl) (hb hby at_40) (fun _ _ => ⟨rfl, ec89, (by decide : 0 + 0 ≤ _), (by decide : 0 + 0 ≤ _)⟩)
   dsimp only [Pt.U, Pt.locs, Pt.cells, Pt.slots] at Xc91 lc91 yc91 zc91 stc91 hQc91
   subst lc91 yc91 zc91
   obtain ⟨Nqc91, ec91, hAc91⟩ := hQc91
   have Nc91 := Fr.app Nc89 Nqc91
   obtain rfl := hAc91
   have p92 : ∀ t, St p e below Tc91 (mkF m 43 Ls82 [(.ref a_FALSE), (.ref a_FALSE)]) t → S0 t := fun t k => p90 t (stc91 t k)
   have p93 : ∀ t, St p e below Tc91 (mkF m 51 Ls82 [(.int (1 : Int32))]) t → S0 t := fun t k => p92 t (by
     show St p e below Tc91 (mkF m 43 Ls82 [(.ref a_FALSE), (.ref a_FALSE)]) t
     refine Jvm.RoadKit.acmp (g := (mkF m 43 Ls82 [(.ref a_FALSE), (.ref a_FALSE)])) Xc91 hx rfl rfl rfl (pc0 := 43) (pc' := 46) (same := true) rfl (hb hby at_43) rfl (decide_eq_true rfl) (by decide) (by decide) ?_
     show St p e below Tc91 (mkF m 46 Ls82 []) t
     refine XT.iconstV Xc91.here hx rfl (1 : Int32) (hb hby at_46) (by decide) ?_
     show St p e below Tc91 (mkF m 47 Ls82 [(.int (1 : Int32))]) t
     refine XS.goto Xc91.here hx rfl (pc0 := 47) (pc' := 51) rfl (hb hby at_47) (by decide) (by decide) ?_
     exact k)
   obtain ⟨fs, hr, hrun, hended, hW, hsame⟩ := Xc91.leave (v := some (.int (1 : Int32))) (fun h => by rw [Bd.returns] at h; cases h)
   refine ⟨_, _, p93 _ ?_, hrun, hended, _, _, rfl, ?_, ⟨_, rfl⟩, hW, hsame.mono (by decide) (by decide)⟩
   · exact retOut Xc91 hx Bd.returns rfl (Or.inl ⟨rfl, by simp, _, rfl⟩) (hb hby at_51) hr
   · exact ⟨rfl, Nc91⟩
  ·
   have p94 : ∀ t, St p e below Tc71 (mkF m 19 Ls69 [(.ref a_FALSE)]) t → S0 t := fun t k => p70 t (stc71 t k)
   let Ls95 : Array Slot := #[.val (.int i0), .val (.int i1), .val (.ref a_FALSE), .val (.ref a_FALSE), .unset]
   have p96 : ∀ t, St p e below Tc71 (mkF m 22 Ls95 [(.ref a_FALSE), (.ref a_FALSE)]) t → S0 t := fun t k => p94 t (by
     show St p e below Tc71 (mkF m 19 Ls69 [(.ref a_FALSE)]) t
     refine XS.astoreN Xc71.here hx rfl (hb hby at_19) rfl rfl (l' := Ls95) rfl ?_
     show St p e below Tc71 (mkF m 20 Ls95 []) t
     refine XS.aloadN Xc71.here hx rfl (hb hby at_20) rfl rfl ?_
     show St p e below Tc71 (mkF m 21 Ls95 [(.ref a_FALSE)]) t
     refine XS.aloadN Xc71.here hx rfl (hb hby at_21) rfl rfl ?_
     exact k)
   obtain ⟨cqc97, kqc97, qc97a, qc97b, qc97c⟩ := isOf hZ ec71 (Ea_FALSE.ext O0.2)
   obtain ⟨_, _, ⟨Tc97, Lc97, kc97, nc97⟩, -, Xc97, ⟨Lcc97, hQc97, lc97, yc97, zc97⟩, stc97⟩ := Xc71.virtualBack hx (y := M1) (z := M1) hown (mvT hZ (ww hw 8 rfl)) (mvT hZ (ww hw 9 rfl)) (notFace_of_selects (args := #[]) (mvT hZ (ww hw 11 rfl))) (mvT hZ (ww hw 11 rfl)) (mvT hZ (ww hw 10 rfl)) (by decide) (backOf (W := 0) (rm2_15 l Z a0 hw [] a_TRUE a_FALSE a_UNKNOWN h0 n0 O0 HE' ) hZ (ww hw 12 rfl) (ww hw 6 rfl) (by decide) (by decide)) qc97a qc97c (g := (mkF m 22 Ls95 [(.ref a_FALSE), (.ref a_FALSE)])) rfl (by rw [hml]; rfl) (Steps.refl _) (argsL := [(.ref a_FALSE)]) (rest := []) (lenOf pd1 rfl) rfl (by show 2 * 0 + _ ≤ _; exact Nat.le_of_eq rfl) (hb hby at_22) (fun _ _ => ⟨rfl, ec71, (by decide : 0 + 0 ≤ _), (by decide : 0 + 0 ≤ _)⟩)
   dsimp only [Pt.U, Pt.locs, Pt.cells, Pt.slots] at Xc97 lc97 yc97 zc97 stc97 hQc97
   subst lc97 yc97 zc97
   obtain ⟨Nqc97, ec97, hAc97⟩ := hQc97
   have Nc97 := Fr.app Nc71 Nqc97
   obtain rfl := hAc97
   have p98 : ∀ t, St p e below Tc97 (mkF m 25 Ls95 [(.ref a_FALSE)]) t → S0 t := fun t k => p96 t (stc97.trans k)
   let Ls99 : Array Slot := #[.val (.int i0), .val (.int i1), .val (.ref a_FALSE), .val (.ref a_FALSE), .val (.ref a_FALSE)]
   have p100 : ∀ t, St p e below Tc97 (mkF m 30 Ls99 [(.ref a_FALSE), (.ref a_FALSE)]) t → S0 t := fun t k => p98 t (by
     show St p e below Tc97 (mkF m 25 Ls95 [(.ref a_FALSE)]) t
     refine XS.astore Xc97.here hx rfl (hb hby at_25) rfl rfl (l' := Ls99) rfl ?_
     show St p e below Tc97 (mkF m 27 Ls99 []) t
     refine XS.aload Xc97.here hx rfl (hb hby at_27) rfl rfl ?_
     show St p e below Tc97 (mkF m 29 Ls99 [(.ref a_FALSE)]) t
     refine XS.aloadN Xc97.here hx rfl (hb hby at_29) rfl rfl ?_
     exact k)
   obtain ⟨_, _, ⟨Tc101, Lc101, kc101, nc101⟩, -, Xc101, ⟨Lcc101, hQc101, lc101, yc101, zc101⟩, stc101⟩ := Jvm.LawKit.callS Xc97 hx (y := M2) hown (mvT hZ (ww hw 18 rfl)) (mvT hZ (ww hw 19 rfl)) (mvT hZ (ww hw 3 rfl)) (mvT hZ (ww hw 20 rfl)) (by decide) (backOf (W := 1) (rm3_6 l Z a0 hw [] a_TRUE a_FALSE a_UNKNOWN h0 n0 O0 HE' ) hZ (ww hw 20 rfl) (ww hw 3 rfl) (by decide) (by decide)) (g := (mkF m 30 Ls99 [(.ref a_FALSE), (.ref a_FALSE)])) rfl (by rw [hml]; rfl) (argsL := [(.ref a_FALSE)]) (rest := [(.ref a_FALSE)]) (lenOf pd2 rfl) rfl (by show 2 * 0 + _ ≤ _; exact Nat.le_of_eq rfl) (hb hby at_30) (fun _ _ => ⟨rfl, ec97, (by decide : 0 + 0 ≤ _), (by decide : 0 + 0 ≤ _)⟩)
   dsimp only [Pt.U, Pt.locs, Pt.cells, Pt.slots] at Xc101 lc101 yc101 zc101 stc101 hQc101
   subst lc101 yc101 zc101
   obtain ⟨Nqc101, ec101, hAc101⟩ := hQc101
   have Nc101 := Fr.app Nc97 Nqc101
   obtain rfl := hAc101
   have p102 : ∀ t, St p e below Tc101 (mkF m 33 Ls99 [(.int (0 : Int32)), (.ref a_FALSE)]) t → S0 t := fun t k => p100 t (stc101 t k)
   have p103 : ∀ t, St p e below Tc101 (mkF m 34 Ls99 [(.ref a_FALSE), (.int (0 : Int32)), (.ref a_FALSE)]) t → S0 t := fun t k => p102 t (by
     show St p e below Tc101 (mkF m 33 Ls99 [(.int (0 : Int32)), (.ref a_FALSE)]) t
     refine XS.aloadN Xc101.here hx rfl (hb hby at_33) rfl rfl ?_
     exact k)
   obtain ⟨_, _, ⟨Tc104, Lc104, kc104, nc104⟩, -, Xc104, ⟨Lcc104, hQc104, lc104, yc104, zc104⟩, stc104⟩ := Jvm.LawKit.callS Xc101 hx (y := M2) hown (mvT hZ (ww hw 18 rfl)) (mvT hZ (ww hw 19 rfl)) (mvT hZ (ww hw 3 rfl)) (mvT hZ (ww hw 20 rfl)) (by decide) (backOf (W := 2) (rm3_6 l Z a0 hw [] a_TRUE a_FALSE a_UNKNOWN h0 n0 O0 HE' ) hZ (ww hw 20 rfl) (ww hw 3 rfl) (by decide) (by decide)) (g := (mkF m 34 Ls99 [(.ref a_FALSE), (.int (0 : Int32)), (.ref a_FALSE)])) rfl (by rw [hml]; rfl) (argsL := [(.ref a_FALSE)]) (rest := [(.int (0 : Int32)), (.ref a_FALSE)]) (lenOf pd2 rfl) rfl (by show 2 * 0 + _ ≤ _; exact Nat.le_of_eq rfl) (hb hby at_34) (fun _ _ => ⟨rfl, ec101, (by decide : 0 + 0 ≤ _), (by decide : 0 + 0 ≤ _)⟩)
   dsimp only [Pt.U, Pt.locs, Pt.cells, Pt.slots] at Xc104 lc104 yc104 zc104 stc104 hQc104
   subst lc104 yc104 zc104
   obtain ⟨Nqc104, ec104, hAc104⟩ := hQc104
   have Nc104 := Fr.app Nc101 Nqc104
   obtain rfl := hAc104
   have p105 : ∀ t, St p e below Tc104 (mkF m 37 Ls99 [(.int (0 : Int32)), (.int (0 : Int32)), (.ref a_FALSE)]) t → S0 t := fun t k => p103 t (stc104 t k)
   obtain ⟨_, _, ⟨Tc106, Lc106, kc106, nc106⟩, -, Xc106, ⟨Lcc106, hQc106, lc106, yc106, zc106⟩, stc106⟩ := Jvm.LawKit.callS Xc104 hx (y := M3) hown (mvT hZ (ww hw 23 rfl)) (mvT hZ (ww hw 24 rfl)) (mvT hZ (ww hw 25 rfl)) (mvT hZ (ww hw 26 rfl)) (by decide) (backOf (W := 1) (rm4_16 l Z a0 hw [] a_TRUE a_FALSE a_UNKNOWN h0 n0 O0 HE' ) hZ (ww hw 26 rfl) (ww hw 25 rfl) (by decide) (by decide)) (g := (mkF m 37 Ls99 [(.int (0 : Int32)), (.int (0 : Int32)), (.ref a_FALSE)])) rfl (by rw [hml]; rfl) (argsL := [(.int (0 : Int32)), (.int (0 : Int32))]) (rest := [(.ref a_FALSE)]) (lenOf pd3 rfl) rfl (by show 2 * 0 + _ ≤ _; exact Nat.le_of_eq rfl) (hb hby at_37) (fun _ _ => ⟨rfl, ec104, (by decide : 0 + 0 ≤ _), (by decide : 0 + 0 ≤ _)⟩)
   dsimp only [Pt.U, Pt.locs, Pt.cells, Pt.slots] at Xc106 lc106 yc106 zc106 stc106 hQc106
   subst lc106 yc106 zc106
   obtain ⟨Nqc106, ec106, hAc106⟩ := hQc106
   have Nc106 := Fr.app Nc104 Nqc106
   obtain rfl := hAc106
   have p107 : ∀ t, St p e below Tc106 (mkF m 40 Ls99 [(.int (0 : Int32)), (.ref a_FALSE)]) t → S0 t := fun t k => p105 t (stc106 t k)
   obtain ⟨_, _, ⟨Tc108, Lc108, kc108, nc108⟩, -, Xc108, ⟨Lcc108, hQc108, lc108, yc108, zc108⟩, stc108⟩ := Jvm.LawKit.callS Xc106 hx (y := M4) hown (mvT hZ (ww hw 27 rfl)) (mvT hZ (ww hw 28 rfl)) (mvT hZ (ww hw 3 rfl)) (mvT hZ (ww hw 29 rfl)) (by decide) (backOf (W := 1) (rm5_8 l Z a0 hw [] a_TRUE a_FALSE a_UNKNOWN h0 n0 O0 HE' ) hZ (ww hw 29 rfl) (ww hw 3 rfl) (by decide) (by decide)) (g := (mkF m 40 Ls99 [(.int (0 : Int32)), (.ref a_FALSE)])) rfl (by rw [hml]; rfl) (argsL := [(.int (0 : Int32))]) (rest := [(.ref a_FALSE)]) (lenOf pd0 rfl) rfl (by show 2 * 0 + _ ≤ _; exact Nat.le_of_eq rfl) (hb hby at_40) (fun _ _ => ⟨rfl, ec106, (by decide : 0 + 0 ≤ _), (by decide : 0 + 0 ≤ _)⟩)
   dsimp only [Pt.U, Pt.locs, Pt.cells, Pt.slots] at Xc108 lc108 yc108 zc108 stc108 hQc108
   subst lc108 yc108 zc108
   obtain ⟨Nqc108, ec108, hAc108⟩ := hQc108
   have Nc108 := Fr.app Nc106 Nqc108
   obtain rfl := hAc108
   have p109 : ∀ t, St p e below Tc108 (mkF m 43 Ls99 [(.ref a_FALSE), (.ref a_FALSE)]) t → S0 t := fun t k => p107 t (stc108 t k)
   have p110 : ∀ t, St p e below Tc108 (mkF m 51 Ls99 [(.int (1 : Int32))]) t → S0 t := fun t k => p109 t (by
     show St p e below Tc108 (mkF m 43 Ls99 [(.ref a_FALSE), (.ref a_FALSE)]) t
     refine Jvm.RoadKit.acmp (g := (mkF m 43 Ls99 [(.ref a_FALSE), (.ref a_FALSE)])) Xc108 hx rfl rfl rfl (pc0 := 43) (pc' := 46) (same := true) rfl (hb hby at_43) rfl (decide_eq_true rfl) (by decide) (by decide) ?_
     show St p e below Tc108 (mkF m 46 Ls99 []) t
     refine XT.iconstV Xc108.here hx rfl (1 : Int32) (hb hby at_46) (by decide) ?_
     show St p e below Tc108 (mkF m 47 Ls99 [(.int (1 : Int32))]) t
     refine XS.goto Xc108.here hx rfl (pc0 := 47) (pc' := 51) rfl (hb hby at_47) (by decide) (by decide) ?_
     exact k)
   obtain ⟨fs, hr, hrun, hended, hW, hsame⟩ := Xc108.leave (v := some (.int (1 : Int32))) (fun h => by rw [Bd.returns] at h; cases h)
   refine ⟨_, _, p110 _ ?_, hrun, hended, _, _, rfl, ?_, ⟨_, rfl⟩, hW, hsame.mono (by decide) (by decide)⟩
   · exact retOut Xc108 hx Bd.returns rfl (Or.inl ⟨rfl, by simp, _, rfl⟩) (hb hby at_51) hr
   · exact ⟨rfl, Nc108⟩
  ·
   have p111 : ∀ t, St p e below Tc71 (mkF m 19 Ls69 [(.ref a_UNKNOWN)]) t → S0 t := fun t k => p70 t (stc71 t k)
   let Ls112 : Array Slot := #[.val (.int i0), .val (.int i1), .val (.ref a_FALSE), .val (.ref a_UNKNOWN), .unset]
   have p113 : ∀ t, St p e below Tc71 (mkF m 22 Ls112 [(.ref a_UNKNOWN), (.ref a_FALSE)]) t → S0 t := fun t k => p111 t (by
     show St p e below Tc71 (mkF m 19 Ls69 [(.ref a_UNKNOWN)]) t
     refine XS.astoreN Xc71.here hx rfl (hb hby at_19) rfl rfl (l' := Ls112) rfl ?_
     show St p e below Tc71 (mkF m 20 Ls112 []) t
     refine XS.aloadN Xc71.here hx rfl (hb hby at_20) rfl rfl ?_
     show St p e below Tc71 (mkF m 21 Ls112 [(.ref a_FALSE)]) t
     refine XS.aloadN Xc71.here hx rfl (hb hby at_21) rfl rfl ?_
     exact k)
   obtain ⟨cqc114, kqc114, qc114a, qc114b, qc114c⟩ := isOf hZ ec71 (Ea_FALSE.ext O0.2)
   obtain ⟨_, _, ⟨Tc114, Lc114, kc114, nc114⟩, -, Xc114, ⟨Lcc114, hQc114, lc114, yc114, zc114⟩, stc114⟩ := Xc71.virtualBack hx (y := M1) (z := M1) hown (mvT hZ (ww hw 8 rfl)) (mvT hZ (ww hw 9 rfl)) (notFace_of_selects (args := #[]) (mvT hZ (ww hw 11 rfl))) (mvT hZ (ww hw 11 rfl)) (mvT hZ (ww hw 10 rfl)) (by decide) (backOf (W := 0) (rm2_17 l Z a0 hw [] a_TRUE a_FALSE a_UNKNOWN h0 n0 O0 HE' ) hZ (ww hw 12 rfl) (ww hw 6 rfl) (by decide) (by decide)) qc114a qc114c (g := (mkF m 22 Ls112 [(.ref a_UNKNOWN), (.ref a_FALSE)])) rfl (by rw [hml]; rfl) (Steps.refl _) (argsL := [(.ref a_UNKNOWN)]) (rest := []) (lenOf pd1 rfl) rfl (by show 2 * 0 + _ ≤ _; exact Nat.le_of_eq rfl) (hb hby at_22) (fun _ _ => ⟨rfl, ec71, (by decide : 0 + 0 ≤ _), (by decide : 0 + 0 ≤ _)⟩)
   dsimp only [Pt.U, Pt.locs, Pt.cells, Pt.slots] at Xc114 lc114 yc114 zc114 stc114 hQc114
   subst lc114 yc114 zc114
   obtain ⟨Nqc114, ec114, hAc114⟩ := hQc114
   have Nc114 := Fr.app Nc71 Nqc114
   obtain rfl := hAc114
   have p115 : ∀ t, St p e below Tc114 (mkF m 25 Ls112 [(.ref a_FALSE)]) t → S0 t := fun t k => p113 t (stc114.trans k)
   let Ls116 : Array Slot := #[.val (.int i0), .val (.int i1), .val (.ref a_FALSE), .val (.ref a_UNKNOWN), .val (.ref a_FALSE)]
   have p117 : ∀ t, St p e below Tc114 (mkF m 30 Ls116 [(.ref a_FALSE), (.ref a_FALSE)]) t → S0 t := fun t k => p115 t (by
     show St p e below Tc114 (mkF m 25 Ls112 [(.ref a_FALSE)]) t
     refine XS.astore Xc114.here hx rfl (hb hby at_25) rfl rfl (l' := Ls116) rfl ?_
     show St p e below Tc114 (mkF m 27 Ls116 []) t
     refine XS.aload Xc114.here hx rfl (hb hby at_27) rfl rfl ?_
     show St p e below Tc114 (mkF m 29 Ls116 [(.ref a_FALSE)]) t
     refine XS.aloadN Xc114.here hx rfl (hb hby at_29) rfl rfl ?_
     exact k)
   obtain ⟨_, _, ⟨Tc118, Lc118, kc118, nc118⟩, -, Xc118, ⟨Lcc118, hQc118, lc118, yc118, zc118⟩, stc118⟩ := Jvm.LawKit.callS Xc114 hx (y := M2) hown (mvT hZ (ww hw 18 rfl)) (mvT hZ (ww hw 19 rfl)) (mvT hZ (ww hw 3 rfl)) (mvT hZ (ww hw 20 rfl)) (by decide) (backOf (W := 1) (rm3_6 l Z a0 hw [] a_TRUE a_FALSE a_UNKNOWN h0 n0 O0 HE' ) hZ (ww hw 20 rfl) (ww hw 3 rfl) (by decide) (by decide)) (g := (mkF m 30 Ls116 [(.ref a_FALSE), (.ref a_FALSE)])) rfl (by rw [hml]; rfl) (argsL := [(.ref a_FALSE)]) (rest := [(.ref a_FALSE)]) (lenOf pd2 rfl) rfl (by show 2 * 0 + _ ≤ _; exact Nat.le_of_eq rfl) (hb hby at_30) (fun _ _ => ⟨rfl, ec114, (by decide : 0 + 0 ≤ _), (by decide : 0 + 0 ≤ _)⟩)
   dsimp only [Pt.U, Pt.locs, Pt.cells, Pt.slots] at Xc118 lc118 yc118 zc118 stc118 hQc118
   subst lc118 yc118 zc118
   obtain ⟨Nqc118, ec118, hAc118⟩ := hQc118
   have Nc118 := Fr.app Nc114 Nqc118
   obtain rfl := hAc118
   have p119 : ∀ t, St p e below Tc118 (mkF m 33 Ls116 [(.int (0 : Int32)), (.ref a_FALSE)]) t → S0 t := fun t k => p117 t (stc118 t k)
   have p120 : ∀ t, St p e below Tc118 (mkF m 34 Ls116 [(.ref a_UNKNOWN), (.int (0 : Int32)), (.ref a_FALSE)]) t → S0 t := fun t k => p119 t (by
     show St p e below Tc118 (mkF m 33 Ls116 [(.int (0 : Int32)), (.ref a_FALSE)]) t
     refine XS.aloadN Xc118.here hx rfl (hb hby at_33) rfl rfl ?_
     exact k)
   obtain ⟨_, _, ⟨Tc121, Lc121, kc121, nc121⟩, -, Xc121, ⟨Lcc121, hQc121, lc121, yc121, zc121⟩, stc121⟩ := Jvm.LawKit.callS Xc118 hx (y := M2) hown (mvT hZ (ww hw 18 rfl)) (mvT hZ (ww hw 19 rfl)) (mvT hZ (ww hw 3 rfl)) (mvT hZ (ww hw 20 rfl)) (by decide) (backOf (W := 2) (rm3_10 l Z a0 hw [] a_TRUE a_FALSE a_UNKNOWN h0 n0 O0 HE' ) hZ (ww hw 20 rfl) (ww hw 3 rfl) (by decide) (by decide)) (g := (mkF m 34 Ls116 [(.ref a_UNKNOWN), (.int (0 : Int32)), (.ref a_FALSE)])) rfl (by rw [hml]; rfl) (argsL := [(.ref a_UNKNOWN)]) (rest := [(.int (0 : Int32)), (.ref a_FALSE)]) (lenOf pd2 rfl) rfl (by show 2 * 0 + _ ≤ _; exact Nat.le_of_eq rfl) (hb hby at_34) (fun _ _ => ⟨rfl, ec118, (by decide : 0 + 0 ≤ _), (by decide : 0 + 0 ≤ _)⟩)
   dsimp only [Pt.U, Pt.locs, Pt.cells, Pt.slots] at Xc121 lc121 yc121 zc121 stc121 hQc121
   subst lc121 yc121 zc121
   obtain ⟨Nqc121, ec121, hAc121⟩ := hQc121
   have Nc121 := Fr.app Nc118 Nqc121
   obtain rfl := hAc121
   have p122 : ∀ t, St p e below Tc121 (mkF m 37 Ls116 [(.int (1 : Int32)), (.int (0 : Int32)), (.ref a_FALSE)]) t → S0 t := fun t k => p120 t (stc121 t k)
   obtain ⟨_, _, ⟨Tc123, Lc123, kc123, nc123⟩, -, Xc123, ⟨Lcc123, hQc123, lc123, yc123, zc123⟩, stc123⟩ := Jvm.LawKit.callS Xc121 hx (y := M3) hown (mvT hZ (ww hw 23 rfl)) (mvT hZ (ww hw 24 rfl)) (mvT hZ (ww hw 25 rfl)) (mvT hZ (ww hw 26 rfl)) (by decide) (backOf (W := 1) (rm4_18 l Z a0 hw [] a_TRUE a_FALSE a_UNKNOWN h0 n0 O0 HE' ) hZ (ww hw 26 rfl) (ww hw 25 rfl) (by decide) (by decide)) (g := (mkF m 37 Ls116 [(.int (1 : Int32)), (.int (0 : Int32)), (.ref a_FALSE)])) rfl (by rw [hml]; rfl) (argsL := [(.int (0 : Int32)), (.int (1 : Int32))]) (rest := [(.ref a_FALSE)]) (lenOf pd3 rfl) rfl (by show 2 * 0 + _ ≤ _; exact Nat.le_of_eq rfl) (hb hby at_37) (fun _ _ => ⟨rfl, ec121, (by decide : 0 + 0 ≤ _), (by decide : 0 + 0 ≤ _)⟩)
   dsimp only [Pt.U, Pt.locs, Pt.cells, Pt.slots] at Xc123 lc123 yc123 zc123 stc123 hQc123
   subst lc123 yc123 zc123
   obtain ⟨Nqc123, ec123, hAc123⟩ := hQc123
   have Nc123 := Fr.app Nc121 Nqc123
   obtain rfl := hAc123
   have p124 : ∀ t, St p e below Tc123 (mkF m 40 Ls116 [(.int (0 : Int32)), (.ref a_FALSE)]) t → S0 t := fun t k => p122 t (stc123 t k)
   obtain ⟨_, _, ⟨Tc125, Lc125, kc125, nc125⟩, -, Xc125, ⟨Lcc125, hQc125, lc125, yc125, zc125⟩, stc125⟩ := Jvm.LawKit.callS Xc123 hx (y := M4) hown (mvT hZ (ww hw 27 rfl)) (mvT hZ (ww hw 28 rfl)) (mvT hZ (ww hw 3 rfl)) (mvT hZ (ww hw 29 rfl)) (by decide) (backOf (W := 1) (rm5_8 l Z a0 hw [] a_TRUE a_FALSE a_UNKNOWN h0 n0 O0 HE' ) hZ (ww hw 29 rfl) (ww hw 3 rfl) (by decide) (by decide)) (g := (mkF m 40 Ls116 [(.int (0 : Int32)), (.ref a_FALSE)])) rfl (by rw [hml]; rfl) (argsL := [(.int (0 : Int32))]) (rest := [(.ref a_FALSE)]) (lenOf pd0 rfl) rfl (by show 2 * 0 + _ ≤ _; exact Nat.le_of_eq rfl) (hb hby at_40) (fun _ _ => ⟨rfl, ec123, (by decide : 0 + 0 ≤ _), (by decide : 0 + 0 ≤ _)⟩)
   dsimp only [Pt.U, Pt.locs, Pt.cells, Pt.slots] at Xc125 lc125 yc125 zc125 stc125 hQc125
   subst lc125 yc125 zc125
   obtain ⟨Nqc125, ec125, hAc125⟩ := hQc125
   have Nc125 := Fr.app Nc123 Nqc125
   obtain rfl := hAc125
   have p126 : ∀ t, St p e below Tc125 (mkF m 43 Ls116 [(.ref a_FALSE), (.ref a_FALSE)]) t → S0 t := fun t k => p124 t (stc125 t k)
   have p127 : ∀ t, St p e below Tc125 (mkF m 51 Ls116 [(.int (1 : Int32))]) t → S0 t := fun t k => p126 t (by
     show St p e below Tc125 (mkF m 43 Ls116 [(.ref a_FALSE), (.ref a_FALSE)]) t
     refine Jvm.RoadKit.acmp (g := (mkF m 43 Ls116 [(.ref a_FALSE), (.ref a_FALSE)])) Xc125 hx rfl rfl rfl (pc0 := 43) (pc' := 46) (same := true) rfl (hb hby at_43) rfl (decide_eq_true rfl) (by decide) (by decide) ?_
     show St p e below Tc125 (mkF m 46 Ls116 []) t
     refine XT.iconstV Xc125.here hx rfl (1 : Int32) (hb hby at_46) (by decide) ?_
     show St p e below Tc125 (mkF m 47 Ls116 [(.int (1 : Int32))]) t
     refine XS.goto Xc125.here hx rfl (pc0 := 47) (pc' := 51) rfl (hb hby at_47) (by decide) (by decide) ?_
     exact k)
   obtain ⟨fs, hr, hrun, hended, hW, hsame⟩ := Xc125.leave (v := some (.int (1 : Int32))) (fun h => by rw [Bd.returns] at h; cases h)
   refine ⟨_, _, p127 _ ?_, hrun, hended, _, _, rfl, ?_, ⟨_, rfl⟩, hW, hsame.mono (by decide) (by decide)⟩
   · exact retOut Xc125 hx Bd.returns rfl (Or.inl ⟨rfl, by simp, _, rfl⟩) (hb hby at_51) hr
   · exact ⟨rfl, Nc125⟩
 ·
  have p128 : ∀ t, St p e below Tc2 (mkF m 9 #[.val (.int i0), .val (.int i1), .unset, .unset, .unset] [(.ref a_UNKNOWN)]) t → S0 t := fun t k => p1 t (stc2 t k)
  let Ls129 : Array Slot := #[.val (.int i0), .val (.int i1), .val (.ref a_UNKNOWN), .unset, .unset]
  have p130 : ∀ t, St p e below Tc2 (mkF m 16 Ls129 [(.int ((i1 &&& (2147483647 : Int32)) % (3 : Int32)))]) t → S0 t := fun t k => p128 t (by
    show St p e below Tc2 (mkF m 9 #[.val (.int i0), .val (.int i1), .unset, .unset, .unset] [(.ref a_UNKNOWN)]) t
    refine XS.astoreN Xc2.here hx rfl (hb hby at_9) rfl rfl (l' := Ls129) rfl ?_
    show St p e below Tc2 (mkF m 10 Ls129 []) t
    refine XS.iloadN Xc2.here hx rfl (hb hby at_10) rfl ?_
    show St p e below Tc2 (mkF m 11 Ls129 [(.int i1)]) t
    refine Xc2.ldcI hx hown (mvT hZ (ww hw 0 rfl)) rfl (hb hby at_11) ?_
    show St p e below Tc2 (mkF m 13 Ls129 [(.int (2147483647 : Int32)), (.int i1)]) t
    refine XS.iand Xc2.here hx rfl (hb hby at_13) rfl ?_
    show St p e below Tc2 (mkF m 14 Ls129 [(.int (i1 &&& (2147483647 : Int32)))]) t
    refine XT.iconstV Xc2.here hx rfl (3 : Int32) (hb hby at_14) (by decide) ?_
    show St p e below Tc2 (mkF m 15 Ls129 [(.int (3 : Int32)), (.int (i1 &&& (2147483647 : Int32)))]) t
    refine iremM Xc2 hx rfl (hb hby at_15) rfl (by decide : ¬ ((3 : Int32) = (0 : Int32))) ?_
    exact k)
  obtain ⟨_, _, ⟨Tc131, Lc131, kc131, nc131⟩, -, Xc131, ⟨Lcc131, hQc131, lc131, yc131, zc131⟩, stc131⟩ := Jvm.LawKit.callS Xc2 hx (y := M0) hown (mvT hZ (ww hw 1 rfl)) (mvT hZ (ww hw 2 rfl)) (mvT hZ (ww hw 3 rfl)) (mvT hZ (ww hw 4 rfl)) (by decide) (backOf (W := 0) (rm1_0 l Z a0 hw [] a_TRUE a_FALSE a_UNKNOWN ((i1 &&& (2147483647 : Int32)) % (3 : Int32)) h0 n0 O0 HE' ) hZ (ww hw 4 rfl) (ww hw 3 rfl) (by decide) (by decide)) (g := (mkF m 16 Ls129 [(.int ((i1 &&& (2147483647 : Int32)) % (3 : Int32)))])) rfl (by rw [hml]; rfl) (argsL := [(.int ((i1 &&& (2147483647 : Int32)) % (3 : Int32)))]) (rest := []) (lenOf pd0 rfl) rfl (by show 2 * 0 + _ ≤ _; exact Nat.le_of_eq rfl) (hb hby at_16) (fun _ _ => ⟨rfl, ec2, (by decide : 0 + 0 ≤ _), (by decide : 0 + 0 ≤ _)⟩)
  dsimp only [Pt.U, Pt.locs, Pt.cells, Pt.slots] at Xc131 lc131 yc131 zc131 stc131 hQc131
  subst lc131 yc131 zc131
  obtain ⟨Nqc131, ec131, hAc131⟩ := hQc131
  have Nc131 := Fr.app Nc2 Nqc131
  rcases hAc131 with ⟨rfl, g132⟩ | ⟨rfl, g133, g134⟩ | ⟨rfl, g135, g136⟩
  ·
   have p137 : ∀ t, St p e below Tc131 (mkF m 19 Ls129 [(.ref a_TRUE)]) t → S0 t := fun t k => p130 t (stc131 t k)
   let Ls138 : Array Slot := #[.val (.int i0), .val (.int i1), .val (.ref a_UNKNOWN), .val (.ref a_TRUE), .unset]
   have p139 : ∀ t, St p e below Tc131 (mkF m 22 Ls138 [(.ref a_TRUE), (.ref a_UNKNOWN)]) t → S0 t := fun t k => p137 t (by
     show St p e below Tc131 (mkF m 19 Ls129 [(.ref a_TRUE)]) t
     refine XS.astoreN Xc131.here hx rfl (hb hby at_19) rfl rfl (l' := Ls138) rfl ?_
     show St p e below Tc131 (mkF m 20 Ls138 []) t
     refine XS.aloadN Xc131.here hx rfl (hb hby at_20) rfl rfl ?_
     show St p e below Tc131 (mkF m 21 Ls138 [(.ref a_UNKNOWN)]) t
     refine XS.aloadN Xc131.here hx rfl (hb hby at_21) rfl rfl ?_
     exact k)
   obtain ⟨cqc140, kqc140, qc140a, qc140b, qc140c⟩ := isOf hZ ec131 (Ea_UNKNOWN.ext O0.2)
   obtain ⟨_, _, ⟨Tc140, Lc140, kc140, nc140⟩, -, Xc140, ⟨Lcc140, hQc140, lc140, yc140, zc140⟩, stc140⟩ := Xc131.virtualBack hx (y := M1) (z := M1) hown (mvT hZ (ww hw 8 rfl)) (mvT hZ (ww hw 9 rfl)) (notFace_of_selects (args := #[]) (mvT hZ (ww hw 11 rfl))) (mvT hZ (ww hw 11 rfl)) (mvT hZ (ww hw 10 rfl)) (by decide) (backOf (W := 0) (rm2_19 l Z a0 hw [] a_TRUE a_FALSE a_UNKNOWN h0 n0 O0 HE' ) hZ (ww hw 12 rfl) (ww hw 6 rfl) (by decide) (by decide)) qc140a qc140c (g := (mkF m 22 Ls138 [(.ref a_TRUE), (.ref a_UNKNOWN)])) rfl (by rw [hml]; rfl) (Steps.refl _) (argsL := [(.ref a_TRUE)]) (rest := []) (lenOf pd1 rfl) rfl (by show 2 * 0 + _ ≤ _; exact Nat.le_of_eq rfl) (hb hby at_22) (fun _ _ => ⟨rfl, ec131, (by decide : 0 + 0 ≤ _), (by decide : 0 + 0 ≤ _)⟩)
   dsimp only [Pt.U, Pt.locs, Pt.cells, Pt.slots] at Xc140 lc140 yc140 zc140 stc140 hQc140
   subst lc140 yc140 zc140
   obtain ⟨Nqc140, ec140, hAc140⟩ := hQc140
   have Nc140 := Fr.app Nc131 Nqc140
   obtain rfl := hAc140
   have p141 : ∀ t, St p e below Tc140 (mkF m 25 Ls138 [(.ref a_UNKNOWN)]) t → S0 t := fun t k => p139 t (stc140.trans k)
   let Ls142 : Array Slot := #[.val (.int i0), .val (.int i1), .val (.ref a_UNKNOWN), .val (.ref a_TRUE), .val (.ref a_UNKNOWN)]
   have p143 : ∀ t, St p e below Tc140 (mkF m 30 Ls142 [(.ref a_UNKNOWN), (.ref a_UNKNOWN)]) t → S0 t := fun t k => p141 t (by
     show St p e below Tc140 (mkF m 25 Ls138 [(.ref a_UNKNOWN)]) t
     refine XS.astore Xc140.here hx rfl (hb hby at_25) rfl rfl (l' := Ls142) rfl ?_
     show St p e below Tc140 (mkF m 27 Ls142 []) t
     refine XS.aload Xc140.here hx rfl (hb hby at_27) rfl rfl ?_
     show St p e below Tc140 (mkF m 29 Ls142 [(.ref a_UNKNOWN)]) t
     refine XS.aloadN Xc140.here hx rfl (hb hby at_29) rfl rfl ?_
     exact k)
   obtain ⟨_, _, ⟨Tc144, Lc144, kc144, nc144⟩, -, Xc144, ⟨Lcc144, hQc144, lc144, yc144, zc144⟩, stc144⟩ := Jvm.LawKit.callS Xc140 hx (y := M2) hown (mvT hZ (ww hw 18 rfl)) (mvT hZ (ww hw 19 rfl)) (mvT hZ (ww hw 3 rfl)) (mvT hZ (ww hw 20 rfl)) (by decide) (backOf (W := 1) (rm3_10 l Z a0 hw [] a_TRUE a_FALSE a_UNKNOWN h0 n0 O0 HE' ) hZ (ww hw 20 rfl) (ww hw 3 rfl) (by decide) (by decide)) (g := (mkF m 30 Ls142 [(.ref a_UNKNOWN), (.ref a_UNKNOWN)])) rfl (by rw [hml]; rfl) (argsL := [(.ref a_UNKNOWN)]) (rest := [(.ref a_UNKNOWN)]) (lenOf pd2 rfl) rfl (by show 2 * 0 + _ ≤ _; exact Nat.le_of_eq rfl) (hb hby at_30) (fun _ _ => ⟨rfl, ec140, (by decide : 0 + 0 ≤ _), (by decide : 0 + 0 ≤ _)⟩)
   dsimp only [Pt.U, Pt.locs, Pt.cells, Pt.slots] at Xc144 lc144 yc144 zc144 stc144 hQc144
   subst lc144 yc144 zc144
   obtain ⟨Nqc144, ec144, hAc144⟩ := hQc144
   have Nc144 := Fr.app Nc140 Nqc144
   obtain rfl := hAc144
   have p145 : ∀ t, St p e below Tc144 (mkF m 33 Ls142 [(.int (1 : Int32)), (.ref a_UNKNOWN)]) t → S0 t := fun t k => p143 t (stc144 t k)
   have p146 : ∀ t, St p e below Tc144 (mkF m 34 Ls142 [(.ref a_TRUE), (.int (1 : Int32)), (.ref a_UNKNOWN)]) t → S0 t := fun t k => p145 t (by
     show St p e below Tc144 (mkF m 33 Ls142 [(.int (1 : Int32)), (.ref a_UNKNOWN)]) t
     refine XS.aloadN Xc144.here hx rfl (hb hby at_33) rfl rfl ?_
     exact k)
   obtain ⟨_, _, ⟨Tc147, Lc147, kc147, nc147⟩, -, Xc147, ⟨Lcc147, hQc147, lc147, yc147, zc147⟩, stc147⟩ := Jvm.LawKit.callS Xc144 hx (y := M2) hown (mvT hZ (ww hw 18 rfl)) (mvT hZ (ww hw 19 rfl)) (mvT hZ (ww hw 3 rfl)) (mvT hZ (ww hw 20 rfl)) (by decide) (backOf (W := 2) (rm3_2 l Z a0 hw [] a_TRUE a_FALSE a_UNKNOWN h0 n0 O0 HE' ) hZ (ww hw 20 rfl) (ww hw 3 rfl) (by decide) (by decide)) (g := (mkF m 34 Ls142 [(.ref a_TRUE), (.int (1 : Int32)), (.ref a_UNKNOWN)])) rfl (by rw [hml]; rfl) (argsL := [(.ref a_TRUE)]) (rest := [(.int (1 : Int32)), (.ref a_UNKNOWN)]) (lenOf pd2 rfl) rfl (by show 2 * 0 + _ ≤ _; exact Nat.le_of_eq rfl) (hb hby at_34) (fun _ _ => ⟨rfl, ec144, (by decide : 0 + 0 ≤ _), (by decide : 0 + 0 ≤ _)⟩)
   dsimp only [Pt.U, Pt.locs, Pt.cells, Pt.slots] at Xc147 lc147 yc147 zc147 stc147 hQc147
   subst lc147 yc147 zc147
   obtain ⟨Nqc147, ec147, hAc147⟩ := hQc147
   have Nc147 := Fr.app Nc144 Nqc147
   obtain rfl := hAc147
   have p148 : ∀ t, St p e below Tc147 (mkF m 37 Ls142 [(.int (2 : Int32)), (.int (1 : Int32)), (.ref a_UNKNOWN)]) t → S0 t := fun t k => p146 t (stc147 t k)
   obtain ⟨_, _, ⟨Tc149, Lc149, kc149, nc149⟩, -, Xc149, ⟨Lcc149, hQc149, lc149, yc149, zc149⟩, stc149⟩ := Jvm.LawKit.callS Xc147 hx (y := M3) hown (mvT hZ (ww hw 23 rfl)) (mvT hZ (ww hw 24 rfl)) (mvT hZ (ww hw 25 rfl)) (mvT hZ (ww hw 26 rfl)) (by decide) (backOf (W := 1) (rm4_20 l Z a0 hw [] a_TRUE a_FALSE a_UNKNOWN h0 n0 O0 HE' ) hZ (ww hw 26 rfl) (ww hw 25 rfl) (by decide) (by decide)) (g := (mkF m 37 Ls142 [(.int (2 : Int32)), (.int (1 : Int32)), (.ref a_UNKNOWN)])) rfl (by rw [hml]; rfl) (argsL := [(.int (1 : Int32)), (.int (2 : Int32))]) (rest := [(.ref a_UNKNOWN)]) (lenOf pd3 rfl) rfl (by show 2 * 0 + _ ≤ _; exact Nat.le_of_eq rfl) (hb hby at_37) (fun _ _ => ⟨rfl, ec147, (by decide : 0 + 0 ≤ _), (by decide : 0 + 0 ≤ _)⟩)
   dsimp only [Pt.U, Pt.locs, Pt.cells, Pt.slots] at Xc149 lc149 yc149 zc149 stc149 hQc149
   subst lc149 yc149 zc149
   obtain ⟨Nqc149, ec149, hAc149⟩ := hQc149
   have Nc149 := Fr.app Nc147 Nqc149
   obtain rfl := hAc149
   have p150 : ∀ t, St p e below Tc149 (mkF m 40 Ls142 [(.int (1 : Int32)), (.ref a_UNKNOWN)]) t → S0 t := fun t k => p148 t (stc149 t k)
   obtain ⟨_, _, ⟨Tc151, Lc151, kc151, nc151⟩, -, Xc151, ⟨Lcc151, hQc151, lc151, yc151, zc151⟩, stc151⟩ := Jvm.LawKit.callS Xc149 hx (y := M4) hown (mvT hZ (ww hw 27 rfl)) (mvT hZ (ww hw 28 rfl)) (mvT hZ (ww hw 3 rfl)) (mvT hZ (ww hw 29 rfl)) (by decide) (backOf (W := 1) (rm5_12 l Z a0 hw [] a_TRUE a_FALSE a_UNKNOWN h0 n0 O0 HE' ) hZ (ww hw 29 rfl) (ww hw 3 rfl) (by decide) (by decide)) (g := (mkF m 40 Ls142 [(.int (1 : Int32)), (.ref a_UNKNOWN)])) rfl (by rw [hml]; rfl) (argsL := [(.int (1 : Int32))]) (rest := [(.ref a_UNKNOWN)]) (lenOf pd0 rfl) rfl (by show 2 * 0 + _ ≤ _; exact Nat.le_of_eq rfl) (hb hby at_40) (fun _ _ => ⟨rfl, ec149, (by decide : 0 + 0 ≤ _), (by decide : 0 + 0 ≤ _)⟩)
   dsimp only [Pt.U, Pt.locs, Pt.cells, Pt.slots] at Xc151 lc151 yc151 zc151 stc151 hQc151
   subst lc151 yc151 zc151
   obtain ⟨Nqc151, ec151, hAc151⟩ := hQc151
   have Nc151 := Fr.app Nc149 Nqc151
   obtain rfl := hAc151
   have p152 : ∀ t, St p e below Tc151 (mkF m 43 Ls142 [(.ref a_UNKNOWN), (.ref a_UNKNOWN)]) t → S0 t := fun t k => p150 t (stc151 t k)
   have p153 : ∀ t, St p e below Tc151 (mkF m 51 Ls142 [(.int (1 : Int32))]) t → S0 t := fun t k => p152 t (by
     show St p e below Tc151 (mkF m 43 Ls142 [(.ref a_UNKNOWN), (.ref a_UNKNOWN)]) t
     refine Jvm.RoadKit.acmp (g := (mkF m 43 Ls142 [(.ref a_UNKNOWN), (.ref a_UNKNOWN)])) Xc151 hx rfl rfl rfl (pc0 := 43) (pc' := 46) (same := true) rfl (hb hby at_43) rfl (decide_eq_true rfl) (by decide) (by decide) ?_
     show St p e below Tc151 (mkF m 46 Ls142 []) t
     refine XT.iconstV Xc151.here hx rfl (1 : Int32) (hb hby at_46) (by decide) ?_
     show St p e below Tc151 (mkF m 47 Ls142 [(.int (1 : Int32))]) t
     refine XS.goto Xc151.here hx rfl (pc0 := 47) (pc' := 51) rfl (hb hby at_47) (by decide) (by decide) ?_
     exact k)
   obtain ⟨fs, hr, hrun, hended, hW, hsame⟩ := Xc151.leave (v := some (.int (1 : Int32))) (fun h => by rw [Bd.returns] at h; cases h)
   refine ⟨_, _, p153 _ ?_, hrun, hended, _, _, rfl, ?_, ⟨_, rfl⟩, hW, hsame.mono (by decide) (by decide)⟩
   · exact retOut Xc151 hx Bd.returns rfl (Or.inl ⟨rfl, by simp, _, rfl⟩) (hb hby at_51) hr
   · exact ⟨rfl, Nc151⟩
  ·
   have p154 : ∀ t, St p e below Tc131 (mkF m 19 Ls129 [(.ref a_FALSE)]) t → S0 t := fun t k => p130 t (stc131 t k)
   let Ls155 : Array Slot := #[.val (.int i0), .val (.int i1), .val (.ref a_UNKNOWN), .val (.ref a_FALSE), .unset]
   have p156 : ∀ t, St p e below Tc131 (mkF m 22 Ls155 [(.ref a_FALSE), (.ref a_UNKNOWN)]) t → S0 t := fun t k => p154 t (by
     show St p e below Tc131 (mkF m 19 Ls129 [(.ref a_FALSE)]) t
     refine XS.astoreN Xc131.here hx rfl (hb hby at_19) rfl rfl (l' := Ls155) rfl ?_
     show St p e below Tc131 (mkF m 20 Ls155 []) t
     refine XS.aloadN Xc131.here hx rfl (hb hby at_20) rfl rfl ?_
     show St p e below Tc131 (mkF m 21 Ls155 [(.ref a_UNKNOWN)]) t
     refine XS.aloadN Xc131.here hx rfl (hb hby at_21) rfl rfl ?_
     exact k)
   obtain ⟨cqc157, kqc157, qc157a, qc157b, qc157c⟩ := isOf hZ ec131 (Ea_UNKNOWN.ext O0.2)
   obtain ⟨_, _, ⟨Tc157, Lc157, kc157, nc157⟩, -, Xc157, ⟨Lcc157, hQc157, lc157, yc157, zc157⟩, stc157⟩ := Xc131.virtualBack hx (y := M1) (z := M1) hown (mvT hZ (ww hw 8 rfl)) (mvT hZ (ww hw 9 rfl)) (notFace_of_selects (args := #[]) (mvT hZ (ww hw 11 rfl))) (mvT hZ (ww hw 11 rfl)) (mvT hZ (ww hw 10 rfl)) (by decide) (backOf (W := 0) (rm2_21 l Z a0 hw [] a_TRUE a_FALSE a_UNKNOWN h0 n0 O0 HE' ) hZ (ww hw 12 rfl) (ww hw 6 rfl) (by decide) (by decide)) qc157a qc157c (g := (mkF m 22 Ls155 [(.ref a_FALSE), (.ref a_UNKNOWN)])) rfl (by rw [hml]; rfl) (Steps.refl _) (argsL := [(.ref a_FALSE)]) (rest := []) (lenOf pd1 rfl) rfl (by show 2 * 0 + _ ≤ _; exact Nat.le_of_eq rfl) (hb hby at_22) (fun _ _ => ⟨rfl, ec131, (by decide : 0 + 0 ≤ _), (by decide : 0 + 0 ≤ _)⟩)
   dsimp only [Pt.U, Pt.locs, Pt.cells, Pt.slots] at Xc157 lc157 yc157 zc157 stc157 hQc157
   subst lc157 yc157 zc157
   obtain ⟨Nqc157, ec157, hAc157⟩ := hQc157
   have Nc157 := Fr.app Nc131 Nqc157
   obtain rfl := hAc157
   have p158 : ∀ t, St p e below Tc157 (mkF m 25 Ls155 [(.ref a_FALSE)]) t → S0 t := fun t k => p156 t (stc157.trans k)
   let Ls159 : Array Slot := #[.val (.int i0), .val (.int i1), .val (.ref a_UNKNOWN), .val (.ref a_FALSE), .val (.ref a_FALSE)]
   have p160 : ∀ t, St p e below Tc157 (mkF m 30 Ls159 [(.ref a_UNKNOWN), (.ref a_FALSE)]) t → S0 t := fun t k => p158 t (by
     show St p e below Tc157 (mkF m 25 Ls155 [(.ref a_FALSE)]) t
     refine XS.astore Xc157.here hx rfl (hb hby at_25) rfl rfl (l' := Ls159) rfl ?_
     show St p e below Tc157 (mkF m 27 Ls159 []) t
     refine XS.aload Xc157.here hx rfl (hb hby at_27) rfl rfl ?_
     show St p e below Tc157 (mkF m 29 Ls159 [(.ref a_FALSE)]) t
     refine XS.aloadN Xc157.here hx rfl (hb hby at_29) rfl rfl ?_
     exact k)
   obtain ⟨_, _, ⟨Tc161, Lc161, kc161, nc161⟩, -, Xc161, ⟨Lcc161, hQc161, lc161, yc161, zc161⟩, stc161⟩ := Jvm.LawKit.callS Xc157 hx (y := M2) hown (mvT hZ (ww hw 18 rfl)) (mvT hZ (ww hw 19 rfl)) (mvT hZ (ww hw 3 rfl)) (mvT hZ (ww hw 20 rfl)) (by decide) (backOf (W := 1) (rm3_10 l Z a0 hw [] a_TRUE a_FALSE a_UNKNOWN h0 n0 O0 HE' ) hZ (ww hw 20 rfl) (ww hw 3 rfl) (by decide) (by decide)) (g := (mkF m 30 Ls159 [(.ref a_UNKNOWN), (.ref a_FALSE)])) rfl (by rw [hml]; rfl) (argsL := [(.ref a_UNKNOWN)]) (rest := [(.ref a_FALSE)]) (lenOf pd2 rfl) rfl (by show 2 * 0 + _ ≤ _; exact Nat.le_of_eq rfl) (hb hby at_30) (fun _ _ => ⟨rfl, ec157, (by decide : 0 + 0 ≤ _), (by decide : 0 + 0 ≤ _)⟩)
   dsimp only [Pt.U, Pt.locs, Pt.cells, Pt.slots] at Xc161 lc161 yc161 zc161 stc161 hQc161
   subst lc161 yc161 zc161
   obtain ⟨Nqc161, ec161, hAc161⟩ := hQc161
   have Nc161 := Fr.app Nc157 Nqc161
   obtain rfl := hAc161
   have p162 : ∀ t, St p e below Tc161 (mkF m 33 Ls159 [(.int (1 : Int32)), (.ref a_FALSE)]) t → S0 t := fun t k => p160 t (stc161 t k)
   have p163 : ∀ t, St p e below Tc161 (mkF m 34 Ls159 [(.ref a_FALSE), (.int (1 : Int32)), (.ref a_FALSE)]) t → S0 t := fun t k => p162 t (by
     show St p e below Tc161 (mkF m 33 Ls159 [(.int (1 : Int32)), (.ref a_FALSE)]) t
     refine XS.aloadN Xc161.here hx rfl (hb hby at_33) rfl rfl ?_
     exact k)
   obtain ⟨_, _, ⟨Tc164, Lc164, kc164, nc164⟩, -, Xc164, ⟨Lcc164, hQc164, lc164, yc164, zc164⟩, stc164⟩ := Jvm.LawKit.callS Xc161 hx (y := M2) hown (mvT hZ (ww hw 18 rfl)) (mvT hZ (ww hw 19 rfl)) (mvT hZ (ww hw 3 rfl)) (mvT hZ (ww hw 20 rfl)) (by decide) (backOf (W := 2) (rm3_6 l Z a0 hw [] a_TRUE a_FALSE a_UNKNOWN h0 n0 O0 HE' ) hZ (ww hw 20 rfl) (ww hw 3 rfl) (by decide) (by decide)) (g := (mkF m 34 Ls159 [(.ref a_FALSE), (.int (1 : Int32)), (.ref a_FALSE)])) rfl (by rw [hml]; rfl) (argsL := [(.ref a_FALSE)]) (rest := [(.int (1 : Int32)), (.ref a_FALSE)]) (lenOf pd2 rfl) rfl (by show 2 * 0 + _ ≤ _; exact Nat.le_of_eq rfl) (hb hby at_34) (fun _ _ => ⟨rfl, ec161, (by decide : 0 + 0 ≤ _), (by decide : 0 + 0 ≤ _)⟩)
   dsimp only [Pt.U, Pt.locs, Pt.cells, Pt.slots] at Xc164 lc164 yc164 zc164 stc164 hQc164
   subst lc164 yc164 zc164
   obtain ⟨Nqc164, ec164, hAc164⟩ := hQc164
   have Nc164 := Fr.app Nc161 Nqc164
   obtain rfl := hAc164
   have p165 : ∀ t, St p e below Tc164 (mkF m 37 Ls159 [(.int (0 : Int32)), (.int (1 : Int32)), (.ref a_FALSE)]) t → S0 t := fun t k => p163 t (stc164 t k)
   obtain ⟨_, _, ⟨Tc166, Lc166, kc166, nc166⟩, -, Xc166, ⟨Lcc166, hQc166, lc166, yc166, zc166⟩, stc166⟩ := Jvm.LawKit.callS Xc164 hx (y := M3) hown (mvT hZ (ww hw 23 rfl)) (mvT hZ (ww hw 24 rfl)) (mvT hZ (ww hw 25 rfl)) (mvT hZ (ww hw 26 rfl)) (by decide) (backOf (W := 1) (rm4_22 l Z a0 hw [] a_TRUE a_FALSE a_UNKNOWN h0 n0 O0 HE' ) hZ (ww hw 26 rfl) (ww hw 25 rfl) (by decide) (by decide)) (g := (mkF m 37 Ls159 [(.int (0 : Int32)), (.int (1 : Int32)), (.ref a_FALSE)])) rfl (by rw [hml]; rfl) (argsL := [(.int (1 : Int32)), (.int (0 : Int32))]) (rest := [(.ref a_FALSE)]) (lenOf pd3 rfl) rfl (by show 2 * 0 + _ ≤ _; exact Nat.le_of_eq rfl) (hb hby at_37) (fun _ _ => ⟨rfl, ec164, (by decide : 0 + 0 ≤ _), (by decide : 0 + 0 ≤ _)⟩)
   dsimp only [Pt.U, Pt.locs, Pt.cells, Pt.slots] at Xc166 lc166 yc166 zc166 stc166 hQc166
   subst lc166 yc166 zc166
   obtain ⟨Nqc166, ec166, hAc166⟩ := hQc166
   have Nc166 := Fr.app Nc164 Nqc166
   obtain rfl := hAc166
   have p167 : ∀ t, St p e below Tc166 (mkF m 40 Ls159 [(.int (0 : Int32)), (.ref a_FALSE)]) t → S0 t := fun t k => p165 t (stc166 t k)
   obtain ⟨_, _, ⟨Tc168, Lc168, kc168, nc168⟩, -, Xc168, ⟨Lcc168, hQc168, lc168, yc168, zc168⟩, stc168⟩ := Jvm.LawKit.callS Xc166 hx (y := M4) hown (mvT hZ (ww hw 27 rfl)) (mvT hZ (ww hw 28 rfl)) (mvT hZ (ww hw 3 rfl)) (mvT hZ (ww hw 29 rfl)) (by decide) (backOf (W := 1) (rm5_8 l Z a0 hw [] a_TRUE a_FALSE a_UNKNOWN h0 n0 O0 HE' ) hZ (ww hw 29 rfl) (ww hw 3 rfl) (by decide) (by decide)) (g := (mkF m 40 Ls159 [(.int (0 : Int32)), (.ref a_FALSE)])) rfl (by rw [hml]; rfl) (argsL := [(.int (0 : Int32))]) (rest := [(.ref a_FALSE)]) (lenOf pd0 rfl) rfl (by show 2 * 0 + _ ≤ _; exact Nat.le_of_eq rfl) (hb hby at_40) (fun _ _ => ⟨rfl, ec166, (by decide : 0 + 0 ≤ _), (by decide : 0 + 0 ≤ _)⟩)
   dsimp only [Pt.U, Pt.locs, Pt.cells, Pt.slots] at Xc168 lc168 yc168 zc168 stc168 hQc168
   subst lc168 yc168 zc168
   obtain ⟨Nqc168, ec168, hAc168⟩ := hQc168
   have Nc168 := Fr.app Nc166 Nqc168
   obtain rfl := hAc168
   have p169 : ∀ t, St p e below Tc168 (mkF m 43 Ls159 [(.ref a_FALSE), (.ref a_FALSE)]) t → S0 t := fun t k => p167 t (stc168 t k)
   have p170 : ∀ t, St p e below Tc168 (mkF m 51 Ls159 [(.int (1 : Int32))]) t → S0 t := fun t k => p169 t (by
     show St p e below Tc168 (mkF m 43 Ls159 [(.ref a_FALSE), (.ref a_FALSE)]) t
     refine Jvm.RoadKit.acmp (g := (mkF m 43 Ls159 [(.ref a_FALSE), (.ref a_FALSE)])) Xc168 hx rfl rfl rfl (pc0 := 43) (pc' := 46) (same := true) rfl (hb hby at_43) rfl (decide_eq_true rfl) (by decide) (by decide) ?_
     show St p e below Tc168 (mkF m 46 Ls159 []) t
     refine XT.iconstV Xc168.here hx rfl (1 : Int32) (hb hby at_46) (by decide) ?_
     show St p e below Tc168 (mkF m 47 Ls159 [(.int (1 : Int32))]) t
     refine XS.goto Xc168.here hx rfl (pc0 := 47) (pc' := 51) rfl (hb hby at_47) (by decide) (by decide) ?_
     exact k)
   obtain ⟨fs, hr, hrun, hended, hW, hsame⟩ := Xc168.leave (v := some (.int (1 : Int32))) (fun h => by rw [Bd.returns] at h; cases h)
   refine ⟨_, _, p170 _ ?_, hrun, hended, _, _, rfl, ?_, ⟨_, rfl⟩, hW, hsame.mono (by decide) (by decide)⟩
   · exact retOut Xc168 hx Bd.returns rfl (Or.inl ⟨rfl, by simp, _, rfl⟩) (hb hby at_51) hr
   · exact ⟨rfl, Nc168⟩
  ·
   have p171 : ∀ t, St p e below Tc131 (mkF m 19 Ls129 [(.ref a_UNKNOWN)]) t → S0 t := fun t k => p130 t (stc131 t k)
   let Ls172 : Array Slot := #[.val (.int i0), .val (.int i1), .val (.ref a_UNKNOWN), .val (.ref a_UNKNOWN), .unset]
   have p173 : ∀ t, St p e below Tc131 (mkF m 22 Ls172 [(.ref a_UNKNOWN), (.ref a_UNKNOWN)]) t → S0 t := fun t k => p171 t (by
     show St p e below Tc131 (mkF m 19 Ls129 [(.ref a_UNKNOWN)]) t
     refine XS.astoreN Xc131.here hx rfl (hb hby at_19) rfl rfl (l' := Ls172) rfl ?_
     show St p e below Tc131 (mkF m 20 Ls172 []) t
     refine XS.aloadN Xc131.here hx rfl (hb hby at_20) rfl rfl ?_
     show St p e below Tc131 (mkF m 21 Ls172 [(.ref a_UNKNOWN)]) t
     refine XS.aloadN Xc131.here hx rfl (hb hby at_21) rfl rfl ?_
     exact k)
   obtain ⟨cqc174, kqc174, qc174a, qc174b, qc174c⟩ := isOf hZ ec131 (Ea_UNKNOWN.ext O0.2)
   obtain ⟨_, _, ⟨Tc174, Lc174, kc174, nc174⟩, -, Xc174, ⟨Lcc174, hQc174, lc174, yc174, zc174⟩, stc174⟩ := Xc131.virtualBack hx (y := M1) (z := M1) hown (mvT hZ (ww hw 8 rfl)) (mvT hZ (ww hw 9 rfl)) (notFace_of_selects (args := #[]) (mvT hZ (ww hw 11 rfl))) (mvT hZ (ww hw 11 rfl)) (mvT hZ (ww hw 10 rfl)) (by decide) (backOf (W := 0) (rm2_23 l Z a0 hw [] a_TRUE a_FALSE a_UNKNOWN h0 n0 O0 HE' ) hZ (ww hw 12 rfl) (ww hw 6 rfl) (by decide) (by decide)) qc174a qc174c (g := (mkF m 22 Ls172 [(.ref a_UNKNOWN), (.ref a_UNKNOWN)])) rfl (by rw [hml]; rfl) (Steps.refl _) (argsL := [(.ref a_UNKNOWN)]) (rest := []) (lenOf pd1 rfl) rfl (by show 2 * 0 + _ ≤ _; exact Nat.le_of_eq rfl) (hb hby at_22) (fun _ _ => ⟨rfl, ec131, (by decide : 0 + 0 ≤ _), (by decide : 0 + 0 ≤ _)⟩)
   dsimp only [Pt.U, Pt.locs, Pt.cells, Pt.slots] at Xc174 lc174 yc174 zc174 stc174 hQc174
   subst lc174 yc174 zc174
   obtain ⟨Nqc174, ec174, hAc174⟩ := hQc174
   have Nc174 := Fr.app Nc131 Nqc174
   obtain rfl := hAc174
   have p175 : ∀ t, St p e below Tc174 (mkF m 25 Ls172 [(.ref a_UNKNOWN)]) t → S0 t := fun t k => p173 t (stc174.trans k)
   let Ls176 : Array Slot := #[.val (.int i0), .val (.int i1), .val (.ref a_UNKNOWN), .val (.ref a_UNKNOWN), .val (.ref a_UNKNOWN)]
   have p177 : ∀ t, St p e below Tc174 (mkF m 30 Ls176 [(.ref a_UNKNOWN), (.ref a_UNKNOWN)]) t → S0 t := fun t k => p175 t (by
     show St p e below Tc174 (mkF m 25 Ls172 [(.ref a_UNKNOWN)]) t
     refine XS.astore Xc174.here hx rfl (hb hby at_25) rfl rfl (l' := Ls176) rfl ?_
     show St p e below Tc174 (mkF m 27 Ls176 []) t
     refine XS.aload Xc174.here hx rfl (hb hby at_27) rfl rfl ?_
     show St p e below Tc174 (mkF m 29 Ls176 [(.ref a_UNKNOWN)]) t
     refine XS.aloadN Xc174.here hx rfl (hb hby at_29) rfl rfl ?_
     exact k)
   obtain ⟨_, _, ⟨Tc178, Lc178, kc178, nc178⟩, -, Xc178, ⟨Lcc178, hQc178, lc178, yc178, zc178⟩, stc178⟩ := Jvm.LawKit.callS Xc174 hx (y := M2) hown (mvT hZ (ww hw 18 rfl)) (mvT hZ (ww hw 19 rfl)) (mvT hZ (ww hw 3 rfl)) (mvT hZ (ww hw 20 rfl)) (by decide) (backOf (W := 1) (rm3_10 l Z a0 hw [] a_TRUE a_FALSE a_UNKNOWN h0 n0 O0 HE' ) hZ (ww hw 20 rfl) (ww hw 3 rfl) (by decide) (by decide)) (g := (mkF m 30 Ls176 [(.ref a_UNKNOWN), (.ref a_UNKNOWN)])) rfl (by rw [hml]; rfl) (argsL := [(.ref a_UNKNOWN)]) (rest := [(.ref a_UNKNOWN)]) (lenOf pd2 rfl) rfl (by show 2 * 0 + _ ≤ _; exact Nat.le_of_eq rfl) (hb hby at_30) (fun _ _ => ⟨rfl, ec174, (by decide : 0 + 0 ≤ _), (by decide : 0 + 0 ≤ _)⟩)
   dsimp only [Pt.U, Pt.locs, Pt.cells, Pt.slots] at Xc178 lc178 yc178 zc178 stc178 hQc178
   subst lc178 yc178 zc178
   obtain ⟨Nqc178, ec178, hAc178⟩ := hQc178
   have Nc178 := Fr.app Nc174 Nqc178
   obtain rfl := hAc178
   have p179 : ∀ t, St p e below Tc178 (mkF m 33 Ls176 [(.int (1 : Int32)), (.ref a_UNKNOWN)]) t → S0 t := fun t k => p177 t (stc178 t k)
   have p180 : ∀ t, St p e below Tc178 (mkF m 34 Ls176 [(.ref a_UNKNOWN), (.int (1 : Int32)), (.ref a_UNKNOWN)]) t → S0 t := fun t k => p179 t (by
     show St p e below Tc178 (mkF m 33 Ls176 [(.int (1 : Int32)), (.ref a_UNKNOWN)]) t
     refine XS.aloadN Xc178.here hx rfl (hb hby at_33) rfl rfl ?_
     exact k)
   obtain ⟨_, _, ⟨Tc181, Lc181, kc181, nc181⟩, -, Xc181, ⟨Lcc181, hQc181, lc181, yc181, zc181⟩, stc181⟩ := Jvm.LawKit.callS Xc178 hx (y := M2) hown (mvT hZ (ww hw 18 rfl)) (mvT hZ (ww hw 19 rfl)) (mvT hZ (ww hw 3 rfl)) (mvT hZ (ww hw 20 rfl)) (by decide) (backOf (W := 2) (rm3_10 l Z a0 hw [] a_TRUE a_FALSE a_UNKNOWN h0 n0 O0 HE' ) hZ (ww hw 20 rfl) (ww hw 3 rfl) (by decide) (by decide)) (g := (mkF m 34 Ls176 [(.ref a_UNKNOWN), (.int (1 : Int32)), (.ref a_UNKNOWN)])) rfl (by rw [hml]; rfl) (argsL := [(.ref a_UNKNOWN)]) (rest := [(.int (1 : Int32)), (.ref a_UNKNOWN)]) (lenOf pd2 rfl) rfl (by show 2 * 0 + _ ≤ _; exact Nat.le_of_eq rfl) (hb hby at_34) (fun _ _ => ⟨rfl, ec178, (by decide : 0 + 0 ≤ _), (by decide : 0 + 0 ≤ _)⟩)
   dsimp only [Pt.U, Pt.locs, Pt.cells, Pt.slots] at Xc181 lc181 yc181 zc181 stc181 hQc181
   subst lc181 yc181 zc181
   obtain ⟨Nqc181, ec181, hAc181⟩ := hQc181
   have Nc181 := Fr.app Nc178 Nqc181
   obtain rfl := hAc181
   have p182 : ∀ t, St p e below Tc181 (mkF m 37 Ls176 [(.int (1 : Int32)), (.int (1 : Int32)), (.ref a_UNKNOWN)]) t → S0 t := fun t k => p180 t (stc181 t k)
   obtain ⟨_, _, ⟨Tc183, Lc183, kc183, nc183⟩, -, Xc183, ⟨Lcc183, hQc183, lc183, yc183, zc183⟩, stc183⟩ := Jvm.LawKit.callS Xc181 hx (y := M3) hown (mvT hZ (ww hw 23 rfl)) (mvT hZ (ww hw 24 rfl)) (mvT hZ (ww hw 25 rfl)) (mvT hZ (ww hw 26 rfl)) (by decide) (backOf (W := 1) (rm4_24 l Z a0 hw [] a_TRUE a_FALSE a_UNKNOWN h0 n0 O0 HE' ) hZ (ww hw 26 rfl) (ww hw 25 rfl) (by decide) (by decide)) (g := (mkF m 37 Ls176 [(.int (1 : Int32)), (.int (1 : Int32)), (.ref a_UNKNOWN)])) rfl (by rw [hml]; rfl) (argsL := [(.int (1 : Int32)), (.int (1 : Int32))]) (rest := [(.ref a_UNKNOWN)]) (lenOf pd3 rfl) rfl (by show 2 * 0 + _ ≤ _; exact Nat.le_of_eq rfl) (hb hby at_37) (fun _ _ => ⟨rfl, ec181, (by decide : 0 + 0 ≤ _), (by decide : 0 + 0 ≤ _)⟩)
   dsimp only [Pt.U, Pt.locs, Pt.cells, Pt.slots] at Xc183 lc183 yc183 zc183 stc183 hQc183
   subst lc183 yc183 zc183
   obtain ⟨Nqc183, ec183, hAc183⟩ := hQc183
   have Nc183 := Fr.app Nc181 Nqc183
   obtain rfl := hAc183
   have p184 : ∀ t, St p e below Tc183 (mkF m 40 Ls176 [(.int (1 : Int32)), (.ref a_UNKNOWN)]) t → S0 t := fun t k => p182 t (stc183 t k)
   obtain ⟨_, _, ⟨Tc185, Lc185, kc185, nc185⟩, -, Xc185, ⟨Lcc185, hQc185, lc185, yc185, zc185⟩, stc185⟩ := Jvm.LawKit.callS Xc183 hx (y := M4) hown (mvT hZ (ww hw 27 rfl)) (mvT hZ (ww hw 28 rfl)) (mvT hZ (ww hw 3 rfl)) (mvT hZ (ww hw 29 rfl)) (by decide) (backOf (W := 1) (rm5_12 l Z a0 hw [] a_TRUE a_FALSE a_UNKNOWN h0 n0 O0 HE' ) hZ (ww hw 29 rfl) (ww hw 3 rfl) (by decide) (by decide)) (g := (mkF m 40 Ls176 [(.int (1 : Int32)), (.ref a_UNKNOWN)])) rfl (by rw [hml]; rfl) (argsL := [(.int (1 : Int32))]) (rest := [(.ref a_UNKNOWN)]) (lenOf pd0 rfl) rfl (by show 2 * 0 + _ ≤ _; exact Nat.le_of_eq rfl) (hb hby at_40) (fun _ _ => ⟨rfl, ec183, (by decide : 0 + 0 ≤ _), (by decide : 0 + 0 ≤ _)⟩)
   dsimp only [Pt.U, Pt.locs, Pt.cells, Pt.slots] at Xc185 lc185 yc185 zc185 stc185 hQc185
   subst lc185 yc185 zc185
   obtain ⟨Nqc185, ec185, hAc185⟩ := hQc185
   have Nc185 := Fr.app Nc183 Nqc185
   obtain rfl := hAc185
   have p186 : ∀ t, St p e below Tc185 (mkF m 43 Ls176 [(.ref a_UNKNOWN), (.ref a_UNKNOWN)]) t → S0 t := fun t k => p184 t (stc185 t k)
   have p187 : ∀ t, St p e below Tc185 (mkF m 51 Ls176 [(.int (1 : Int32))]) t → S0 t := fun t k => p186 t (by
     show St p e below Tc185 (mkF m 43 Ls176 [(.ref a_UNKNOWN), (.ref a_UNKNOWN)]) t
     refine Jvm.RoadKit.acmp (g := (mkF m 43 Ls176 [(.ref a_UNKNOWN), (.ref a_UNKNOWN)])) Xc185 hx rfl rfl rfl (pc0 := 43) (pc' := 46) (same := true) rfl (hb hby at_43) rfl (decide_eq_true rfl) (by decide) (by decide) ?_
     show St p e below Tc185 (mkF m 46 Ls176 []) t
     refine XT.iconstV Xc185.here hx rfl (1 : Int32) (hb hby at_46) (by decide) ?_
     show St p e below Tc185 (mkF m 47 Ls176 [(.int (1 : Int32))]) t
     refine XS.goto Xc185.here hx rfl (pc0 := 47) (pc' := 51) rfl (hb hby at_47) (by decide) (by decide) ?_
     exact k)
   obtain ⟨fs, hr, hrun, hended, hW, hsame⟩ := Xc185.leave (v := some (.int (1 : Int32))) (fun h => by rw [Bd.returns] at h; cases h)
   refine ⟨_, _, p187 _ ?_, hrun, hended, _, _, rfl, ?_, ⟨_, rfl⟩, hW, hsame.mono (by decide) (by decide)⟩
   · exact retOut Xc185 hx Bd.returns rfl (Or.inl ⟨rfl, by simp, _, rfl⟩) (hb hby at_51) hr
   · exact ⟨rfl, Nc185⟩
set_option maxRecDepth 65536 in
set_option maxHeartbeats 40000000 in
theorem comes_1 {Post : Tables → Env → Array Value → State → Outcome → State → Prop} (hpost : ∀ tb e args s v u, (limb_1_1.after args s (.returned v) u = true ∧ limb_1_2.after args s (.returned v) u = true ∧ True) → FrameEnd s (.returned v) u (Jvm.fieldLocs frame_1_writes args s ++ Jvm.arrayLocs frame_1_arrays args s ++ Jvm.staticLocs frame_1_statics s) 0 0 → Post tb e args s (.returned v) u) :
    ArmFor flags0 classFile x code maxLocals ret World_1 tables_1 room_1 Calls_1 rest_1 Pre_1 Post := by
  intro l hfl _ _ p e ha hc hk s m args below hf hA hF happ hP
  obtain ⟨hcalls, hrest, hpre⟩ := hP
  obtain ⟨-, -, -, hnamed, -, -, -, hat⟩ := (Spec.applies_iff hf).mp happ
  obtain ⟨hg, hn⟩ := and_e (Cond.before_iff.mp (show (Jvm.Cond.and given_1 narrow_1).before args s = true from hpre))
  obtain ⟨hj1a, hj1b⟩ := and_e hg
  obtain ⟨hj2a, hj2b⟩ := and_e hj1b
  obtain ⟨w0, w1, rfl⟩ : ∃ w0 w1 : Value, args = #[w0, w1] := by
    have hs : args.size = 2 := by simpa [Cond.value, given_1] using hj1a
    obtain ⟨L⟩ := args
    match L, hs with
    | [w0, w1], _ => exact ⟨w0, w1, rfl⟩
  have hw := fun d (hd : d ∈ tables_1) => atoms_spec (ws := Jvm.Cond.code x code maxLocals ret :: tables_1) hat d (List.mem_cons_of_mem _ hd)
  have hfit : Fit s := fun {y c} hc i hi => by
    obtain ⟨ha, rfl⟩ := Array.getElem?_eq_some_iff.mp hc
    have q := List.all_eq_true.mp ((Array.all_eq_true_iff_forall_mem.mp hF) _ (Array.getElem_mem ha)) i (List.mem_range.mpr hi)
    simpa [Array.getElem?_eq_getElem hi] using q
  obtain ⟨i0, ei0⟩ := is_v hj2a
  obtain rfl : w0 = (.int i0) := Option.some.inj ei0
  obtain ⟨i1, ei1⟩ := is_v hj2b
  obtain rfl : w1 = (.int i1) := Option.some.inj ei1
  obtain ⟨hj3a, hj3b⟩ := and_e hn
  obtain ⟨hj4a, hj4b⟩ := and_e hj3b
  obtain ⟨hj5a, hj5b⟩ := and_e hj4b
  obtain ⟨hj6a, hj6b⟩ := and_e hj5b
  obtain ⟨hj7a, hj7b⟩ := and_e hj6b
  have hn0 := hj3a
  have hn1 := hj4a
  have hn2 := hj5a
  have hn3 := hj6a
  have hn4 := hj7a
  have hn5 := hj7b
  obtain ⟨a_TRUE, eva_TRUE⟩ := exa_v hn0
  obtain ⟨a_FALSE, eva_FALSE⟩ := exa_v hn1
  obtain ⟨a_UNKNOWN, eva_UNKNOWN⟩ := exa_v hn4
  obtain ⟨n, o, h1, h2, h3, _, L, rfl, ⟨rfl, N⟩, hq⟩ := rm0 l s _ hw tables_1 a_TRUE a_FALSE a_UNKNOWN i0 i1 s.heap s.heap.size (Old.start s) ⟨(Sta.start eva_TRUE (Or.inr ⟨(ww hw 6 rfl), (ww hw 7 rfl)⟩)), (Exa.start eva_TRUE hn0), (Sta.start eva_FALSE (Or.inr ⟨(ww hw 6 rfl), (ww hw 14 rfl)⟩)), (Exa.start eva_FALSE hn1), (Fld.start ((fld_at eva_TRUE).symm.trans (own_eqI hn2))), (Fld.start ((fld_at eva_FALSE).symm.trans (own_eqI hn3))), (Sta.start eva_UNKNOWN (Or.inr ⟨(ww hw 6 rfl), (ww hw 16 rfl)⟩)), (Exa.start eva_UNKNOWN hn4), (Fld.start ((fld_at eva_UNKNOWN).symm.trans (own_eqI hn5)))⟩ p e ha hc hk s m _ below hf ((Spec.applies_iff_loose hf).mp happ).1 ⟨rfl, State.Warmed39.refl s, rfl⟩ trivial
  refine ⟨n, _, h1, h2, h3, hpost _ _ _ _ _ _ ⟨Cond.after_iff.mpr rfl, Cond.after_iff.mpr (eq_i res_at (Term.int_eval (1)) rfl), trivial⟩ ⟨hq.1, hq.2.1, (hq.2.2.sift fun y hy => Or.inr (N y hy)).mono (by decide) (by decide)⟩⟩
theorem main_1_1 : Claimed_1_1 := comes_1 fun _ _ _ _ _ _ h hF => ⟨h.1, hF⟩
theorem main_1_2 : Claimed_1_2 := comes_1 fun _ _ _ _ _ _ h hF => ⟨h.2.1, hF⟩
end Jvm.Pilot.@@N@@
namespace Jvm.Pilot.@@N@@
open Jvm Jvm.ClassFile Sem Op Lib Jvm.Free Jvm.Stand Jvm.Pilot.@@N@@.Jvm.D
/-! MADE BY PROGRAM (witnessworld.py) out of the Statement's table words and the real class files: 13 classes; the members and pool entries that the words name. The judged class is class 1, her method 4. -/
namespace start1
open Jvm.ClassFile
def u (s : String) : CpInfo := .utf8 (stringToUtf16 s)
/-- a pool by its gaps: so many unusable entries, then the entry; so many at the end -/
def gap : Nat → List CpInfo → List CpInfo
  | 0, r => r
  | n + 1, r => .unusable :: gap n r
def poolList (es : List (Nat × CpInfo)) (last : Nat) : List CpInfo := es.foldr (fun e r => gap e.1 (e.2 :: r)) (gap last [])
def pool (es : List (Nat × CpInfo)) (last : Nat) : Array CpInfo := ⟨poolList es last⟩
def fileOf (pool : Array CpInfo) (this : Nat) (attrs : Array Attribute := #[]) (ms : Array MethodInfo := #[]) (fl : Nat := 33) (sup : Nat := 0) (ifs : Array Nat := #[]) (fds : Array FieldInfo := #[]) : ClassFile where
  minorVersion := 0
  majorVersion := 65
  constantPool := pool
  accessFlags := fl
  thisClass := this
  superClass := sup
  interfaces := ifs
  fields := fds
  methods := ms
  attributes := attrs
def plain (name : String) (sup : Option ClassId) : Class where
  name := name
  kind := .ordinary
  loader := none
  accessFlags := 33
  super := sup
  interfaces := #[]
  cf := none
  fields := #[]
  methods := #[]
  instanceTypes := #[]
  staticTypes := #[]
  resolved := #[]
  callSites := []
  init := .initialized
  statics := none
  mirror := none

def pool0 : Array CpInfo := pool [(5, u "<init>"), (0, u "()V"), (1, .class_ 10), (1, u "java/lang/Object")] 113

def k0m0 : Method := { name := "<init>", desc := "()V", sig := { parameters := [], returnType := none }, accessFlags := 1, code := none }
/-- java/lang/Object -/
def k0 : Class := { plain "java/lang/Object" none with
  accessFlags := 33
  interfaces := #[]
  cf := some (fileOf pool0 8 #[] #[{ accessFlags := 1, nameIndex := 5, descriptorIndex := 6, attributes := #[] }] 33 0 #[] #[])
  fields := #[]
  methods := #[k0m0]
  instanceTypes := #[]
  staticTypes := #[]
  resolved := Array.replicate 124 none
  statics := none }

def pool1 : Array CpInfo := pool [(2, .class_ 4), (1, u "java/lang/Object"), (0, u "<init>"), (0, u "()V"), (0, .fieldref 8 9), (0, .class_ 10), (0, .nameAndType 11 12), (0, u "com/example/herald4/herald4/filter/Truth"), (0, u "TRUE"), (0, u "Lcom/example/herald4/herald4/filter/Truth;"), (0, .fieldref 8 14), (0, .nameAndType 15 12), (0, u "FALSE"), (0, .fieldref 8 17), (0, .nameAndType 18 12), (0, u "UNKNOWN"), (0, .integer 2147483647), (0, .methodref 21 22), (0, .class_ 23), (0, .nameAndType 24 25), (0, u "com/example/herald4/herald4/filter/TruthAndPinLaw"), (0, u "pick"), (0, u "(I)Lcom/example/herald4/herald4/filter/Truth;"), (0, .methodref 8 27), (0, .nameAndType 28 29), (0, u "and"), (0, u "(Lcom/example/herald4/herald4/filter/Truth;)Lcom/example/herald4/herald4/filter/Truth;"), (0, .methodref 21 31), (0, .nameAndType 32 33), (0, u "rank"), (0, u "(Lcom/example/herald4/herald4/filter/Truth;)I"), (0, .methodref 35 36), (0, .class_ 37), (0, .nameAndType 38 39), (0, u "java/lang/Math"), (0, u "min"), (0, u "(II)I"), (0, .methodref 21 41), (0, .nameAndType 42 25), (0, u "ofRank"), (3, u "law"), (0, u "(II)Z")] 2

def k1m0 : Method := { name := "<init>", desc := "()V", sig := { parameters := [], returnType := none }, accessFlags := 2, code := none }
def k1c1 : Code := { maxStack := 2, maxLocals := 1, code := method_2_code, exceptionTable := #[], attributes := #[] }
def k1m1 : Method := { name := "pick", desc := "(I)Lcom/example/herald4/herald4/filter/Truth;", sig := { parameters := [.int], returnType := some (.object "com/example/herald4/herald4/filter/Truth") }, accessFlags := 10, code := some k1c1 }
def k1c2 : Code := { maxStack := 2, maxLocals := 1, code := method_3_code, exceptionTable := #[], attributes := #[] }
def k1m2 : Method := { name := "rank", desc := "(Lcom/example/herald4/herald4/filter/Truth;)I", sig := { parameters := [(.object "com/example/herald4/herald4/filter/Truth")], returnType := some .int }, accessFlags := 10, code := some k1c2 }
def k1c3 : Code := { maxStack := 2, maxLocals := 1, code := method_4_code, exceptionTable := #[], attributes := #[] }
def k1m3 : Method := { name := "ofRank", desc := "(I)Lcom/example/herald4/herald4/filter/Truth;", sig := { parameters := [.int], returnType := some (.object "com/example/herald4/herald4/filter/Truth") }, accessFlags := 10, code := some k1c3 }
def k1c4 : Code := { maxStack := 3, maxLocals := 5, code := code, exceptionTable := #[], attributes := #[] }
def k1m4 : Method := { name := "law", desc := "(II)Z", sig := { parameters := [.int, .int], returnType := some .boolean }, accessFlags := 9, code := some k1c4 }
/-- com/example/herald4/herald4/filter/TruthAndPinLaw -/
def k1 : Class := { plain "com/example/herald4/herald4/filter/TruthAndPinLaw" (some 0) with
  accessFlags := 49
  interfaces := #[]
  cf := some (fileOf pool1 21 #[] #[{ accessFlags := 2, nameIndex := 5, descriptorIndex := 6, attributes := #[] }, { accessFlags := 10, nameIndex := 24, descriptorIndex := 25, attributes := #[] }, { accessFlags := 10, nameIndex := 32, descriptorIndex := 33, attributes := #[] }, { accessFlags := 10, nameIndex := 42, descriptorIndex := 25, attributes := #[] }, { accessFlags := 9, nameIndex := 46, descriptorIndex := 47, attributes := #[] }] 49 2 #[] #[])
  fields := #[]
  methods := #[k1m0, k1m1, k1m2, k1m3, k1m4]
  instanceTypes := #[]
  staticTypes := #[]
  resolved := Array.replicate 50 none
  statics := none }

def pool2 : Array CpInfo := pool [(1, .class_ 2), (0, u "java/lang/constant/Constable"), (0, .class_ 4), (0, u "java/lang/Object")] 6

/-- java/lang/constant/Constable -/
def k2 : Class := { plain "java/lang/constant/Constable" (some 0) with
  accessFlags := 1537
  interfaces := #[]
  cf := some (fileOf pool2 1 #[] #[] 1537 3 #[] #[])
  fields := #[]
  methods := #[]
  instanceTypes := #[]
  staticTypes := #[]
  resolved := Array.replicate 11 none
  statics := none }

def pool3 : Array CpInfo := pool [(1, .class_ 2), (0, u "java/lang/Comparable"), (0, .class_ 4), (0, u "java/lang/Object")] 7

/-- java/lang/Comparable -/
def k3 : Class := { plain "java/lang/Comparable" (some 0) with
  accessFlags := 1537
  interfaces := #[]
  cf := some (fileOf pool3 1 #[] #[] 1537 3 #[] #[])
  fields := #[]
  methods := #[]
  instanceTypes := #[]
  staticTypes := #[]
  resolved := Array.replicate 12 none
  statics := none }

def pool4 : Array CpInfo := pool [(1, .class_ 2), (0, u "java/io/Serializable"), (0, .class_ 4), (0, u "java/lang/Object")] 2

/-- java/io/Serializable -/
def k4 : Class := { plain "java/io/Serializable" (some 0) with
  accessFlags := 1537
  interfaces := #[]
  cf := some (fileOf pool4 1 #[] #[] 1537 3 #[] #[])
  fields := #[]
  methods := #[]
  instanceTypes := #[]
  staticTypes := #[]
  resolved := Array.replicate 7 none
  statics := none }

def pool5 : Array CpInfo := pool [(2, .class_ 4), (1, u "java/lang/Enum"), (0, u "name"), (0, u "Ljava/lang/String;"), (2, u "ordinal"), (0, u "I"), (1, .class_ 14), (1, u "java/lang/Object"), (4, u "hash"), (86, .class_ 108), (1, u "java/lang/Enum$EnumDesc"), (2, .class_ 112), (0, u "java/lang/constant/Constable"), (0, .class_ 114), (0, u "java/lang/Comparable"), (0, .class_ 116), (0, u "java/io/Serializable")] 87

/-- java/lang/Enum -/
def k5 : Class := { plain "java/lang/Enum" (some 0) with
  accessFlags := 1057
  interfaces := #[2, 3, 4]
  cf := some (fileOf pool5 2 #[.nestMembers #[106]] #[] 1057 12 #[111, 113, 115] #[{ accessFlags := 18, nameIndex := 5, descriptorIndex := 6, attributes := #[] }, { accessFlags := 18, nameIndex := 9, descriptorIndex := 10, attributes := #[] }, { accessFlags := 2, nameIndex := 19, descriptorIndex := 10, attributes := #[] }])
  fields := #[{ name := "name", type := (.object "java/lang/String"), accessFlags := 18, slot := 0, constantValue := 0 }, { name := "ordinal", type := .int, accessFlags := 18, slot := 1, constantValue := 0 }, { name := "hash", type := .int, accessFlags := 2, slot := 2, constantValue := 0 }]
  methods := #[]
  instanceTypes := #[(.object "java/lang/String"), .int, .int]
  staticTypes := #[]
  resolved := Array.replicate 204 none
  statics := none }

def pool6 : Array CpInfo := pool [(1, .class_ 2), (0, u "com/example/herald4/herald4/filter/Truth"), (0, .fieldref 1 4), (0, .nameAndType 5 6), (0, u "TRUE"), (0, u "Lcom/example/herald4/herald4/filter/Truth;"), (0, .fieldref 1 8), (0, .nameAndType 9 6), (0, u "FALSE"), (0, .fieldref 1 11), (0, .nameAndType 12 6), (0, u "UNKNOWN"), (2, u "$VALUES"), (0, u "[Lcom/example/herald4/herald4/filter/Truth;"), (6, .class_ 25), (1, u "java/lang/Enum"), (26, u "and"), (0, u "(Lcom/example/herald4/herald4/filter/Truth;)Lcom/example/herald4/herald4/filter/Truth;")] 5

def k6c0 : Code := { maxStack := 2, maxLocals := 3, code := prog_32_method_6_code, exceptionTable := #[], attributes := #[] }
def k6m0 : Method := { name := "and", desc := "(Lcom/example/herald4/herald4/filter/Truth;)Lcom/example/herald4/herald4/filter/Truth;", sig := { parameters := [(.object "com/example/herald4/herald4/filter/Truth")], returnType := some (.object "com/example/herald4/herald4/filter/Truth") }, accessFlags := 0, code := some k6c0 }
/-- com/example/herald4/herald4/filter/Truth -/
def k6 : Class := { plain "com/example/herald4/herald4/filter/Truth" (some 5) with
  accessFlags := 16432
  interfaces := #[]
  cf := some (fileOf pool6 1 #[] #[{ accessFlags := 0, nameIndex := 52, descriptorIndex := 53, attributes := #[] }] 16432 23 #[] #[{ accessFlags := 16409, nameIndex := 5, descriptorIndex := 6, attributes := #[] }, { accessFlags := 16409, nameIndex := 9, descriptorIndex := 6, attributes := #[] }, { accessFlags := 16409, nameIndex := 12, descriptorIndex := 6, attributes := #[] }, { accessFlags := 4122, nameIndex := 15, descriptorIndex := 16, attributes := #[] }])
  fields := #[{ name := "TRUE", type := (.object "com/example/herald4/herald4/filter/Truth"), accessFlags := 16409, slot := 0, constantValue := 0 }, { name := "FALSE", type := (.object "com/example/herald4/herald4/filter/Truth"), accessFlags := 16409, slot := 1, constantValue := 0 }, { name := "UNKNOWN", type := (.object "com/example/herald4/herald4/filter/Truth"), accessFlags := 16409, slot := 2, constantValue := 0 }, { name := "$VALUES", type := (.array (.object "com/example/herald4/herald4/filter/Truth")), accessFlags := 4122, slot := 3, constantValue := 0 }]
  methods := #[k6m0]
  instanceTypes := #[(.object "java/lang/String"), .int, .int]
  staticTypes := #[(.object "com/example/herald4/herald4/filter/Truth"), (.object "com/example/herald4/herald4/filter/Truth"), (.object "com/example/herald4/herald4/filter/Truth"), (.array (.object "com/example/herald4/herald4/filter/Truth"))]
  resolved := Array.replicate 59 none
  statics := some 0 }

def pool7 : Array CpInfo := pool [(1, .class_ 2), (0, u "java/lang/Math"), (1, .class_ 6), (1, u "java/lang/Object"), (0, u "<init>"), (0, u "()V"), (89, .class_ 100), (1, u "java/lang/Math$RandomNumberGeneratorHolder"), (71, u "negativeZeroFloatBits"), (0, u "J"), (2, u "negativeZeroDoubleBits"), (24, u "min"), (43, u "$assertionsDisabled"), (0, u "Z"), (88, u "(II)I"), (2, u "twoToTheDoubleScaleDown"), (0, u "D"), (4, u "twoToTheDoubleScaleUp"), (9, u "E"), (3, u "PI"), (2, u "TAU"), (2, u "DEGREES_TO_RADIANS"), (0, u "RADIANS_TO_DEGREES")] 94

def k7m0 : Method := { name := "<init>", desc := "()V", sig := { parameters := [], returnType := none }, accessFlags := 2, code := none }
def k7c1 : Code := { maxStack := 2, maxLocals := 2, code := jdk_29_method_69_code, exceptionTable := #[], attributes := #[] }
def k7m1 : Method := { name := "min", desc := "(II)I", sig := { parameters := [.int, .int], returnType := some .int }, accessFlags := 9, code := some k7c1 }
/-- java/lang/Math -/
def k7 : Class := { plain "java/lang/Math" (some 0) with
  accessFlags := 49
  interfaces := #[]
  cf := some (fileOf pool7 1 #[.nestMembers #[98]] #[{ accessFlags := 2, nameIndex := 7, descriptorIndex := 8, attributes := #[] }, { accessFlags := 9, nameIndex := 201, descriptorIndex := 335, attributes := #[] }] 49 4 #[] #[{ accessFlags := 25, nameIndex := 354, descriptorIndex := 339, attributes := #[] }, { accessFlags := 25, nameIndex := 358, descriptorIndex := 339, attributes := #[] }, { accessFlags := 25, nameIndex := 361, descriptorIndex := 339, attributes := #[] }, { accessFlags := 26, nameIndex := 364, descriptorIndex := 339, attributes := #[] }, { accessFlags := 26, nameIndex := 365, descriptorIndex := 339, attributes := #[] }, { accessFlags := 26, nameIndex := 172, descriptorIndex := 173, attributes := #[] }, { accessFlags := 26, nameIndex := 176, descriptorIndex := 173, attributes := #[] }, { accessFlags := 8, nameIndex := 344, descriptorIndex := 339, attributes := #[] }, { accessFlags := 8, nameIndex := 338, descriptorIndex := 339, attributes := #[] }, { accessFlags := 4120, nameIndex := 245, descriptorIndex := 246, attributes := #[] }])
  fields := #[{ name := "E", type := .double, accessFlags := 25, slot := 0, constantValue := 0 }, { name := "PI", type := .double, accessFlags := 25, slot := 1, constantValue := 0 }, { name := "TAU", type := .double, accessFlags := 25, slot := 2, constantValue := 0 }, { name := "DEGREES_TO_RADIANS", type := .double, accessFlags := 26, slot := 3, constantValue := 0 }, { name := "RADIANS_TO_DEGREES", type := .double, accessFlags := 26, slot := 4, constantValue := 0 }, { name := "negativeZeroFloatBits", type := .long, accessFlags := 26, slot := 5, constantValue := 0 }, { name := "negativeZeroDoubleBits", type := .long, accessFlags := 26, slot := 6, constantValue := 0 }, { name := "twoToTheDoubleScaleUp", type := .double, accessFlags := 8, slot := 7, constantValue := 0 }, { name := "twoToTheDoubleScaleDown", type := .double, accessFlags := 8, slot := 8, constantValue := 0 }, { name := "$assertionsDisabled", type := .boolean, accessFlags := 4120, slot := 9, constantValue := 0 }]
  methods := #[k7m0, k7m1]
  instanceTypes := #[]
  staticTypes := #[.double, .double, .double, .double, .double, .long, .long, .double, .double, .boolean]
  resolved := Array.replicate 460 none
  statics := none }

def pool8 : Array CpInfo := pool [(1, u "java/lang/Cloneable"), (0, .class_ 1), (0, u "java/lang/Object"), (0, .class_ 3)] 3

/-- java/lang/Cloneable -/
def k8 : Class := { plain "java/lang/Cloneable" (some 0) with
  accessFlags := 1537
  interfaces := #[]
  cf := some (fileOf pool8 2 #[] #[] 1537 4 #[] #[])
  fields := #[]
  methods := #[]
  instanceTypes := #[]
  staticTypes := #[]
  resolved := Array.replicate 8 none
  statics := none }

/-- the primitive byte -/
def k9 : Class := { plain "byte" none with kind := .primitive 'B', accessFlags := 0x411 }
/-- [B -/
def k10 : Class := { plain "[B" (some 0) with kind := .array 9 .byte, interfaces := #[8, 4], accessFlags := 1041 }

/-- the primitive int -/
def k11 : Class := { plain "int" none with kind := .primitive 'I', accessFlags := 0x411 }
/-- [I -/
def k12 : Class := { plain "[I" (some 0) with kind := .array 11 .int, interfaces := #[8, 4], accessFlags := 1041 }

def heap : Heap := #[{ cls := 6, slots := #[.ref 1, .ref 2, .ref 3, .null], vm := .statics 6 },
  { cls := 6, slots := #[.null, .int 0, .int 0], vm := .none },
  { cls := 6, slots := #[.null, .int 1, .int 0], vm := .none },
  { cls := 6, slots := #[.null, .int 2, .int 0], vm := .none }]
def classes : Array Class := #[k0, k1, k2, k3, k4, k5, k6, k7, k8, k9, k10, k11, k12]
def interned : List (Array UInt16 × Addr) := []
def slotsUsed : Nat := 13
def theMethod : MethodId := ⟨1, 4⟩
def args0 : Array Value := #[.int 5, .int 7]
def aboutOver (below : List Frame) : State where
  vm := { classes := classes, interned := interned.toArray }
  heap := heap
  slotsUsed := slotsUsed
  threads := #[{ frames := .invoking theMethod args0 :: below }]
def below0 : List Frame := [.native { method := ⟨0, 0⟩, args := #[] }]
def about1 : State := aboutOver below0
def p0 : Program := .bare "" "" ""
def e0 : Env := launch0.env 0 0 0
theorem w_frames : about1.frames = Frame.invoking theMethod args0 :: below0 := rfl
set_option maxRecDepth 65536 in
theorem w_args : argsFit about1.vm theMethod args0 = true := by decide +kernel
set_option maxRecDepth 65536 in
theorem w_heap : heapFits about1 = true := by decide +kernel
set_option maxRecDepth 65536 in
theorem w_runnable : about1.curStatus? = some .runnable := by decide +kernel
set_option maxRecDepth 65536 in
theorem w_alone : about1.alone = true := by decide +kernel
set_option maxRecDepth 65536 in
theorem w_named : about1.methodNamed? x = some theMethod := by decide +kernel
set_option maxRecDepth 65536 in
theorem w_hears : about1.hears theMethod below0 = true := by decide +kernel
set_option maxRecDepth 65536 in
theorem w_ripe : about1.ripe theMethod args0 below0 = true := by decide +kernel
theorem w_running : about1.status = .running := rfl
set_option maxRecDepth 65536 in
theorem w_room : about1.hasRoom e0.platform room_1 = true :=
  launch0.hasRoom_least _ room_1 (by decide +kernel) (by decide +kernel) (by decide +kernel) (by decide +kernel) (by decide +kernel) (by decide +kernel)
theorem allAtoms_all (ts : List Jvm.Cond) (a : Array Jvm.Value) (st : Jvm.State) : (allAtoms ts).before a st = ts.all (fun c => c.before a st) := by
  induction ts with
  | nil => rfl
  | cons c t ih =>
    show (Jvm.Cond.and c (allAtoms t)).before a st = _
    rw [Jvm.Cond.before_and, ih, List.all_cons]
def words1 : List Jvm.Cond := Jvm.Cond.code x code maxLocals ret :: tables_1
/-- a 'code' word, met by the world's own term for the bytes: nothing is compared byte by byte -/
theorem code_word {y : MethodName} {bytes : ByteArray} {mx : Nat} {rt : Option FieldType} {a : Array Value} {s : State} {m : MethodId} {meth : Method} {c : Code} (h1 : s.methodNamed? y = some m) (h2 : s.vm.method? m = some meth) (h3 : meth.code = some c) (h4 : c.code = bytes)
    (h5 : (c.maxLocals == mx && c.exceptionTable.isEmpty && decide (c.maxStack ≤ mostOperands) && decide (meth.sig.returnType = rt) && !meth.locks && decide (parseMethodDescriptor y.desc = some meth.sig)) = true) : (Jvm.Cond.code y bytes mx rt).before a s = true := by
  simp only [Bool.and_eq_true, beq_iff_eq, Bool.not_eq_true', decide_eq_true_eq] at h5
  obtain ⟨⟨⟨⟨⟨g1, g2⟩, g3⟩, g4⟩, g5⟩, g6⟩ := h5
  simp [Cond.before, Cond.holds, Cond.value, h1, h2, h3, h4, g1, g2, g3, g4, g5, g6]
def isCode : Jvm.Cond → Bool
  | .code _ _ _ _ => true
  | _ => false
theorem all_split {L : List Jvm.Cond} {P : Jvm.Cond → Bool} (h1 : L.all (fun c => isCode c || P c) = true) (h2 : ∀ c ∈ L.filter isCode, P c = true) : L.all P = true := by
  refine List.all_eq_true.mpr fun c hc => ?_
  have h := List.all_eq_true.mp h1 c hc
  rcases Bool.eq_false_or_eq_true (isCode c) with hi | hi
  · exact h2 c (List.mem_filter.mpr ⟨hc, hi⟩)
  · simpa [hi] using h
set_option maxRecDepth 65536 in
theorem w_c0 : (Jvm.Cond.code x code maxLocals ret).before args0 about1 = true := code_word (m := ⟨1, 4⟩) (meth := k1m4) (c := k1c4) (by decide +kernel) rfl rfl rfl (by decide +kernel)
set_option maxRecDepth 65536 in
theorem w_c1 : (Jvm.Cond.code ({ cls := "com/example/herald4/herald4/filter/TruthAndPinLaw", name := "pick", desc := "(I)Lcom/example/herald4/herald4/filter/Truth;" } : Jvm.MethodName) method_2_code (1 : Nat) (Option.some (Jvm.ClassFile.FieldType.object "com/example/herald4/herald4/filter/Truth"))).before args0 about1 = true := code_word (m := ⟨1, 1⟩) (meth := k1m1) (c := k1c1) (by decide +kernel) rfl rfl rfl (by decide +kernel)
set_option maxRecDepth 65536 in
theorem w_c2 : (Jvm.Cond.code ({ cls := "com/example/herald4/herald4/filter/Truth", name := "and", desc := "(Lcom/example/herald4/herald4/filter/Truth;)Lcom/example/herald4/herald4/filter/Truth;" } : Jvm.MethodName) prog_32_method_6_code (3 : Nat) (Option.some (Jvm.ClassFile.FieldType.object "com/example/herald4/herald4/filter/Truth"))).before args0 about1 = true := code_word (m := ⟨6, 0⟩) (meth := k6m0) (c := k6c0) (by decide +kernel) rfl rfl rfl (by decide +kernel)
set_option maxRecDepth 65536 in
theorem w_c3 : (Jvm.Cond.code ({ cls := "com/example/herald4/herald4/filter/TruthAndPinLaw", name := "rank", desc := "(Lcom/example/herald4/herald4/filter/Truth;)I" } : Jvm.MethodName) method_3_code (1 : Nat) (Option.some Jvm.ClassFile.FieldType.int)).before args0 about1 = true := code_word (m := ⟨1, 2⟩) (meth := k1m2) (c := k1c2) (by decide +kernel) rfl rfl rfl (by decide +kernel)
set_option maxRecDepth 65536 in
theorem w_c4 : (Jvm.Cond.code ({ cls := "java/lang/Math", name := "min", desc := "(II)I" } : Jvm.MethodName) jdk_29_method_69_code (2 : Nat) (Option.some Jvm.ClassFile.FieldType.int)).before args0 about1 = true := code_word (m := ⟨7, 1⟩) (meth := k7m1) (c := k7c1) (by decide +kernel) rfl rfl rfl (by decide +kernel)
set_option maxRecDepth 65536 in
theorem w_c5 : (Jvm.Cond.code ({ cls := "com/example/herald4/herald4/filter/TruthAndPinLaw", name := "ofRank", desc := "(I)Lcom/example/herald4/herald4/filter/Truth;" } : Jvm.MethodName) method_4_code (1 : Nat) (Option.some (Jvm.ClassFile.FieldType.object "com/example/herald4/herald4/filter/Truth"))).before args0 about1 = true := code_word (m := ⟨1, 3⟩) (meth := k1m3) (c := k1c3) (by decide +kernel) rfl rfl rfl (by decide +kernel)
def codes1 : List Jvm.Cond := [Jvm.Cond.code x code maxLocals ret, Jvm.Cond.code ({ cls := "com/example/herald4/herald4/filter/TruthAndPinLaw", name := "pick", desc := "(I)Lcom/example/herald4/herald4/filter/Truth;" } : Jvm.MethodName) method_2_code (1 : Nat) (Option.some (Jvm.ClassFile.FieldType.object "com/example/herald4/herald4/filter/Truth")), Jvm.Cond.code ({ cls := "com/example/herald4/herald4/filter/Truth", name := "and", desc := "(Lcom/example/herald4/herald4/filter/Truth;)Lcom/example/herald4/herald4/filter/Truth;" } : Jvm.MethodName) prog_32_method_6_code (3 : Nat) (Option.some (Jvm.ClassFile.FieldType.object "com/example/herald4/herald4/filter/Truth")), Jvm.Cond.code ({ cls := "com/example/herald4/herald4/filter/TruthAndPinLaw", name := "rank", desc := "(Lcom/example/herald4/herald4/filter/Truth;)I" } : Jvm.MethodName) method_3_code (1 : Nat) (Option.some Jvm.ClassFile.FieldType.int), Jvm.Cond.code ({ cls := "java/lang/Math", name := "min", desc := "(II)I" } : Jvm.MethodName) jdk_29_method_69_code (2 : Nat) (Option.some Jvm.ClassFile.FieldType.int), Jvm.Cond.code ({ cls := "com/example/herald4/herald4/filter/TruthAndPinLaw", name := "ofRank", desc := "(I)Lcom/example/herald4/herald4/filter/Truth;" } : Jvm.MethodName) method_4_code (1 : Nat) (Option.some (Jvm.ClassFile.FieldType.object "com/example/herald4/herald4/filter/Truth"))]
set_option maxRecDepth 65536 in
theorem codes_eq : words1.filter isCode = codes1 := rfl
theorem w_codes : ∀ c ∈ words1.filter isCode, c.before args0 about1 = true := by
  rw [codes_eq]
  intro c hc
  simp only [codes1, List.mem_cons, List.not_mem_nil, or_false] at hc
  rcases hc with rfl | rfl | rfl | rfl | rfl | rfl
  · exact w_c0
  · exact w_c1
  · exact w_c2
  · exact w_c3
  · exact w_c4
  · exact w_c5
set_option maxRecDepth 65536 in
theorem w_t1 : (words1.take 24).all (fun c => isCode c || c.before args0 about1) = true := by decide +kernel
set_option maxRecDepth 65536 in
theorem w_t2 : (words1.drop 24).all (fun c => isCode c || c.before args0 about1) = true := by decide +kernel
theorem w_tables : (allAtoms (Jvm.Cond.code x code maxLocals ret :: tables_1)).before args0 about1 = true := by
  rw [allAtoms_all]
  show words1.all (fun c => c.before args0 about1) = true
  refine all_split ?_ w_codes
  rw [← List.take_append_drop 24 words1, List.all_append, w_t1, w_t2]
  rfl
set_option maxRecDepth 65536 in
theorem w_case : (Jvm.Cond.and given_1 narrow_1).before args0 about1 = true := by decide +kernel
theorem w_applies : (headSpec (Jvm.Cond.code x code maxLocals ret :: tables_1) room_1).applies x e0.platform about1 = true :=
  (Spec.applies_iff w_frames).mpr ⟨w_running, w_runnable, w_alone, w_named, w_hears, w_ripe, w_room, w_tables⟩
theorem atStart : AtStart classFile x code maxLocals ret World_1 tables_1 room_1 Calls_1 rest_1 Pre_1 launch0 p0 e0 about1 theMethod args0 below0 :=
  ⟨lists_1, trivial, launch0.admits_env _ _ _, launch0.least_env, fairChoices_fair.cas, fairChoices_fair.clock, w_frames, w_args, w_heap, w_applies, trivial, trivial, w_case⟩
end start1
theorem witness_1 : WitnessClaimed_1 := ⟨start1.p0, start1.e0, start1.about1, start1.theMethod, start1.args0, start1.below0, start1.atStart⟩
end Jvm.Pilot.@@N@@
