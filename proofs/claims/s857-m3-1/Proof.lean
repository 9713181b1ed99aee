import JvmDerived
import JvmDerived.Pilot.@@N@@Statement
import JvmDerived.Pilot.@@N@@Code
set_option linter.unusedVariables false
set_option linter.unusedSimpArgs false
namespace Jvm.Pilot.@@N@@
open Jvm Jvm.ClassFile Sem Op Lib Jvm.Free Jvm.Stand Jvm.LawKit Jvm.RoadKit Bundle Jvm.Pilot.@@N@@.Jvm.D
abbrev St (p : Program) (e : Env) (below : List Frame) (T : State) (g : JFrame) (t : State) : Prop := Steps p.tables e below (T.setTop g) t
theorem ww {Z : State} {a0 : Array Value} (hw : ∀ d ∈ tables_1, d.before a0 Z = true) {d : Jvm.Cond} (i : Nat) (h : tables_1[i]? = some d) : d.before a0 Z = true := hw _ (List.mem_of_getElem? h)
theorem ltI {a b : Int32} (h : a < b) : a.toInt < b.toInt := Int32.lt_iff_toInt_lt.mp h
theorem nltI {a b : Int32} (h : ¬ a < b) : ¬ a.toInt < b.toInt := mt Int32.lt_iff_toInt_lt.mpr h
theorem eqI {a b : Int32} (h : a = b) : a.toInt = b.toInt := congrArg Int32.toInt h
theorem neI {a b : Int32} (h : ¬ a = b) : ¬ a.toInt = b.toInt := mt Int32.toInt_inj.mp h
theorem ltJ {a b : Int64} (h : a < b) : a.toInt < b.toInt := Int64.lt_iff_toInt_lt.mp h
theorem nltJ {a b : Int64} (h : ¬ a < b) : ¬ a.toInt < b.toInt := mt Int64.lt_iff_toInt_lt.mpr h
theorem eqJ {a b : Int64} (h : a = b) : a.toInt = b.toInt := congrArg Int64.toInt h
theorem neJ {a b : Int64} (h : ¬ a = b) : ¬ a.toInt = b.toInt := mt Int64.toInt_inj.mp h
theorem own_eqI {args : Array Value} {s : State} {t : Term} {k : Int32} (h : (Jvm.Cond.eq t (.int k)).value args s none s [] = some true) : t.eval args s none [] s = some (.int k) := by
  obtain ⟨x, y, ex, ey, k1, k2⟩ := cmp_v (Or.inl h)
  obtain rfl : y = .int k := Option.some.inj (ey.symm.trans (Term.int_eval k))
  obtain ⟨z, rfl⟩ := k2
  rw [ex, gotT (Cond.eq_ints ex ey) h]
theorem own_eqJ {args : Array Value} {s : State} {t : Term} {k : Int64} (h : (Jvm.Cond.eq t (.long k)).value args s none s [] = some true) : t.eval args s none [] s = some (.long k) := by
  obtain ⟨x, y, ex, ey, k1, k2⟩ := cmp_v (Or.inl h)
  obtain rfl : y = .long k := Option.some.inj (ey.symm.trans (long_at k))
  obtain ⟨z, rfl⟩ := k2
  rw [ex, gotT (eq_L ex ey) h]
theorem own_eqR {args : Array Value} {s : State} {t u : Term} {b : Addr} (h : (Jvm.Cond.eq t u).value args s none s [] = some true) (hu : u.eval args s none [] s = some (.ref b)) : t.eval args s none [] s = some (.ref b) := by
  obtain ⟨x, y, ex, ey, k1, k2⟩ := cmp_v (Or.inl h)
  obtain rfl : y = .ref b := Option.some.inj (ey.symm.trans hu)
  have hx : x.isRef = true := k2.2
  rw [ex, gotT (eq_R ex ey hx rfl) h]
theorem own_len {args : Array Value} {s : State} {t : Term} {a : Addr} {cl : Cell} {ty : FieldType} {k : Int32} (ev : t.eval args s none [] s = some (.ref a)) (A : Arr s s.heap a cl ty) (h : (Term.length t).eval args s none [] s = some (.int k)) : cl.slots.size < 2 ^ 31 ∧ cl.slots.size.toInt32 = k := by
  have ha := A.fin (Vm.Alike.refl _)
  by_cases hl : cl.slots.size < 2 ^ 31
  · exact ⟨hl, Value.int.inj (Option.some.inj ((len_f ev ha hl).symm.trans h))⟩
  · exfalso; simp [Term.eval, ev, ha, hl] at h
theorem own_sel {Z : State} {a0 : Array Value} {y : MethodName} {n : Nat} (wi : (Jvm.Cond.instantiable y.cls n).before a0 Z = true) (wp : (Jvm.Cond.privateMethod y).before a0 Z = true) (wm : (Jvm.Cond.instanceMethod y).before a0 Z = true) (hy : y.cls ≠ "java/lang/invoke/MethodHandle" ∧ y.cls ≠ "java/lang/invoke/VarHandle") : (Jvm.Cond.selects y.cls y y).before a0 Z = true := by
  obtain ⟨c, k, h1, h2, h3, h4, -⟩ := Cond.instantiable_spec wi
  exact selects_self_of_private h1 h2 (by simp only [Bool.or_eq_false_iff] at h4; exact h4.1) (Cond.privateMethod_at wp) wm hy
def own_nz (x : Int64) : Int32 := if x = 0 then 0 else 1
theorem own_c_nz (x : Int64) : (x.toInt = 0 → (own_nz x).toInt = 0) ∧ (x.toInt ≠ 0 → (own_nz x).toInt = 1) := by
  unfold own_nz
  by_cases h : x = 0
  · subst h; exact ⟨fun _ => by decide, fun q => absurd (by decide) q⟩
  · rw [if_neg h]; exact ⟨fun q => absurd (Int64.toInt_inj.mp (q.trans (by decide : (0 : Int) = (0 : Int64).toInt))) h, fun _ => by decide⟩
theorem own_old_le {Z : State} {n0 : Nat} {h : Heap} (O : Old Z n0 h) : n0 ≤ h.size := O.1 ▸ O.2.1
abbrev M0 : MethodName := ⟨"com/example/herald4/herald4/filter/TruthNotPinLaw", "pick", "(I)Lcom/example/herald4/herald4/filter/Truth;"⟩
abbrev M1 : MethodName := ⟨"com/example/herald4/herald4/filter/Truth", "not", "()Lcom/example/herald4/herald4/filter/Truth;"⟩
abbrev M2 : MethodName := ⟨"com/example/herald4/herald4/filter/Truth", "of", "(Z)Lcom/example/herald4/herald4/filter/Truth;"⟩
abbrev M3 : MethodName := ⟨"com/example/herald4/herald4/filter/Truth", "and", "(Lcom/example/herald4/herald4/filter/Truth;)Lcom/example/herald4/herald4/filter/Truth;"⟩
abbrev M4 : MethodName := ⟨"com/example/herald4/herald4/filter/Truth", "or", "(Lcom/example/herald4/herald4/filter/Truth;)Lcom/example/herald4/herald4/filter/Truth;"⟩

def Env1 (Z : State) (a_TRUE : Addr) (a_UNKNOWN : Addr) (a_FALSE : Addr) : Prop := Sta Z Z.heap "com/example/herald4/herald4/filter/Truth" "TRUE" "Lcom/example/herald4/herald4/filter/Truth;" (.ref a_TRUE) ∧
  Exa Z Z.heap a_TRUE "com/example/herald4/herald4/filter/Truth" ∧
  Sta Z Z.heap "com/example/herald4/herald4/filter/Truth" "UNKNOWN" "Lcom/example/herald4/herald4/filter/Truth;" (.ref a_UNKNOWN) ∧
  Exa Z Z.heap a_UNKNOWN "com/example/herald4/herald4/filter/Truth" ∧
  Fld Z Z.heap a_TRUE "java/lang/Enum" "ordinal" "I" (.int (0 : Int32)) ∧
  Fld Z Z.heap a_UNKNOWN "java/lang/Enum" "ordinal" "I" (.int (2 : Int32)) ∧
  Sta Z Z.heap "com/example/herald4/herald4/filter/Truth" "FALSE" "Lcom/example/herald4/herald4/filter/Truth;" (.ref a_FALSE) ∧
  Exa Z Z.heap a_FALSE "com/example/herald4/herald4/filter/Truth" ∧
  Fld Z Z.heap a_FALSE "java/lang/Enum" "ordinal" "I" (.int (1 : Int32))
theorem ef0 (m : MethodId) (x0 : Int32) (x1 : Int32) (x2 : Int32) : entryFrame m #[(.int x0), (.int x1), (.int x2)] maxLocals = mkF m 0 #[.val (.int x0), .val (.int x1), .val (.int x2), .unset, .unset, .unset, .unset, .unset, .unset] [] := by first | (simp [entryFrame, mkF, argsToLocals, Value.category, maxLocals]; done) | rfl
theorem pn0 : plainName "com/example/herald4/herald4/filter/TruthNotPinLaw" = true := by first | (simp [plainName, overriddenIn]; done) | decide +kernel
theorem ef1 (m : MethodId) (x0 : Int32) : entryFrame m #[(.int x0)] 2 = mkF m 0 #[.val (.int x0), .unset] [] := by first | (simp [entryFrame, mkF, argsToLocals, Value.category]; done) | rfl
theorem d1_0 : decode method_2_code 0 = .ok (.iload_n 0, 1) := by decide +kernel
theorem d1_1 : decode method_2_code 1 = .ok (.ldc 7, 2) := by decide +kernel
theorem d1_3 : decode method_2_code 3 = .ok (.iand, 1) := by decide +kernel
theorem d1_4 : decode method_2_code 4 = .ok (.iconst 3, 1) := by decide +kernel
theorem d1_5 : decode method_2_code 5 = .ok (.irem, 1) := by decide +kernel
theorem d1_6 : decode method_2_code 6 = .ok (.istore_n 1, 1) := by decide +kernel
theorem d1_7 : decode method_2_code 7 = .ok (.iload_n 1, 1) := by decide +kernel
theorem d1_8 : decode method_2_code 8 = .ok (.ifCond .ne 7, 3) := by decide +kernel
theorem d1_11 : decode method_2_code 11 = .ok (.getstatic 8, 3) := by decide +kernel
theorem d1_14 : decode method_2_code 14 = .ok (.areturn, 1) := by decide +kernel
theorem d1_15 : decode method_2_code 15 = .ok (.iload_n 1, 1) := by decide +kernel
theorem d1_16 : decode method_2_code 16 = .ok (.iconst 1, 1) := by decide +kernel
theorem d1_17 : decode method_2_code 17 = .ok (.if_icmp .ne 7, 3) := by decide +kernel
theorem d1_20 : decode method_2_code 20 = .ok (.getstatic 14, 3) := by decide +kernel
theorem d1_23 : decode method_2_code 23 = .ok (.areturn, 1) := by decide +kernel
theorem d1_24 : decode method_2_code 24 = .ok (.getstatic 17, 3) := by decide +kernel
theorem d1_27 : decode method_2_code 27 = .ok (.areturn, 1) := by decide +kernel
def Q1_0 (Z : State) (a_TRUE : Addr) (a_UNKNOWN : Addr) (a_FALSE : Addr) (i0 : Int32) (h0 : Heap) (n0 : Nat) (v : Option Value) (h : Heap) (L : List Loc) : Prop := Fr n0 L ∧ h = h0 ∧ ((v = some (.ref a_TRUE) ∧ ((i0 &&& (2147483647 : Int32)) % (3 : Int32)) = (0 : Int32)) ∨ (v = some (.ref a_FALSE) ∧ ¬ (((i0 &&& (2147483647 : Int32)) % (3 : Int32)) = (0 : Int32)) ∧ ((i0 &&& (2147483647 : Int32)) % (3 : Int32)) = (1 : Int32)) ∨ (v = some (.ref a_UNKNOWN) ∧ ¬ (((i0 &&& (2147483647 : Int32)) % (3 : Int32)) = (0 : Int32)) ∧ ¬ (((i0 &&& (2147483647 : Int32)) % (3 : Int32)) = (1 : Int32))))
set_option maxRecDepth 65536 in
set_option maxHeartbeats 40000000 in
theorem rm1_0 (l : Launch) (Z : State) (a0 : Array Value) (hw : ∀ d ∈ tables_1, d.before a0 Z = true) (ws : List Jvm.Cond) (a_TRUE : Addr) (a_UNKNOWN : Addr) (a_FALSE : Addr) (i0 : Int32) (h0 : Heap) (n0 : Nat) (O0 : Old Z n0 h0) (HE : Env1 Z a_TRUE a_UNKNOWN a_FALSE)  :
    MetFree l M0 (head1 (Jvm.Cond.code M0 method_2_code 2 (some (.object "com/example/herald4/herald4/filter/Truth")) :: ws) ({ frames := 0, cells := 0, slots := 0, locals := 0 } : Room)) (fun a U => a = #[(.int i0)] ∧ Z.Warmed39 U.vm ∧ U.heap = h0) (fun _ _ _ _ _ => True) (fun _ U o U' => ∃ v L, o = .returned v ∧ Q1_0 Z a_TRUE a_UNKNOWN a_FALSE i0 h0 n0 v U'.heap L ∧ FrameEnd U o U' L ({ frames := 0, cells := 0, slots := 0, locals := 0 } : Room).cells ({ frames := 0, cells := 0, slots := 0, locals := 0 } : Room).slots) := by
 refine MetFree.of_bodySF (plainFor_of_name pn0) hisR ?_
 intro p e s m args below meth c s₁ Bd hml0 hP hK
 obtain ⟨rfl, hZ, hh⟩ := hP
 have hx := Bd.exec
 have hby := Bd.bytes
 have hml : c.maxLocals = 2 := hml0
 have hown : s.vm.findClass "com/example/herald4/herald4/filter/TruthNotPinLaw" = some m.cls := findClass_of_methodNamed Bd.named
 have hnm := (name_of_methodNamed Bd.named Bd.method).1
 have X0 : Stand p l e ({ frames := 0, cells := 0, slots := 0, locals := 0 } : Room) s m #[(.int i0)] below meth c s₁ [] 0 0 := Stand.of_body Bd
 have e0 : s₁.heap = h0 := by rw [← hh, Bd.state]; rfl
 have N0 := Fr.nil n0
 let S0 : State → Prop := fun t => Steps p.tables e below (s₁.setTop (entryFrame m #[(.int i0)] 2)) t
 have p0 : ∀ t, St p e below s₁ (mkF m 0 #[.val (.int i0), .unset] []) t → S0 t := fun t k => castTop (ef1 m i0) k
 have HE' := HE
 obtain ⟨Sa_TRUE, Ea_TRUE, Sa_UNKNOWN, Ea_UNKNOWN, Fa_TRUE_ordinal, Fa_UNKNOWN_ordinal, Sa_FALSE, Ea_FALSE, Fa_FALSE_ordinal⟩ := HE
 let Ls1 : Array Slot := #[.val (.int i0), .val (.int ((i0 &&& (2147483647 : Int32)) % (3 : Int32)))]
 have p2 : ∀ t, St p e below s₁ (mkF m 8 Ls1 [(.int ((i0 &&& (2147483647 : Int32)) % (3 : Int32)))]) t → S0 t := fun t k => p0 t (by
   show St p e below s₁ (mkF m 0 #[.val (.int i0), .unset] []) t
   refine XS.iloadN X0.here hx rfl (hb hby d1_0) rfl ?_
   show St p e below s₁ (mkF m 1 #[.val (.int i0), .unset] [(.int i0)]) t
   refine X0.ldcI hx hown (mvT hZ (ww hw 4 rfl)) rfl (hb hby d1_1) ?_
   show St p e below s₁ (mkF m 3 #[.val (.int i0), .unset] [(.int (2147483647 : Int32)), (.int i0)]) t
   refine XS.iand X0.here hx rfl (hb hby d1_3) rfl ?_
   show St p e below s₁ (mkF m 4 #[.val (.int i0), .unset] [(.int (i0 &&& (2147483647 : Int32)))]) t
   refine XT.iconstV X0.here hx rfl (3 : Int32) (hb hby d1_4) (by decide) ?_
   show St p e below s₁ (mkF m 5 #[.val (.int i0), .unset] [(.int (3 : Int32)), (.int (i0 &&& (2147483647 : Int32)))]) t
   refine iremM X0 hx rfl (hb hby d1_5) rfl (by decide : ¬ ((3 : Int32) = (0 : Int32))) ?_
   show St p e below s₁ (mkF m 6 #[.val (.int i0), .unset] [(.int ((i0 &&& (2147483647 : Int32)) % (3 : Int32)))]) t
   refine XS.istoreN X0.here hx rfl (hb hby d1_6) rfl (l' := Ls1) rfl ?_
   show St p e below s₁ (mkF m 7 Ls1 []) t
   refine XS.iloadN X0.here hx rfl (hb hby d1_7) rfl ?_
   exact k)
 by_cases g3 : ((i0 &&& (2147483647 : Int32)) % (3 : Int32)) = (0 : Int32)
 ·
  have p4 : ∀ t, St p e below s₁ (mkF m 11 Ls1 []) t → S0 t := fun t k => p2 t (by
    show St p e below s₁ (mkF m 8 Ls1 [(.int ((i0 &&& (2147483647 : Int32)) % (3 : Int32)))]) t
    refine XS.ifNo X0.here hx rfl (hb hby d1_8) rfl ((if0 _ _).trans (teq g3).2) ?_
    exact k)
  obtain ⟨T5, X5, e5, st5⟩ := getS2 X0 hx hZ hown (host := "") (Or.inl (ww hw 5 rfl)) Via.refl e0 (Sa_TRUE.ext O0.2) (g := (mkF m 11 Ls1 [])) rfl (hb hby d1_11)
  have p6 : ∀ t, St p e below T5 (mkF m 14 Ls1 [(.ref a_TRUE)]) t → S0 t := fun t k => p4 t (st5 t k)
  obtain ⟨fs, hr, hrun, hended, hW, hsame⟩ := X5.leave (v := some (.ref a_TRUE)) (fun h => by rw [Bd.returns] at h; cases h)
  refine ⟨_, _, p6 _ ?_, hrun, hended, _, _, rfl, ?_, ⟨_, rfl⟩, hW, hsame.mono (by decide) (by decide)⟩
  · exact retOut X5 hx Bd.returns rfl (Or.inr (Or.inr (Or.inr (Or.inr ⟨rfl, rfl, rfl⟩)))) (hb hby d1_14) hr
  · show Q1_0 Z a_TRUE a_UNKNOWN a_FALSE i0 h0 n0 _ T5.heap _
    exact ⟨N0, e5, (Or.inl ⟨rfl, g3⟩)⟩
 ·
  have p7 : ∀ t, St p e below s₁ (mkF m 17 Ls1 [(.int (1 : Int32)), (.int ((i0 &&& (2147483647 : Int32)) % (3 : Int32)))]) t → S0 t := fun t k => p2 t (by
    show St p e below s₁ (mkF m 8 Ls1 [(.int ((i0 &&& (2147483647 : Int32)) % (3 : Int32)))]) t
    refine XS.ifYes X0.here hx rfl (pc0 := 8) (pc' := 15) rfl (hb hby d1_8) rfl ((if0 _ _).trans (feq g3).2) (by decide) (by decide) ?_
    show St p e below s₁ (mkF m 15 Ls1 []) t
    refine XS.iloadN X0.here hx rfl (hb hby d1_15) rfl ?_
    show St p e below s₁ (mkF m 16 Ls1 [(.int ((i0 &&& (2147483647 : Int32)) % (3 : Int32)))]) t
    refine XT.iconstV X0.here hx rfl (1 : Int32) (hb hby d1_16) (by decide) ?_
    exact k)
  by_cases g8 : ((i0 &&& (2147483647 : Int32)) % (3 : Int32)) = (1 : Int32)
  ·
   have p9 : ∀ t, St p e below s₁ (mkF m 20 Ls1 []) t → S0 t := fun t k => p7 t (by
     show St p e below s₁ (mkF m 17 Ls1 [(.int (1 : Int32)), (.int ((i0 &&& (2147483647 : Int32)) % (3 : Int32)))]) t
     refine XS.icmpNo X0.here hx rfl (hb hby d1_17) rfl (teq g8).2 ?_
     exact k)
   obtain ⟨T10, X10, e10, st10⟩ := getS2 X0 hx hZ hown (host := "") (Or.inl (ww hw 31 rfl)) Via.refl e0 (Sa_FALSE.ext O0.2) (g := (mkF m 20 Ls1 [])) rfl (hb hby d1_20)
   have p11 : ∀ t, St p e below T10 (mkF m 23 Ls1 [(.ref a_FALSE)]) t → S0 t := fun t k => p9 t (st10 t k)
   obtain ⟨fs, hr, hrun, hended, hW, hsame⟩ := X10.leave (v := some (.ref a_FALSE)) (fun h => by rw [Bd.returns] at h; cases h)
   refine ⟨_, _, p11 _ ?_, hrun, hended, _, _, rfl, ?_, ⟨_, rfl⟩, hW, hsame.mono (by decide) (by decide)⟩
   · exact retOut X10 hx Bd.returns rfl (Or.inr (Or.inr (Or.inr (Or.inr ⟨rfl, rfl, rfl⟩)))) (hb hby d1_23) hr
   · show Q1_0 Z a_TRUE a_UNKNOWN a_FALSE i0 h0 n0 _ T10.heap _
     exact ⟨N0, e10, (Or.inr (Or.inl ⟨rfl, g3, g8⟩))⟩
  ·
   have p12 : ∀ t, St p e below s₁ (mkF m 24 Ls1 []) t → S0 t := fun t k => p7 t (by
     show St p e below s₁ (mkF m 17 Ls1 [(.int (1 : Int32)), (.int ((i0 &&& (2147483647 : Int32)) % (3 : Int32)))]) t
     refine XS.icmpYes X0.here hx rfl (pc0 := 17) (pc' := 24) rfl (hb hby d1_17) rfl (feq g8).2 (by decide) (by decide) ?_
     exact k)
   obtain ⟨T13, X13, e13, st13⟩ := getS2 X0 hx hZ hown (host := "") (Or.inl (ww hw 32 rfl)) Via.refl e0 (Sa_UNKNOWN.ext O0.2) (g := (mkF m 24 Ls1 [])) rfl (hb hby d1_24)
   have p14 : ∀ t, St p e below T13 (mkF m 27 Ls1 [(.ref a_UNKNOWN)]) t → S0 t := fun t k => p12 t (st13 t k)
   obtain ⟨fs, hr, hrun, hended, hW, hsame⟩ := X13.leave (v := some (.ref a_UNKNOWN)) (fun h => by rw [Bd.returns] at h; cases h)
   refine ⟨_, _, p14 _ ?_, hrun, hended, _, _, rfl, ?_, ⟨_, rfl⟩, hW, hsame.mono (by decide) (by decide)⟩
   · exact retOut X13 hx Bd.returns rfl (Or.inr (Or.inr (Or.inr (Or.inr ⟨rfl, rfl, rfl⟩)))) (hb hby d1_27) hr
   · show Q1_0 Z a_TRUE a_UNKNOWN a_FALSE i0 h0 n0 _ T13.heap _
     exact ⟨N0, e13, (Or.inr (Or.inr (⟨rfl, g3, g8⟩)))⟩
theorem pd0 : parseMethodDescriptor "(I)Lcom/example/herald4/herald4/filter/Truth;" = some ⟨[.int], some (.object "com/example/herald4/herald4/filter/Truth")⟩ := by decide +kernel
theorem ef2 (m : MethodId) (x0 : Addr) : entryFrame m #[(.ref x0)] 2 = mkF m 0 #[.val (.ref x0), .unset] [] := by first | (simp [entryFrame, mkF, argsToLocals, Value.category]; done) | rfl
theorem pn1 : plainName "com/example/herald4/herald4/filter/Truth" = true := by first | (simp [plainName, overriddenIn]; done) | decide +kernel
theorem d2_0 : decode prog_32_method_5_code 0 = .ok (.aload_n 0, 1) := by decide +kernel
theorem d2_1 : decode prog_32_method_5_code 1 = .ok (.getstatic 10, 3) := by decide +kernel
theorem d2_4 : decode prog_32_method_5_code 4 = .ok (.if_acmp .ne 10, 3) := by decide +kernel
theorem d2_14 : decode prog_32_method_5_code 14 = .ok (.aload_n 0, 1) := by decide +kernel
theorem d2_15 : decode prog_32_method_5_code 15 = .ok (.getstatic 3, 3) := by decide +kernel
theorem d2_18 : decode prog_32_method_5_code 18 = .ok (.if_acmp .ne 9, 3) := by decide +kernel
theorem d2_21 : decode prog_32_method_5_code 21 = .ok (.getstatic 7, 3) := by decide +kernel
theorem d2_24 : decode prog_32_method_5_code 24 = .ok (.goto 6, 3) := by decide +kernel
theorem d2_30 : decode prog_32_method_5_code 30 = .ok (.astore_n 1, 1) := by decide +kernel
theorem d2_31 : decode prog_32_method_5_code 31 = .ok (.aload_n 1, 1) := by decide +kernel
theorem d2_32 : decode prog_32_method_5_code 32 = .ok (.areturn, 1) := by decide +kernel
def Q2_1 (Z : State) (a_TRUE : Addr) (a_UNKNOWN : Addr) (a_FALSE : Addr) (h0 : Heap) (n0 : Nat) (v : Option Value) (h : Heap) (L : List Loc) : Prop := Fr n0 L ∧ h = h0 ∧ ((v = some (.ref a_FALSE)))
set_option maxRecDepth 65536 in
set_option maxHeartbeats 40000000 in
theorem rm2_1 (l : Launch) (Z : State) (a0 : Array Value) (hw : ∀ d ∈ tables_1, d.before a0 Z = true) (ws : List Jvm.Cond) (a_TRUE : Addr) (a_UNKNOWN : Addr) (a_FALSE : Addr) (h0 : Heap) (n0 : Nat) (O0 : Old Z n0 h0) (HE : Env1 Z a_TRUE a_UNKNOWN a_FALSE)  :
    MetFree l M1 (head1 (Jvm.Cond.code M1 prog_32_method_5_code 2 (some (.object "com/example/herald4/herald4/filter/Truth")) :: ws) ({ frames := 0, cells := 0, slots := 0, locals := 0 } : Room)) (fun a U => a = #[(.ref a_TRUE)] ∧ Z.Warmed39 U.vm ∧ U.heap = h0) (fun _ _ _ _ _ => True) (fun _ U o U' => ∃ v L, o = .returned v ∧ Q2_1 Z a_TRUE a_UNKNOWN a_FALSE h0 n0 v U'.heap L ∧ FrameEnd U o U' L ({ frames := 0, cells := 0, slots := 0, locals := 0 } : Room).cells ({ frames := 0, cells := 0, slots := 0, locals := 0 } : Room).slots) := by
 refine MetFree.of_bodySF (plainFor_of_name pn1) hisR ?_
 intro p e s m args below meth c s₁ Bd hml0 hP hK
 obtain ⟨rfl, hZ, hh⟩ := hP
 have hx := Bd.exec
 have hby := Bd.bytes
 have hml : c.maxLocals = 2 := hml0
 have hown : s.vm.findClass "com/example/herald4/herald4/filter/Truth" = some m.cls := findClass_of_methodNamed Bd.named
 have hnm := (name_of_methodNamed Bd.named Bd.method).1
 have X0 : Stand p l e ({ frames := 0, cells := 0, slots := 0, locals := 0 } : Room) s m #[(.ref a_TRUE)] below meth c s₁ [] 0 0 := Stand.of_body Bd
 have e0 : s₁.heap = h0 := by rw [← hh, Bd.state]; rfl
 have N0 := Fr.nil n0
 let S0 : State → Prop := fun t => Steps p.tables e below (s₁.setTop (entryFrame m #[(.ref a_TRUE)] 2)) t
 have p0 : ∀ t, St p e below s₁ (mkF m 0 #[.val (.ref a_TRUE), .unset] []) t → S0 t := fun t k => castTop (ef2 m a_TRUE) k
 have HE' := HE
 obtain ⟨Sa_TRUE, Ea_TRUE, Sa_UNKNOWN, Ea_UNKNOWN, Fa_TRUE_ordinal, Fa_UNKNOWN_ordinal, Sa_FALSE, Ea_FALSE, Fa_FALSE_ordinal⟩ := HE
 have p1 : ∀ t, St p e below s₁ (mkF m 1 #[.val (.ref a_TRUE), .unset] [(.ref a_TRUE)]) t → S0 t := fun t k => p0 t (by
   show St p e below s₁ (mkF m 0 #[.val (.ref a_TRUE), .unset] []) t
   refine XS.aloadN X0.here hx rfl (hb hby d2_0) rfl rfl ?_
   exact k)
 obtain ⟨T2, X2, e2, st2⟩ := getS2 X0 hx hZ hown (host := "") (Or.inl (ww hw 13 rfl)) Via.refl e0 (Sa_UNKNOWN.ext O0.2) (g := (mkF m 1 #[.val (.ref a_TRUE), .unset] [(.ref a_TRUE)])) rfl (hb hby d2_1)
 have p3 : ∀ t, St p e below T2 (mkF m 4 #[.val (.ref a_TRUE), .unset] [(.ref a_UNKNOWN), (.ref a_TRUE)]) t → S0 t := fun t k => p1 t (st2 t k)
 have p4 : ∀ t, St p e below T2 (mkF m 15 #[.val (.ref a_TRUE), .unset] [(.ref a_TRUE)]) t → S0 t := fun t k => p3 t (by
   show St p e below T2 (mkF m 4 #[.val (.ref a_TRUE), .unset] [(.ref a_UNKNOWN), (.ref a_TRUE)]) t
   refine Jvm.RoadKit.acmp (g := (mkF m 4 #[.val (.ref a_TRUE), .unset] [(.ref a_UNKNOWN), (.ref a_TRUE)])) X2 hx rfl rfl rfl (pc0 := 4) (pc' := 14) (same := false) rfl (hb hby d2_4) rfl (decide_eq_false fun q => (Fld.ne Fa_TRUE_ordinal Fa_UNKNOWN_ordinal (fun q => absurd (Value.int.inj q) (by decide))) (Value.ref.inj q)) (by decide) (by decide) ?_
   show St p e below T2 (mkF m 14 #[.val (.ref a_TRUE), .unset] []) t
   refine XS.aloadN X2.here hx rfl (hb hby d2_14) rfl rfl ?_
   exact k)
 obtain ⟨T5, X5, e5, st5⟩ := getS2 X2 hx hZ hown (host := "") (Or.inl (ww hw 15 rfl)) Via.refl e2 (Sa_TRUE.ext O0.2) (g := (mkF m 15 #[.val (.ref a_TRUE), .unset] [(.ref a_TRUE)])) rfl (hb hby d2_15)
 have p6 : ∀ t, St p e below T5 (mkF m 18 #[.val (.ref a_TRUE), .unset] [(.ref a_TRUE), (.ref a_TRUE)]) t → S0 t := fun t k => p4 t (st5 t k)
 have p7 : ∀ t, St p e below T5 (mkF m 21 #[.val (.ref a_TRUE), .unset] []) t → S0 t := fun t k => p6 t (by
   show St p e below T5 (mkF m 18 #[.val (.ref a_TRUE), .unset] [(.ref a_TRUE), (.ref a_TRUE)]) t
   refine Jvm.RoadKit.acmp (g := (mkF m 18 #[.val (.ref a_TRUE), .unset] [(.ref a_TRUE), (.ref a_TRUE)])) X5 hx rfl rfl rfl (pc0 := 18) (pc' := 21) (same := true) rfl (hb hby d2_18) rfl (decide_eq_true rfl) (by decide) (by decide) ?_
   exact k)
 obtain ⟨T8, X8, e8, st8⟩ := getS2 X5 hx hZ hown (host := "") (Or.inl (ww hw 16 rfl)) Via.refl e5 (Sa_FALSE.ext O0.2) (g := (mkF m 21 #[.val (.ref a_TRUE), .unset] [])) rfl (hb hby d2_21)
 have p9 : ∀ t, St p e below T8 (mkF m 24 #[.val (.ref a_TRUE), .unset] [(.ref a_FALSE)]) t → S0 t := fun t k => p7 t (st8 t k)
 have p10 : ∀ t, St p e below T8 (mkF m 32 #[.val (.ref a_TRUE), .val (.ref a_FALSE)] [(.ref a_FALSE)]) t → S0 t := fun t k => p9 t (by
   show St p e below T8 (mkF m 24 #[.val (.ref a_TRUE), .unset] [(.ref a_FALSE)]) t
   refine XS.goto X8.here hx rfl (pc0 := 24) (pc' := 30) rfl (hb hby d2_24) (by decide) (by decide) ?_
   show St p e below T8 (mkF m 30 #[.val (.ref a_TRUE), .unset] [(.ref a_FALSE)]) t
   refine XS.astoreN X8.here hx rfl (hb hby d2_30) rfl rfl (l' := #[.val (.ref a_TRUE), .val (.ref a_FALSE)]) rfl ?_
   show St p e below T8 (mkF m 31 #[.val (.ref a_TRUE), .val (.ref a_FALSE)] []) t
   refine XS.aloadN X8.here hx rfl (hb hby d2_31) rfl rfl ?_
   exact k)
 obtain ⟨fs, hr, hrun, hended, hW, hsame⟩ := X8.leave (v := some (.ref a_FALSE)) (fun h => by rw [Bd.returns] at h; cases h)
 refine ⟨_, _, p10 _ ?_, hrun, hended, _, _, rfl, ?_, ⟨_, rfl⟩, hW, hsame.mono (by decide) (by decide)⟩
 · exact retOut X8 hx Bd.returns rfl (Or.inr (Or.inr (Or.inr (Or.inr ⟨rfl, rfl, rfl⟩)))) (hb hby d2_32) hr
 · show Q2_1 Z a_TRUE a_UNKNOWN a_FALSE h0 n0 _ T8.heap _
   exact ⟨N0, e8, rfl⟩
theorem pd1 : parseMethodDescriptor "()Lcom/example/herald4/herald4/filter/Truth;" = some ⟨[], some (.object "com/example/herald4/herald4/filter/Truth")⟩ := by decide +kernel
theorem d2_27 : decode prog_32_method_5_code 27 = .ok (.getstatic 3, 3) := by decide +kernel
def Q2_2 (Z : State) (a_TRUE : Addr) (a_UNKNOWN : Addr) (a_FALSE : Addr) (h0 : Heap) (n0 : Nat) (v : Option Value) (h : Heap) (L : List Loc) : Prop := Fr n0 L ∧ h = h0 ∧ ((v = some (.ref a_TRUE)))
set_option maxRecDepth 65536 in
set_option maxHeartbeats 40000000 in
theorem rm2_2 (l : Launch) (Z : State) (a0 : Array Value) (hw : ∀ d ∈ tables_1, d.before a0 Z = true) (ws : List Jvm.Cond) (a_TRUE : Addr) (a_UNKNOWN : Addr) (a_FALSE : Addr) (h0 : Heap) (n0 : Nat) (O0 : Old Z n0 h0) (HE : Env1 Z a_TRUE a_UNKNOWN a_FALSE)  :
    MetFree l M1 (head1 (Jvm.Cond.code M1 prog_32_method_5_code 2 (some (.object "com/example/herald4/herald4/filter/Truth")) :: ws) ({ frames := 0, cells := 0, slots := 0, locals := 0 } : Room)) (fun a U => a = #[(.ref a_FALSE)] ∧ Z.Warmed39 U.vm ∧ U.heap = h0) (fun _ _ _ _ _ => True) (fun _ U o U' => ∃ v L, o = .returned v ∧ Q2_2 Z a_TRUE a_UNKNOWN a_FALSE h0 n0 v U'.heap L ∧ FrameEnd U o U' L ({ frames := 0, cells := 0, slots := 0, locals := 0 } : Room).cells ({ frames := 0, cells := 0, slots := 0, locals := 0 } : Room).slots) := by
 refine MetFree.of_bodySF (plainFor_of_name pn1) hisR ?_
 intro p e s m args below meth c s₁ Bd hml0 hP hK
 obtain ⟨rfl, hZ, hh⟩ := hP
 have hx := Bd.exec
 have hby := Bd.bytes
 have hml : c.maxLocals = 2 := hml0
 have hown : s.vm.findClass "com/example/herald4/herald4/filter/Truth" = some m.cls := findClass_of_methodNamed Bd.named
 have hnm := (name_of_methodNamed Bd.named Bd.method).1
 have X0 : Stand p l e ({ frames := 0, cells := 0, slots := 0, locals := 0 } : Room) s m #[(.ref a_FALSE)] below meth c s₁ [] 0 0 := Stand.of_body Bd
 have e0 : s₁.heap = h0 := by rw [← hh, Bd.state]; rfl
 have N0 := Fr.nil n0
 let S0 : State → Prop := fun t => Steps p.tables e below (s₁.setTop (entryFrame m #[(.ref a_FALSE)] 2)) t
 have p0 : ∀ t, St p e below s₁ (mkF m 0 #[.val (.ref a_FALSE), .unset] []) t → S0 t := fun t k => castTop (ef2 m a_FALSE) k
 have HE' := HE
 obtain ⟨Sa_TRUE, Ea_TRUE, Sa_UNKNOWN, Ea_UNKNOWN, Fa_TRUE_ordinal, Fa_UNKNOWN_ordinal, Sa_FALSE, Ea_FALSE, Fa_FALSE_ordinal⟩ := HE
 have p1 : ∀ t, St p e below s₁ (mkF m 1 #[.val (.ref a_FALSE), .unset] [(.ref a_FALSE)]) t → S0 t := fun t k => p0 t (by
   show St p e below s₁ (mkF m 0 #[.val (.ref a_FALSE), .unset] []) t
   refine XS.aloadN X0.here hx rfl (hb hby d2_0) rfl rfl ?_
   exact k)
 obtain ⟨T2, X2, e2, st2⟩ := getS2 X0 hx hZ hown (host := "") (Or.inl (ww hw 13 rfl)) Via.refl e0 (Sa_UNKNOWN.ext O0.2) (g := (mkF m 1 #[.val (.ref a_FALSE), .unset] [(.ref a_FALSE)])) rfl (hb hby d2_1)
 have p3 : ∀ t, St p e below T2 (mkF m 4 #[.val (.ref a_FALSE), .unset] [(.ref a_UNKNOWN), (.ref a_FALSE)]) t → S0 t := fun t k => p1 t (st2 t k)
 have p4 : ∀ t, St p e below T2 (mkF m 15 #[.val (.ref a_FALSE), .unset] [(.ref a_FALSE)]) t → S0 t := fun t k => p3 t (by
   show St p e below T2 (mkF m 4 #[.val (.ref a_FALSE), .unset] [(.ref a_UNKNOWN), (.ref a_FALSE)]) t
   refine Jvm.RoadKit.acmp (g := (mkF m 4 #[.val (.ref a_FALSE), .unset] [(.ref a_UNKNOWN), (.ref a_FALSE)])) X2 hx rfl rfl rfl (pc0 := 4) (pc' := 14) (same := false) rfl (hb hby d2_4) rfl (decide_eq_false fun q => (Fld.ne Fa_FALSE_ordinal Fa_UNKNOWN_ordinal (fun q => absurd (Value.int.inj q) (by decide))) (Value.ref.inj q)) (by decide) (by decide) ?_
   show St p e below T2 (mkF m 14 #[.val (.ref a_FALSE), .unset] []) t
   refine XS.aloadN X2.here hx rfl (hb hby d2_14) rfl rfl ?_
   exact k)
 obtain ⟨T5, X5, e5, st5⟩ := getS2 X2 hx hZ hown (host := "") (Or.inl (ww hw 15 rfl)) Via.refl e2 (Sa_TRUE.ext O0.2) (g := (mkF m 15 #[.val (.ref a_FALSE), .unset] [(.ref a_FALSE)])) rfl (hb hby d2_15)
 have p6 : ∀ t, St p e below T5 (mkF m 18 #[.val (.ref a_FALSE), .unset] [(.ref a_TRUE), (.ref a_FALSE)]) t → S0 t := fun t k => p4 t (st5 t k)
 have p7 : ∀ t, St p e below T5 (mkF m 27 #[.val (.ref a_FALSE), .unset] []) t → S0 t := fun t k => p6 t (by
   show St p e below T5 (mkF m 18 #[.val (.ref a_FALSE), .unset] [(.ref a_TRUE), (.ref a_FALSE)]) t
   refine Jvm.RoadKit.acmp (g := (mkF m 18 #[.val (.ref a_FALSE), .unset] [(.ref a_TRUE), (.ref a_FALSE)])) X5 hx rfl rfl rfl (pc0 := 18) (pc' := 27) (same := false) rfl (hb hby d2_18) rfl (decide_eq_false fun q => (Fld.ne Fa_FALSE_ordinal Fa_TRUE_ordinal (fun q => absurd (Value.int.inj q) (by decide))) (Value.ref.inj q)) (by decide) (by decide) ?_
   exact k)
 obtain ⟨T8, X8, e8, st8⟩ := getS2 X5 hx hZ hown (host := "") (Or.inl (ww hw 15 rfl)) Via.refl e5 (Sa_TRUE.ext O0.2) (g := (mkF m 27 #[.val (.ref a_FALSE), .unset] [])) rfl (hb hby d2_27)
 have p9 : ∀ t, St p e below T8 (mkF m 30 #[.val (.ref a_FALSE), .unset] [(.ref a_TRUE)]) t → S0 t := fun t k => p7 t (st8 t k)
 have p10 : ∀ t, St p e below T8 (mkF m 32 #[.val (.ref a_FALSE), .val (.ref a_TRUE)] [(.ref a_TRUE)]) t → S0 t := fun t k => p9 t (by
   show St p e below T8 (mkF m 30 #[.val (.ref a_FALSE), .unset] [(.ref a_TRUE)]) t
   refine XS.astoreN X8.here hx rfl (hb hby d2_30) rfl rfl (l' := #[.val (.ref a_FALSE), .val (.ref a_TRUE)]) rfl ?_
   show St p e below T8 (mkF m 31 #[.val (.ref a_FALSE), .val (.ref a_TRUE)] []) t
   refine XS.aloadN X8.here hx rfl (hb hby d2_31) rfl rfl ?_
   exact k)
 obtain ⟨fs, hr, hrun, hended, hW, hsame⟩ := X8.leave (v := some (.ref a_TRUE)) (fun h => by rw [Bd.returns] at h; cases h)
 refine ⟨_, _, p10 _ ?_, hrun, hended, _, _, rfl, ?_, ⟨_, rfl⟩, hW, hsame.mono (by decide) (by decide)⟩
 · exact retOut X8 hx Bd.returns rfl (Or.inr (Or.inr (Or.inr (Or.inr ⟨rfl, rfl, rfl⟩)))) (hb hby d2_32) hr
 · show Q2_2 Z a_TRUE a_UNKNOWN a_FALSE h0 n0 _ T8.heap _
   exact ⟨N0, e8, rfl⟩
theorem ef3 (m : MethodId) (x0 : Int32) : entryFrame m #[(.int x0)] 1 = mkF m 0 #[.val (.int x0)] [] := by first | (simp [entryFrame, mkF, argsToLocals, Value.category]; done) | rfl
theorem d3_0 : decode prog_32_method_4_code 0 = .ok (.iload_n 0, 1) := by decide +kernel
theorem d3_1 : decode prog_32_method_4_code 1 = .ok (.ifCond .eq 9, 3) := by decide +kernel
theorem d3_10 : decode prog_32_method_4_code 10 = .ok (.getstatic 7, 3) := by decide +kernel
theorem d3_13 : decode prog_32_method_4_code 13 = .ok (.areturn, 1) := by decide +kernel
def Q3_3 (Z : State) (a_TRUE : Addr) (a_UNKNOWN : Addr) (a_FALSE : Addr) (h0 : Heap) (n0 : Nat) (v : Option Value) (h : Heap) (L : List Loc) : Prop := Fr n0 L ∧ h = h0 ∧ ((v = some (.ref a_FALSE)))
set_option maxRecDepth 65536 in
set_option maxHeartbeats 40000000 in
theorem rm3_3 (l : Launch) (Z : State) (a0 : Array Value) (hw : ∀ d ∈ tables_1, d.before a0 Z = true) (ws : List Jvm.Cond) (a_TRUE : Addr) (a_UNKNOWN : Addr) (a_FALSE : Addr) (h0 : Heap) (n0 : Nat) (O0 : Old Z n0 h0) (HE : Env1 Z a_TRUE a_UNKNOWN a_FALSE)  :
    MetFree l M2 (head1 (Jvm.Cond.code M2 prog_32_method_4_code 1 (some (.object "com/example/herald4/herald4/filter/Truth")) :: ws) ({ frames := 0, cells := 0, slots := 0, locals := 0 } : Room)) (fun a U => a = #[(.int (0 : Int32))] ∧ Z.Warmed39 U.vm ∧ U.heap = h0) (fun _ _ _ _ _ => True) (fun _ U o U' => ∃ v L, o = .returned v ∧ Q3_3 Z a_TRUE a_UNKNOWN a_FALSE h0 n0 v U'.heap L ∧ FrameEnd U o U' L ({ frames := 0, cells := 0, slots := 0, locals := 0 } : Room).cells ({ frames := 0, cells := 0, slots := 0, locals := 0 } : Room).slots) := by
 refine MetFree.of_bodySF (plainFor_of_name pn1) hisR ?_
 intro p e s m args below meth c s₁ Bd hml0 hP hK
 obtain ⟨rfl, hZ, hh⟩ := hP
 have hx := Bd.exec
 have hby := Bd.bytes
 have hml : c.maxLocals = 1 := hml0
 have hown : s.vm.findClass "com/example/herald4/herald4/filter/Truth" = some m.cls := findClass_of_methodNamed Bd.named
 have hnm := (name_of_methodNamed Bd.named Bd.method).1
 have X0 : Stand p l e ({ frames := 0, cells := 0, slots := 0, locals := 0 } : Room) s m #[(.int (0 : Int32))] below meth c s₁ [] 0 0 := Stand.of_body Bd
 have e0 : s₁.heap = h0 := by rw [← hh, Bd.state]; rfl
 have N0 := Fr.nil n0
 let S0 : State → Prop := fun t => Steps p.tables e below (s₁.setTop (entryFrame m #[(.int (0 : Int32))] 1)) t
 have p0 : ∀ t, St p e below s₁ (mkF m 0 #[.val (.int (0 : Int32))] []) t → S0 t := fun t k => castTop (ef3 m (0 : Int32)) k
 have HE' := HE
 obtain ⟨Sa_TRUE, Ea_TRUE, Sa_UNKNOWN, Ea_UNKNOWN, Fa_TRUE_ordinal, Fa_UNKNOWN_ordinal, Sa_FALSE, Ea_FALSE, Fa_FALSE_ordinal⟩ := HE
 have p1 : ∀ t, St p e below s₁ (mkF m 10 #[.val (.int (0 : Int32))] []) t → S0 t := fun t k => p0 t (by
   show St p e below s₁ (mkF m 0 #[.val (.int (0 : Int32))] []) t
   refine XS.iloadN X0.here hx rfl (hb hby d3_0) rfl ?_
   show St p e below s₁ (mkF m 1 #[.val (.int (0 : Int32))] [(.int (0 : Int32))]) t
   refine XS.ifYes X0.here hx rfl (pc0 := 1) (pc' := 10) rfl (hb hby d3_1) rfl ((if0 _ _).trans (teq (by decide : (0 : Int32) = (0 : Int32))).1) (by decide) (by decide) ?_
   exact k)
 obtain ⟨T2, X2, e2, st2⟩ := getS2 X0 hx hZ hown (host := "") (Or.inl (ww hw 16 rfl)) Via.refl e0 (Sa_FALSE.ext O0.2) (g := (mkF m 10 #[.val (.int (0 : Int32))] [])) rfl (hb hby d3_10)
 have p3 : ∀ t, St p e below T2 (mkF m 13 #[.val (.int (0 : Int32))] [(.ref a_FALSE)]) t → S0 t := fun t k => p1 t (st2 t k)
 obtain ⟨fs, hr, hrun, hended, hW, hsame⟩ := X2.leave (v := some (.ref a_FALSE)) (fun h => by rw [Bd.returns] at h; cases h)
 refine ⟨_, _, p3 _ ?_, hrun, hended, _, _, rfl, ?_, ⟨_, rfl⟩, hW, hsame.mono (by decide) (by decide)⟩
 · exact retOut X2 hx Bd.returns rfl (Or.inr (Or.inr (Or.inr (Or.inr ⟨rfl, rfl, rfl⟩)))) (hb hby d3_13) hr
 · show Q3_3 Z a_TRUE a_UNKNOWN a_FALSE h0 n0 _ T2.heap _
   exact ⟨N0, e2, rfl⟩
theorem pd2 : parseMethodDescriptor "(Z)Lcom/example/herald4/herald4/filter/Truth;" = some ⟨[.boolean], some (.object "com/example/herald4/herald4/filter/Truth")⟩ := by decide +kernel
theorem d3_4 : decode prog_32_method_4_code 4 = .ok (.getstatic 3, 3) := by decide +kernel
theorem d3_7 : decode prog_32_method_4_code 7 = .ok (.goto 6, 3) := by decide +kernel
def Q3_4 (Z : State) (a_TRUE : Addr) (a_UNKNOWN : Addr) (a_FALSE : Addr) (h0 : Heap) (n0 : Nat) (v : Option Value) (h : Heap) (L : List Loc) : Prop := Fr n0 L ∧ h = h0 ∧ ((v = some (.ref a_TRUE)))
set_option maxRecDepth 65536 in
set_option maxHeartbeats 40000000 in
theorem rm3_4 (l : Launch) (Z : State) (a0 : Array Value) (hw : ∀ d ∈ tables_1, d.before a0 Z = true) (ws : List Jvm.Cond) (a_TRUE : Addr) (a_UNKNOWN : Addr) (a_FALSE : Addr) (h0 : Heap) (n0 : Nat) (O0 : Old Z n0 h0) (HE : Env1 Z a_TRUE a_UNKNOWN a_FALSE)  :
    MetFree l M2 (head1 (Jvm.Cond.code M2 prog_32_method_4_code 1 (some (.object "com/example/herald4/herald4/filter/Truth")) :: ws) ({ frames := 0, cells := 0, slots := 0, locals := 0 } : Room)) (fun a U => a = #[(.int (1 : Int32))] ∧ Z.Warmed39 U.vm ∧ U.heap = h0) (fun _ _ _ _ _ => True) (fun _ U o U' => ∃ v L, o = .returned v ∧ Q3_4 Z a_TRUE a_UNKNOWN a_FALSE h0 n0 v U'.heap L ∧ FrameEnd U o U' L ({ frames := 0, cells := 0, slots := 0, locals := 0 } : Room).cells ({ frames := 0, cells := 0, slots := 0, locals := 0 } : Room).slots) := by
 refine MetFree.of_bodySF (plainFor_of_name pn1) hisR ?_
 intro p e s m args below meth c s₁ Bd hml0 hP hK
 obtain ⟨rfl, hZ, hh⟩ := hP
 have hx := Bd.exec
 have hby := Bd.bytes
 have hml : c.maxLocals = 1 := hml0
 have hown : s.vm.findClass "com/example/herald4/herald4/filter/Truth" = some m.cls := findClass_of_methodNamed Bd.named
 have hnm := (name_of_methodNamed Bd.named Bd.method).1
 have X0 : Stand p l e ({ frames := 0, cells := 0, slots := 0, locals := 0 } : Room) s m #[(.int (1 : Int32))] below meth c s₁ [] 0 0 := Stand.of_body Bd
 have e0 : s₁.heap = h0 := by rw [← hh, Bd.state]; rfl
 have N0 := Fr.nil n0
 let S0 : State → Prop := fun t => Steps p.tables e below (s₁.setTop (entryFrame m #[(.int (1 : Int32))] 1)) t
 have p0 : ∀ t, St p e below s₁ (mkF m 0 #[.val (.int (1 : Int32))] []) t → S0 t := fun t k => castTop (ef3 m (1 : Int32)) k
 have HE' := HE
 obtain ⟨Sa_TRUE, Ea_TRUE, Sa_UNKNOWN, Ea_UNKNOWN, Fa_TRUE_ordinal, Fa_UNKNOWN_ordinal, Sa_FALSE, Ea_FALSE, Fa_FALSE_ordinal⟩ := HE
 have p1 : ∀ t, St p e below s₁ (mkF m 4 #[.val (.int (1 : Int32))] []) t → S0 t := fun t k => p0 t (by
   show St p e below s₁ (mkF m 0 #[.val (.int (1 : Int32))] []) t
   refine XS.iloadN X0.here hx rfl (hb hby d3_0) rfl ?_
   show St p e below s₁ (mkF m 1 #[.val (.int (1 : Int32))] [(.int (1 : Int32))]) t
   refine XS.ifNo X0.here hx rfl (hb hby d3_1) rfl ((if0 _ _).trans (feq (by decide : ¬ ((1 : Int32) = (0 : Int32)))).1) ?_
   exact k)
 obtain ⟨T2, X2, e2, st2⟩ := getS2 X0 hx hZ hown (host := "") (Or.inl (ww hw 15 rfl)) Via.refl e0 (Sa_TRUE.ext O0.2) (g := (mkF m 4 #[.val (.int (1 : Int32))] [])) rfl (hb hby d3_4)
 have p3 : ∀ t, St p e below T2 (mkF m 7 #[.val (.int (1 : Int32))] [(.ref a_TRUE)]) t → S0 t := fun t k => p1 t (st2 t k)
 have p4 : ∀ t, St p e below T2 (mkF m 13 #[.val (.int (1 : Int32))] [(.ref a_TRUE)]) t → S0 t := fun t k => p3 t (by
   show St p e below T2 (mkF m 7 #[.val (.int (1 : Int32))] [(.ref a_TRUE)]) t
   refine XS.goto X2.here hx rfl (pc0 := 7) (pc' := 13) rfl (hb hby d3_7) (by decide) (by decide) ?_
   exact k)
 obtain ⟨fs, hr, hrun, hended, hW, hsame⟩ := X2.leave (v := some (.ref a_TRUE)) (fun h => by rw [Bd.returns] at h; cases h)
 refine ⟨_, _, p4 _ ?_, hrun, hended, _, _, rfl, ?_, ⟨_, rfl⟩, hW, hsame.mono (by decide) (by decide)⟩
 · exact retOut X2 hx Bd.returns rfl (Or.inr (Or.inr (Or.inr (Or.inr ⟨rfl, rfl, rfl⟩)))) (hb hby d3_13) hr
 · show Q3_4 Z a_TRUE a_UNKNOWN a_FALSE h0 n0 _ T2.heap _
   exact ⟨N0, e2, rfl⟩
theorem ef4 (m : MethodId) (x0 : Addr) (x1 : Addr) : entryFrame m #[(.ref x0), (.ref x1)] 3 = mkF m 0 #[.val (.ref x0), .val (.ref x1), .unset] [] := by first | (simp [entryFrame, mkF, argsToLocals, Value.category]; done) | rfl
theorem d4_0 : decode prog_32_method_6_code 0 = .ok (.aload_n 0, 1) := by decide +kernel
theorem d4_1 : decode prog_32_method_6_code 1 = .ok (.getstatic 7, 3) := by decide +kernel
theorem d4_4 : decode prog_32_method_6_code 4 = .ok (.if_acmp .eq 10, 3) := by decide +kernel
theorem d4_7 : decode prog_32_method_6_code 7 = .ok (.aload_n 1, 1) := by decide +kernel
theorem d4_8 : decode prog_32_method_6_code 8 = .ok (.getstatic 7, 3) := by decide +kernel
theorem d4_11 : decode prog_32_method_6_code 11 = .ok (.if_acmp .ne 10, 3) := by decide +kernel
theorem d4_21 : decode prog_32_method_6_code 21 = .ok (.aload_n 0, 1) := by decide +kernel
theorem d4_22 : decode prog_32_method_6_code 22 = .ok (.getstatic 10, 3) := by decide +kernel
theorem d4_25 : decode prog_32_method_6_code 25 = .ok (.if_acmp .eq 10, 3) := by decide +kernel
theorem d4_28 : decode prog_32_method_6_code 28 = .ok (.aload_n 1, 1) := by decide +kernel
theorem d4_29 : decode prog_32_method_6_code 29 = .ok (.getstatic 10, 3) := by decide +kernel
theorem d4_32 : decode prog_32_method_6_code 32 = .ok (.if_acmp .ne 10, 3) := by decide +kernel
theorem d4_42 : decode prog_32_method_6_code 42 = .ok (.getstatic 3, 3) := by decide +kernel
theorem d4_45 : decode prog_32_method_6_code 45 = .ok (.astore_n 2, 1) := by decide +kernel
theorem d4_46 : decode prog_32_method_6_code 46 = .ok (.aload_n 2, 1) := by decide +kernel
theorem d4_47 : decode prog_32_method_6_code 47 = .ok (.areturn, 1) := by decide +kernel
def Q4_5 (Z : State) (a_TRUE : Addr) (a_UNKNOWN : Addr) (a_FALSE : Addr) (h0 : Heap) (n0 : Nat) (v : Option Value) (h : Heap) (L : List Loc) : Prop := Fr n0 L ∧ h = h0 ∧ ((v = some (.ref a_TRUE)))
set_option maxRecDepth 65536 in
set_option maxHeartbeats 40000000 in
theorem rm4_5 (l : Launch) (Z : State) (a0 : Array Value) (hw : ∀ d ∈ tables_1, d.before a0 Z = true) (ws : List Jvm.Cond) (a_TRUE : Addr) (a_UNKNOWN : Addr) (a_FALSE : Addr) (h0 : Heap) (n0 : Nat) (O0 : Old Z n0 h0) (HE : Env1 Z a_TRUE a_UNKNOWN a_FALSE)  :
    MetFree l M3 (head1 (Jvm.Cond.code M3 prog_32_method_6_code 3 (some (.object "com/example/herald4/herald4/filter/Truth")) :: ws) ({ frames := 0, cells := 0, slots := 0, locals := 0 } : Room)) (fun a U => a = #[(.ref a_TRUE), (.ref a_TRUE)] ∧ Z.Warmed39 U.vm ∧ U.heap = h0) (fun _ _ _ _ _ => True) (fun _ U o U' => ∃ v L, o = .returned v ∧ Q4_5 Z a_TRUE a_UNKNOWN a_FALSE h0 n0 v U'.heap L ∧ FrameEnd U o U' L ({ frames := 0, cells := 0, slots := 0, locals := 0 } : Room).cells ({ frames := 0, cells := 0, slots := 0, locals := 0 } : Room).slots) := by
 refine MetFree.of_bodySF (plainFor_of_name pn1) hisR ?_
 intro p e s m args below meth c s₁ Bd hml0 hP hK
 obtain ⟨rfl, hZ, hh⟩ := hP
 have hx := Bd.exec
 have hby := Bd.bytes
 have hml : c.maxLocals = 3 := hml0
 have hown : s.vm.findClass "com/example/herald4/herald4/filter/Truth" = some m.cls := findClass_of_methodNamed Bd.named
 have hnm := (name_of_methodNamed Bd.named Bd.method).1
 have X0 : Stand p l e ({ frames := 0, cells := 0, slots := 0, locals := 0 } : Room) s m #[(.ref a_TRUE), (.ref a_TRUE)] below meth c s₁ [] 0 0 := Stand.of_body Bd
 have e0 : s₁.heap = h0 := by rw [← hh, Bd.state]; rfl
 have N0 := Fr.nil n0
 let S0 : State → Prop := fun t => Steps p.tables e below (s₁.setTop (entryFrame m #[(.ref a_TRUE), (.ref a_TRUE)] 3)) t
 have p0 : ∀ t, St p e below s₁ (mkF m 0 #[.val (.ref a_TRUE), .val (.ref a_TRUE), .unset] []) t → S0 t := fun t k => castTop (ef4 m a_TRUE a_TRUE) k
 have HE' := HE
 obtain ⟨Sa_TRUE, Ea_TRUE, Sa_UNKNOWN, Ea_UNKNOWN, Fa_TRUE_ordinal, Fa_UNKNOWN_ordinal, Sa_FALSE, Ea_FALSE, Fa_FALSE_ordinal⟩ := HE
 have p1 : ∀ t, St p e below s₁ (mkF m 1 #[.val (.ref a_TRUE), .val (.ref a_TRUE), .unset] [(.ref a_TRUE)]) t → S0 t := fun t k => p0 t (by
   show St p e below s₁ (mkF m 0 #[.val (.ref a_TRUE), .val (.ref a_TRUE), .unset] []) t
   refine XS.aloadN X0.here hx rfl (hb hby d4_0) rfl rfl ?_
   exact k)
 obtain ⟨T2, X2, e2, st2⟩ := getS2 X0 hx hZ hown (host := "") (Or.inl (ww hw 16 rfl)) Via.refl e0 (Sa_FALSE.ext O0.2) (g := (mkF m 1 #[.val (.ref a_TRUE), .val (.ref a_TRUE), .unset] [(.ref a_TRUE)])) rfl (hb hby d4_1)
 have p3 : ∀ t, St p e below T2 (mkF m 4 #[.val (.ref a_TRUE), .val (.ref a_TRUE), .unset] [(.ref a_FALSE), (.ref a_TRUE)]) t → S0 t := fun t k => p1 t (st2 t k)
 have p4 : ∀ t, St p e below T2 (mkF m 8 #[.val (.ref a_TRUE), .val (.ref a_TRUE), .unset] [(.ref a_TRUE)]) t → S0 t := fun t k => p3 t (by
   show St p e below T2 (mkF m 4 #[.val (.ref a_TRUE), .val (.ref a_TRUE), .unset] [(.ref a_FALSE), (.ref a_TRUE)]) t
   refine Jvm.RoadKit.acmp (g := (mkF m 4 #[.val (.ref a_TRUE), .val (.ref a_TRUE), .unset] [(.ref a_FALSE), (.ref a_TRUE)])) X2 hx rfl rfl rfl (pc0 := 4) (pc' := 7) (same := false) rfl (hb hby d4_4) rfl (decide_eq_false fun q => (Fld.ne Fa_TRUE_ordinal Fa_FALSE_ordinal (fun q => absurd (Value.int.inj q) (by decide))) (Value.ref.inj q)) (by decide) (by decide) ?_
   show St p e below T2 (mkF m 7 #[.val (.ref a_TRUE), .val (.ref a_TRUE), .unset] []) t
   refine XS.aloadN X2.here hx rfl (hb hby d4_7) rfl rfl ?_
   exact k)
 obtain ⟨T5, X5, e5, st5⟩ := getS2 X2 hx hZ hown (host := "") (Or.inl (ww hw 16 rfl)) Via.refl e2 (Sa_FALSE.ext O0.2) (g := (mkF m 8 #[.val (.ref a_TRUE), .val (.ref a_TRUE), .unset] [(.ref a_TRUE)])) rfl (hb hby d4_8)
 have p6 : ∀ t, St p e below T5 (mkF m 11 #[.val (.ref a_TRUE), .val (.ref a_TRUE), .unset] [(.ref a_FALSE), (.ref a_TRUE)]) t → S0 t := fun t k => p4 t (st5 t k)
 have p7 : ∀ t, St p e below T5 (mkF m 22 #[.val (.ref a_TRUE), .val (.ref a_TRUE), .unset] [(.ref a_TRUE)]) t → S0 t := fun t k => p6 t (by
   show St p e below T5 (mkF m 11 #[.val (.ref a_TRUE), .val (.ref a_TRUE), .unset] [(.ref a_FALSE), (.ref a_TRUE)]) t
   refine Jvm.RoadKit.acmp (g := (mkF m 11 #[.val (.ref a_TRUE), .val (.ref a_TRUE), .unset] [(.ref a_FALSE), (.ref a_TRUE)])) X5 hx rfl rfl rfl (pc0 := 11) (pc' := 21) (same := false) rfl (hb hby d4_11) rfl (decide_eq_false fun q => (Fld.ne Fa_TRUE_ordinal Fa_FALSE_ordinal (fun q => absurd (Value.int.inj q) (by decide))) (Value.ref.inj q)) (by decide) (by decide) ?_
   show St p e below T5 (mkF m 21 #[.val (.ref a_TRUE), .val (.ref a_TRUE), .unset] []) t
   refine XS.aloadN X5.here hx rfl (hb hby d4_21) rfl rfl ?_
   exact k)
 obtain ⟨T8, X8, e8, st8⟩ := getS2 X5 hx hZ hown (host := "") (Or.inl (ww hw 13 rfl)) Via.refl e5 (Sa_UNKNOWN.ext O0.2) (g := (mkF m 22 #[.val (.ref a_TRUE), .val (.ref a_TRUE), .unset] [(.ref a_TRUE)])) rfl (hb hby d4_22)
 have p9 : ∀ t, St p e below T8 (mkF m 25 #[.val (.ref a_TRUE), .val (.ref a_TRUE), .unset] [(.ref a_UNKNOWN), (.ref a_TRUE)]) t → S0 t := fun t k => p7 t (st8 t k)
 have p10 : ∀ t, St p e below T8 (mkF m 29 #[.val (.ref a_TRUE), .val (.ref a_TRUE), .unset] [(.ref a_TRUE)]) t → S0 t := fun t k => p9 t (by
   show St p e below T8 (mkF m 25 #[.val (.ref a_TRUE), .val (.ref a_TRUE), .unset] [(.ref a_UNKNOWN), (.ref a_TRUE)]) t
   refine Jvm.RoadKit.acmp (g := (mkF m 25 #[.val (.ref a_TRUE), .val (.ref a_TRUE), .unset] [(.ref a_UNKNOWN), (.ref a_TRUE)])) X8 hx rfl rfl rfl (pc0 := 25) (pc' := 28) (same := false) rfl (hb hby d4_25) rfl (decide_eq_false fun q => (Fld.ne Fa_TRUE_ordinal Fa_UNKNOWN_ordinal (fun q => absurd (Value.int.inj q) (by decide))) (Value.ref.inj q)) (by decide) (by decide) ?_
   show St p e below T8 (mkF m 28 #[.val (.ref a_TRUE), .val (.ref a_TRUE), .unset] []) t
   refine XS.aloadN X8.here hx rfl (hb hby d4_28) rfl rfl ?_
   exact k)
 obtain ⟨T11, X11, e11, st11⟩ := getS2 X8 hx hZ hown (host := "") (Or.inl (ww hw 13 rfl)) Via.refl e8 (Sa_UNKNOWN.ext O0.2) (g := (mkF m 29 #[.val (.ref a_TRUE), .val (.ref a_TRUE), .unset] [(.ref a_TRUE)])) rfl (hb hby d4_29)
 have p12 : ∀ t, St p e below T11 (mkF m 32 #[.val (.ref a_TRUE), .val (.ref a_TRUE), .unset] [(.ref a_UNKNOWN), (.ref a_TRUE)]) t → S0 t := fun t k => p10 t (st11 t k)
 have p13 : ∀ t, St p e below T11 (mkF m 42 #[.val (.ref a_TRUE), .val (.ref a_TRUE), .unset] []) t → S0 t := fun t k => p12 t (by
   show St p e below T11 (mkF m 32 #[.val (.ref a_TRUE), .val (.ref a_TRUE), .unset] [(.ref a_UNKNOWN), (.ref a_TRUE)]) t
   refine Jvm.RoadKit.acmp (g := (mkF m 32 #[.val (.ref a_TRUE), .val (.ref a_TRUE), .unset] [(.ref a_UNKNOWN), (.ref a_TRUE)])) X11 hx rfl rfl rfl (pc0 := 32) (pc' := 42) (same := false) rfl (hb hby d4_32) rfl (decide_eq_false fun q => (Fld.ne Fa_TRUE_ordinal Fa_UNKNOWN_ordinal (fun q => absurd (Value.int.inj q) (by decide))) (Value.ref.inj q)) (by decide) (by decide) ?_
   exact k)
 obtain ⟨T14, X14, e14, st14⟩ := getS2 X11 hx hZ hown (host := "") (Or.inl (ww hw 15 rfl)) Via.refl e11 (Sa_TRUE.ext O0.2) (g := (mkF m 42 #[.val (.ref a_TRUE), .val (.ref a_TRUE), .unset] [])) rfl (hb hby d4_42)
 have p15 : ∀ t, St p e below T14 (mkF m 45 #[.val (.ref a_TRUE), .val (.ref a_TRUE), .unset] [(.ref a_TRUE)]) t → S0 t := fun t k => p13 t (st14 t k)
 let Ls16 : Array Slot := #[.val (.ref a_TRUE), .val (.ref a_TRUE), .val (.ref a_TRUE)]
 have p17 : ∀ t, St p e below T14 (mkF m 47 Ls16 [(.ref a_TRUE)]) t → S0 t := fun t k => p15 t (by
   show St p e below T14 (mkF m 45 #[.val (.ref a_TRUE), .val (.ref a_TRUE), .unset] [(.ref a_TRUE)]) t
   refine XS.astoreN X14.here hx rfl (hb hby d4_45) rfl rfl (l' := Ls16) rfl ?_
   show St p e below T14 (mkF m 46 Ls16 []) t
   refine XS.aloadN X14.here hx rfl (hb hby d4_46) rfl rfl ?_
   exact k)
 obtain ⟨fs, hr, hrun, hended, hW, hsame⟩ := X14.leave (v := some (.ref a_TRUE)) (fun h => by rw [Bd.returns] at h; cases h)
 refine ⟨_, _, p17 _ ?_, hrun, hended, _, _, rfl, ?_, ⟨_, rfl⟩, hW, hsame.mono (by decide) (by decide)⟩
 · exact retOut X14 hx Bd.returns rfl (Or.inr (Or.inr (Or.inr (Or.inr ⟨rfl, rfl, rfl⟩)))) (hb hby d4_47) hr
 · show Q4_5 Z a_TRUE a_UNKNOWN a_FALSE h0 n0 _ T14.heap _
   exact ⟨N0, e14, rfl⟩
theorem pd3 : parseMethodDescriptor "(Lcom/example/herald4/herald4/filter/Truth;)Lcom/example/herald4/herald4/filter/Truth;" = some ⟨[(.object "com/example/herald4/herald4/filter/Truth")], some (.object "com/example/herald4/herald4/filter/Truth")⟩ := by decide +kernel
theorem ef5 (m : MethodId) (x0 : Addr) (x1 : Addr) : entryFrame m #[(.ref x0), (.ref x1)] 3 = mkF m 0 #[.val (.ref x0), .val (.ref x1), .unset] [] := by first | (simp [entryFrame, mkF, argsToLocals, Value.category]; done) | rfl
theorem d5_0 : decode prog_32_method_7_code 0 = .ok (.aload_n 0, 1) := by decide +kernel
theorem d5_1 : decode prog_32_method_7_code 1 = .ok (.getstatic 3, 3) := by decide +kernel
theorem d5_4 : decode prog_32_method_7_code 4 = .ok (.if_acmp .eq 10, 3) := by decide +kernel
theorem d5_7 : decode prog_32_method_7_code 7 = .ok (.aload_n 1, 1) := by decide +kernel
theorem d5_8 : decode prog_32_method_7_code 8 = .ok (.getstatic 3, 3) := by decide +kernel
theorem d5_11 : decode prog_32_method_7_code 11 = .ok (.if_acmp .ne 10, 3) := by decide +kernel
theorem d5_21 : decode prog_32_method_7_code 21 = .ok (.aload_n 0, 1) := by decide +kernel
theorem d5_22 : decode prog_32_method_7_code 22 = .ok (.getstatic 10, 3) := by decide +kernel
theorem d5_25 : decode prog_32_method_7_code 25 = .ok (.if_acmp .eq 10, 3) := by decide +kernel
theorem d5_28 : decode prog_32_method_7_code 28 = .ok (.aload_n 1, 1) := by decide +kernel
theorem d5_29 : decode prog_32_method_7_code 29 = .ok (.getstatic 10, 3) := by decide +kernel
theorem d5_32 : decode prog_32_method_7_code 32 = .ok (.if_acmp .ne 10, 3) := by decide +kernel
theorem d5_42 : decode prog_32_method_7_code 42 = .ok (.getstatic 7, 3) := by decide +kernel
theorem d5_45 : decode prog_32_method_7_code 45 = .ok (.astore_n 2, 1) := by decide +kernel
theorem d5_46 : decode prog_32_method_7_code 46 = .ok (.aload_n 2, 1) := by decide +kernel
theorem d5_47 : decode prog_32_method_7_code 47 = .ok (.areturn, 1) := by decide +kernel
def Q5_6 (Z : State) (a_TRUE : Addr) (a_UNKNOWN : Addr) (a_FALSE : Addr) (h0 : Heap) (n0 : Nat) (v : Option Value) (h : Heap) (L : List Loc) : Prop := Fr n0 L ∧ h = h0 ∧ ((v = some (.ref a_FALSE)))
set_option maxRecDepth 65536 in
set_option maxHeartbeats 40000000 in
theorem rm5_6 (l : Launch) (Z : State) (a0 : Array Value) (hw : ∀ d ∈ tables_1, d.before a0 Z = true) (ws : List Jvm.Cond) (a_TRUE : Addr) (a_UNKNOWN : Addr) (a_FALSE : Addr) (h0 : Heap) (n0 : Nat) (O0 : Old Z n0 h0) (HE : Env1 Z a_TRUE a_UNKNOWN a_FALSE)  :
    MetFree l M4 (head1 (Jvm.Cond.code M4 prog_32_method_7_code 3 (some (.object "com/example/herald4/herald4/filter/Truth")) :: ws) ({ frames := 0, cells := 0, slots := 0, locals := 0 } : Room)) (fun a U => a = #[(.ref a_FALSE), (.ref a_FALSE)] ∧ Z.Warmed39 U.vm ∧ U.heap = h0) (fun _ _ _ _ _ => True) (fun _ U o U' => ∃ v L, o = .returned v ∧ Q5_6 Z a_TRUE a_UNKNOWN a_FALSE h0 n0 v U'.heap L ∧ FrameEnd U o U' L ({ frames := 0, cells := 0, slots := 0, locals := 0 } : Room).cells ({ frames := 0, cells := 0, slots := 0, locals := 0 } : Room).slots) := by
 refine MetFree.of_bodySF (plainFor_of_name pn1) hisR ?_
 intro p e s m args below meth c s₁ Bd hml0 hP hK
 obtain ⟨rfl, hZ, hh⟩ := hP
 have hx := Bd.exec
 have hby := Bd.bytes
 have hml : c.maxLocals = 3 := hml0
 have hown : s.vm.findClass "com/example/herald4/herald4/filter/Truth" = some m.cls := findClass_of_methodNamed Bd.named
 have hnm := (name_of_methodNamed Bd.named Bd.method).1
 have X0 : Stand p l e ({ frames := 0, cells := 0, slots := 0, locals := 0 } : Room) s m #[(.ref a_FALSE), (.ref a_FALSE)] below meth c s₁ [] 0 0 := Stand.of_body Bd
 have e0 : s₁.heap = h0 := by rw [← hh, Bd.state]; rfl
 have N0 := Fr.nil n0
 let S0 : State → Prop := fun t => Steps p.tables e below (s₁.setTop (entryFrame m #[(.ref a_FALSE), (.ref a_FALSE)] 3)) t
 have p0 : ∀ t, St p e below s₁ (mkF m 0 #[.val (.ref a_FALSE), .val (.ref a_FALSE), .unset] []) t → S0 t := fun t k => castTop (ef5 m a_FALSE a_FALSE) k
 have HE' := HE
 obtain ⟨Sa_TRUE, Ea_TRUE, Sa_UNKNOWN, Ea_UNKNOWN, Fa_TRUE_ordinal, Fa_UNKNOWN_ordinal, Sa_FALSE, Ea_FALSE, Fa_FALSE_ordinal⟩ := HE
 have p1 : ∀ t, St p e below s₁ (mkF m 1 #[.val (.ref a_FALSE), .val (.ref a_FALSE), .unset] [(.ref a_FALSE)]) t → S0 t := fun t k => p0 t (by
   show St p e below s₁ (mkF m 0 #[.val (.ref a_FALSE), .val (.ref a_FALSE), .unset] []) t
   refine XS.aloadN X0.here hx rfl (hb hby d5_0) rfl rfl ?_
   exact k)
 obtain ⟨T2, X2, e2, st2⟩ := getS2 X0 hx hZ hown (host := "") (Or.inl (ww hw 15 rfl)) Via.refl e0 (Sa_TRUE.ext O0.2) (g := (mkF m 1 #[.val (.ref a_FALSE), .val (.ref a_FALSE), .unset] [(.ref a_FALSE)])) rfl (hb hby d5_1)
 have p3 : ∀ t, St p e below T2 (mkF m 4 #[.val (.ref a_FALSE), .val (.ref a_FALSE), .unset] [(.ref a_TRUE), (.ref a_FALSE)]) t → S0 t := fun t k => p1 t (st2 t k)
 have p4 : ∀ t, St p e below T2 (mkF m 8 #[.val (.ref a_FALSE), .val (.ref a_FALSE), .unset] [(.ref a_FALSE)]) t → S0 t := fun t k => p3 t (by
   show St p e below T2 (mkF m 4 #[.val (.ref a_FALSE), .val (.ref a_FALSE), .unset] [(.ref a_TRUE), (.ref a_FALSE)]) t
   refine Jvm.RoadKit.acmp (g := (mkF m 4 #[.val (.ref a_FALSE), .val (.ref a_FALSE), .unset] [(.ref a_TRUE), (.ref a_FALSE)])) X2 hx rfl rfl rfl (pc0 := 4) (pc' := 7) (same := false) rfl (hb hby d5_4) rfl (decide_eq_false fun q => (Fld.ne Fa_FALSE_ordinal Fa_TRUE_ordinal (fun q => absurd (Value.int.inj q) (by decide))) (Value.ref.inj q)) (by decide) (by decide) ?_
   show St p e below T2 (mkF m 7 #[.val (.ref a_FALSE), .val (.ref a_FALSE), .unset] []) t
   refine XS.aloadN X2.here hx rfl (hb hby d5_7) rfl rfl ?_
   exact k)
 obtain ⟨T5, X5, e5, st5⟩ := getS2 X2 hx hZ hown (host := "") (Or.inl (ww hw 15 rfl)) Via.refl e2 (Sa_TRUE.ext O0.2) (g := (mkF m 8 #[.val (.ref a_FALSE), .val (.ref a_FALSE), .unset] [(.ref a_FALSE)])) rfl (hb hby d5_8)
 have p6 : ∀ t, St p e below T5 (mkF m 11 #[.val (.ref a_FALSE), .val (.ref a_FALSE), .unset] [(.ref a_TRUE), (.ref a_FALSE)]) t → S0 t := fun t k => p4 t (st5 t k)
 have p7 : ∀ t, St p e below T5 (mkF m 22 #[.val (.ref a_FALSE), .val (.ref a_FALSE), .unset] [(.ref a_FALSE)]) t → S0 t := fun t k => p6 t (by
   show St p e below T5 (mkF m 11 #[.val (.ref a_FALSE), .val (.ref a_FALSE), .unset] [(.ref a_TRUE), (.ref a_FALSE)]) t
   refine Jvm.RoadKit.acmp (g := (mkF m 11 #[.val (.ref a_FALSE), .val (.ref a_FALSE), .unset] [(.ref a_TRUE), (.ref a_FALSE)])) X5 hx rfl rfl rfl (pc0 := 11) (pc' := 21) (same := false) rfl (hb hby d5_11) rfl (decide_eq_false fun q => (Fld.ne Fa_FALSE_ordinal Fa_TRUE_ordinal (fun q => absurd (Value.int.inj q) (by decide))) (Value.ref.inj q)) (by decide) (by decide) ?_
   show St p e below T5 (mkF m 21 #[.val (.ref a_FALSE), .val (.ref a_FALSE), .unset] []) t
   refine XS.aloadN X5.here hx rfl (hb hby d5_21) rfl rfl ?_
   exact k)
 obtain ⟨T8, X8, e8, st8⟩ := getS2 X5 hx hZ hown (host := "") (Or.inl (ww hw 13 rfl)) Via.refl e5 (Sa_UNKNOWN.ext O0.2) (g := (mkF m 22 #[.val (.ref a_FALSE), .val (.ref a_FALSE), .unset] [(.ref a_FALSE)])) rfl (hb hby d5_22)
 have p9 : ∀ t, St p e below T8 (mkF m 25 #[.val (.ref a_FALSE), .val (.ref a_FALSE), .unset] [(.ref a_UNKNOWN), (.ref a_FALSE)]) t → S0 t := fun t k => p7 t (st8 t k)
 have p10 : ∀ t, St p e below T8 (mkF m 29 #[.val (.ref a_FALSE), .val (.ref a_FALSE), .unset] [(.ref a_FALSE)]) t → S0 t := fun t k => p9 t (by
   show St p e below T8 (mkF m 25 #[.val (.ref a_FALSE), .val (.ref a_FALSE), .unset] [(.ref a_UNKNOWN), (.ref a_FALSE)]) t
   refine Jvm.RoadKit.acmp (g := (mkF m 25 #[.val (.ref a_FALSE), .val (.ref a_FALSE), .unset] [(.ref a_UNKNOWN), (.ref a_FALSE)])) X8 hx rfl rfl rfl (pc0 := 25) (pc' := 28) (same := false) rfl (hb hby d5_25) rfl (decide_eq_false fun q => (Fld.ne Fa_FALSE_ordinal Fa_UNKNOWN_ordinal (fun q => absurd (Value.int.inj q) (by decide))) (Value.ref.inj q)) (by decide) (by decide) ?_
   show St p e below T8 (mkF m 28 #[.val (.ref a_FALSE), .val (.ref a_FALSE), .unset] []) t
   refine XS.aloadN X8.here hx rfl (hb hby d5_28) rfl rfl ?_
   exact k)
 obtain ⟨T11, X11, e11, st11⟩ := getS2 X8 hx hZ hown (host := "") (Or.inl (ww hw 13 rfl)) Via.refl e8 (Sa_UNKNOWN.ext O0.2) (g := (mkF m 29 #[.val (.ref a_FALSE), .val (.ref a_FALSE), .unset] [(.ref a_FALSE)])) rfl (hb hby d5_29)
 have p12 : ∀ t, St p e below T11 (mkF m 32 #[.val (.ref a_FALSE), .val (.ref a_FALSE), .unset] [(.ref a_UNKNOWN), (.ref a_FALSE)]) t → S0 t := fun t k => p10 t (st11 t k)
 have p13 : ∀ t, St p e below T11 (mkF m 42 #[.val (.ref a_FALSE), .val (.ref a_FALSE), .unset] []) t → S0 t := fun t k => p12 t (by
   show St p e below T11 (mkF m 32 #[.val (.ref a_FALSE), .val (.ref a_FALSE), .unset] [(.ref a_UNKNOWN), (.ref a_FALSE)]) t
   refine Jvm.RoadKit.acmp (g := (mkF m 32 #[.val (.ref a_FALSE), .val (.ref a_FALSE), .unset] [(.ref a_UNKNOWN), (.ref a_FALSE)])) X11 hx rfl rfl rfl (pc0 := 32) (pc' := 42) (same := false) rfl (hb hby d5_32) rfl (decide_eq_false fun q => (Fld.ne Fa_FALSE_ordinal Fa_UNKNOWN_ordinal (fun q => absurd (Value.int.inj q) (by decide))) (Value.ref.inj q)) (by decide) (by decide) ?_
   exact k)
 obtain ⟨T14, X14, e14, st14⟩ := getS2 X11 hx hZ hown (host := "") (Or.inl (ww hw 16 rfl)) Via.refl e11 (Sa_FALSE.ext O0.2) (g := (mkF m 42 #[.val (.ref a_FALSE), .val (.ref a_FALSE), .unset] [])) rfl (hb hby d5_42)
 have p15 : ∀ t, St p e below T14 (mkF m 45 #[.val (.ref a_FALSE), .val (.ref a_FALSE), .unset] [(.ref a_FALSE)]) t → S0 t := fun t k => p13 t (st14 t k)
 let Ls16 : Array Slot := #[.val (.ref a_FALSE), .val (.ref a_FALSE), .val (.ref a_FALSE)]
 have p17 : ∀ t, St p e below T14 (mkF m 47 Ls16 [(.ref a_FALSE)]) t → S0 t := fun t k => p15 t (by
   show St p e below T14 (mkF m 45 #[.val (.ref a_FALSE), .val (.ref a_FALSE), .unset] [(.ref a_FALSE)]) t
   refine XS.astoreN X14.here hx rfl (hb hby d5_45) rfl rfl (l' := Ls16) rfl ?_
   show St p e below T14 (mkF m 46 Ls16 []) t
   refine XS.aloadN X14.here hx rfl (hb hby d5_46) rfl rfl ?_
   exact k)
 obtain ⟨fs, hr, hrun, hended, hW, hsame⟩ := X14.leave (v := some (.ref a_FALSE)) (fun h => by rw [Bd.returns] at h; cases h)
 refine ⟨_, _, p17 _ ?_, hrun, hended, _, _, rfl, ?_, ⟨_, rfl⟩, hW, hsame.mono (by decide) (by decide)⟩
 · exact retOut X14 hx Bd.returns rfl (Or.inr (Or.inr (Or.inr (Or.inr ⟨rfl, rfl, rfl⟩)))) (hb hby d5_47) hr
 · show Q5_6 Z a_TRUE a_UNKNOWN a_FALSE h0 n0 _ T14.heap _
   exact ⟨N0, e14, rfl⟩
theorem d4_14 : decode prog_32_method_6_code 14 = .ok (.getstatic 7, 3) := by decide +kernel
theorem d4_17 : decode prog_32_method_6_code 17 = .ok (.astore_n 2, 1) := by decide +kernel
theorem d4_18 : decode prog_32_method_6_code 18 = .ok (.goto 28, 3) := by decide +kernel
def Q4_7 (Z : State) (a_TRUE : Addr) (a_UNKNOWN : Addr) (a_FALSE : Addr) (h0 : Heap) (n0 : Nat) (v : Option Value) (h : Heap) (L : List Loc) : Prop := Fr n0 L ∧ h = h0 ∧ ((v = some (.ref a_FALSE)))
set_option maxRecDepth 65536 in
set_option maxHeartbeats 40000000 in
theorem rm4_7 (l : Launch) (Z : State) (a0 : Array Value) (hw : ∀ d ∈ tables_1, d.before a0 Z = true) (ws : List Jvm.Cond) (a_TRUE : Addr) (a_UNKNOWN : Addr) (a_FALSE : Addr) (h0 : Heap) (n0 : Nat) (O0 : Old Z n0 h0) (HE : Env1 Z a_TRUE a_UNKNOWN a_FALSE)  :
    MetFree l M3 (head1 (Jvm.Cond.code M3 prog_32_method_6_code 3 (some (.object "com/example/herald4/herald4/filter/Truth")) :: ws) ({ frames := 0, cells := 0, slots := 0, locals := 0 } : Room)) (fun a U => a = #[(.ref a_TRUE), (.ref a_FALSE)] ∧ Z.Warmed39 U.vm ∧ U.heap = h0) (fun _ _ _ _ _ => True) (fun _ U o U' => ∃ v L, o = .returned v ∧ Q4_7 Z a_TRUE a_UNKNOWN a_FALSE h0 n0 v U'.heap L ∧ FrameEnd U o U' L ({ frames := 0, cells := 0, slots := 0, locals := 0 } : Room).cells ({ frames := 0, cells := 0, slots := 0, locals := 0 } : Room).slots) := by
 refine MetFree.of_bodySF (plainFor_of_name pn1) hisR ?_
 intro p e s m args below meth c s₁ Bd hml0 hP hK
 obtain ⟨rfl, hZ, hh⟩ := hP
 have hx := Bd.exec
 have hby := Bd.bytes
 have hml : c.maxLocals = 3 := hml0
 have hown : s.vm.findClass "com/example/herald4/herald4/filter/Truth" = some m.cls := findClass_of_methodNamed Bd.named
 have hnm := (name_of_methodNamed Bd.named Bd.method).1
 have X0 : Stand p l e ({ frames := 0, cells := 0, slots := 0, locals := 0 } : Room) s m #[(.ref a_TRUE), (.ref a_FALSE)] below meth c s₁ [] 0 0 := Stand.of_body Bd
 have e0 : s₁.heap = h0 := by rw [← hh, Bd.state]; rfl
 have N0 := Fr.nil n0
 let S0 : State → Prop := fun t => Steps p.tables e below (s₁.setTop (entryFrame m #[(.ref a_TRUE), (.ref a_FALSE)] 3)) t
 have p0 : ∀ t, St p e below s₁ (mkF m 0 #[.val (.ref a_TRUE), .val (.ref a_FALSE), .unset] []) t → S0 t := fun t k => castTop (ef4 m a_TRUE a_FALSE) k
 have HE' := HE
 obtain ⟨Sa_TRUE, Ea_TRUE, Sa_UNKNOWN, Ea_UNKNOWN, Fa_TRUE_ordinal, Fa_UNKNOWN_ordinal, Sa_FALSE, Ea_FALSE, Fa_FALSE_ordinal⟩ := HE
 have p1 : ∀ t, St p e below s₁ (mkF m 1 #[.val (.ref a_TRUE), .val (.ref a_FALSE), .unset] [(.ref a_TRUE)]) t → S0 t := fun t k => p0 t (by
   show St p e below s₁ (mkF m 0 #[.val (.ref a_TRUE), .val (.ref a_FALSE), .unset] []) t
   refine XS.aloadN X0.here hx rfl (hb hby d4_0) rfl rfl ?_
   exact k)
 obtain ⟨T2, X2, e2, st2⟩ := getS2 X0 hx hZ hown (host := "") (Or.inl (ww hw 16 rfl)) Via.refl e0 (Sa_FALSE.ext O0.2) (g := (mkF m 1 #[.val (.ref a_TRUE), .val (.ref a_FALSE), .unset] [(.ref a_TRUE)])) rfl (hb hby d4_1)
 have p3 : ∀ t, St p e below T2 (mkF m 4 #[.val (.ref a_TRUE), .val (.ref a_FALSE), .unset] [(.ref a_FALSE), (.ref a_TRUE)]) t → S0 t := fun t k => p1 t (st2 t k)
 have p4 : ∀ t, St p e below T2 (mkF m 8 #[.val (.ref a_TRUE), .val (.ref a_FALSE), .unset] [(.ref a_FALSE)]) t → S0 t := fun t k => p3 t (by
   show St p e below T2 (mkF m 4 #[.val (.ref a_TRUE), .val (.ref a_FALSE), .unset] [(.ref a_FALSE), (.ref a_TRUE)]) t
   refine Jvm.RoadKit.acmp (g := (mkF m 4 #[.val (.ref a_TRUE), .val (.ref a_FALSE), .unset] [(.ref a_FALSE), (.ref a_TRUE)])) X2 hx rfl rfl rfl (pc0 := 4) (pc' := 7) (same := false) rfl (hb hby d4_4) rfl (decide_eq_false fun q => (Fld.ne Fa_TRUE_ordinal Fa_FALSE_ordinal (fun q => absurd (Value.int.inj q) (by decide))) (Value.ref.inj q)) (by decide) (by decide) ?_
   show St p e below T2 (mkF m 7 #[.val (.ref a_TRUE), .val (.ref a_FALSE), .unset] []) t
   refine XS.aloadN X2.here hx rfl (hb hby d4_7) rfl rfl ?_
   exact k)
 obtain ⟨T5, X5, e5, st5⟩ := getS2 X2 hx hZ hown (host := "") (Or.inl (ww hw 16 rfl)) Via.refl e2 (Sa_FALSE.ext O0.2) (g := (mkF m 8 #[.val (.ref a_TRUE), .val (.ref a_FALSE), .unset] [(.ref a_FALSE)])) rfl (hb hby d4_8)
 have p6 : ∀ t, St p e below T5 (mkF m 11 #[.val (.ref a_TRUE), .val (.ref a_FALSE), .unset] [(.ref a_FALSE), (.ref a_FALSE)]) t → S0 t := fun t k => p4 t (st5 t k)
 have p7 : ∀ t, St p e below T5 (mkF m 14 #[.val (.ref a_TRUE), .val (.ref a_FALSE), .unset] []) t → S0 t := fun t k => p6 t (by
   show St p e below T5 (mkF m 11 #[.val (.ref a_TRUE), .val (.ref a_FALSE), .unset] [(.ref a_FALSE), (.ref a_FALSE)]) t
   refine Jvm.RoadKit.acmp (g := (mkF m 11 #[.val (.ref a_TRUE), .val (.ref a_FALSE), .unset] [(.ref a_FALSE), (.ref a_FALSE)])) X5 hx rfl rfl rfl (pc0 := 11) (pc' := 14) (same := true) rfl (hb hby d4_11) rfl (decide_eq_true rfl) (by decide) (by decide) ?_
   exact k)
 obtain ⟨T8, X8, e8, st8⟩ := getS2 X5 hx hZ hown (host := "") (Or.inl (ww hw 16 rfl)) Via.refl e5 (Sa_FALSE.ext O0.2) (g := (mkF m 14 #[.val (.ref a_TRUE), .val (.ref a_FALSE), .unset] [])) rfl (hb hby d4_14)
 have p9 : ∀ t, St p e below T8 (mkF m 17 #[.val (.ref a_TRUE), .val (.ref a_FALSE), .unset] [(.ref a_FALSE)]) t → S0 t := fun t k => p7 t (st8 t k)
 let Ls10 : Array Slot := #[.val (.ref a_TRUE), .val (.ref a_FALSE), .val (.ref a_FALSE)]
 have p11 : ∀ t, St p e below T8 (mkF m 47 Ls10 [(.ref a_FALSE)]) t → S0 t := fun t k => p9 t (by
   show St p e below T8 (mkF m 17 #[.val (.ref a_TRUE), .val (.ref a_FALSE), .unset] [(.ref a_FALSE)]) t
   refine XS.astoreN X8.here hx rfl (hb hby d4_17) rfl rfl (l' := Ls10) rfl ?_
   show St p e below T8 (mkF m 18 Ls10 []) t
   refine XS.goto X8.here hx rfl (pc0 := 18) (pc' := 46) rfl (hb hby d4_18) (by decide) (by decide) ?_
   show St p e below T8 (mkF m 46 Ls10 []) t
   refine XS.aloadN X8.here hx rfl (hb hby d4_46) rfl rfl ?_
   exact k)
 obtain ⟨fs, hr, hrun, hended, hW, hsame⟩ := X8.leave (v := some (.ref a_FALSE)) (fun h => by rw [Bd.returns] at h; cases h)
 refine ⟨_, _, p11 _ ?_, hrun, hended, _, _, rfl, ?_, ⟨_, rfl⟩, hW, hsame.mono (by decide) (by decide)⟩
 · exact retOut X8 hx Bd.returns rfl (Or.inr (Or.inr (Or.inr (Or.inr ⟨rfl, rfl, rfl⟩)))) (hb hby d4_47) hr
 · show Q4_7 Z a_TRUE a_UNKNOWN a_FALSE h0 n0 _ T8.heap _
   exact ⟨N0, e8, rfl⟩
theorem d5_14 : decode prog_32_method_7_code 14 = .ok (.getstatic 3, 3) := by decide +kernel
theorem d5_17 : decode prog_32_method_7_code 17 = .ok (.astore_n 2, 1) := by decide +kernel
theorem d5_18 : decode prog_32_method_7_code 18 = .ok (.goto 28, 3) := by decide +kernel
def Q5_8 (Z : State) (a_TRUE : Addr) (a_UNKNOWN : Addr) (a_FALSE : Addr) (h0 : Heap) (n0 : Nat) (v : Option Value) (h : Heap) (L : List Loc) : Prop := Fr n0 L ∧ h = h0 ∧ ((v = some (.ref a_TRUE)))
set_option maxRecDepth 65536 in
set_option maxHeartbeats 40000000 in
theorem rm5_8 (l : Launch) (Z : State) (a0 : Array Value) (hw : ∀ d ∈ tables_1, d.before a0 Z = true) (ws : List Jvm.Cond) (a_TRUE : Addr) (a_UNKNOWN : Addr) (a_FALSE : Addr) (h0 : Heap) (n0 : Nat) (O0 : Old Z n0 h0) (HE : Env1 Z a_TRUE a_UNKNOWN a_FALSE)  :
    MetFree l M4 (head1 (Jvm.Cond.code M4 prog_32_method_7_code 3 (some (.object "com/example/herald4/herald4/filter/Truth")) :: ws) ({ frames := 0, cells := 0, slots := 0, locals := 0 } : Room)) (fun a U => a = #[(.ref a_FALSE), (.ref a_TRUE)] ∧ Z.Warmed39 U.vm ∧ U.heap = h0) (fun _ _ _ _ _ => True) (fun _ U o U' => ∃ v L, o = .returned v ∧ Q5_8 Z a_TRUE a_UNKNOWN a_FALSE h0 n0 v U'.heap L ∧ FrameEnd U o U' L ({ frames := 0, cells := 0, slots := 0, locals := 0 } : Room).cells ({ frames := 0, cells := 0, slots := 0, locals := 0 } : Room).slots) := by
 refine MetFree.of_bodySF (plainFor_of_name pn1) hisR ?_
 intro p e s m args below meth c s₁ Bd hml0 hP hK
 obtain ⟨rfl, hZ, hh⟩ := hP
 have hx := Bd.exec
 have hby := Bd.bytes
 have hml : c.maxLocals = 3 := hml0
 have hown : s.vm.findClass "com/example/herald4/herald4/filter/Truth" = some m.cls := findClass_of_methodNamed Bd.named
 have hnm := (name_of_methodNamed Bd.named Bd.method).1
 have X0 : Stand p l e ({ frames := 0, cells := 0, slots := 0, locals := 0 } : Room) s m #[(.ref a_FALSE), (.ref a_TRUE)] below meth c s₁ [] 0 0 := Stand.of_body Bd
 have e0 : s₁.heap = h0 := by rw [← hh, Bd.state]; rfl
 have N0 := Fr.nil n0
 let S0 : State → Prop := fun t => Steps p.tables e below (s₁.setTop (entryFrame m #[(.ref a_FALSE), (.ref a_TRUE)] 3)) t
 have p0 : ∀ t, St p e below s₁ (mkF m 0 #[.val (.ref a_FALSE), .val (.ref a_TRUE), .unset] []) t → S0 t := fun t k => castTop (ef5 m a_FALSE a_TRUE) k
 have HE' := HE
 obtain ⟨Sa_TRUE, Ea_TRUE, Sa_UNKNOWN, Ea_UNKNOWN, Fa_TRUE_ordinal, Fa_UNKNOWN_ordinal, Sa_FALSE, Ea_FALSE, Fa_FALSE_ordinal⟩ := HE
 have p1 : ∀ t, St p e below s₁ (mkF m 1 #[.val (.ref a_FALSE), .val (.ref a_TRUE), .unset] [(.ref a_FALSE)]) t → S0 t := fun t k => p0 t (by
   show St p e below s₁ (mkF m 0 #[.val (.ref a_FALSE), .val (.ref a_TRUE), .unset] []) t
   refine XS.aloadN X0.here hx rfl (hb hby d5_0) rfl rfl ?_
   exact k)
 obtain ⟨T2, X2, e2, st2⟩ := getS2 X0 hx hZ hown (host := "") (Or.inl (ww hw 15 rfl)) Via.refl e0 (Sa_TRUE.ext O0.2) (g := (mkF m 1 #[.val (.ref a_FALSE), .val (.ref a_TRUE), .unset] [(.ref a_FALSE)])) rfl (hb hby d5_1)
 have p3 : ∀ t, St p e below T2 (mkF m 4 #[.val (.ref a_FALSE), .val (.ref a_TRUE), .unset] [(.ref a_TRUE), (.ref a_FALSE)]) t → S0 t := fun t k => p1 t (st2 t k)
 have p4 : ∀ t, St p e below T2 (mkF m 8 #[.val (.ref a_FALSE), .val (.ref a_TRUE), .unset] [(.ref a_TRUE)]) t → S0 t := fun t k => p3 t (by
   show St p e below T2 (mkF m 4 #[.val (.ref a_FALSE), .val (.ref a_TRUE), .unset] [(.ref a_TRUE), (.ref a_FALSE)]) t
   refine Jvm.RoadKit.acmp (g := (mkF m 4 #[.val (.ref a_FALSE), .val (.ref a_TRUE), .unset] [(.ref a_TRUE), (.ref a_FALSE)])) X2 hx rfl rfl rfl (pc0 := 4) (pc' := 7) (same := false) rfl (hb hby d5_4) rfl (decide_eq_false fun q => (Fld.ne Fa_FALSE_ordinal Fa_TRUE_ordinal (fun q => absurd (Value.int.inj q) (by decide))) (Value.ref.inj q)) (by decide) (by decide) ?_
   show St p e below T2 (mkF m 7 #[.val (.ref a_FALSE), .val (.ref a_TRUE), .unset] []) t
   refine XS.aloadN X2.here hx rfl (hb hby d5_7) rfl rfl ?_
   exact k)
 obtain ⟨T5, X5, e5, st5⟩ := getS2 X2 hx hZ hown (host := "") (Or.inl (ww hw 15 rfl)) Via.refl e2 (Sa_TRUE.ext O0.2) (g := (mkF m 8 #[.val (.ref a_FALSE), .val (.ref a_TRUE), .unset] [(.ref a_TRUE)])) rfl (hb hby d5_8)
 have p6 : ∀ t, St p e below T5 (mkF m 11 #[.val (.ref a_FALSE), .val (.ref a_TRUE), .unset] [(.ref a_TRUE), (.ref a_TRUE)]) t → S0 t := fun t k => p4 t (st5 t k)
 have p7 : ∀ t, St p e below T5 (mkF m 14 #[.val (.ref a_FALSE), .val (.ref a_TRUE), .unset] []) t → S0 t := fun t k => p6 t (by
   show St p e below T5 (mkF m 11 #[.val (.ref a_FALSE), .val (.ref a_TRUE), .unset] [(.ref a_TRUE), (.ref a_TRUE)]) t
   refine Jvm.RoadKit.acmp (g := (mkF m 11 #[.val (.ref a_FALSE), .val (.ref a_TRUE), .unset] [(.ref a_TRUE), (.ref a_TRUE)])) X5 hx rfl rfl rfl (pc0 := 11) (pc' := 14) (same := true) rfl (hb hby d5_11) rfl (decide_eq_true rfl) (by decide) (by decide) ?_
   exact k)
 obtain ⟨T8, X8, e8, st8⟩ := getS2 X5 hx hZ hown (host := "") (Or.inl (ww hw 15 rfl)) Via.refl e5 (Sa_TRUE.ext O0.2) (g := (mkF m 14 #[.val (.ref a_FALSE), .val (.ref a_TRUE), .unset] [])) rfl (hb hby d5_14)
 have p9 : ∀ t, St p e below T8 (mkF m 17 #[.val (.ref a_FALSE), .val (.ref a_TRUE), .unset] [(.ref a_TRUE)]) t → S0 t := fun t k => p7 t (st8 t k)
 let Ls10 : Array Slot := #[.val (.ref a_FALSE), .val (.ref a_TRUE), .val (.ref a_TRUE)]
 have p11 : ∀ t, St p e below T8 (mkF m 47 Ls10 [(.ref a_TRUE)]) t → S0 t := fun t k => p9 t (by
   show St p e below T8 (mkF m 17 #[.val (.ref a_FALSE), .val (.ref a_TRUE), .unset] [(.ref a_TRUE)]) t
   refine XS.astoreN X8.here hx rfl (hb hby d5_17) rfl rfl (l' := Ls10) rfl ?_
   show St p e below T8 (mkF m 18 Ls10 []) t
   refine XS.goto X8.here hx rfl (pc0 := 18) (pc' := 46) rfl (hb hby d5_18) (by decide) (by decide) ?_
   show St p e below T8 (mkF m 46 Ls10 []) t
   refine XS.aloadN X8.here hx rfl (hb hby d5_46) rfl rfl ?_
   exact k)
 obtain ⟨fs, hr, hrun, hended, hW, hsame⟩ := X8.leave (v := some (.ref a_TRUE)) (fun h => by rw [Bd.returns] at h; cases h)
 refine ⟨_, _, p11 _ ?_, hrun, hended, _, _, rfl, ?_, ⟨_, rfl⟩, hW, hsame.mono (by decide) (by decide)⟩
 · exact retOut X8 hx Bd.returns rfl (Or.inr (Or.inr (Or.inr (Or.inr ⟨rfl, rfl, rfl⟩)))) (hb hby d5_47) hr
 · show Q5_8 Z a_TRUE a_UNKNOWN a_FALSE h0 n0 _ T8.heap _
   exact ⟨N0, e8, rfl⟩
theorem d4_35 : decode prog_32_method_6_code 35 = .ok (.getstatic 10, 3) := by decide +kernel
theorem d4_38 : decode prog_32_method_6_code 38 = .ok (.astore_n 2, 1) := by decide +kernel
theorem d4_39 : decode prog_32_method_6_code 39 = .ok (.goto 7, 3) := by decide +kernel
def Q4_9 (Z : State) (a_TRUE : Addr) (a_UNKNOWN : Addr) (a_FALSE : Addr) (h0 : Heap) (n0 : Nat) (v : Option Value) (h : Heap) (L : List Loc) : Prop := Fr n0 L ∧ h = h0 ∧ ((v = some (.ref a_UNKNOWN)))
set_option maxRecDepth 65536 in
set_option maxHeartbeats 40000000 in
theorem rm4_9 (l : Launch) (Z : State) (a0 : Array Value) (hw : ∀ d ∈ tables_1, d.before a0 Z = true) (ws : List Jvm.Cond) (a_TRUE : Addr) (a_UNKNOWN : Addr) (a_FALSE : Addr) (h0 : Heap) (n0 : Nat) (O0 : Old Z n0 h0) (HE : Env1 Z a_TRUE a_UNKNOWN a_FALSE)  :
    MetFree l M3 (head1 (Jvm.Cond.code M3 prog_32_method_6_code 3 (some (.object "com/example/herald4/herald4/filter/Truth")) :: ws) ({ frames := 0, cells := 0, slots := 0, locals := 0 } : Room)) (fun a U => a = #[(.ref a_TRUE), (.ref a_UNKNOWN)] ∧ Z.Warmed39 U.vm ∧ U.heap = h0) (fun _ _ _ _ _ => True) (fun _ U o U' => ∃ v L, o = .returned v ∧ Q4_9 Z a_TRUE a_UNKNOWN a_FALSE h0 n0 v U'.heap L ∧ FrameEnd U o U' L ({ frames := 0, cells := 0, slots := 0, locals := 0 } : Room).cells ({ frames := 0, cells := 0, slots := 0, locals := 0 } : Room).slots) := by
 refine MetFree.of_bodySF (plainFor_of_name pn1) hisR ?_
 intro p e s m args below meth c s₁ Bd hml0 hP hK
 obtain ⟨rfl, hZ, hh⟩ := hP
 have hx := Bd.exec
 have hby := Bd.bytes
 have hml : c.maxLocals = 3 := hml0
 have hown : s.vm.findClass "com/example/herald4/herald4/filter/Truth" = some m.cls := findClass_of_methodNamed Bd.named
 have hnm := (name_of_methodNamed Bd.named Bd.method).1
 have X0 : Stand p l e ({ frames := 0, cells := 0, slots := 0, locals := 0 } : Room) s m #[(.ref a_TRUE), (.ref a_UNKNOWN)] below meth c s₁ [] 0 0 := Stand.of_body Bd
 have e0 : s₁.heap = h0 := by rw [← hh, Bd.state]; rfl
 have N0 := Fr.nil n0
 let S0 : State → Prop := fun t => Steps p.tables e below (s₁.setTop (entryFrame m #[(.ref a_TRUE), (.ref a_UNKNOWN)] 3)) t
 have p0 : ∀ t, St p e below s₁ (mkF m 0 #[.val (.ref a_TRUE), .val (.ref a_UNKNOWN), .unset] []) t → S0 t := fun t k => castTop (ef4 m a_TRUE a_UNKNOWN) k
 have HE' := HE
 obtain ⟨Sa_TRUE, Ea_TRUE, Sa_UNKNOWN, Ea_UNKNOWN, Fa_TRUE_ordinal, Fa_UNKNOWN_ordinal, Sa_FALSE, Ea_FALSE, Fa_FALSE_ordinal⟩ := HE
 have p1 : ∀ t, St p e below s₁ (mkF m 1 #[.val (.ref a_TRUE), .val (.ref a_UNKNOWN), .unset] [(.ref a_TRUE)]) t → S0 t := fun t k => p0 t (by
   show St p e below s₁ (mkF m 0 #[.val (.ref a_TRUE), .val (.ref a_UNKNOWN), .unset] []) t
   refine XS.aloadN X0.here hx rfl (hb hby d4_0) rfl rfl ?_
   exact k)
 obtain ⟨T2, X2, e2, st2⟩ := getS2 X0 hx hZ hown (host := "") (Or.inl (ww hw 16 rfl)) Via.refl e0 (Sa_FALSE.ext O0.2) (g := (mkF m 1 #[.val (.ref a_TRUE), .val (.ref a_UNKNOWN), .unset] [(.ref a_TRUE)])) rfl (hb hby d4_1)
 have p3 : ∀ t, St p e below T2 (mkF m 4 #[.val (.ref a_TRUE), .val (.ref a_UNKNOWN), .unset] [(.ref a_FALSE), (.ref a_TRUE)]) t → S0 t := fun t k => p1 t (st2 t k)
 have p4 : ∀ t, St p e below T2 (mkF m 8 #[.val (.ref a_TRUE), .val (.ref a_UNKNOWN), .unset] [(.ref a_UNKNOWN)]) t → S0 t := fun t k => p3 t (by
   show St p e below T2 (mkF m 4 #[.val (.ref a_TRUE), .val (.ref a_UNKNOWN), .unset] [(.ref a_FALSE), (.ref a_TRUE)]) t
   refine Jvm.RoadKit.acmp (g := (mkF m 4 #[.val (.ref a_TRUE), .val (.ref a_UNKNOWN), .unset] [(.ref a_FALSE), (.ref a_TRUE)])) X2 hx rfl rfl rfl (pc0 := 4) (pc' := 7) (same := false) rfl (hb hby d4_4) rfl (decide_eq_false fun q => (Fld.ne Fa_TRUE_ordinal Fa_FALSE_ordinal (fun q => absurd (Value.int.inj q) (by decide))) (Value.ref.inj q)) (by decide) (by decide) ?_
   show St p e below T2 (mkF m 7 #[.val (.ref a_TRUE), .val (.ref a_UNKNOWN), .unset] []) t
   refine XS.aloadN X2.here hx rfl (hb hby d4_7) rfl rfl ?_
   exact k)
 obtain ⟨T5, X5, e5, st5⟩ := getS2 X2 hx hZ hown (host := "") (Or.inl (ww hw 16 rfl)) Via.refl e2 (Sa_FALSE.ext O0.2) (g := (mkF m 8 #[.val (.ref a_TRUE), .val (.ref a_UNKNOWN), .unset] [(.ref a_UNKNOWN)])) rfl (hb hby d4_8)
 have p6 : ∀ t, St p e below T5 (mkF m 11 #[.val (.ref a_TRUE), .val (.ref a_UNKNOWN), .unset] [(.ref a_FALSE), (.ref a_UNKNOWN)]) t → S0 t := fun t k => p4 t (st5 t k)
 have p7 : ∀ t, St p e below T5 (mkF m 22 #[.val (.ref a_TRUE), .val (.ref a_UNKNOWN), .unset] [(.ref a_TRUE)]) t → S0 t := fun t k => p6 t (by
   show St p e below T5 (mkF m 11 #[.val (.ref a_TRUE), .val (.ref a_UNKNOWN), .unset] [(.ref a_FALSE), (.ref a_UNKNOWN)]) t
   refine Jvm.RoadKit.acmp (g := (mkF m 11 #[.val (.ref a_TRUE), .val (.ref a_UNKNOWN), .unset] [(.ref a_FALSE), (.ref a_UNKNOWN)])) X5 hx rfl rfl rfl (pc0 := 11) (pc' := 21) (same := false) rfl (hb hby d4_11) rfl (decide_eq_false fun q => (Fld.ne Fa_UNKNOWN_ordinal Fa_FALSE_ordinal (fun q => absurd (Value.int.inj q) (by decide))) (Value.ref.inj q)) (by decide) (by decide) ?_
   show St p e below T5 (mkF m 21 #[.val (.ref a_TRUE), .val (.ref a_UNKNOWN), .unset] []) t
   refine XS.aloadN X5.here hx rfl (hb hby d4_21) rfl rfl ?_
   exact k)
 obtain ⟨T8, X8, e8, st8⟩ := getS2 X5 hx hZ hown (host := "") (Or.inl (ww hw 13 rfl)) Via.refl e5 (Sa_UNKNOWN.ext O0.2) (g := (mkF m 22 #[.val (.ref a_TRUE), .val (.ref a_UNKNOWN), .unset] [(.ref a_TRUE)])) rfl (hb hby d4_22)
 have p9 : ∀ t, St p e below T8 (mkF m 25 #[.val (.ref a_TRUE), .val (.ref a_UNKNOWN), .unset] [(.ref a_UNKNOWN), (.ref a_TRUE)]) t → S0 t := fun t k => p7 t (st8 t k)
 have p10 : ∀ t, St p e below T8 (mkF m 29 #[.val (.ref a_TRUE), .val (.ref a_UNKNOWN), .unset] [(.ref a_UNKNOWN)]) t → S0 t := fun t k => p9 t (by
   show St p e below T8 (mkF m 25 #[.val (.ref a_TRUE), .val (.ref a_UNKNOWN), .unset] [(.ref a_UNKNOWN), (.ref a_TRUE)]) t
   refine Jvm.RoadKit.acmp (g := (mkF m 25 #[.val (.ref a_TRUE), .val (.ref a_UNKNOWN), .unset] [(.ref a_UNKNOWN), (.ref a_TRUE)])) X8 hx rfl rfl rfl (pc0 := 25) (pc' := 28) (same := false) rfl (hb hby d4_25) rfl (decide_eq_false fun q => (Fld.ne Fa_TRUE_ordinal Fa_UNKNOWN_ordinal (fun q => absurd (Value.int.inj q) (by decide))) (Value.ref.inj q)) (by decide) (by decide) ?_
   show St p e below T8 (mkF m 28 #[.val (.ref a_TRUE), .val (.ref a_UNKNOWN), .unset] []) t
   refine XS.aloadN X8.here hx rfl (hb hby d4_28) rfl rfl ?_
   exact k)
 obtain ⟨T11, X11, e11, st11⟩ := getS2 X8 hx hZ hown (host := "") (Or.inl (ww hw 13 rfl)) Via.refl e8 (Sa_UNKNOWN.ext O0.2) (g := (mkF m 29 #[.val (.ref a_TRUE), .val (.ref a_UNKNOWN), .unset] [(.ref a_UNKNOWN)])) rfl (hb hby d4_29)
 have p12 : ∀ t, St p e below T11 (mkF m 32 #[.val (.ref a_TRUE), .val (.ref a_UNKNOWN), .unset] [(.ref a_UNKNOWN), (.ref a_UNKNOWN)]) t → S0 t := fun t k => p10 t (st11 t k)
 have p13 : ∀ t, St p e below T11 (mkF m 35 #[.val (.ref a_TRUE), .val (.ref a_UNKNOWN), .unset] []) t → S0 t := fun t k => p12 t (by
   show St p e below T11 (mkF m 32 #[.val (.ref a_TRUE), .val (.ref a_UNKNOWN), .unset] [(.ref a_UNKNOWN), (.ref a_UNKNOWN)]) t
   refine Jvm.RoadKit.acmp (g := (mkF m 32 #[.val (.ref a_TRUE), .val (.ref a_UNKNOWN), .unset] [(.ref a_UNKNOWN), (.ref a_UNKNOWN)])) X11 hx rfl rfl rfl (pc0 := 32) (pc' := 35) (same := true) rfl (hb hby d4_32) rfl (decide_eq_true rfl) (by decide) (by decide) ?_
   exact k)
 obtain ⟨T14, X14, e14, st14⟩ := getS2 X11 hx hZ hown (host := "") (Or.inl (ww hw 13 rfl)) Via.refl e11 (Sa_UNKNOWN.ext O0.2) (g := (mkF m 35 #[.val (.ref a_TRUE), .val (.ref a_UNKNOWN), .unset] [])) rfl (hb hby d4_35)
 have p15 : ∀ t, St p e below T14 (mkF m 38 #[.val (.ref a_TRUE), .val (.ref a_UNKNOWN), .unset] [(.ref a_UNKNOWN)]) t → S0 t := fun t k => p13 t (st14 t k)
 let Ls16 : Array Slot := #[.val (.ref a_TRUE), .val (.ref a_UNKNOWN), .val (.ref a_UNKNOWN)]
 have p17 : ∀ t, St p e below T14 (mkF m 47 Ls16 [(.ref a_UNKNOWN)]) t → S0 t := fun t k => p15 t (by
   show St p e below T14 (mkF m 38 #[.val (.ref a_TRUE), .val (.ref a_UNKNOWN), .unset] [(.ref a_UNKNOWN)]) t
   refine XS.astoreN X14.here hx rfl (hb hby d4_38) rfl rfl (l' := Ls16) rfl ?_
   show St p e below T14 (mkF m 39 Ls16 []) t
   refine XS.goto X14.here hx rfl (pc0 := 39) (pc' := 46) rfl (hb hby d4_39) (by decide) (by decide) ?_
   show St p e below T14 (mkF m 46 Ls16 []) t
   refine XS.aloadN X14.here hx rfl (hb hby d4_46) rfl rfl ?_
   exact k)
 obtain ⟨fs, hr, hrun, hended, hW, hsame⟩ := X14.leave (v := some (.ref a_UNKNOWN)) (fun h => by rw [Bd.returns] at h; cases h)
 refine ⟨_, _, p17 _ ?_, hrun, hended, _, _, rfl, ?_, ⟨_, rfl⟩, hW, hsame.mono (by decide) (by decide)⟩
 · exact retOut X14 hx Bd.returns rfl (Or.inr (Or.inr (Or.inr (Or.inr ⟨rfl, rfl, rfl⟩)))) (hb hby d4_47) hr
 · show Q4_9 Z a_TRUE a_UNKNOWN a_FALSE h0 n0 _ T14.heap _
   exact ⟨N0, e14, rfl⟩
theorem d2_7 : decode prog_32_method_5_code 7 = .ok (.getstatic 10, 3) := by decide +kernel
theorem d2_10 : decode prog_32_method_5_code 10 = .ok (.astore_n 1, 1) := by decide +kernel
theorem d2_11 : decode prog_32_method_5_code 11 = .ok (.goto 20, 3) := by decide +kernel
def Q2_10 (Z : State) (a_TRUE : Addr) (a_UNKNOWN : Addr) (a_FALSE : Addr) (h0 : Heap) (n0 : Nat) (v : Option Value) (h : Heap) (L : List Loc) : Prop := Fr n0 L ∧ h = h0 ∧ ((v = some (.ref a_UNKNOWN)))
set_option maxRecDepth 65536 in
set_option maxHeartbeats 40000000 in
theorem rm2_10 (l : Launch) (Z : State) (a0 : Array Value) (hw : ∀ d ∈ tables_1, d.before a0 Z = true) (ws : List Jvm.Cond) (a_TRUE : Addr) (a_UNKNOWN : Addr) (a_FALSE : Addr) (h0 : Heap) (n0 : Nat) (O0 : Old Z n0 h0) (HE : Env1 Z a_TRUE a_UNKNOWN a_FALSE)  :
    MetFree l M1 (head1 (Jvm.Cond.code M1 prog_32_method_5_code 2 (some (.object "com/example/herald4/herald4/filter/Truth")) :: ws) ({ frames := 0, cells := 0, slots := 0, locals := 0 } : Room)) (fun a U => a = #[(.ref a_UNKNOWN)] ∧ Z.Warmed39 U.vm ∧ U.heap = h0) (fun _ _ _ _ _ => True) (fun _ U o U' => ∃ v L, o = .returned v ∧ Q2_10 Z a_TRUE a_UNKNOWN a_FALSE h0 n0 v U'.heap L ∧ FrameEnd U o U' L ({ frames := 0, cells := 0, slots := 0, locals := 0 } : Room).cells ({ frames := 0, cells := 0, slots := 0, locals := 0 } : Room).slots) := by
 refine MetFree.of_bodySF (plainFor_of_name pn1) hisR ?_
 intro p e s m args below meth c s₁ Bd hml0 hP hK
 obtain ⟨rfl, hZ, hh⟩ := hP
 have hx := Bd.exec
 have hby := Bd.bytes
 have hml : c.maxLocals = 2 := hml0
 have hown : s.vm.findClass "com/example/herald4/herald4/filter/Truth" = some m.cls := findClass_of_methodNamed Bd.named
 have hnm := (name_of_methodNamed Bd.named Bd.method).1
 have X0 : Stand p l e ({ frames := 0, cells := 0, slots := 0, locals := 0 } : Room) s m #[(.ref a_UNKNOWN)] below meth c s₁ [] 0 0 := Stand.of_body Bd
 have e0 : s₁.heap = h0 := by rw [← hh, Bd.state]; rfl
 have N0 := Fr.nil n0
 let S0 : State → Prop := fun t => Steps p.tables e below (s₁.setTop (entryFrame m #[(.ref a_UNKNOWN)] 2)) t
 have p0 : ∀ t, St p e below s₁ (mkF m 0 #[.val (.ref a_UNKNOWN), .unset] []) t → S0 t := fun t k => castTop (ef2 m a_UNKNOWN) k
 have HE' := HE
 obtain ⟨Sa_TRUE, Ea_TRUE, Sa_UNKNOWN, Ea_UNKNOWN, Fa_TRUE_ordinal, Fa_UNKNOWN_ordinal, Sa_FALSE, Ea_FALSE, Fa_FALSE_ordinal⟩ := HE
 have p1 : ∀ t, St p e below s₁ (mkF m 1 #[.val (.ref a_UNKNOWN), .unset] [(.ref a_UNKNOWN)]) t → S0 t := fun t k => p0 t (by
   show St p e below s₁ (mkF m 0 #[.val (.ref a_UNKNOWN), .unset] []) t
   refine XS.aloadN X0.here hx rfl (hb hby d2_0) rfl rfl ?_
   exact k)
 obtain ⟨T2, X2, e2, st2⟩ := getS2 X0 hx hZ hown (host := "") (Or.inl (ww hw 13 rfl)) Via.refl e0 (Sa_UNKNOWN.ext O0.2) (g := (mkF m 1 #[.val (.ref a_UNKNOWN), .unset] [(.ref a_UNKNOWN)])) rfl (hb hby d2_1)
 have p3 : ∀ t, St p e below T2 (mkF m 4 #[.val (.ref a_UNKNOWN), .unset] [(.ref a_UNKNOWN), (.ref a_UNKNOWN)]) t → S0 t := fun t k => p1 t (st2 t k)
 have p4 : ∀ t, St p e below T2 (mkF m 7 #[.val (.ref a_UNKNOWN), .unset] []) t → S0 t := fun t k => p3 t (by
   show St p e below T2 (mkF m 4 #[.val (.ref a_UNKNOWN), .unset] [(.ref a_UNKNOWN), (.ref a_UNKNOWN)]) t
   refine Jvm.RoadKit.acmp (g := (mkF m 4 #[.val (.ref a_UNKNOWN), .unset] [(.ref a_UNKNOWN), (.ref a_UNKNOWN)])) X2 hx rfl rfl rfl (pc0 := 4) (pc' := 7) (same := true) rfl (hb hby d2_4) rfl (decide_eq_true rfl) (by decide) (by decide) ?_
   exact k)
 obtain ⟨T5, X5, e5, st5⟩ := getS2 X2 hx hZ hown (host := "") (Or.inl (ww hw 13 rfl)) Via.refl e2 (Sa_UNKNOWN.ext O0.2) (g := (mkF m 7 #[.val (.ref a_UNKNOWN), .unset] [])) rfl (hb hby d2_7)
 have p6 : ∀ t, St p e below T5 (mkF m 10 #[.val (.ref a_UNKNOWN), .unset] [(.ref a_UNKNOWN)]) t → S0 t := fun t k => p4 t (st5 t k)
 have p7 : ∀ t, St p e below T5 (mkF m 32 #[.val (.ref a_UNKNOWN), .val (.ref a_UNKNOWN)] [(.ref a_UNKNOWN)]) t → S0 t := fun t k => p6 t (by
   show St p e below T5 (mkF m 10 #[.val (.ref a_UNKNOWN), .unset] [(.ref a_UNKNOWN)]) t
   refine XS.astoreN X5.here hx rfl (hb hby d2_10) rfl rfl (l' := #[.val (.ref a_UNKNOWN), .val (.ref a_UNKNOWN)]) rfl ?_
   show St p e below T5 (mkF m 11 #[.val (.ref a_UNKNOWN), .val (.ref a_UNKNOWN)] []) t
   refine XS.goto X5.here hx rfl (pc0 := 11) (pc' := 31) rfl (hb hby d2_11) (by decide) (by decide) ?_
   show St p e below T5 (mkF m 31 #[.val (.ref a_UNKNOWN), .val (.ref a_UNKNOWN)] []) t
   refine XS.aloadN X5.here hx rfl (hb hby d2_31) rfl rfl ?_
   exact k)
 obtain ⟨fs, hr, hrun, hended, hW, hsame⟩ := X5.leave (v := some (.ref a_UNKNOWN)) (fun h => by rw [Bd.returns] at h; cases h)
 refine ⟨_, _, p7 _ ?_, hrun, hended, _, _, rfl, ?_, ⟨_, rfl⟩, hW, hsame.mono (by decide) (by decide)⟩
 · exact retOut X5 hx Bd.returns rfl (Or.inr (Or.inr (Or.inr (Or.inr ⟨rfl, rfl, rfl⟩)))) (hb hby d2_32) hr
 · show Q2_10 Z a_TRUE a_UNKNOWN a_FALSE h0 n0 _ T5.heap _
   exact ⟨N0, e5, rfl⟩
theorem d5_35 : decode prog_32_method_7_code 35 = .ok (.getstatic 10, 3) := by decide +kernel
theorem d5_38 : decode prog_32_method_7_code 38 = .ok (.astore_n 2, 1) := by decide +kernel
theorem d5_39 : decode prog_32_method_7_code 39 = .ok (.goto 7, 3) := by decide +kernel
def Q5_11 (Z : State) (a_TRUE : Addr) (a_UNKNOWN : Addr) (a_FALSE : Addr) (h0 : Heap) (n0 : Nat) (v : Option Value) (h : Heap) (L : List Loc) : Prop := Fr n0 L ∧ h = h0 ∧ ((v = some (.ref a_UNKNOWN)))
set_option maxRecDepth 65536 in
set_option maxHeartbeats 40000000 in
theorem rm5_11 (l : Launch) (Z : State) (a0 : Array Value) (hw : ∀ d ∈ tables_1, d.before a0 Z = true) (ws : List Jvm.Cond) (a_TRUE : Addr) (a_UNKNOWN : Addr) (a_FALSE : Addr) (h0 : Heap) (n0 : Nat) (O0 : Old Z n0 h0) (HE : Env1 Z a_TRUE a_UNKNOWN a_FALSE)  :
    MetFree l M4 (head1 (Jvm.Cond.code M4 prog_32_method_7_code 3 (some (.object "com/example/herald4/herald4/filter/Truth")) :: ws) ({ frames := 0, cells := 0, slots := 0, locals := 0 } : Room)) (fun a U => a = #[(.ref a_FALSE), (.ref a_UNKNOWN)] ∧ Z.Warmed39 U.vm ∧ U.heap = h0) (fun _ _ _ _ _ => True) (fun _ U o U' => ∃ v L, o = .returned v ∧ Q5_11 Z a_TRUE a_UNKNOWN a_FALSE h0 n0 v U'.heap L ∧ FrameEnd U o U' L ({ frames := 0, cells := 0, slots := 0, locals := 0 } : Room).cells ({ frames := 0, cells := 0, slots := 0, locals := 0 } : Room).slots) := by
 refine MetFree.of_bodySF (plainFor_of_name pn1) hisR ?_
 intro p e s m args below meth c s₁ Bd hml0 hP hK
 obtain ⟨rfl, hZ, hh⟩ := hP
 have hx := Bd.exec
 have hby := Bd.bytes
 have hml : c.maxLocals = 3 := hml0
 have hown : s.vm.findClass "com/example/herald4/herald4/filter/Truth" = some m.cls := findClass_of_methodNamed Bd.named
 have hnm := (name_of_methodNamed Bd.named Bd.method).1
 have X0 : Stand p l e ({ frames := 0, cells := 0, slots := 0, locals := 0 } : Room) s m #[(.ref a_FALSE), (.ref a_UNKNOWN)] below meth c s₁ [] 0 0 := Stand.of_body Bd
 have e0 : s₁.heap = h0 := by rw [← hh, Bd.state]; rfl
 have N0 := Fr.nil n0
 let S0 : State → Prop := fun t => Steps p.tables e below (s₁.setTop (entryFrame m #[(.ref a_FALSE), (.ref a_UNKNOWN)] 3)) t
 have p0 : ∀ t, St p e below s₁ (mkF m 0 #[.val (.ref a_FALSE), .val (.ref a_UNKNOWN), .unset] []) t → S0 t := fun t k => castTop (ef5 m a_FALSE a_UNKNOWN) k
 have HE' := HE
 obtain ⟨Sa_TRUE, Ea_TRUE, Sa_UNKNOWN, Ea_UNKNOWN, Fa_TRUE_ordinal, Fa_UNKNOWN_ordinal, Sa_FALSE, Ea_FALSE, Fa_FALSE_ordinal⟩ := HE
 have p1 : ∀ t, St p e below s₁ (mkF m 1 #[.val (.ref a_FALSE), .val (.ref a_UNKNOWN), .unset] [(.ref a_FALSE)]) t → S0 t := fun t k => p0 t (by
   show St p e below s₁ (mkF m 0 #[.val (.ref a_FALSE), .val (.ref a_UNKNOWN), .unset] []) t
   refine XS.aloadN X0.here hx rfl (hb hby d5_0) rfl rfl ?_
   exact k)
 obtain ⟨T2, X2, e2, st2⟩ := getS2 X0 hx hZ hown (host := "") (Or.inl (ww hw 15 rfl)) Via.refl e0 (Sa_TRUE.ext O0.2) (g := (mkF m 1 #[.val (.ref a_FALSE), .val (.ref a_UNKNOWN), .unset] [(.ref a_FALSE)])) rfl (hb hby d5_1)
 have p3 : ∀ t, St p e below T2 (mkF m 4 #[.val (.ref a_FALSE), .val (.ref a_UNKNOWN), .unset] [(.ref a_TRUE), (.ref a_FALSE)]) t → S0 t := fun t k => p1 t (st2 t k)
 have p4 : ∀ t, St p e below T2 (mkF m 8 #[.val (.ref a_FALSE), .val (.ref a_UNKNOWN), .unset] [(.ref a_UNKNOWN)]) t → S0 t := fun t k => p3 t (by
   show St p e below T2 (mkF m 4 #[.val (.ref a_FALSE), .val (.ref a_UNKNOWN), .unset] [(.ref a_TRUE), (.ref a_FALSE)]) t
   refine Jvm.RoadKit.acmp (g := (mkF m 4 #[.val (.ref a_FALSE), .val (.ref a_UNKNOWN), .unset] [(.ref a_TRUE), (.ref a_FALSE)])) X2 hx rfl rfl rfl (pc0 := 4) (pc' := 7) (same := false) rfl (hb hby d5_4) rfl (decide_eq_false fun q => (Fld.ne Fa_FALSE_ordinal Fa_TRUE_ordinal (fun q => absurd (Value.int.inj q) (by decide))) (Value.ref.inj q)) (by decide) (by decide) ?_
   show St p e below T2 (mkF m 7 #[.val (.ref a_FALSE), .val (.ref a_UNKNOWN), .unset] []) t
   refine XS.aloadN X2.here hx rfl (hb hby d5_7) rfl rfl ?_
   exact k)
 obtain ⟨T5, X5, e5, st5⟩ := getS2 X2 hx hZ hown (host := "") (Or.inl (ww hw 15 rfl)) Via.refl e2 (Sa_TRUE.ext O0.2) (g := (mkF m 8 #[.val (.ref a_FALSE), .val (.ref a_UNKNOWN), .unset] [(.ref a_UNKNOWN)])) rfl (hb hby d5_8)
 have p6 : ∀ t, St p e below T5 (mkF m 11 #[.val (.ref a_FALSE), .val (.ref a_UNKNOWN), .unset] [(.ref a_TRUE), (.ref a_UNKNOWN)]) t → S0 t := fun t k => p4 t (st5 t k)
 have p7 : ∀ t, St p e below T5 (mkF m 22 #[.val (.ref a_FALSE), .val (.ref a_UNKNOWN), .unset] [(.ref a_FALSE)]) t → S0 t := fun t k => p6 t (by
   show St p e below T5 (mkF m 11 #[.val (.ref a_FALSE), .val (.ref a_UNKNOWN), .unset] [(.ref a_TRUE), (.ref a_UNKNOWN)]) t
   refine Jvm.RoadKit.acmp (g := (mkF m 11 #[.val (.ref a_FALSE), .val (.ref a_UNKNOWN), .unset] [(.ref a_TRUE), (.ref a_UNKNOWN)])) X5 hx rfl rfl rfl (pc0 := 11) (pc' := 21) (same := false) rfl (hb hby d5_11) rfl (decide_eq_false fun q => (Fld.ne Fa_UNKNOWN_ordinal Fa_TRUE_ordinal (fun q => absurd (Value.int.inj q) (by decide))) (Value.ref.inj q)) (by decide) (by decide) ?_
   show St p e below T5 (mkF m 21 #[.val (.ref a_FALSE), .val (.ref a_UNKNOWN), .unset] []) t
   refine XS.aloadN X5.here hx rfl (hb hby d5_21) rfl rfl ?_
   exact k)
 obtain ⟨T8, X8, e8, st8⟩ := getS2 X5 hx hZ hown (host := "") (Or.inl (ww hw 13 rfl)) Via.refl e5 (Sa_UNKNOWN.ext O0.2) (g := (mkF m 22 #[.val (.ref a_FALSE), .val (.ref a_UNKNOWN), .unset] [(.ref a_FALSE)])) rfl (hb hby d5_22)
 have p9 : ∀ t, St p e below T8 (mkF m 25 #[.val (.ref a_FALSE), .val (.ref a_UNKNOWN), .unset] [(.ref a_UNKNOWN), (.ref a_FALSE)]) t → S0 t := fun t k => p7 t (st8 t k)
 have p10 : ∀ t, St p e below T8 (mkF m 29 #[.val (.ref a_FALSE), .val (.ref a_UNKNOWN), .unset] [(.ref a_UNKNOWN)]) t → S0 t := fun t k => p9 t (by
   show St p e below T8 (mkF m 25 #[.val (.ref a_FALSE), .val (.ref a_UNKNOWN), .unset] [(.ref a_UNKNOWN), (.ref a_FALSE)]) t
   refine Jvm.RoadKit.acmp (g := (mkF m 25 #[.val (.ref a_FALSE), .val (.ref a_UNKNOWN), .unset] [(.ref a_UNKNOWN), (.ref a_FALSE)])) X8 hx rfl rfl rfl (pc0 := 25) (pc' := 28) (same := false) rfl (hb hby d5_25) rfl (decide_eq_false fun q => (Fld.ne Fa_FALSE_ordinal Fa_UNKNOWN_ordinal (fun q => absurd (Value.int.inj q) (by decide))) (Value.ref.inj q)) (by decide) (by decide) ?_
   show St p e below T8 (mkF m 28 #[.val (.ref a_FALSE), .val (.ref a_UNKNOWN), .unset] []) t
   refine XS.aloadN X8.here hx rfl (hb hby d5_28) rfl rfl ?_
   exact k)
 obtain ⟨T11, X11, e11, st11⟩ := getS2 X8 hx hZ hown (host := "") (Or.inl (ww hw 13 rfl)) Via.refl e8 (Sa_UNKNOWN.ext O0.2) (g := (mkF m 29 #[.val (.ref a_FALSE), .val (.ref a_UNKNOWN), .unset] [(.ref a_UNKNOWN)])) rfl (hb hby d5_29)
 have p12 : ∀ t, St p e below T11 (mkF m 32 #[.val (.ref a_FALSE), .val (.ref a_UNKNOWN), .unset] [(.ref a_UNKNOWN), (.ref a_UNKNOWN)]) t → S0 t := fun t k => p10 t (st11 t k)
 have p13 : ∀ t, St p e below T11 (mkF m 35 #[.val (.ref a_FALSE), .val (.ref a_UNKNOWN), .unset] []) t → S0 t := fun t k => p12 t (by
   show St p e below T11 (mkF m 32 #[.val (.ref a_FALSE), .val (.ref a_UNKNOWN), .unset] [(.ref a_UNKNOWN), (.ref a_UNKNOWN)]) t
   refine Jvm.RoadKit.acmp (g := (mkF m 32 #[.val (.ref a_FALSE), .val (.ref a_UNKNOWN), .unset] [(.ref a_UNKNOWN), (.ref a_UNKNOWN)])) X11 hx rfl rfl rfl (pc0 := 32) (pc' := 35) (same := true) rfl (hb hby d5_32) rfl (decide_eq_true rfl) (by decide) (by decide) ?_
   exact k)
 obtain ⟨T14, X14, e14, st14⟩ := getS2 X11 hx hZ hown (host := "") (Or.inl (ww hw 13 rfl)) Via.refl e11 (Sa_UNKNOWN.ext O0.2) (g := (mkF m 35 #[.val (.ref a_FALSE), .val (.ref a_UNKNOWN), .unset] [])) rfl (hb hby d5_35)
 have p15 : ∀ t, St p e below T14 (mkF m 38 #[.val (.ref a_FALSE), .val (.ref a_UNKNOWN), .unset] [(.ref a_UNKNOWN)]) t → S0 t := fun t k => p13 t (st14 t k)
 let Ls16 : Array Slot := #[.val (.ref a_FALSE), .val (.ref a_UNKNOWN), .val (.ref a_UNKNOWN)]
 have p17 : ∀ t, St p e below T14 (mkF m 47 Ls16 [(.ref a_UNKNOWN)]) t → S0 t := fun t k => p15 t (by
   show St p e below T14 (mkF m 38 #[.val (.ref a_FALSE), .val (.ref a_UNKNOWN), .unset] [(.ref a_UNKNOWN)]) t
   refine XS.astoreN X14.here hx rfl (hb hby d5_38) rfl rfl (l' := Ls16) rfl ?_
   show St p e below T14 (mkF m 39 Ls16 []) t
   refine XS.goto X14.here hx rfl (pc0 := 39) (pc' := 46) rfl (hb hby d5_39) (by decide) (by decide) ?_
   show St p e below T14 (mkF m 46 Ls16 []) t
   refine XS.aloadN X14.here hx rfl (hb hby d5_46) rfl rfl ?_
   exact k)
 obtain ⟨fs, hr, hrun, hended, hW, hsame⟩ := X14.leave (v := some (.ref a_UNKNOWN)) (fun h => by rw [Bd.returns] at h; cases h)
 refine ⟨_, _, p17 _ ?_, hrun, hended, _, _, rfl, ?_, ⟨_, rfl⟩, hW, hsame.mono (by decide) (by decide)⟩
 · exact retOut X14 hx Bd.returns rfl (Or.inr (Or.inr (Or.inr (Or.inr ⟨rfl, rfl, rfl⟩)))) (hb hby d5_47) hr
 · show Q5_11 Z a_TRUE a_UNKNOWN a_FALSE h0 n0 _ T14.heap _
   exact ⟨N0, e14, rfl⟩
def Q4_12 (Z : State) (a_TRUE : Addr) (a_UNKNOWN : Addr) (a_FALSE : Addr) (h0 : Heap) (n0 : Nat) (v : Option Value) (h : Heap) (L : List Loc) : Prop := Fr n0 L ∧ h = h0 ∧ ((v = some (.ref a_FALSE)))
set_option maxRecDepth 65536 in
set_option maxHeartbeats 40000000 in
theorem rm4_12 (l : Launch) (Z : State) (a0 : Array Value) (hw : ∀ d ∈ tables_1, d.before a0 Z = true) (ws : List Jvm.Cond) (a_TRUE : Addr) (a_UNKNOWN : Addr) (a_FALSE : Addr) (h0 : Heap) (n0 : Nat) (O0 : Old Z n0 h0) (HE : Env1 Z a_TRUE a_UNKNOWN a_FALSE)  :
    MetFree l M3 (head1 (Jvm.Cond.code M3 prog_32_method_6_code 3 (some (.object "com/example/herald4/herald4/filter/Truth")) :: ws) ({ frames := 0, cells := 0, slots := 0, locals := 0 } : Room)) (fun a U => a = #[(.ref a_FALSE), (.ref a_TRUE)] ∧ Z.Warmed39 U.vm ∧ U.heap = h0) (fun _ _ _ _ _ => True) (fun _ U o U' => ∃ v L, o = .returned v ∧ Q4_12 Z a_TRUE a_UNKNOWN a_FALSE h0 n0 v U'.heap L ∧ FrameEnd U o U' L ({ frames := 0, cells := 0, slots := 0, locals := 0 } : Room).cells ({ frames := 0, cells := 0, slots := 0, locals := 0 } : Room).slots) := by
 refine MetFree.of_bodySF (plainFor_of_name pn1) hisR ?_
 intro p e s m args below meth c s₁ Bd hml0 hP hK
 obtain ⟨rfl, hZ, hh⟩ := hP
 have hx := Bd.exec
 have hby := Bd.bytes
 have hml : c.maxLocals = 3 := hml0
 have hown : s.vm.findClass "com/example/herald4/herald4/filter/Truth" = some m.cls := findClass_of_methodNamed Bd.named
 have hnm := (name_of_methodNamed Bd.named Bd.method).1
 have X0 : Stand p l e ({ frames := 0, cells := 0, slots := 0, locals := 0 } : Room) s m #[(.ref a_FALSE), (.ref a_TRUE)] below meth c s₁ [] 0 0 := Stand.of_body Bd
 have e0 : s₁.heap = h0 := by rw [← hh, Bd.state]; rfl
 have N0 := Fr.nil n0
 let S0 : State → Prop := fun t => Steps p.tables e below (s₁.setTop (entryFrame m #[(.ref a_FALSE), (.ref a_TRUE)] 3)) t
 have p0 : ∀ t, St p e below s₁ (mkF m 0 #[.val (.ref a_FALSE), .val (.ref a_TRUE), .unset] []) t → S0 t := fun t k => castTop (ef4 m a_FALSE a_TRUE) k
 have HE' := HE
 obtain ⟨Sa_TRUE, Ea_TRUE, Sa_UNKNOWN, Ea_UNKNOWN, Fa_TRUE_ordinal, Fa_UNKNOWN_ordinal, Sa_FALSE, Ea_FALSE, Fa_FALSE_ordinal⟩ := HE
 have p1 : ∀ t, St p e below s₁ (mkF m 1 #[.val (.ref a_FALSE), .val (.ref a_TRUE), .unset] [(.ref a_FALSE)]) t → S0 t := fun t k => p0 t (by
   show St p e below s₁ (mkF m 0 #[.val (.ref a_FALSE), .val (.ref a_TRUE), .unset] []) t
   refine XS.aloadN X0.here hx rfl (hb hby d4_0) rfl rfl ?_
   exact k)
 obtain ⟨T2, X2, e2, st2⟩ := getS2 X0 hx hZ hown (host := "") (Or.inl (ww hw 16 rfl)) Via.refl e0 (Sa_FALSE.ext O0.2) (g := (mkF m 1 #[.val (.ref a_FALSE), .val (.ref a_TRUE), .unset] [(.ref a_FALSE)])) rfl (hb hby d4_1)
 have p3 : ∀ t, St p e below T2 (mkF m 4 #[.val (.ref a_FALSE), .val (.ref a_TRUE), .unset] [(.ref a_FALSE), (.ref a_FALSE)]) t → S0 t := fun t k => p1 t (st2 t k)
 have p4 : ∀ t, St p e below T2 (mkF m 14 #[.val (.ref a_FALSE), .val (.ref a_TRUE), .unset] []) t → S0 t := fun t k => p3 t (by
   show St p e below T2 (mkF m 4 #[.val (.ref a_FALSE), .val (.ref a_TRUE), .unset] [(.ref a_FALSE), (.ref a_FALSE)]) t
   refine Jvm.RoadKit.acmp (g := (mkF m 4 #[.val (.ref a_FALSE), .val (.ref a_TRUE), .unset] [(.ref a_FALSE), (.ref a_FALSE)])) X2 hx rfl rfl rfl (pc0 := 4) (pc' := 14) (same := true) rfl (hb hby d4_4) rfl (decide_eq_true rfl) (by decide) (by decide) ?_
   exact k)
 obtain ⟨T5, X5, e5, st5⟩ := getS2 X2 hx hZ hown (host := "") (Or.inl (ww hw 16 rfl)) Via.refl e2 (Sa_FALSE.ext O0.2) (g := (mkF m 14 #[.val (.ref a_FALSE), .val (.ref a_TRUE), .unset] [])) rfl (hb hby d4_14)
 have p6 : ∀ t, St p e below T5 (mkF m 17 #[.val (.ref a_FALSE), .val (.ref a_TRUE), .unset] [(.ref a_FALSE)]) t → S0 t := fun t k => p4 t (st5 t k)
 let Ls7 : Array Slot := #[.val (.ref a_FALSE), .val (.ref a_TRUE), .val (.ref a_FALSE)]
 have p8 : ∀ t, St p e below T5 (mkF m 47 Ls7 [(.ref a_FALSE)]) t → S0 t := fun t k => p6 t (by
   show St p e below T5 (mkF m 17 #[.val (.ref a_FALSE), .val (.ref a_TRUE), .unset] [(.ref a_FALSE)]) t
   refine XS.astoreN X5.here hx rfl (hb hby d4_17) rfl rfl (l' := Ls7) rfl ?_
   show St p e below T5 (mkF m 18 Ls7 []) t
   refine XS.goto X5.here hx rfl (pc0 := 18) (pc' := 46) rfl (hb hby d4_18) (by decide) (by decide) ?_
   show St p e below T5 (mkF m 46 Ls7 []) t
   refine XS.aloadN X5.here hx rfl (hb hby d4_46) rfl rfl ?_
   exact k)
 obtain ⟨fs, hr, hrun, hended, hW, hsame⟩ := X5.leave (v := some (.ref a_FALSE)) (fun h => by rw [Bd.returns] at h; cases h)
 refine ⟨_, _, p8 _ ?_, hrun, hended, _, _, rfl, ?_, ⟨_, rfl⟩, hW, hsame.mono (by decide) (by decide)⟩
 · exact retOut X5 hx Bd.returns rfl (Or.inr (Or.inr (Or.inr (Or.inr ⟨rfl, rfl, rfl⟩)))) (hb hby d4_47) hr
 · show Q4_12 Z a_TRUE a_UNKNOWN a_FALSE h0 n0 _ T5.heap _
   exact ⟨N0, e5, rfl⟩
def Q5_13 (Z : State) (a_TRUE : Addr) (a_UNKNOWN : Addr) (a_FALSE : Addr) (h0 : Heap) (n0 : Nat) (v : Option Value) (h : Heap) (L : List Loc) : Prop := Fr n0 L ∧ h = h0 ∧ ((v = some (.ref a_TRUE)))
set_option maxRecDepth 65536 in
set_option maxHeartbeats 40000000 in
theorem rm5_13 (l : Launch) (Z : State) (a0 : Array Value) (hw : ∀ d ∈ tables_1, d.before a0 Z = true) (ws : List Jvm.Cond) (a_TRUE : Addr) (a_UNKNOWN : Addr) (a_FALSE : Addr) (h0 : Heap) (n0 : Nat) (O0 : Old Z n0 h0) (HE : Env1 Z a_TRUE a_UNKNOWN a_FALSE)  :
    MetFree l M4 (head1 (Jvm.Cond.code M4 prog_32_method_7_code 3 (some (.object "com/example/herald4/herald4/filter/Truth")) :: ws) ({ frames := 0, cells := 0, slots := 0, locals := 0 } : Room)) (fun a U => a = #[(.ref a_TRUE), (.ref a_FALSE)] ∧ Z.Warmed39 U.vm ∧ U.heap = h0) (fun _ _ _ _ _ => True) (fun _ U o U' => ∃ v L, o = .returned v ∧ Q5_13 Z a_TRUE a_UNKNOWN a_FALSE h0 n0 v U'.heap L ∧ FrameEnd U o U' L ({ frames := 0, cells := 0, slots := 0, locals := 0 } : Room).cells ({ frames := 0, cells := 0, slots := 0, locals := 0 } : Room).slots) := by
 refine MetFree.of_bodySF (plainFor_of_name pn1) hisR ?_
 intro p e s m args below meth c s₁ Bd hml0 hP hK
 obtain ⟨rfl, hZ, hh⟩ := hP
 have hx := Bd.exec
 have hby := Bd.bytes
 have hml : c.maxLocals = 3 := hml0
 have hown : s.vm.findClass "com/example/herald4/herald4/filter/Truth" = some m.cls := findClass_of_methodNamed Bd.named
 have hnm := (name_of_methodNamed Bd.named Bd.method).1
 have X0 : Stand p l e ({ frames := 0, cells := 0, slots := 0, locals := 0 } : Room) s m #[(.ref a_TRUE), (.ref a_FALSE)] below meth c s₁ [] 0 0 := Stand.of_body Bd
 have e0 : s₁.heap = h0 := by rw [← hh, Bd.state]; rfl
 have N0 := Fr.nil n0
 let S0 : State → Prop := fun t => Steps p.tables e below (s₁.setTop (entryFrame m #[(.ref a_TRUE), (.ref a_FALSE)] 3)) t
 have p0 : ∀ t, St p e below s₁ (mkF m 0 #[.val (.ref a_TRUE), .val (.ref a_FALSE), .unset] []) t → S0 t := fun t k => castTop (ef5 m a_TRUE a_FALSE) k
 have HE' := HE
 obtain ⟨Sa_TRUE, Ea_TRUE, Sa_UNKNOWN, Ea_UNKNOWN, Fa_TRUE_ordinal, Fa_UNKNOWN_ordinal, Sa_FALSE, Ea_FALSE, Fa_FALSE_ordinal⟩ := HE
 have p1 : ∀ t, St p e below s₁ (mkF m 1 #[.val (.ref a_TRUE), .val (.ref a_FALSE), .unset] [(.ref a_TRUE)]) t → S0 t := fun t k => p0 t (by
   show St p e below s₁ (mkF m 0 #[.val (.ref a_TRUE), .val (.ref a_FALSE), .unset] []) t
   refine XS.aloadN X0.here hx rfl (hb hby d5_0) rfl rfl ?_
   exact k)
 obtain ⟨T2, X2, e2, st2⟩ := getS2 X0 hx hZ hown (host := "") (Or.inl (ww hw 15 rfl)) Via.refl e0 (Sa_TRUE.ext O0.2) (g := (mkF m 1 #[.val (.ref a_TRUE), .val (.ref a_FALSE), .unset] [(.ref a_TRUE)])) rfl (hb hby d5_1)
 have p3 : ∀ t, St p e below T2 (mkF m 4 #[.val (.ref a_TRUE), .val (.ref a_FALSE), .unset] [(.ref a_TRUE), (.ref a_TRUE)]) t → S0 t := fun t k => p1 t (st2 t k)
 have p4 : ∀ t, St p e below T2 (mkF m 14 #[.val (.ref a_TRUE), .val (.ref a_FALSE), .unset] []) t → S0 t := fun t k => p3 t (by
   show St p e below T2 (mkF m 4 #[.val (.ref a_TRUE), .val (.ref a_FALSE), .unset] [(.ref a_TRUE), (.ref a_TRUE)]) t
   refine Jvm.RoadKit.acmp (g := (mkF m 4 #[.val (.ref a_TRUE), .val (.ref a_FALSE), .unset] [(.ref a_TRUE), (.ref a_TRUE)])) X2 hx rfl rfl rfl (pc0 := 4) (pc' := 14) (same := true) rfl (hb hby d5_4) rfl (decide_eq_true rfl) (by decide) (by decide) ?_
   exact k)
 obtain ⟨T5, X5, e5, st5⟩ := getS2 X2 hx hZ hown (host := "") (Or.inl (ww hw 15 rfl)) Via.refl e2 (Sa_TRUE.ext O0.2) (g := (mkF m 14 #[.val (.ref a_TRUE), .val (.ref a_FALSE), .unset] [])) rfl (hb hby d5_14)
 have p6 : ∀ t, St p e below T5 (mkF m 17 #[.val (.ref a_TRUE), .val (.ref a_FALSE), .unset] [(.ref a_TRUE)]) t → S0 t := fun t k => p4 t (st5 t k)
 let Ls7 : Array Slot := #[.val (.ref a_TRUE), .val (.ref a_FALSE), .val (.ref a_TRUE)]
 have p8 : ∀ t, St p e below T5 (mkF m 47 Ls7 [(.ref a_TRUE)]) t → S0 t := fun t k => p6 t (by
   show St p e below T5 (mkF m 17 #[.val (.ref a_TRUE), .val (.ref a_FALSE), .unset] [(.ref a_TRUE)]) t
   refine XS.astoreN X5.here hx rfl (hb hby d5_17) rfl rfl (l' := Ls7) rfl ?_
   show St p e below T5 (mkF m 18 Ls7 []) t
   refine XS.goto X5.here hx rfl (pc0 := 18) (pc' := 46) rfl (hb hby d5_18) (by decide) (by decide) ?_
   show St p e below T5 (mkF m 46 Ls7 []) t
   refine XS.aloadN X5.here hx rfl (hb hby d5_46) rfl rfl ?_
   exact k)
 obtain ⟨fs, hr, hrun, hended, hW, hsame⟩ := X5.leave (v := some (.ref a_TRUE)) (fun h => by rw [Bd.returns] at h; cases h)
 refine ⟨_, _, p8 _ ?_, hrun, hended, _, _, rfl, ?_, ⟨_, rfl⟩, hW, hsame.mono (by decide) (by decide)⟩
 · exact retOut X5 hx Bd.returns rfl (Or.inr (Or.inr (Or.inr (Or.inr ⟨rfl, rfl, rfl⟩)))) (hb hby d5_47) hr
 · show Q5_13 Z a_TRUE a_UNKNOWN a_FALSE h0 n0 _ T5.heap _
   exact ⟨N0, e5, rfl⟩
def Q4_14 (Z : State) (a_TRUE : Addr) (a_UNKNOWN : Addr) (a_FALSE : Addr) (h0 : Heap) (n0 : Nat) (v : Option Value) (h : Heap) (L : List Loc) : Prop := Fr n0 L ∧ h = h0 ∧ ((v = some (.ref a_FALSE)))
set_option maxRecDepth 65536 in
set_option maxHeartbeats 40000000 in
theorem rm4_14 (l : Launch) (Z : State) (a0 : Array Value) (hw : ∀ d ∈ tables_1, d.before a0 Z = true) (ws : List Jvm.Cond) (a_TRUE : Addr) (a_UNKNOWN : Addr) (a_FALSE : Addr) (h0 : Heap) (n0 : Nat) (O0 : Old Z n0 h0) (HE : Env1 Z a_TRUE a_UNKNOWN a_FALSE)  :
    MetFree l M3 (head1 (Jvm.Cond.code M3 prog_32_method_6_code 3 (some (.object "com/example/herald4/herald4/filter/Truth")) :: ws) ({ frames := 0, cells := 0, slots := 0, locals := 0 } : Room)) (fun a U => a = #[(.ref a_FALSE), (.ref a_FALSE)] ∧ Z.Warmed39 U.vm ∧ U.heap = h0) (fun _ _ _ _ _ => True) (fun _ U o U' => ∃ v L, o = .returned v ∧ Q4_14 Z a_TRUE a_UNKNOWN a_FALSE h0 n0 v U'.heap L ∧ FrameEnd U o U' L ({ frames := 0, cells := 0, slots := 0, locals := 0 } : Room).cells ({ frames := 0, cells := 0, slots := 0, locals := 0 } : Room).slots) := by
 refine MetFree.of_bodySF (plainFor_of_name pn1) hisR ?_
 intro p e s m args below meth c s₁ Bd hml0 hP hK
 obtain ⟨rfl, hZ, hh⟩ := hP
 have hx := Bd.exec
 have hby := Bd.bytes
 have hml : c.maxLocals = 3 := hml0
 have hown : s.vm.findClass "com/example/herald4/herald4/filter/Truth" = some m.cls := findClass_of_methodNamed Bd.named
 have hnm := (name_of_methodNamed Bd.named Bd.method).1
 have X0 : Stand p l e ({ frames := 0, cells := 0, slots := 0, locals := 0 } : Room) s m #[(.ref a_FALSE), (.ref a_FALSE)] below meth c s₁ [] 0 0 := Stand.of_body Bd
 have e0 : s₁.heap = h0 := by rw [← hh, Bd.state]; rfl
 have N0 := Fr.nil n0
 let S0 : State → Prop := fun t => Steps p.tables e below (s₁.setTop (entryFrame m #[(.ref a_FALSE), (.ref a_FALSE)] 3)) t
 have p0 : ∀ t, St p e below s₁ (mkF m 0 #[.val (.ref a_FALSE), .val (.ref a_FALSE), .unset] []) t → S0 t := fun t k => castTop (ef4 m a_FALSE a_FALSE) k
 have HE' := HE
 obtain ⟨Sa_TRUE, Ea_TRUE, Sa_UNKNOWN, Ea_UNKNOWN, Fa_TRUE_ordinal, Fa_UNKNOWN_ordinal, Sa_FALSE, Ea_FALSE, Fa_FALSE_ordinal⟩ := HE
 have p1 : ∀ t, St p e below s₁ (mkF m 1 #[.val (.ref a_FALSE), .val (.ref a_FALSE), .unset] [(.ref a_FALSE)]) t → S0 t := fun t k => p0 t (by
   show St p e below s₁ (mkF m 0 #[.val (.ref a_FALSE), .val (.ref a_FALSE), .unset] []) t
   refine XS.aloadN X0.here hx rfl (hb hby d4_0) rfl rfl ?_
   exact k)
 obtain ⟨T2, X2, e2, st2⟩ := getS2 X0 hx hZ hown (host := "") (Or.inl (ww hw 16 rfl)) Via.refl e0 (Sa_FALSE.ext O0.2) (g := (mkF m 1 #[.val (.ref a_FALSE), .val (.ref a_FALSE), .unset] [(.ref a_FALSE)])) rfl (hb hby d4_1)
 have p3 : ∀ t, St p e below T2 (mkF m 4 #[.val (.ref a_FALSE), .val (.ref a_FALSE), .unset] [(.ref a_FALSE), (.ref a_FALSE)]) t → S0 t := fun t k => p1 t (st2 t k)
 have p4 : ∀ t, St p e below T2 (mkF m 14 #[.val (.ref a_FALSE), .val (.ref a_FALSE), .unset] []) t → S0 t := fun t k => p3 t (by
   show St p e below T2 (mkF m 4 #[.val (.ref a_FALSE), .val (.ref a_FALSE), .unset] [(.ref a_FALSE), (.ref a_FALSE)]) t
   refine Jvm.RoadKit.acmp (g := (mkF m 4 #[.val (.ref a_FALSE), .val (.ref a_FALSE), .unset] [(.ref a_FALSE), (.ref a_FALSE)])) X2 hx rfl rfl rfl (pc0 := 4) (pc' := 14) (same := true) rfl (hb hby d4_4) rfl (decide_eq_true rfl) (by decide) (by decide) ?_
   exact k)
 obtain ⟨T5, X5, e5, st5⟩ := getS2 X2 hx hZ hown (host := "") (Or.inl (ww hw 16 rfl)) Via.refl e2 (Sa_FALSE.ext O0.2) (g := (mkF m 14 #[.val (.ref a_FALSE), .val (.ref a_FALSE), .unset] [])) rfl (hb hby d4_14)
 have p6 : ∀ t, St p e below T5 (mkF m 17 #[.val (.ref a_FALSE), .val (.ref a_FALSE), .unset] [(.ref a_FALSE)]) t → S0 t := fun t k => p4 t (st5 t k)
 let Ls7 : Array Slot := #[.val (.ref a_FALSE), .val (.ref a_FALSE), .val (.ref a_FALSE)]
 have p8 : ∀ t, St p e below T5 (mkF m 47 Ls7 [(.ref a_FALSE)]) t → S0 t := fun t k => p6 t (by
   show St p e below T5 (mkF m 17 #[.val (.ref a_FALSE), .val (.ref a_FALSE), .unset] [(.ref a_FALSE)]) t
   refine XS.astoreN X5.here hx rfl (hb hby d4_17) rfl rfl (l' := Ls7) rfl ?_
   show St p e below T5 (mkF m 18 Ls7 []) t
   refine XS.goto X5.here hx rfl (pc0 := 18) (pc' := 46) rfl (hb hby d4_18) (by decide) (by decide) ?_
   show St p e below T5 (mkF m 46 Ls7 []) t
   refine XS.aloadN X5.here hx rfl (hb hby d4_46) rfl rfl ?_
   exact k)
 obtain ⟨fs, hr, hrun, hended, hW, hsame⟩ := X5.leave (v := some (.ref a_FALSE)) (fun h => by rw [Bd.returns] at h; cases h)
 refine ⟨_, _, p8 _ ?_, hrun, hended, _, _, rfl, ?_, ⟨_, rfl⟩, hW, hsame.mono (by decide) (by decide)⟩
 · exact retOut X5 hx Bd.returns rfl (Or.inr (Or.inr (Or.inr (Or.inr ⟨rfl, rfl, rfl⟩)))) (hb hby d4_47) hr
 · show Q4_14 Z a_TRUE a_UNKNOWN a_FALSE h0 n0 _ T5.heap _
   exact ⟨N0, e5, rfl⟩
def Q5_15 (Z : State) (a_TRUE : Addr) (a_UNKNOWN : Addr) (a_FALSE : Addr) (h0 : Heap) (n0 : Nat) (v : Option Value) (h : Heap) (L : List Loc) : Prop := Fr n0 L ∧ h = h0 ∧ ((v = some (.ref a_TRUE)))
set_option maxRecDepth 65536 in
set_option maxHeartbeats 40000000 in
theorem rm5_15 (l : Launch) (Z : State) (a0 : Array Value) (hw : ∀ d ∈ tables_1, d.before a0 Z = true) (ws : List Jvm.Cond) (a_TRUE : Addr) (a_UNKNOWN : Addr) (a_FALSE : Addr) (h0 : Heap) (n0 : Nat) (O0 : Old Z n0 h0) (HE : Env1 Z a_TRUE a_UNKNOWN a_FALSE)  :
    MetFree l M4 (head1 (Jvm.Cond.code M4 prog_32_method_7_code 3 (some (.object "com/example/herald4/herald4/filter/Truth")) :: ws) ({ frames := 0, cells := 0, slots := 0, locals := 0 } : Room)) (fun a U => a = #[(.ref a_TRUE), (.ref a_TRUE)] ∧ Z.Warmed39 U.vm ∧ U.heap = h0) (fun _ _ _ _ _ => True) (fun _ U o U' => ∃ v L, o = .returned v ∧ Q5_15 Z a_TRUE a_UNKNOWN a_FALSE h0 n0 v U'.heap L ∧ FrameEnd U o U' L ({ frames := 0, cells := 0, slots := 0, locals := 0 } : Room).cells ({ frames := 0, cells := 0, slots := 0, locals := 0 } : Room).slots) := by
 refine MetFree.of_bodySF (plainFor_of_name pn1) hisR ?_
 intro p e s m args below meth c s₁ Bd hml0 hP hK
 obtain ⟨rfl, hZ, hh⟩ := hP
 have hx := Bd.exec
 have hby := Bd.bytes
 have hml : c.maxLocals = 3 := hml0
 have hown : s.vm.findClass "com/example/herald4/herald4/filter/Truth" = some m.cls := findClass_of_methodNamed Bd.named
 have hnm := (name_of_methodNamed Bd.named Bd.method).1
 have X0 : Stand p l e ({ frames := 0, cells := 0, slots := 0, locals := 0 } : Room) s m #[(.ref a_TRUE), (.ref a_TRUE)] below meth c s₁ [] 0 0 := Stand.of_body Bd
 have e0 : s₁.heap = h0 := by rw [← hh, Bd.state]; rfl
 have N0 := Fr.nil n0
 let S0 : State → Prop := fun t => Steps p.tables e below (s₁.setTop (entryFrame m #[(.ref a_TRUE), (.ref a_TRUE)] 3)) t
 have p0 : ∀ t, St p e below s₁ (mkF m 0 #[.val (.ref a_TRUE), .val (.ref a_TRUE), .unset] []) t → S0 t := fun t k => castTop (ef5 m a_TRUE a_TRUE) k
 have HE' := HE
 obtain ⟨Sa_TRUE, Ea_TRUE, Sa_UNKNOWN, Ea_UNKNOWN, Fa_TRUE_ordinal, Fa_UNKNOWN_ordinal, Sa_FALSE, Ea_FALSE, Fa_FALSE_ordinal⟩ := HE
 have p1 : ∀ t, St p e below s₁ (mkF m 1 #[.val (.ref a_TRUE), .val (.ref a_TRUE), .unset] [(.ref a_TRUE)]) t → S0 t := fun t k => p0 t (by
   show St p e below s₁ (mkF m 0 #[.val (.ref a_TRUE), .val (.ref a_TRUE), .unset] []) t
   refine XS.aloadN X0.here hx rfl (hb hby d5_0) rfl rfl ?_
   exact k)
 obtain ⟨T2, X2, e2, st2⟩ := getS2 X0 hx hZ hown (host := "") (Or.inl (ww hw 15 rfl)) Via.refl e0 (Sa_TRUE.ext O0.2) (g := (mkF m 1 #[.val (.ref a_TRUE), .val (.ref a_TRUE), .unset] [(.ref a_TRUE)])) rfl (hb hby d5_1)
 have p3 : ∀ t, St p e below T2 (mkF m 4 #[.val (.ref a_TRUE), .val (.ref a_TRUE), .unset] [(.ref a_TRUE), (.ref a_TRUE)]) t → S0 t := fun t k => p1 t (st2 t k)
 have p4 : ∀ t, St p e below T2 (mkF m 14 #[.val (.ref a_TRUE), .val (.ref a_TRUE), .unset] []) t → S0 t := fun t k => p3 t (by
   show St p e below T2 (mkF m 4 #[.val (.ref a_TRUE), .val (.ref a_TRUE), .unset] [(.ref a_TRUE), (.ref a_TRUE)]) t
   refine Jvm.RoadKit.acmp (g := (mkF m 4 #[.val (.ref a_TRUE), .val (.ref a_TRUE), .unset] [(.ref a_TRUE), (.ref a_TRUE)])) X2 hx rfl rfl rfl (pc0 := 4) (pc' := 14) (same := true) rfl (hb hby d5_4) rfl (decide_eq_true rfl) (by decide) (by decide) ?_
   exact k)
 obtain ⟨T5, X5, e5, st5⟩ := getS2 X2 hx hZ hown (host := "") (Or.inl (ww hw 15 rfl)) Via.refl e2 (Sa_TRUE.ext O0.2) (g := (mkF m 14 #[.val (.ref a_TRUE), .val (.ref a_TRUE), .unset] [])) rfl (hb hby d5_14)
 have p6 : ∀ t, St p e below T5 (mkF m 17 #[.val (.ref a_TRUE), .val (.ref a_TRUE), .unset] [(.ref a_TRUE)]) t → S0 t := fun t k => p4 t (st5 t k)
 let Ls7 : Array Slot := #[.val (.ref a_TRUE), .val (.ref a_TRUE), .val (.ref a_TRUE)]
 have p8 : ∀ t, St p e below T5 (mkF m 47 Ls7 [(.ref a_TRUE)]) t → S0 t := fun t k => p6 t (by
   show St p e below T5 (mkF m 17 #[.val (.ref a_TRUE), .val (.ref a_TRUE), .unset] [(.ref a_TRUE)]) t
   refine XS.astoreN X5.here hx rfl (hb hby d5_17) rfl rfl (l' := Ls7) rfl ?_
   show St p e below T5 (mkF m 18 Ls7 []) t
   refine XS.goto X5.here hx rfl (pc0 := 18) (pc' := 46) rfl (hb hby d5_18) (by decide) (by decide) ?_
   show St p e below T5 (mkF m 46 Ls7 []) t
   refine XS.aloadN X5.here hx rfl (hb hby d5_46) rfl rfl ?_
   exact k)
 obtain ⟨fs, hr, hrun, hended, hW, hsame⟩ := X5.leave (v := some (.ref a_TRUE)) (fun h => by rw [Bd.returns] at h; cases h)
 refine ⟨_, _, p8 _ ?_, hrun, hended, _, _, rfl, ?_, ⟨_, rfl⟩, hW, hsame.mono (by decide) (by decide)⟩
 · exact retOut X5 hx Bd.returns rfl (Or.inr (Or.inr (Or.inr (Or.inr ⟨rfl, rfl, rfl⟩)))) (hb hby d5_47) hr
 · show Q5_15 Z a_TRUE a_UNKNOWN a_FALSE h0 n0 _ T5.heap _
   exact ⟨N0, e5, rfl⟩
def Q4_16 (Z : State) (a_TRUE : Addr) (a_UNKNOWN : Addr) (a_FALSE : Addr) (h0 : Heap) (n0 : Nat) (v : Option Value) (h : Heap) (L : List Loc) : Prop := Fr n0 L ∧ h = h0 ∧ ((v = some (.ref a_FALSE)))
set_option maxRecDepth 65536 in
set_option maxHeartbeats 40000000 in
theorem rm4_16 (l : Launch) (Z : State) (a0 : Array Value) (hw : ∀ d ∈ tables_1, d.before a0 Z = true) (ws : List Jvm.Cond) (a_TRUE : Addr) (a_UNKNOWN : Addr) (a_FALSE : Addr) (h0 : Heap) (n0 : Nat) (O0 : Old Z n0 h0) (HE : Env1 Z a_TRUE a_UNKNOWN a_FALSE)  :
    MetFree l M3 (head1 (Jvm.Cond.code M3 prog_32_method_6_code 3 (some (.object "com/example/herald4/herald4/filter/Truth")) :: ws) ({ frames := 0, cells := 0, slots := 0, locals := 0 } : Room)) (fun a U => a = #[(.ref a_FALSE), (.ref a_UNKNOWN)] ∧ Z.Warmed39 U.vm ∧ U.heap = h0) (fun _ _ _ _ _ => True) (fun _ U o U' => ∃ v L, o = .returned v ∧ Q4_16 Z a_TRUE a_UNKNOWN a_FALSE h0 n0 v U'.heap L ∧ FrameEnd U o U' L ({ frames := 0, cells := 0, slots := 0, locals := 0 } : Room).cells ({ frames := 0, cells := 0, slots := 0, locals := 0 } : Room).slots) := by
 refine MetFree.of_bodySF (plainFor_of_name pn1) hisR ?_
 intro p e s m args below meth c s₁ Bd hml0 hP hK
 obtain ⟨rfl, hZ, hh⟩ := hP
 have hx := Bd.exec
 have hby := Bd.bytes
 have hml : c.maxLocals = 3 := hml0
 have hown : s.vm.findClass "com/example/herald4/herald4/filter/Truth" = some m.cls := findClass_of_methodNamed Bd.named
 have hnm := (name_of_methodNamed Bd.named Bd.method).1
 have X0 : Stand p l e ({ frames := 0, cells := 0, slots := 0, locals := 0 } : Room) s m #[(.ref a_FALSE), (.ref a_UNKNOWN)] below meth c s₁ [] 0 0 := Stand.of_body Bd
 have e0 : s₁.heap = h0 := by rw [← hh, Bd.state]; rfl
 have N0 := Fr.nil n0
 let S0 : State → Prop := fun t => Steps p.tables e below (s₁.setTop (entryFrame m #[(.ref a_FALSE), (.ref a_UNKNOWN)] 3)) t
 have p0 : ∀ t, St p e below s₁ (mkF m 0 #[.val (.ref a_FALSE), .val (.ref a_UNKNOWN), .unset] []) t → S0 t := fun t k => castTop (ef4 m a_FALSE a_UNKNOWN) k
 have HE' := HE
 obtain ⟨Sa_TRUE, Ea_TRUE, Sa_UNKNOWN, Ea_UNKNOWN, Fa_TRUE_ordinal, Fa_UNKNOWN_ordinal, Sa_FALSE, Ea_FALSE, Fa_FALSE_ordinal⟩ := HE
 have p1 : ∀ t, St p e below s₁ (mkF m 1 #[.val (.ref a_FALSE), .val (.ref a_UNKNOWN), .unset] [(.ref a_FALSE)]) t → S0 t := fun t k => p0 t (by
   show St p e below s₁ (mkF m 0 #[.val (.ref a_FALSE), .val (.ref a_UNKNOWN), .unset] []) t
   refine XS.aloadN X0.here hx rfl (hb hby d4_0) rfl rfl ?_
   exact k)
 obtain ⟨T2, X2, e2, st2⟩ := getS2 X0 hx hZ hown (host := "") (Or.inl (ww hw 16 rfl)) Via.refl e0 (Sa_FALSE.ext O0.2) (g := (mkF m 1 #[.val (.ref a_FALSE), .val (.ref a_UNKNOWN), .unset] [(.ref a_FALSE)])) rfl (hb hby d4_1)
 have p3 : ∀ t, St p e below T2 (mkF m 4 #[.val (.ref a_FALSE), .val (.ref a_UNKNOWN), .unset] [(.ref a_FALSE), (.ref a_FALSE)]) t → S0 t := fun t k => p1 t (st2 t k)
 have p4 : ∀ t, St p e below T2 (mkF m 14 #[.val (.ref a_FALSE), .val (.ref a_UNKNOWN), .unset] []) t → S0 t := fun t k => p3 t (by
   show St p e below T2 (mkF m 4 #[.val (.ref a_FALSE), .val (.ref a_UNKNOWN), .unset] [(.ref a_FALSE), (.ref a_FALSE)]) t
   refine Jvm.RoadKit.acmp (g := (mkF m 4 #[.val (.ref a_FALSE), .val (.ref a_UNKNOWN), .unset] [(.ref a_FALSE), (.ref a_FALSE)])) X2 hx rfl rfl rfl (pc0 := 4) (pc' := 14) (same := true) rfl (hb hby d4_4) rfl (decide_eq_true rfl) (by decide) (by decide) ?_
   exact k)
 obtain ⟨T5, X5, e5, st5⟩ := getS2 X2 hx hZ hown (host := "") (Or.inl (ww hw 16 rfl)) Via.refl e2 (Sa_FALSE.ext O0.2) (g := (mkF m 14 #[.val (.ref a_FALSE), .val (.ref a_UNKNOWN), .unset] [])) rfl (hb hby d4_14)
 have p6 : ∀ t, St p e below T5 (mkF m 17 #[.val (.ref a_FALSE), .val (.ref a_UNKNOWN), .unset] [(.ref a_FALSE)]) t → S0 t := fun t k => p4 t (st5 t k)
 let Ls7 : Array Slot := #[.val (.ref a_FALSE), .val (.ref a_UNKNOWN), .val (.ref a_FALSE)]
 have p8 : ∀ t, St p e below T5 (mkF m 47 Ls7 [(.ref a_FALSE)]) t → S0 t := fun t k => p6 t (by
   show St p e below T5 (mkF m 17 #[.val (.ref a_FALSE), .val (.ref a_UNKNOWN), .unset] [(.ref a_FALSE)]) t
   refine XS.astoreN X5.here hx rfl (hb hby d4_17) rfl rfl (l' := Ls7) rfl ?_
   show St p e below T5 (mkF m 18 Ls7 []) t
   refine XS.goto X5.here hx rfl (pc0 := 18) (pc' := 46) rfl (hb hby d4_18) (by decide) (by decide) ?_
   show St p e below T5 (mkF m 46 Ls7 []) t
   refine XS.aloadN X5.here hx rfl (hb hby d4_46) rfl rfl ?_
   exact k)
 obtain ⟨fs, hr, hrun, hended, hW, hsame⟩ := X5.leave (v := some (.ref a_FALSE)) (fun h => by rw [Bd.returns] at h; cases h)
 refine ⟨_, _, p8 _ ?_, hrun, hended, _, _, rfl, ?_, ⟨_, rfl⟩, hW, hsame.mono (by decide) (by decide)⟩
 · exact retOut X5 hx Bd.returns rfl (Or.inr (Or.inr (Or.inr (Or.inr ⟨rfl, rfl, rfl⟩)))) (hb hby d4_47) hr
 · show Q4_16 Z a_TRUE a_UNKNOWN a_FALSE h0 n0 _ T5.heap _
   exact ⟨N0, e5, rfl⟩
def Q5_17 (Z : State) (a_TRUE : Addr) (a_UNKNOWN : Addr) (a_FALSE : Addr) (h0 : Heap) (n0 : Nat) (v : Option Value) (h : Heap) (L : List Loc) : Prop := Fr n0 L ∧ h = h0 ∧ ((v = some (.ref a_TRUE)))
set_option maxRecDepth 65536 in
set_option maxHeartbeats 40000000 in
theorem rm5_17 (l : Launch) (Z : State) (a0 : Array Value) (hw : ∀ d ∈ tables_1, d.before a0 Z = true) (ws : List Jvm.Cond) (a_TRUE : Addr) (a_UNKNOWN : Addr) (a_FALSE : Addr) (h0 : Heap) (n0 : Nat) (O0 : Old Z n0 h0) (HE : Env1 Z a_TRUE a_UNKNOWN a_FALSE)  :
    MetFree l M4 (head1 (Jvm.Cond.code M4 prog_32_method_7_code 3 (some (.object "com/example/herald4/herald4/filter/Truth")) :: ws) ({ frames := 0, cells := 0, slots := 0, locals := 0 } : Room)) (fun a U => a = #[(.ref a_TRUE), (.ref a_UNKNOWN)] ∧ Z.Warmed39 U.vm ∧ U.heap = h0) (fun _ _ _ _ _ => True) (fun _ U o U' => ∃ v L, o = .returned v ∧ Q5_17 Z a_TRUE a_UNKNOWN a_FALSE h0 n0 v U'.heap L ∧ FrameEnd U o U' L ({ frames := 0, cells := 0, slots := 0, locals := 0 } : Room).cells ({ frames := 0, cells := 0, slots := 0, locals := 0 } : Room).slots) := by
 refine MetFree.of_bodySF (plainFor_of_name pn1) hisR ?_
 intro p e s m args below meth c s₁ Bd hml0 hP hK
 obtain ⟨rfl, hZ, hh⟩ := hP
 have hx := Bd.exec
 have hby := Bd.bytes
 have hml : c.maxLocals = 3 := hml0
 have hown : s.vm.findClass "com/example/herald4/herald4/filter/Truth" = some m.cls := findClass_of_methodNamed Bd.named
 have hnm := (name_of_methodNamed Bd.named Bd.method).1
 have X0 : Stand p l e ({ frames := 0, cells := 0, slots := 0, locals := 0 } : Room) s m #[(.ref a_TRUE), (.ref a_UNKNOWN)] below meth c s₁ [] 0 0 := Stand.of_body Bd
 have e0 : s₁.heap = h0 := by rw [← hh, Bd.state]; rfl
 have N0 := Fr.nil n0
 let S0 : State → Prop := fun t => Steps p.tables e below (s₁.setTop (entryFrame m #[(.ref a_TRUE), (.ref a_UNKNOWN)] 3)) t
 have p0 : ∀ t, St p e below s₁ (mkF m 0 #[.val (.ref a_TRUE), .val (.ref a_UNKNOWN), .unset] []) t → S0 t := fun t k => castTop (ef5 m a_TRUE a_UNKNOWN) k
 have HE' := HE
 obtain ⟨Sa_TRUE, Ea_TRUE, Sa_UNKNOWN, Ea_UNKNOWN, Fa_TRUE_ordinal, Fa_UNKNOWN_ordinal, Sa_FALSE, Ea_FALSE, Fa_FALSE_ordinal⟩ := HE
 have p1 : ∀ t, St p e below s₁ (mkF m 1 #[.val (.ref a_TRUE), .val (.ref a_UNKNOWN), .unset] [(.ref a_TRUE)]) t → S0 t := fun t k => p0 t (by
   show St p e below s₁ (mkF m 0 #[.val (.ref a_TRUE), .val (.ref a_UNKNOWN), .unset] []) t
   refine XS.aloadN X0.here hx rfl (hb hby d5_0) rfl rfl ?_
   exact k)
 obtain ⟨T2, X2, e2, st2⟩ := getS2 X0 hx hZ hown (host := "") (Or.inl (ww hw 15 rfl)) Via.refl e0 (Sa_TRUE.ext O0.2) (g := (mkF m 1 #[.val (.ref a_TRUE), .val (.ref a_UNKNOWN), .unset] [(.ref a_TRUE)])) rfl (hb hby d5_1)
 have p3 : ∀ t, St p e below T2 (mkF m 4 #[.val (.ref a_TRUE), .val (.ref a_UNKNOWN), .unset] [(.ref a_TRUE), (.ref a_TRUE)]) t → S0 t := fun t k => p1 t (st2 t k)
 have p4 : ∀ t, St p e below T2 (mkF m 14 #[.val (.ref a_TRUE), .val (.ref a_UNKNOWN), .unset] []) t → S0 t := fun t k => p3 t (by
   show St p e below T2 (mkF m 4 #[.val (.ref a_TRUE), .val (.ref a_UNKNOWN), .unset] [(.ref a_TRUE), (.ref a_TRUE)]) t
   refine Jvm.RoadKit.acmp (g := (mkF m 4 #[.val (.ref a_TRUE), .val (.ref a_UNKNOWN), .unset] [(.ref a_TRUE), (.ref a_TRUE)])) X2 hx rfl rfl rfl (pc0 := 4) (pc' := 14) (same := true) rfl (hb hby d5_4) rfl (decide_eq_true rfl) (by decide) (by decide) ?_
   exact k)
 obtain ⟨T5, X5, e5, st5⟩ := getS2 X2 hx hZ hown (host := "") (Or.inl (ww hw 15 rfl)) Via.refl e2 (Sa_TRUE.ext O0.2) (g := (mkF m 14 #[.val (.ref a_TRUE), .val (.ref a_UNKNOWN), .unset] [])) rfl (hb hby d5_14)
 have p6 : ∀ t, St p e below T5 (mkF m 17 #[.val (.ref a_TRUE), .val (.ref a_UNKNOWN), .unset] [(.ref a_TRUE)]) t → S0 t := fun t k => p4 t (st5 t k)
 let Ls7 : Array Slot := #[.val (.ref a_TRUE), .val (.ref a_UNKNOWN), .val (.ref a_TRUE)]
 have p8 : ∀ t, St p e below T5 (mkF m 47 Ls7 [(.ref a_TRUE)]) t → S0 t := fun t k => p6 t (by
   show St p e below T5 (mkF m 17 #[.val (.ref a_TRUE), .val (.ref a_UNKNOWN), .unset] [(.ref a_TRUE)]) t
   refine XS.astoreN X5.here hx rfl (hb hby d5_17) rfl rfl (l' := Ls7) rfl ?_
   show St p e below T5 (mkF m 18 Ls7 []) t
   refine XS.goto X5.here hx rfl (pc0 := 18) (pc' := 46) rfl (hb hby d5_18) (by decide) (by decide) ?_
   show St p e below T5 (mkF m 46 Ls7 []) t
   refine XS.aloadN X5.here hx rfl (hb hby d5_46) rfl rfl ?_
   exact k)
 obtain ⟨fs, hr, hrun, hended, hW, hsame⟩ := X5.leave (v := some (.ref a_TRUE)) (fun h => by rw [Bd.returns] at h; cases h)
 refine ⟨_, _, p8 _ ?_, hrun, hended, _, _, rfl, ?_, ⟨_, rfl⟩, hW, hsame.mono (by decide) (by decide)⟩
 · exact retOut X5 hx Bd.returns rfl (Or.inr (Or.inr (Or.inr (Or.inr ⟨rfl, rfl, rfl⟩)))) (hb hby d5_47) hr
 · show Q5_17 Z a_TRUE a_UNKNOWN a_FALSE h0 n0 _ T5.heap _
   exact ⟨N0, e5, rfl⟩
def Q4_18 (Z : State) (a_TRUE : Addr) (a_UNKNOWN : Addr) (a_FALSE : Addr) (h0 : Heap) (n0 : Nat) (v : Option Value) (h : Heap) (L : List Loc) : Prop := Fr n0 L ∧ h = h0 ∧ ((v = some (.ref a_UNKNOWN)))
set_option maxRecDepth 65536 in
set_option maxHeartbeats 40000000 in
theorem rm4_18 (l : Launch) (Z : State) (a0 : Array Value) (hw : ∀ d ∈ tables_1, d.before a0 Z = true) (ws : List Jvm.Cond) (a_TRUE : Addr) (a_UNKNOWN : Addr) (a_FALSE : Addr) (h0 : Heap) (n0 : Nat) (O0 : Old Z n0 h0) (HE : Env1 Z a_TRUE a_UNKNOWN a_FALSE)  :
    MetFree l M3 (head1 (Jvm.Cond.code M3 prog_32_method_6_code 3 (some (.object "com/example/herald4/herald4/filter/Truth")) :: ws) ({ frames := 0, cells := 0, slots := 0, locals := 0 } : Room)) (fun a U => a = #[(.ref a_UNKNOWN), (.ref a_TRUE)] ∧ Z.Warmed39 U.vm ∧ U.heap = h0) (fun _ _ _ _ _ => True) (fun _ U o U' => ∃ v L, o = .returned v ∧ Q4_18 Z a_TRUE a_UNKNOWN a_FALSE h0 n0 v U'.heap L ∧ FrameEnd U o U' L ({ frames := 0, cells := 0, slots := 0, locals := 0 } : Room).cells ({ frames := 0, cells := 0, slots := 0, locals := 0 } : Room).slots) := by
 refine MetFree.of_bodySF (plainFor_of_name pn1) hisR ?_
 intro p e s m args below meth c s₁ Bd hml0 hP hK
 obtain ⟨rfl, hZ, hh⟩ := hP
 have hx := Bd.exec
 have hby := Bd.bytes
 have hml : c.maxLocals = 3 := hml0
 have hown : s.vm.findClass "com/example/herald4/herald4/filter/Truth" = some m.cls := findClass_of_methodNamed Bd.named
 have hnm := (name_of_methodNamed Bd.named Bd.method).1
 have X0 : Stand p l e ({ frames := 0, cells := 0, slots := 0, locals := 0 } : Room) s m #[(.ref a_UNKNOWN), (.ref a_TRUE)] below meth c s₁ [] 0 0 := Stand.of_body Bd
 have e0 : s₁.heap = h0 := by rw [← hh, Bd.state]; rfl
 have N0 := Fr.nil n0
 let S0 : State → Prop := fun t => Steps p.tables e below (s₁.setTop (entryFrame m #[(.ref a_UNKNOWN), (.ref a_TRUE)] 3)) t
 have p0 : ∀ t, St p e below s₁ (mkF m 0 #[.val (.ref a_UNKNOWN), .val (.ref a_TRUE), .unset] []) t → S0 t := fun t k => castTop (ef4 m a_UNKNOWN a_TRUE) k
 have HE' := HE
 obtain ⟨Sa_TRUE, Ea_TRUE, Sa_UNKNOWN, Ea_UNKNOWN, Fa_TRUE_ordinal, Fa_UNKNOWN_ordinal, Sa_FALSE, Ea_FALSE, Fa_FALSE_ordinal⟩ := HE
 have p1 : ∀ t, St p e below s₁ (mkF m 1 #[.val (.ref a_UNKNOWN), .val (.ref a_TRUE), .unset] [(.ref a_UNKNOWN)]) t → S0 t := fun t k => p0 t (by
   show St p e below s₁ (mkF m 0 #[.val (.ref a_UNKNOWN), .val (.ref a_TRUE), .unset] []) t
   refine XS.aloadN X0.here hx rfl (hb hby d4_0) rfl rfl ?_
   exact k)
 obtain ⟨T2, X2, e2, st2⟩ := getS2 X0 hx hZ hown (host := "") (Or.inl (ww hw 16 rfl)) Via.refl e0 (Sa_FALSE.ext O0.2) (g := (mkF m 1 #[.val (.ref a_UNKNOWN), .val (.ref a_TRUE), .unset] [(.ref a_UNKNOWN)])) rfl (hb hby d4_1)
 have p3 : ∀ t, St p e below T2 (mkF m 4 #[.val (.ref a_UNKNOWN), .val (.ref a_TRUE), .unset] [(.ref a_FALSE), (.ref a_UNKNOWN)]) t → S0 t := fun t k => p1 t (st2 t k)
 have p4 : ∀ t, St p e below T2 (mkF m 8 #[.val (.ref a_UNKNOWN), .val (.ref a_TRUE), .unset] [(.ref a_TRUE)]) t → S0 t := fun t k => p3 t (by
   show St p e below T2 (mkF m 4 #[.val (.ref a_UNKNOWN), .val (.ref a_TRUE), .unset] [(.ref a_FALSE), (.ref a_UNKNOWN)]) t
   refine Jvm.RoadKit.acmp (g := (mkF m 4 #[.val (.ref a_UNKNOWN), .val (.ref a_TRUE), .unset] [(.ref a_FALSE), (.ref a_UNKNOWN)])) X2 hx rfl rfl rfl (pc0 := 4) (pc' := 7) (same := false) rfl (hb hby d4_4) rfl (decide_eq_false fun q => (Fld.ne Fa_UNKNOWN_ordinal Fa_FALSE_ordinal (fun q => absurd (Value.int.inj q) (by decide))) (Value.ref.inj q)) (by decide) (by decide) ?_
   show St p e below T2 (mkF m 7 #[.val (.ref a_UNKNOWN), .val (.ref a_TRUE), .unset] []) t
   refine XS.aloadN X2.here hx rfl (hb hby d4_7) rfl rfl ?_
   exact k)
 obtain ⟨T5, X5, e5, st5⟩ := getS2 X2 hx hZ hown (host := "") (Or.inl (ww hw 16 rfl)) Via.refl e2 (Sa_FALSE.ext O0.2) (g := (mkF m 8 #[.val (.ref a_UNKNOWN), .val (.ref a_TRUE), .unset] [(.ref a_TRUE)])) rfl (hb hby d4_8)
 have p6 : ∀ t, St p e below T5 (mkF m 11 #[.val (.ref a_UNKNOWN), .val (.ref a_TRUE), .unset] [(.ref a_FALSE), (.ref a_TRUE)]) t → S0 t := fun t k => p4 t (st5 t k)
 have p7 : ∀ t, St p e below T5 (mkF m 22 #[.val (.ref a_UNKNOWN), .val (.ref a_TRUE), .unset] [(.ref a_UNKNOWN)]) t → S0 t := fun t k => p6 t (by
   show St p e below T5 (mkF m 11 #[.val (.ref a_UNKNOWN), .val (.ref a_TRUE), .unset] [(.ref a_FALSE), (.ref a_TRUE)]) t
   refine Jvm.RoadKit.acmp (g := (mkF m 11 #[.val (.ref a_UNKNOWN), .val (.ref a_TRUE), .unset] [(.ref a_FALSE), (.ref a_TRUE)])) X5 hx rfl rfl rfl (pc0 := 11) (pc' := 21) (same := false) rfl (hb hby d4_11) rfl (decide_eq_false fun q => (Fld.ne Fa_TRUE_ordinal Fa_FALSE_ordinal (fun q => absurd (Value.int.inj q) (by decide))) (Value.ref.inj q)) (by decide) (by decide) ?_
   show St p e below T5 (mkF m 21 #[.val (.ref a_UNKNOWN), .val (.ref a_TRUE), .unset] []) t
   refine XS.aloadN X5.here hx rfl (hb hby d4_21) rfl rfl ?_
   exact k)
 obtain ⟨T8, X8, e8, st8⟩ := getS2 X5 hx hZ hown (host := "") (Or.inl (ww hw 13 rfl)) Via.refl e5 (Sa_UNKNOWN.ext O0.2) (g := (mkF m 22 #[.val (.ref a_UNKNOWN), .val (.ref a_TRUE), .unset] [(.ref a_UNKNOWN)])) rfl (hb hby d4_22)
 have p9 : ∀ t, St p e below T8 (mkF m 25 #[.val (.ref a_UNKNOWN), .val (.ref a_TRUE), .unset] [(.ref a_UNKNOWN), (.ref a_UNKNOWN)]) t → S0 t := fun t k => p7 t (st8 t k)
 have p10 : ∀ t, St p e below T8 (mkF m 35 #[.val (.ref a_UNKNOWN), .val (.ref a_TRUE), .unset] []) t → S0 t := fun t k => p9 t (by
   show St p e below T8 (mkF m 25 #[.val (.ref a_UNKNOWN), .val (.ref a_TRUE), .unset] [(.ref a_UNKNOWN), (.ref a_UNKNOWN)]) t
   refine Jvm.RoadKit.acmp (g := (mkF m 25 #[.val (.ref a_UNKNOWN), .val (.ref a_TRUE), .unset] [(.ref a_UNKNOWN), (.ref a_UNKNOWN)])) X8 hx rfl rfl rfl (pc0 := 25) (pc' := 35) (same := true) rfl (hb hby d4_25) rfl (decide_eq_true rfl) (by decide) (by decide) ?_
   exact k)
 obtain ⟨T11, X11, e11, st11⟩ := getS2 X8 hx hZ hown (host := "") (Or.inl (ww hw 13 rfl)) Via.refl e8 (Sa_UNKNOWN.ext O0.2) (g := (mkF m 35 #[.val (.ref a_UNKNOWN), .val (.ref a_TRUE), .unset] [])) rfl (hb hby d4_35)
 have p12 : ∀ t, St p e below T11 (mkF m 38 #[.val (.ref a_UNKNOWN), .val (.ref a_TRUE), .unset] [(.ref a_UNKNOWN)]) t → S0 t := fun t k => p10 t (st11 t k)
 let Ls13 : Array Slot := #[.val (.ref a_UNKNOWN), .val (.ref a_TRUE), .val (.ref a_UNKNOWN)]
 have p14 : ∀ t, St p e below T11 (mkF m 47 Ls13 [(.ref a_UNKNOWN)]) t → S0 t := fun t k => p12 t (by
   show St p e below T11 (mkF m 38 #[.val (.ref a_UNKNOWN), .val (.ref a_TRUE), .unset] [(.ref a_UNKNOWN)]) t
   refine XS.astoreN X11.here hx rfl (hb hby d4_38) rfl rfl (l' := Ls13) rfl ?_
   show St p e below T11 (mkF m 39 Ls13 []) t
   refine XS.goto X11.here hx rfl (pc0 := 39) (pc' := 46) rfl (hb hby d4_39) (by decide) (by decide) ?_
   show St p e below T11 (mkF m 46 Ls13 []) t
   refine XS.aloadN X11.here hx rfl (hb hby d4_46) rfl rfl ?_
   exact k)
 obtain ⟨fs, hr, hrun, hended, hW, hsame⟩ := X11.leave (v := some (.ref a_UNKNOWN)) (fun h => by rw [Bd.returns] at h; cases h)
 refine ⟨_, _, p14 _ ?_, hrun, hended, _, _, rfl, ?_, ⟨_, rfl⟩, hW, hsame.mono (by decide) (by decide)⟩
 · exact retOut X11 hx Bd.returns rfl (Or.inr (Or.inr (Or.inr (Or.inr ⟨rfl, rfl, rfl⟩)))) (hb hby d4_47) hr
 · show Q4_18 Z a_TRUE a_UNKNOWN a_FALSE h0 n0 _ T11.heap _
   exact ⟨N0, e11, rfl⟩
def Q5_19 (Z : State) (a_TRUE : Addr) (a_UNKNOWN : Addr) (a_FALSE : Addr) (h0 : Heap) (n0 : Nat) (v : Option Value) (h : Heap) (L : List Loc) : Prop := Fr n0 L ∧ h = h0 ∧ ((v = some (.ref a_UNKNOWN)))
set_option maxRecDepth 65536 in
set_option maxHeartbeats 40000000 in
theorem rm5_19 (l : Launch) (Z : State) (a0 : Array Value) (hw : ∀ d ∈ tables_1, d.before a0 Z = true) (ws : List Jvm.Cond) (a_TRUE : Addr) (a_UNKNOWN : Addr) (a_FALSE : Addr) (h0 : Heap) (n0 : Nat) (O0 : Old Z n0 h0) (HE : Env1 Z a_TRUE a_UNKNOWN a_FALSE)  :
    MetFree l M4 (head1 (Jvm.Cond.code M4 prog_32_method_7_code 3 (some (.object "com/example/herald4/herald4/filter/Truth")) :: ws) ({ frames := 0, cells := 0, slots := 0, locals := 0 } : Room)) (fun a U => a = #[(.ref a_UNKNOWN), (.ref a_FALSE)] ∧ Z.Warmed39 U.vm ∧ U.heap = h0) (fun _ _ _ _ _ => True) (fun _ U o U' => ∃ v L, o = .returned v ∧ Q5_19 Z a_TRUE a_UNKNOWN a_FALSE h0 n0 v U'.heap L ∧ FrameEnd U o U' L ({ frames := 0, cells := 0, slots := 0, locals := 0 } : Room).cells ({ frames := 0, cells := 0, slots := 0, locals := 0 } : Room).slots) := by
 refine MetFree.of_bodySF (plainFor_of_name pn1) hisR ?_
 intro p e s m args below meth c s₁ Bd hml0 hP hK
 obtain ⟨rfl, hZ, hh⟩ := hP
 have hx := Bd.exec
 have hby := Bd.bytes
 have hml : c.maxLocals = 3 := hml0
 have hown : s.vm.findClass "com/example/herald4/herald4/filter/Truth" = some m.cls := findClass_of_methodNamed Bd.named
 have hnm := (name_of_methodNamed Bd.named Bd.method).1
 have X0 : Stand p l e ({ frames := 0, cells := 0, slots := 0, locals := 0 } : Room) s m #[(.ref a_UNKNOWN), (.ref a_FALSE)] below meth c s₁ [] 0 0 := Stand.of_body Bd
 have e0 : s₁.heap = h0 := by rw [← hh, Bd.state]; rfl
 have N0 := Fr.nil n0
 let S0 : State → Prop := fun t => Steps p.tables e below (s₁.setTop (entryFrame m #[(.ref a_UNKNOWN), (.ref a_FALSE)] 3)) t
 have p0 : ∀ t, St p e below s₁ (mkF m 0 #[.val (.ref a_UNKNOWN), .val (.ref a_FALSE), .unset] []) t → S0 t := fun t k => castTop (ef5 m a_UNKNOWN a_FALSE) k
 have HE' := HE
 obtain ⟨Sa_TRUE, Ea_TRUE, Sa_UNKNOWN, Ea_UNKNOWN, Fa_TRUE_ordinal, Fa_UNKNOWN_ordinal, Sa_FALSE, Ea_FALSE, Fa_FALSE_ordinal⟩ := HE
 have p1 : ∀ t, St p e below s₁ (mkF m 1 #[.val (.ref a_UNKNOWN), .val (.ref a_FALSE), .unset] [(.ref a_UNKNOWN)]) t → S0 t := fun t k => p0 t (by
   show St p e below s₁ (mkF m 0 #[.val (.ref a_UNKNOWN), .val (.ref a_FALSE), .unset] []) t
   refine XS.aloadN X0.here hx rfl (hb hby d5_0) rfl rfl ?_
   exact k)
 obtain ⟨T2, X2, e2, st2⟩ := getS2 X0 hx hZ hown (host := "") (Or.inl (ww hw 15 rfl)) Via.refl e0 (Sa_TRUE.ext O0.2) (g := (mkF m 1 #[.val (.ref a_UNKNOWN), .val (.ref a_FALSE), .unset] [(.ref a_UNKNOWN)])) rfl (hb hby d5_1)
 have p3 : ∀ t, St p e below T2 (mkF m 4 #[.val (.ref a_UNKNOWN), .val (.ref a_FALSE), .unset] [(.ref a_TRUE), (.ref a_UNKNOWN)]) t → S0 t := fun t k => p1 t (st2 t k)
 have p4 : ∀ t, St p e below T2 (mkF m 8 #[.val (.ref a_UNKNOWN), .val (.ref a_FALSE), .unset] [(.ref a_FALSE)]) t → S0 t := fun t k => p3 t (by
   show St p e below T2 (mkF m 4 #[.val (.ref a_UNKNOWN), .val (.ref a_FALSE), .unset] [(.ref a_TRUE), (.ref a_UNKNOWN)]) t
   refine Jvm.RoadKit.acmp (g := (mkF m 4 #[.val (.ref a_UNKNOWN), .val (.ref a_FALSE), .unset] [(.ref a_TRUE), (.ref a_UNKNOWN)])) X2 hx rfl rfl rfl (pc0 := 4) (pc' := 7) (same := false) rfl (hb hby d5_4) rfl (decide_eq_false fun q => (Fld.ne Fa_UNKNOWN_ordinal Fa_TRUE_ordinal (fun q => absurd (Value.int.inj q) (by decide))) (Value.ref.inj q)) (by decide) (by decide) ?_
   show St p e below T2 (mkF m 7 #[.val (.ref a_UNKNOWN), .val (.ref a_FALSE), .unset] []) t
   refine XS.aloadN X2.here hx rfl (hb hby d5_7) rfl rfl ?_
   exact k)
 obtain ⟨T5, X5, e5, st5⟩ := getS2 X2 hx hZ hown (host := "") (Or.inl (ww hw 15 rfl)) Via.refl e2 (Sa_TRUE.ext O0.2) (g := (mkF m 8 #[.val (.ref a_UNKNOWN), .val (.ref a_FALSE), .unset] [(.ref a_FALSE)])) rfl (hb hby d5_8)
 have p6 : ∀ t, St p e below T5 (mkF m 11 #[.val (.ref a_UNKNOWN), .val (.ref a_FALSE), .unset] [(.ref a_TRUE), (.ref a_FALSE)]) t → S0 t := fun t k => p4 t (st5 t k)
 have p7 : ∀ t, St p e below T5 (mkF m 22 #[.val (.ref a_UNKNOWN), .val (.ref a_FALSE), .unset] [(.ref a_UNKNOWN)]) t → S0 t := fun t k => p6 t (by
   show St p e below T5 (mkF m 11 #[.val (.ref a_UNKNOWN), .val (.ref a_FALSE), .unset] [(.ref a_TRUE), (.ref a_FALSE)]) t
   refine Jvm.RoadKit.acmp (g := (mkF m 11 #[.val (.ref a_UNKNOWN), .val (.ref a_FALSE), .unset] [(.ref a_TRUE), (.ref a_FALSE)])) X5 hx rfl rfl rfl (pc0 := 11) (pc' := 21) (same := false) rfl (hb hby d5_11) rfl (decide_eq_false fun q => (Fld.ne Fa_FALSE_ordinal Fa_TRUE_ordinal (fun q => absurd (Value.int.inj q) (by decide))) (Value.ref.inj q)) (by decide) (by decide) ?_
   show St p e below T5 (mkF m 21 #[.val (.ref a_UNKNOWN), .val (.ref a_FALSE), .unset] []) t
   refine XS.aloadN X5.here hx rfl (hb hby d5_21) rfl rfl ?_
   exact k)
 obtain ⟨T8, X8, e8, st8⟩ := getS2 X5 hx hZ hown (host := "") (Or.inl (ww hw 13 rfl)) Via.refl e5 (Sa_UNKNOWN.ext O0.2) (g := (mkF m 22 #[.val (.ref a_UNKNOWN), .val (.ref a_FALSE), .unset] [(.ref a_UNKNOWN)])) rfl (hb hby d5_22)
 have p9 : ∀ t, St p e below T8 (mkF m 25 #[.val (.ref a_UNKNOWN), .val (.ref a_FALSE), .unset] [(.ref a_UNKNOWN), (.ref a_UNKNOWN)]) t → S0 t := fun t k => p7 t (st8 t k)
 have p10 : ∀ t, St p e below T8 (mkF m 35 #[.val (.ref a_UNKNOWN), .val (.ref a_FALSE), .unset] []) t → S0 t := fun t k => p9 t (by
   show St p e below T8 (mkF m 25 #[.val (.ref a_UNKNOWN), .val (.ref a_FALSE), .unset] [(.ref a_UNKNOWN), (.ref a_UNKNOWN)]) t
   refine Jvm.RoadKit.acmp (g := (mkF m 25 #[.val (.ref a_UNKNOWN), .val (.ref a_FALSE), .unset] [(.ref a_UNKNOWN), (.ref a_UNKNOWN)])) X8 hx rfl rfl rfl (pc0 := 25) (pc' := 35) (same := true) rfl (hb hby d5_25) rfl (decide_eq_true rfl) (by decide) (by decide) ?_
   exact k)
 obtain ⟨T11, X11, e11, st11⟩ := getS2 X8 hx hZ hown (host := "") (Or.inl (ww hw 13 rfl)) Via.refl e8 (Sa_UNKNOWN.ext O0.2) (g := (mkF m 35 #[.val (.ref a_UNKNOWN), .val (.ref a_FALSE), .unset] [])) rfl (hb hby d5_35)
 have p12 : ∀ t, St p e below T11 (mkF m 38 #[.val (.ref a_UNKNOWN), .val (.ref a_FALSE), .unset] [(.ref a_UNKNOWN)]) t → S0 t := fun t k => p10 t (st11 t k)
 let Ls13 : Array Slot := #[.val (.ref a_UNKNOWN), .val (.ref a_FALSE), .val (.ref a_UNKNOWN)]
 have p14 : ∀ t, St p e below T11 (mkF m 47 Ls13 [(.ref a_UNKNOWN)]) t → S0 t := fun t k => p12 t (by
   show St p e below T11 (mkF m 38 #[.val (.ref a_UNKNOWN), .val (.ref a_FALSE), .unset] [(.ref a_UNKNOWN)]) t
   refine XS.astoreN X11.here hx rfl (hb hby d5_38) rfl rfl (l' := Ls13) rfl ?_
   show St p e below T11 (mkF m 39 Ls13 []) t
   refine XS.goto X11.here hx rfl (pc0 := 39) (pc' := 46) rfl (hb hby d5_39) (by decide) (by decide) ?_
   show St p e below T11 (mkF m 46 Ls13 []) t
   refine XS.aloadN X11.here hx rfl (hb hby d5_46) rfl rfl ?_
   exact k)
 obtain ⟨fs, hr, hrun, hended, hW, hsame⟩ := X11.leave (v := some (.ref a_UNKNOWN)) (fun h => by rw [Bd.returns] at h; cases h)
 refine ⟨_, _, p14 _ ?_, hrun, hended, _, _, rfl, ?_, ⟨_, rfl⟩, hW, hsame.mono (by decide) (by decide)⟩
 · exact retOut X11 hx Bd.returns rfl (Or.inr (Or.inr (Or.inr (Or.inr ⟨rfl, rfl, rfl⟩)))) (hb hby d5_47) hr
 · show Q5_19 Z a_TRUE a_UNKNOWN a_FALSE h0 n0 _ T11.heap _
   exact ⟨N0, e11, rfl⟩
def Q4_20 (Z : State) (a_TRUE : Addr) (a_UNKNOWN : Addr) (a_FALSE : Addr) (h0 : Heap) (n0 : Nat) (v : Option Value) (h : Heap) (L : List Loc) : Prop := Fr n0 L ∧ h = h0 ∧ ((v = some (.ref a_FALSE)))
set_option maxRecDepth 65536 in
set_option maxHeartbeats 40000000 in
theorem rm4_20 (l : Launch) (Z : State) (a0 : Array Value) (hw : ∀ d ∈ tables_1, d.before a0 Z = true) (ws : List Jvm.Cond) (a_TRUE : Addr) (a_UNKNOWN : Addr) (a_FALSE : Addr) (h0 : Heap) (n0 : Nat) (O0 : Old Z n0 h0) (HE : Env1 Z a_TRUE a_UNKNOWN a_FALSE)  :
    MetFree l M3 (head1 (Jvm.Cond.code M3 prog_32_method_6_code 3 (some (.object "com/example/herald4/herald4/filter/Truth")) :: ws) ({ frames := 0, cells := 0, slots := 0, locals := 0 } : Room)) (fun a U => a = #[(.ref a_UNKNOWN), (.ref a_FALSE)] ∧ Z.Warmed39 U.vm ∧ U.heap = h0) (fun _ _ _ _ _ => True) (fun _ U o U' => ∃ v L, o = .returned v ∧ Q4_20 Z a_TRUE a_UNKNOWN a_FALSE h0 n0 v U'.heap L ∧ FrameEnd U o U' L ({ frames := 0, cells := 0, slots := 0, locals := 0 } : Room).cells ({ frames := 0, cells := 0, slots := 0, locals := 0 } : Room).slots) := by
 refine MetFree.of_bodySF (plainFor_of_name pn1) hisR ?_
 intro p e s m args below meth c s₁ Bd hml0 hP hK
 obtain ⟨rfl, hZ, hh⟩ := hP
 have hx := Bd.exec
 have hby := Bd.bytes
 have hml : c.maxLocals = 3 := hml0
 have hown : s.vm.findClass "com/example/herald4/herald4/filter/Truth" = some m.cls := findClass_of_methodNamed Bd.named
 have hnm := (name_of_methodNamed Bd.named Bd.method).1
 have X0 : Stand p l e ({ frames := 0, cells := 0, slots := 0, locals := 0 } : Room) s m #[(.ref a_UNKNOWN), (.ref a_FALSE)] below meth c s₁ [] 0 0 := Stand.of_body Bd
 have e0 : s₁.heap = h0 := by rw [← hh, Bd.state]; rfl
 have N0 := Fr.nil n0
 let S0 : State → Prop := fun t => Steps p.tables e below (s₁.setTop (entryFrame m #[(.ref a_UNKNOWN), (.ref a_FALSE)] 3)) t
 have p0 : ∀ t, St p e below s₁ (mkF m 0 #[.val (.ref a_UNKNOWN), .val (.ref a_FALSE), .unset] []) t → S0 t := fun t k => castTop (ef4 m a_UNKNOWN a_FALSE) k
 have HE' := HE
 obtain ⟨Sa_TRUE, Ea_TRUE, Sa_UNKNOWN, Ea_UNKNOWN, Fa_TRUE_ordinal, Fa_UNKNOWN_ordinal, Sa_FALSE, Ea_FALSE, Fa_FALSE_ordinal⟩ := HE
 have p1 : ∀ t, St p e below s₁ (mkF m 1 #[.val (.ref a_UNKNOWN), .val (.ref a_FALSE), .unset] [(.ref a_UNKNOWN)]) t → S0 t := fun t k => p0 t (by
   show St p e below s₁ (mkF m 0 #[.val (.ref a_UNKNOWN), .val (.ref a_FALSE), .unset] []) t
   refine XS.aloadN X0.here hx rfl (hb hby d4_0) rfl rfl ?_
   exact k)
 obtain ⟨T2, X2, e2, st2⟩ := getS2 X0 hx hZ hown (host := "") (Or.inl (ww hw 16 rfl)) Via.refl e0 (Sa_FALSE.ext O0.2) (g := (mkF m 1 #[.val (.ref a_UNKNOWN), .val (.ref a_FALSE), .unset] [(.ref a_UNKNOWN)])) rfl (hb hby d4_1)
 have p3 : ∀ t, St p e below T2 (mkF m 4 #[.val (.ref a_UNKNOWN), .val (.ref a_FALSE), .unset] [(.ref a_FALSE), (.ref a_UNKNOWN)]) t → S0 t := fun t k => p1 t (st2 t k)
 have p4 : ∀ t, St p e below T2 (mkF m 8 #[.val (.ref a_UNKNOWN), .val (.ref a_FALSE), .unset] [(.ref a_FALSE)]) t → S0 t := fun t k => p3 t (by
   show St p e below T2 (mkF m 4 #[.val (.ref a_UNKNOWN), .val (.ref a_FALSE), .unset] [(.ref a_FALSE), (.ref a_UNKNOWN)]) t
   refine Jvm.RoadKit.acmp (g := (mkF m 4 #[.val (.ref a_UNKNOWN), .val (.ref a_FALSE), .unset] [(.ref a_FALSE), (.ref a_UNKNOWN)])) X2 hx rfl rfl rfl (pc0 := 4) (pc' := 7) (same := false) rfl (hb hby d4_4) rfl (decide_eq_false fun q => (Fld.ne Fa_UNKNOWN_ordinal Fa_FALSE_ordinal (fun q => absurd (Value.int.inj q) (by decide))) (Value.ref.inj q)) (by decide) (by decide) ?_
   show St p e below T2 (mkF m 7 #[.val (.ref a_UNKNOWN), .val (.ref a_FALSE), .unset] []) t
   refine XS.aloadN X2.here hx rfl (hb hby d4_7) rfl rfl ?_
   exact k)
 obtain ⟨T5, X5, e5, st5⟩ := getS2 X2 hx hZ hown (host := "") (Or.inl (ww hw 16 rfl)) Via.refl e2 (Sa_FALSE.ext O0.2) (g := (mkF m 8 #[.val (.ref a_UNKNOWN), .val (.ref a_FALSE), .unset] [(.ref a_FALSE)])) rfl (hb hby d4_8)
 have p6 : ∀ t, St p e below T5 (mkF m 11 #[.val (.ref a_UNKNOWN), .val (.ref a_FALSE), .unset] [(.ref a_FALSE), (.ref a_FALSE)]) t → S0 t := fun t k => p4 t (st5 t k)
 have p7 : ∀ t, St p e below T5 (mkF m 14 #[.val (.ref a_UNKNOWN), .val (.ref a_FALSE), .unset] []) t → S0 t := fun t k => p6 t (by
   show St p e below T5 (mkF m 11 #[.val (.ref a_UNKNOWN), .val (.ref a_FALSE), .unset] [(.ref a_FALSE), (.ref a_FALSE)]) t
   refine Jvm.RoadKit.acmp (g := (mkF m 11 #[.val (.ref a_UNKNOWN), .val (.ref a_FALSE), .unset] [(.ref a_FALSE), (.ref a_FALSE)])) X5 hx rfl rfl rfl (pc0 := 11) (pc' := 14) (same := true) rfl (hb hby d4_11) rfl (decide_eq_true rfl) (by decide) (by decide) ?_
   exact k)
 obtain ⟨T8, X8, e8, st8⟩ := getS2 X5 hx hZ hown (host := "") (Or.inl (ww hw 16 rfl)) Via.refl e5 (Sa_FALSE.ext O0.2) (g := (mkF m 14 #[.val (.ref a_UNKNOWN), .val (.ref a_FALSE), .unset] [])) rfl (hb hby d4_14)
 have p9 : ∀ t, St p e below T8 (mkF m 17 #[.val (.ref a_UNKNOWN), .val (.ref a_FALSE), .unset] [(.ref a_FALSE)]) t → S0 t := fun t k => p7 t (st8 t k)
 let Ls10 : Array Slot := #[.val (.ref a_UNKNOWN), .val (.ref a_FALSE), .val (.ref a_FALSE)]
 have p11 : ∀ t, St p e below T8 (mkF m 47 Ls10 [(.ref a_FALSE)]) t → S0 t := fun t k => p9 t (by
   show St p e below T8 (mkF m 17 #[.val (.ref a_UNKNOWN), .val (.ref a_FALSE), .unset] [(.ref a_FALSE)]) t
   refine XS.astoreN X8.here hx rfl (hb hby d4_17) rfl rfl (l' := Ls10) rfl ?_
   show St p e below T8 (mkF m 18 Ls10 []) t
   refine XS.goto X8.here hx rfl (pc0 := 18) (pc' := 46) rfl (hb hby d4_18) (by decide) (by decide) ?_
   show St p e below T8 (mkF m 46 Ls10 []) t
   refine XS.aloadN X8.here hx rfl (hb hby d4_46) rfl rfl ?_
   exact k)
 obtain ⟨fs, hr, hrun, hended, hW, hsame⟩ := X8.leave (v := some (.ref a_FALSE)) (fun h => by rw [Bd.returns] at h; cases h)
 refine ⟨_, _, p11 _ ?_, hrun, hended, _, _, rfl, ?_, ⟨_, rfl⟩, hW, hsame.mono (by decide) (by decide)⟩
 · exact retOut X8 hx Bd.returns rfl (Or.inr (Or.inr (Or.inr (Or.inr ⟨rfl, rfl, rfl⟩)))) (hb hby d4_47) hr
 · show Q4_20 Z a_TRUE a_UNKNOWN a_FALSE h0 n0 _ T8.heap _
   exact ⟨N0, e8, rfl⟩
def Q5_21 (Z : State) (a_TRUE : Addr) (a_UNKNOWN : Addr) (a_FALSE : Addr) (h0 : Heap) (n0 : Nat) (v : Option Value) (h : Heap) (L : List Loc) : Prop := Fr n0 L ∧ h = h0 ∧ ((v = some (.ref a_TRUE)))
set_option maxRecDepth 65536 in
set_option maxHeartbeats 40000000 in
theorem rm5_21 (l : Launch) (Z : State) (a0 : Array Value) (hw : ∀ d ∈ tables_1, d.before a0 Z = true) (ws : List Jvm.Cond) (a_TRUE : Addr) (a_UNKNOWN : Addr) (a_FALSE : Addr) (h0 : Heap) (n0 : Nat) (O0 : Old Z n0 h0) (HE : Env1 Z a_TRUE a_UNKNOWN a_FALSE)  :
    MetFree l M4 (head1 (Jvm.Cond.code M4 prog_32_method_7_code 3 (some (.object "com/example/herald4/herald4/filter/Truth")) :: ws) ({ frames := 0, cells := 0, slots := 0, locals := 0 } : Room)) (fun a U => a = #[(.ref a_UNKNOWN), (.ref a_TRUE)] ∧ Z.Warmed39 U.vm ∧ U.heap = h0) (fun _ _ _ _ _ => True) (fun _ U o U' => ∃ v L, o = .returned v ∧ Q5_21 Z a_TRUE a_UNKNOWN a_FALSE h0 n0 v U'.heap L ∧ FrameEnd U o U' L ({ frames := 0, cells := 0, slots := 0, locals := 0 } : Room).cells ({ frames := 0, cells := 0, slots := 0, locals := 0 } : Room).slots) := by
 refine MetFree.of_bodySF (plainFor_of_name pn1) hisR ?_
 intro p e s m args below meth c s₁ Bd hml0 hP hK
 obtain ⟨rfl, hZ, hh⟩ := hP
 have hx := Bd.exec
 have hby := Bd.bytes
 have hml : c.maxLocals = 3 := hml0
 have hown : s.vm.findClass "com/example/herald4/herald4/filter/Truth" = some m.cls := findClass_of_methodNamed Bd.named
 have hnm := (name_of_methodNamed Bd.named Bd.method).1
 have X0 : Stand p l e ({ frames := 0, cells := 0, slots := 0, locals := 0 } : Room) s m #[(.ref a_UNKNOWN), (.ref a_TRUE)] below meth c s₁ [] 0 0 := Stand.of_body Bd
 have e0 : s₁.heap = h0 := by rw [← hh, Bd.state]; rfl
 have N0 := Fr.nil n0
 let S0 : State → Prop := fun t => Steps p.tables e below (s₁.setTop (entryFrame m #[(.ref a_UNKNOWN), (.ref a_TRUE)] 3)) t
 have p0 : ∀ t, St p e below s₁ (mkF m 0 #[.val (.ref a_UNKNOWN), .val (.ref a_TRUE), .unset] []) t → S0 t := fun t k => castTop (ef5 m a_UNKNOWN a_TRUE) k
 have HE' := HE
 obtain ⟨Sa_TRUE, Ea_TRUE, Sa_UNKNOWN, Ea_UNKNOWN, Fa_TRUE_ordinal, Fa_UNKNOWN_ordinal, Sa_FALSE, Ea_FALSE, Fa_FALSE_ordinal⟩ := HE
 have p1 : ∀ t, St p e below s₁ (mkF m 1 #[.val (.ref a_UNKNOWN), .val (.ref a_TRUE), .unset] [(.ref a_UNKNOWN)]) t → S0 t := fun t k => p0 t (by
   show St p e below s₁ (mkF m 0 #[.val (.ref a_UNKNOWN), .val (.ref a_TRUE), .unset] []) t
   refine XS.aloadN X0.here hx rfl (hb hby d5_0) rfl rfl ?_
   exact k)
 obtain ⟨T2, X2, e2, st2⟩ := getS2 X0 hx hZ hown (host := "") (Or.inl (ww hw 15 rfl)) Via.refl e0 (Sa_TRUE.ext O0.2) (g := (mkF m 1 #[.val (.ref a_UNKNOWN), .val (.ref a_TRUE), .unset] [(.ref a_UNKNOWN)])) rfl (hb hby d5_1)
 have p3 : ∀ t, St p e below T2 (mkF m 4 #[.val (.ref a_UNKNOWN), .val (.ref a_TRUE), .unset] [(.ref a_TRUE), (.ref a_UNKNOWN)]) t → S0 t := fun t k => p1 t (st2 t k)
 have p4 : ∀ t, St p e below T2 (mkF m 8 #[.val (.ref a_UNKNOWN), .val (.ref a_TRUE), .unset] [(.ref a_TRUE)]) t → S0 t := fun t k => p3 t (by
   show St p e below T2 (mkF m 4 #[.val (.ref a_UNKNOWN), .val (.ref a_TRUE), .unset] [(.ref a_TRUE), (.ref a_UNKNOWN)]) t
   refine Jvm.RoadKit.acmp (g := (mkF m 4 #[.val (.ref a_UNKNOWN), .val (.ref a_TRUE), .unset] [(.ref a_TRUE), (.ref a_UNKNOWN)])) X2 hx rfl rfl rfl (pc0 := 4) (pc' := 7) (same := false) rfl (hb hby d5_4) rfl (decide_eq_false fun q => (Fld.ne Fa_UNKNOWN_ordinal Fa_TRUE_ordinal (fun q => absurd (Value.int.inj q) (by decide))) (Value.ref.inj q)) (by decide) (by decide) ?_
   show St p e below T2 (mkF m 7 #[.val (.ref a_UNKNOWN), .val (.ref a_TRUE), .unset] []) t
   refine XS.aloadN X2.here hx rfl (hb hby d5_7) rfl rfl ?_
   exact k)
 obtain ⟨T5, X5, e5, st5⟩ := getS2 X2 hx hZ hown (host := "") (Or.inl (ww hw 15 rfl)) Via.refl e2 (Sa_TRUE.ext O0.2) (g := (mkF m 8 #[.val (.ref a_UNKNOWN), .val (.ref a_TRUE), .unset] [(.ref a_TRUE)])) rfl (hb hby d5_8)
 have p6 : ∀ t, St p e below T5 (mkF m 11 #[.val (.ref a_UNKNOWN), .val (.ref a_TRUE), .unset] [(.ref a_TRUE), (.ref a_TRUE)]) t → S0 t := fun t k => p4 t (st5 t k)
 have p7 : ∀ t, St p e below T5 (mkF m 14 #[.val (.ref a_UNKNOWN), .val (.ref a_TRUE), .unset] []) t → S0 t := fun t k => p6 t (by
   show St p e below T5 (mkF m 11 #[.val (.ref a_UNKNOWN), .val (.ref a_TRUE), .unset] [(.ref a_TRUE), (.ref a_TRUE)]) t
   refine Jvm.RoadKit.acmp (g := (mkF m 11 #[.val (.ref a_UNKNOWN), .val (.ref a_TRUE), .unset] [(.ref a_TRUE), (.ref a_TRUE)])) X5 hx rfl rfl rfl (pc0 := 11) (pc' := 14) (same := true) rfl (hb hby d5_11) rfl (decide_eq_true rfl) (by decide) (by decide) ?_
   exact k)
 obtain ⟨T8, X8, e8, st8⟩ := getS2 X5 hx hZ hown (host := "") (Or.inl (ww hw 15 rfl)) Via.refl e5 (Sa_TRUE.ext O0.2) (g := (mkF m 14 #[.val (.ref a_UNKNOWN), .val (.ref a_TRUE), .unset] [])) rfl (hb hby d5_14)
 have p9 : ∀ t, St p e below T8 (mkF m 17 #[.val (.ref a_UNKNOWN), .val (.ref a_TRUE), .unset] [(.ref a_TRUE)]) t → S0 t := fun t k => p7 t (st8 t k)
 let Ls10 : Array Slot := #[.val (.ref a_UNKNOWN), .val (.ref a_TRUE), .val (.ref a_TRUE)]
 have p11 : ∀ t, St p e below T8 (mkF m 47 Ls10 [(.ref a_TRUE)]) t → S0 t := fun t k => p9 t (by
   show St p e below T8 (mkF m 17 #[.val (.ref a_UNKNOWN), .val (.ref a_TRUE), .unset] [(.ref a_TRUE)]) t
   refine XS.astoreN X8.here hx rfl (hb hby d5_17) rfl rfl (l' := Ls10) rfl ?_
   show St p e below T8 (mkF m 18 Ls10 []) t
   refine XS.goto X8.here hx rfl (pc0 := 18) (pc' := 46) rfl (hb hby d5_18) (by decide) (by decide) ?_
   show St p e below T8 (mkF m 46 Ls10 []) t
   refine XS.aloadN X8.here hx rfl (hb hby d5_46) rfl rfl ?_
   exact k)
 obtain ⟨fs, hr, hrun, hended, hW, hsame⟩ := X8.leave (v := some (.ref a_TRUE)) (fun h => by rw [Bd.returns] at h; cases h)
 refine ⟨_, _, p11 _ ?_, hrun, hended, _, _, rfl, ?_, ⟨_, rfl⟩, hW, hsame.mono (by decide) (by decide)⟩
 · exact retOut X8 hx Bd.returns rfl (Or.inr (Or.inr (Or.inr (Or.inr ⟨rfl, rfl, rfl⟩)))) (hb hby d5_47) hr
 · show Q5_21 Z a_TRUE a_UNKNOWN a_FALSE h0 n0 _ T8.heap _
   exact ⟨N0, e8, rfl⟩
def Q4_22 (Z : State) (a_TRUE : Addr) (a_UNKNOWN : Addr) (a_FALSE : Addr) (h0 : Heap) (n0 : Nat) (v : Option Value) (h : Heap) (L : List Loc) : Prop := Fr n0 L ∧ h = h0 ∧ ((v = some (.ref a_UNKNOWN)))
set_option maxRecDepth 65536 in
set_option maxHeartbeats 40000000 in
theorem rm4_22 (l : Launch) (Z : State) (a0 : Array Value) (hw : ∀ d ∈ tables_1, d.before a0 Z = true) (ws : List Jvm.Cond) (a_TRUE : Addr) (a_UNKNOWN : Addr) (a_FALSE : Addr) (h0 : Heap) (n0 : Nat) (O0 : Old Z n0 h0) (HE : Env1 Z a_TRUE a_UNKNOWN a_FALSE)  :
    MetFree l M3 (head1 (Jvm.Cond.code M3 prog_32_method_6_code 3 (some (.object "com/example/herald4/herald4/filter/Truth")) :: ws) ({ frames := 0, cells := 0, slots := 0, locals := 0 } : Room)) (fun a U => a = #[(.ref a_UNKNOWN), (.ref a_UNKNOWN)] ∧ Z.Warmed39 U.vm ∧ U.heap = h0) (fun _ _ _ _ _ => True) (fun _ U o U' => ∃ v L, o = .returned v ∧ Q4_22 Z a_TRUE a_UNKNOWN a_FALSE h0 n0 v U'.heap L ∧ FrameEnd U o U' L ({ frames := 0, cells := 0, slots := 0, locals := 0 } : Room).cells ({ frames := 0, cells := 0, slots := 0, locals := 0 } : Room).slots) := by
 refine MetFree.of_bodySF (plainFor_of_name pn1) hisR ?_
 intro p e s m args below meth c s₁ Bd hml0 hP hK
 obtain ⟨rfl, hZ, hh⟩ := hP
 have hx := Bd.exec
 have hby := Bd.bytes
 have hml : c.maxLocals = 3 := hml0
 have hown : s.vm.findClass "com/example/herald4/herald4/filter/Truth" = some m.cls := findClass_of_methodNamed Bd.named
 have hnm := (name_of_methodNamed Bd.named Bd.method).1
 have X0 : Stand p l e ({ frames := 0, cells := 0, slots := 0, locals := 0 } : Room) s m #[(.ref a_UNKNOWN), (.ref a_UNKNOWN)] below meth c s₁ [] 0 0 := Stand.of_body Bd
 have e0 : s₁.heap = h0 := by rw [← hh, Bd.state]; rfl
 have N0 := Fr.nil n0
 let S0 : State → Prop := fun t => Steps p.tables e below (s₁.setTop (entryFrame m #[(.ref a_UNKNOWN), (.ref a_UNKNOWN)] 3)) t
 have p0 : ∀ t, St p e below s₁ (mkF m 0 #[.val (.ref a_UNKNOWN), .val (.ref a_UNKNOWN), .unset] []) t → S0 t := fun t k => castTop (ef4 m a_UNKNOWN a_UNKNOWN) k
 have HE' := HE
 obtain ⟨Sa_TRUE, Ea_TRUE, Sa_UNKNOWN, Ea_UNKNOWN, Fa_TRUE_ordinal, Fa_UNKNOWN_ordinal, Sa_FALSE, Ea_FALSE, Fa_FALSE_ordinal⟩ := HE
 have p1 : ∀ t, St p e below s₁ (mkF m 1 #[.val (.ref a_UNKNOWN), .val (.ref a_UNKNOWN), .unset] [(.ref a_UNKNOWN)]) t → S0 t := fun t k => p0 t (by
   show St p e below s₁ (mkF m 0 #[.val (.ref a_UNKNOWN), .val (.ref a_UNKNOWN), .unset] []) t
   refine XS.aloadN X0.here hx rfl (hb hby d4_0) rfl rfl ?_
   exact k)
 obtain ⟨T2, X2, e2, st2⟩ := getS2 X0 hx hZ hown (host := "") (Or.inl (ww hw 16 rfl)) Via.refl e0 (Sa_FALSE.ext O0.2) (g := (mkF m 1 #[.val (.ref a_UNKNOWN), .val (.ref a_UNKNOWN), .unset] [(.ref a_UNKNOWN)])) rfl (hb hby d4_1)
 have p3 : ∀ t, St p e below T2 (mkF m 4 #[.val (.ref a_UNKNOWN), .val (.ref a_UNKNOWN), .unset] [(.ref a_FALSE), (.ref a_UNKNOWN)]) t → S0 t := fun t k => p1 t (st2 t k)
 have p4 : ∀ t, St p e below T2 (mkF m 8 #[.val (.ref a_UNKNOWN), .val (.ref a_UNKNOWN), .unset] [(.ref a_UNKNOWN)]) t → S0 t := fun t k => p3 t (by
   show St p e below T2 (mkF m 4 #[.val (.ref a_UNKNOWN), .val (.ref a_UNKNOWN), .unset] [(.ref a_FALSE), (.ref a_UNKNOWN)]) t
   refine Jvm.RoadKit.acmp (g := (mkF m 4 #[.val (.ref a_UNKNOWN), .val (.ref a_UNKNOWN), .unset] [(.ref a_FALSE), (.ref a_UNKNOWN)])) X2 hx rfl rfl rfl (pc0 := 4) (pc' := 7) (same := false) rfl (hb hby d4_4) rfl (decide_eq_false fun q => (Fld.ne Fa_UNKNOWN_ordinal Fa_FALSE_ordinal (fun q => absurd (Value.int.inj q) (by decide))) (Value.ref.inj q)) (by decide) (by decide) ?_
   show St p e below T2 (mkF m 7 #[.val (.ref a_UNKNOWN), .val (.ref a_UNKNOWN), .unset] []) t
   refine XS.aloadN X2.here hx rfl (hb hby d4_7) rfl rfl ?_
   exact k)
 obtain ⟨T5, X5, e5, st5⟩ := getS2 X2 hx hZ hown (host := "") (Or.inl (ww hw 16 rfl)) Via.refl e2 (Sa_FALSE.ext O0.2) (g := (mkF m 8 #[.val (.ref a_UNKNOWN), .val (.ref a_UNKNOWN), .unset] [(.ref a_UNKNOWN)])) rfl (hb hby d4_8)
 have p6 : ∀ t, St p e below T5 (mkF m 11 #[.val (.ref a_UNKNOWN), .val (.ref a_UNKNOWN), .unset] [(.ref a_FALSE), (.ref a_UNKNOWN)]) t → S0 t := fun t k => p4 t (st5 t k)
 have p7 : ∀ t, St p e below T5 (mkF m 22 #[.val (.ref a_UNKNOWN), .val (.ref a_UNKNOWN), .unset] [(.ref a_UNKNOWN)]) t → S0 t := fun t k => p6 t (by
   show St p e below T5 (mkF m 11 #[.val (.ref a_UNKNOWN), .val (.ref a_UNKNOWN), .unset] [(.ref a_FALSE), (.ref a_UNKNOWN)]) t
   refine Jvm.RoadKit.acmp (g := (mkF m 11 #[.val (.ref a_UNKNOWN), .val (.ref a_UNKNOWN), .unset] [(.ref a_FALSE), (.ref a_UNKNOWN)])) X5 hx rfl rfl rfl (pc0 := 11) (pc' := 21) (same := false) rfl (hb hby d4_11) rfl (decide_eq_false fun q => (Fld.ne Fa_UNKNOWN_ordinal Fa_FALSE_ordinal (fun q => absurd (Value.int.inj q) (by decide))) (Value.ref.inj q)) (by decide) (by decide) ?_
   show St p e below T5 (mkF m 21 #[.val (.ref a_UNKNOWN), .val (.ref a_UNKNOWN), .unset] []) t
   refine XS.aloadN X5.here hx rfl (hb hby d4_21) rfl rfl ?_
   exact k)
 obtain ⟨T8, X8, e8, st8⟩ := getS2 X5 hx hZ hown (host := "") (Or.inl (ww hw 13 rfl)) Via.refl e5 (Sa_UNKNOWN.ext O0.2) (g := (mkF m 22 #[.val (.ref a_UNKNOWN), .val (.ref a_UNKNOWN), .unset] [(.ref a_UNKNOWN)])) rfl (hb hby d4_22)
 have p9 : ∀ t, St p e below T8 (mkF m 25 #[.val (.ref a_UNKNOWN), .val (.ref a_UNKNOWN), .unset] [(.ref a_UNKNOWN), (.ref a_UNKNOWN)]) t → S0 t := fun t k => p7 t (st8 t k)
 have p10 : ∀ t, St p e below T8 (mkF m 35 #[.val (.ref a_UNKNOWN), .val (.ref a_UNKNOWN), .unset] []) t → S0 t := fun t k => p9 t (by
   show St p e below T8 (mkF m 25 #[.val (.ref a_UNKNOWN), .val (.ref a_UNKNOWN), .unset] [(.ref a_UNKNOWN), (.ref a_UNKNOWN)]) t
   refine Jvm.RoadKit.acmp (g := (mkF m 25 #[.val (.ref a_UNKNOWN), .val (.ref a_UNKNOWN), .unset] [(.ref a_UNKNOWN), (.ref a_UNKNOWN)])) X8 hx rfl rfl rfl (pc0 := 25) (pc' := 35) (same := true) rfl (hb hby d4_25) rfl (decide_eq_true rfl) (by decide) (by decide) ?_
   exact k)
 obtain ⟨T11, X11, e11, st11⟩ := getS2 X8 hx hZ hown (host := "") (Or.inl (ww hw 13 rfl)) Via.refl e8 (Sa_UNKNOWN.ext O0.2) (g := (mkF m 35 #[.val (.ref a_UNKNOWN), .val (.ref a_UNKNOWN), .unset] [])) rfl (hb hby d4_35)
 have p12 : ∀ t, St p e below T11 (mkF m 38 #[.val (.ref a_UNKNOWN), .val (.ref a_UNKNOWN), .unset] [(.ref a_UNKNOWN)]) t → S0 t := fun t k => p10 t (st11 t k)
 let Ls13 : Array Slot := #[.val (.ref a_UNKNOWN), .val (.ref a_UNKNOWN), .val (.ref a_UNKNOWN)]
 have p14 : ∀ t, St p e below T11 (mkF m 47 Ls13 [(.ref a_UNKNOWN)]) t → S0 t := fun t k => p12 t (by
   show St p e below T11 (mkF m 38 #[.val (.ref a_UNKNOWN), .val (.ref a_UNKNOWN), .unset] [(.ref a_UNKNOWN)]) t
   refine XS.astoreN X11.here hx rfl (hb hby d4_38) rfl rfl (l' := Ls13) rfl ?_
   show St p e below T11 (mkF m 39 Ls13 []) t
   refine XS.goto X11.here hx rfl (pc0 := 39) (pc' := 46) rfl (hb hby d4_39) (by decide) (by decide) ?_
   show St p e below T11 (mkF m 46 Ls13 []) t
   refine XS.aloadN X11.here hx rfl (hb hby d4_46) rfl rfl ?_
   exact k)
 obtain ⟨fs, hr, hrun, hended, hW, hsame⟩ := X11.leave (v := some (.ref a_UNKNOWN)) (fun h => by rw [Bd.returns] at h; cases h)
 refine ⟨_, _, p14 _ ?_, hrun, hended, _, _, rfl, ?_, ⟨_, rfl⟩, hW, hsame.mono (by decide) (by decide)⟩
 · exact retOut X11 hx Bd.returns rfl (Or.inr (Or.inr (Or.inr (Or.inr ⟨rfl, rfl, rfl⟩)))) (hb hby d4_47) hr
 · show Q4_22 Z a_TRUE a_UNKNOWN a_FALSE h0 n0 _ T11.heap _
   exact ⟨N0, e11, rfl⟩
def Q5_23 (Z : State) (a_TRUE : Addr) (a_UNKNOWN : Addr) (a_FALSE : Addr) (h0 : Heap) (n0 : Nat) (v : Option Value) (h : Heap) (L : List Loc) : Prop := Fr n0 L ∧ h = h0 ∧ ((v = some (.ref a_UNKNOWN)))
set_option maxRecDepth 65536 in
set_option maxHeartbeats 40000000 in
theorem rm5_23 (l : Launch) (Z : State) (a0 : Array Value) (hw : ∀ d ∈ tables_1, d.before a0 Z = true) (ws : List Jvm.Cond) (a_TRUE : Addr) (a_UNKNOWN : Addr) (a_FALSE : Addr) (h0 : Heap) (n0 : Nat) (O0 : Old Z n0 h0) (HE : Env1 Z a_TRUE a_UNKNOWN a_FALSE)  :
    MetFree l M4 (head1 (Jvm.Cond.code M4 prog_32_method_7_code 3 (some (.object "com/example/herald4/herald4/filter/Truth")) :: ws) ({ frames := 0, cells := 0, slots := 0, locals := 0 } : Room)) (fun a U => a = #[(.ref a_UNKNOWN), (.ref a_UNKNOWN)] ∧ Z.Warmed39 U.vm ∧ U.heap = h0) (fun _ _ _ _ _ => True) (fun _ U o U' => ∃ v L, o = .returned v ∧ Q5_23 Z a_TRUE a_UNKNOWN a_FALSE h0 n0 v U'.heap L ∧ FrameEnd U o U' L ({ frames := 0, cells := 0, slots := 0, locals := 0 } : Room).cells ({ frames := 0, cells := 0, slots := 0, locals := 0 } : Room).slots) := by
 refine MetFree.of_bodySF (plainFor_of_name pn1) hisR ?_
 intro p e s m args below meth c s₁ Bd hml0 hP hK
 obtain ⟨rfl, hZ, hh⟩ := hP
 have hx := Bd.exec
 have hby := Bd.bytes
 have hml : c.maxLocals = 3 := hml0
 have hown : s.vm.findClass "com/example/herald4/herald4/filter/Truth" = some m.cls := findClass_of_methodNamed Bd.named
 have hnm := (name_of_methodNamed Bd.named Bd.method).1
 have X0 : Stand p l e ({ frames := 0, cells := 0, slots := 0, locals := 0 } : Room) s m #[(.ref a_UNKNOWN), (.ref a_UNKNOWN)] below meth c s₁ [] 0 0 := Stand.of_body Bd
 have e0 : s₁.heap = h0 := by rw [← hh, Bd.state]; rfl
 have N0 := Fr.nil n0
 let S0 : State → Prop := fun t => Steps p.tables e below (s₁.setTop (entryFrame m #[(.ref a_UNKNOWN), (.ref a_UNKNOWN)] 3)) t
 have p0 : ∀ t, St p e below s₁ (mkF m 0 #[.val (.ref a_UNKNOWN), .val (.ref a_UNKNOWN), .unset] []) t → S0 t := fun t k => castTop (ef5 m a_UNKNOWN a_UNKNOWN) k
 have HE' := HE
 obtain ⟨Sa_TRUE, Ea_TRUE, Sa_UNKNOWN, Ea_UNKNOWN, Fa_TRUE_ordinal, Fa_UNKNOWN_ordinal, Sa_FALSE, Ea_FALSE, Fa_FALSE_ordinal⟩ := HE
 have p1 : ∀ t, St p e below s₁ (mkF m 1 #[.val (.ref a_UNKNOWN), .val (.ref a_UNKNOWN), .unset] [(.ref a_UNKNOWN)]) t → S0 t := fun t k => p0 t (by
   show St p e below s₁ (mkF m 0 #[.val (.ref a_UNKNOWN), .val (.ref a_UNKNOWN), .unset] []) t
   refine XS.aloadN X0.here hx rfl (hb hby d5_0) rfl rfl ?_
   exact k)
 obtain ⟨T2, X2, e2, st2⟩ := getS2 X0 hx hZ hown (host := "") (Or.inl (ww hw 15 rfl)) Via.refl e0 (Sa_TRUE.ext O0.2) (g := (mkF m 1 #[.val (.ref a_UNKNOWN), .val (.ref a_UNKNOWN), .unset] [(.ref a_UNKNOWN)])) rfl (hb hby d5_1)
 have p3 : ∀ t, St p e below T2 (mkF m 4 #[.val (.ref a_UNKNOWN), .val (.ref a_UNKNOWN), .unset] [(.ref a_TRUE), (.ref a_UNKNOWN)]) t → S0 t := fun t k => p1 t (st2 t k)
 have p4 : ∀ t, St p e below T2 (mkF m 8 #[.val (.ref a_UNKNOWN), .val (.ref a_UNKNOWN), .unset] [(.ref a_UNKNOWN)]) t → S0 t := fun t k => p3 t (by
   show St p e below T2 (mkF m 4 #[.val (.ref a_UNKNOWN), .val (.ref a_UNKNOWN), .unset] [(.ref a_TRUE), (.ref a_UNKNOWN)]) t
   refine Jvm.RoadKit.acmp (g := (mkF m 4 #[.val (.ref a_UNKNOWN), .val (.ref a_UNKNOWN), .unset] [(.ref a_TRUE), (.ref a_UNKNOWN)])) X2 hx rfl rfl rfl (pc0 := 4) (pc' := 7) (same := false) rfl (hb hby d5_4) rfl (decide_eq_false fun q => (Fld.ne Fa_UNKNOWN_ordinal Fa_TRUE_ordinal (fun q => absurd (Value.int.inj q) (by decide))) (Value.ref.inj q)) (by decide) (by decide) ?_
   show St p e below T2 (mkF m 7 #[.val (.ref a_UNKNOWN), .val (.ref a_UNKNOWN), .unset] []) t
   refine XS.aloadN X2.here hx rfl (hb hby d5_7) rfl rfl ?_
   exact k)
 obtain ⟨T5, X5, e5, st5⟩ := getS2 X2 hx hZ hown (host := "") (Or.inl (ww hw 15 rfl)) Via.refl e2 (Sa_TRUE.ext O0.2) (g := (mkF m 8 #[.val (.ref a_UNKNOWN), .val (.ref a_UNKNOWN), .unset] [(.ref a_UNKNOWN)])) rfl (hb hby d5_8)
 have p6 : ∀ t, St p e below T5 (mkF m 11 #[.val (.ref a_UNKNOWN), .val (.ref a_UNKNOWN), .unset] [(.ref a_TRUE), (.ref a_UNKNOWN)]) t → S0 t := fun t k => p4 t (st5 t k)
 have p7 : ∀ t, St p e below T5 (mkF m 22 #[.val (.ref a_UNKNOWN), .val (.ref a_UNKNOWN), .unset] [(.ref a_UNKNOWN)]) t → S0 t := fun t k => p6 t (by
   show St p e below T5 (mkF m 11 #[.val (.ref a_UNKNOWN), .val (.ref a_UNKNOWN), .unset] [(.ref a_TRUE), (.ref a_UNKNOWN)]) t
   refine Jvm.RoadKit.acmp (g := (mkF m 11 #[.val (.ref a_UNKNOWN), .val (.ref a_UNKNOWN), .unset] [(.ref a_TRUE), (.ref a_UNKNOWN)])) X5 hx rfl rfl rfl (pc0 := 11) (pc' := 21) (same := false) rfl (hb hby d5_11) rfl (decide_eq_false fun q => (Fld.ne Fa_UNKNOWN_ordinal Fa_TRUE_ordinal (fun q => absurd (Value.int.inj q) (by decide))) (Value.ref.inj q)) (by decide) (by decide) ?_
   show St p e below T5 (mkF m 21 #[.val (.ref a_UNKNOWN), .val (.ref a_UNKNOWN), .unset] []) t
   refine XS.aloadN X5.here hx rfl (hb hby d5_21) rfl rfl ?_
   exact k)
 obtain ⟨T8, X8, e8, st8⟩ := getS2 X5 hx hZ hown (host := "") (Or.inl (ww hw 13 rfl)) Via.refl e5 (Sa_UNKNOWN.ext O0.2) (g := (mkF m 22 #[.val (.ref a_UNKNOWN), .val (.ref a_UNKNOWN), .unset] [(.ref a_UNKNOWN)])) rfl (hb hby d5_22)
 have p9 : ∀ t, St p e below T8 (mkF m 25 #[.val (.ref a_UNKNOWN), .val (.ref a_UNKNOWN), .unset] [(.ref a_UNKNOWN), (.ref a_UNKNOWN)]) t → S0 t := fun t k => p7 t (st8 t k)
 have p10 : ∀ t, St p e below T8 (mkF m 35 #[.val (.ref a_UNKNOWN), .val (.ref a_UNKNOWN), .unset] []) t → S0 t := fun t k => p9 t (by
   show St p e below T8 (mkF m 25 #[.val (.ref a_UNKNOWN), .val (.ref a_UNKNOWN), .unset] [(.ref a_UNKNOWN), (.ref a_UNKNOWN)]) t
   refine Jvm.RoadKit.acmp (g := (mkF m 25 #[.val (.ref a_UNKNOWN), .val (.ref a_UNKNOWN), .unset] [(.ref a_UNKNOWN), (.ref a_UNKNOWN)])) X8 hx rfl rfl rfl (pc0 := 25) (pc' := 35) (same := true) rfl (hb hby d5_25) rfl (decide_eq_true rfl) (by decide) (by decide) ?_
   exact k)
 obtain ⟨T11, X11, e11, st11⟩ := getS2 X8 hx hZ hown (host := "") (Or.inl (ww hw 13 rfl)) Via.refl e8 (Sa_UNKNOWN.ext O0.2) (g := (mkF m 35 #[.val (.ref a_UNKNOWN), .val (.ref a_UNKNOWN), .unset] [])) rfl (hb hby d5_35)
 have p12 : ∀ t, St p e below T11 (mkF m 38 #[.val (.ref a_UNKNOWN), .val (.ref a_UNKNOWN), .unset] [(.ref a_UNKNOWN)]) t → S0 t := fun t k => p10 t (st11 t k)
 let Ls13 : Array Slot := #[.val (.ref a_UNKNOWN), .val (.ref a_UNKNOWN), .val (.ref a_UNKNOWN)]
 have p14 : ∀ t, St p e below T11 (mkF m 47 Ls13 [(.ref a_UNKNOWN)]) t → S0 t := fun t k => p12 t (by
   show St p e below T11 (mkF m 38 #[.val (.ref a_UNKNOWN), .val (.ref a_UNKNOWN), .unset] [(.ref a_UNKNOWN)]) t
   refine XS.astoreN X11.here hx rfl (hb hby d5_38) rfl rfl (l' := Ls13) rfl ?_
   show St p e below T11 (mkF m 39 Ls13 []) t
   refine XS.goto X11.here hx rfl (pc0 := 39) (pc' := 46) rfl (hb hby d5_39) (by decide) (by decide) ?_
   show St p e below T11 (mkF m 46 Ls13 []) t
   refine XS.aloadN X11.here hx rfl (hb hby d5_46) rfl rfl ?_
   exact k)
 obtain ⟨fs, hr, hrun, hended, hW, hsame⟩ := X11.leave (v := some (.ref a_UNKNOWN)) (fun h => by rw [Bd.returns] at h; cases h)
 refine ⟨_, _, p14 _ ?_, hrun, hended, _, _, rfl, ?_, ⟨_, rfl⟩, hW, hsame.mono (by decide) (by decide)⟩
 · exact retOut X11 hx Bd.returns rfl (Or.inr (Or.inr (Or.inr (Or.inr ⟨rfl, rfl, rfl⟩)))) (hb hby d5_47) hr
 · show Q5_23 Z a_TRUE a_UNKNOWN a_FALSE h0 n0 _ T11.heap _
   exact ⟨N0, e11, rfl⟩
def Q0 (Z : State) (a_TRUE : Addr) (a_UNKNOWN : Addr) (a_FALSE : Addr) (i0 : Int32) (i1 : Int32) (i2 : Int32) (h0 : Heap) (n0 : Nat) (v : Option Value) (h : Heap) (L : List Loc) : Prop := v = some (.int 1) ∧ Fr n0 L
set_option maxRecDepth 65536 in
set_option maxHeartbeats 40000000 in
theorem rm0 (l : Launch) (Z : State) (a0 : Array Value) (hw : ∀ d ∈ tables_1, d.before a0 Z = true) (ws : List Jvm.Cond) (a_TRUE : Addr) (a_UNKNOWN : Addr) (a_FALSE : Addr) (i0 : Int32) (i1 : Int32) (i2 : Int32) (h0 : Heap) (n0 : Nat) (O0 : Old Z n0 h0) (HE : Env1 Z a_TRUE a_UNKNOWN a_FALSE)  :
    MetFree l x (head1 (Jvm.Cond.code x code maxLocals ret :: ws) room_1) (fun a U => a = #[(.int i0), (.int i1), (.int i2)] ∧ Z.Warmed39 U.vm ∧ U.heap = h0) (fun _ _ _ _ _ => True) (fun _ U o U' => ∃ v L, o = .returned v ∧ Q0 Z a_TRUE a_UNKNOWN a_FALSE i0 i1 i2 h0 n0 v U'.heap L ∧ FrameEnd U o U' L 0 0) := by
 refine MetFree.of_bodySF (plainFor_of_name pn0) hisR ?_
 intro p e s m args below meth c s₁ Bd hml0 hP hK
 obtain ⟨rfl, hZ, hh⟩ := hP
 have hx := Bd.exec
 have hby := Bd.bytes
 have hml : c.maxLocals = 9 := hml0
 have hown : s.vm.findClass "com/example/herald4/herald4/filter/TruthNotPinLaw" = some m.cls := findClass_of_methodNamed Bd.named
 have hnm := (name_of_methodNamed Bd.named Bd.method).1
 have X0 : Stand p l e room_1 s m #[(.int i0), (.int i1), (.int i2)] below meth c s₁ [] 0 0 := Stand.of_body Bd
 have e0 : s₁.heap = h0 := by rw [← hh, Bd.state]; rfl
 have N0 := Fr.nil n0
 let S0 : State → Prop := fun t => Steps p.tables e below (s₁.setTop (entryFrame m #[(.int i0), (.int i1), (.int i2)] maxLocals)) t
 let Ls1 : Array Slot := #[.val (.int i0), .val (.int i1), .val (.int i2), .unset, .unset, .unset, .unset, .unset, .unset]
 have p0 : ∀ t, St p e below s₁ (mkF m 0 Ls1 []) t → S0 t := fun t k => castTop (ef0 m i0 i1 i2) k
 have HE' := HE
 obtain ⟨Sa_TRUE, Ea_TRUE, Sa_UNKNOWN, Ea_UNKNOWN, Fa_TRUE_ordinal, Fa_UNKNOWN_ordinal, Sa_FALSE, Ea_FALSE, Fa_FALSE_ordinal⟩ := HE
 have p2 : ∀ t, St p e below s₁ (mkF m 1 Ls1 [(.int i0)]) t → S0 t := fun t k => p0 t (by
   show St p e below s₁ (mkF m 0 Ls1 []) t
   refine XS.iloadN X0.here hx rfl (hb hby at_0) rfl ?_
   exact k)
 obtain ⟨_, _, ⟨Tc3, Lc3, kc3, nc3⟩, -, Xc3, ⟨Lcc3, hQc3, lc3, yc3, zc3⟩, stc3⟩ := Jvm.LawKit.callS X0 hx (y := M0) hown (mvT hZ (ww hw 0 rfl)) (mvT hZ (ww hw 1 rfl)) (mvT hZ (ww hw 2 rfl)) (mvT hZ (ww hw 3 rfl)) (by decide) (backOf (W := 0) (rm1_0 l Z a0 hw [] a_TRUE a_UNKNOWN a_FALSE i0 h0 n0 O0 HE' ) hZ (ww hw 3 rfl) (ww hw 2 rfl) (by decide) (by decide)) (g := (mkF m 1 Ls1 [(.int i0)])) rfl (by rw [hml]; rfl) (argsL := [(.int i0)]) (rest := []) (lenOf pd0 rfl) rfl (by show 2 * 0 + _ ≤ _; exact Nat.le_of_eq rfl) (hb hby at_1) (fun _ _ => ⟨rfl, e0, (by decide : 0 + 0 ≤ _), (by decide : 0 + 0 ≤ _)⟩)
 dsimp only [Pt.U, Pt.locs, Pt.cells, Pt.slots] at Xc3 lc3 yc3 zc3 stc3 hQc3
 subst lc3 yc3 zc3
 obtain ⟨Nqc3, ec3, hAc3⟩ := hQc3
 have Nc3 := Fr.app N0 Nqc3
 rcases hAc3 with ⟨rfl, g4⟩ | ⟨rfl, g5, g6⟩ | ⟨rfl, g7, g8⟩
 ·
  have p9 : ∀ t, St p e below Tc3 (mkF m 4 Ls1 [(.ref a_TRUE)]) t → S0 t := fun t k => p2 t (stc3 t k)
  let Ls10 : Array Slot := #[.val (.int i0), .val (.int i1), .val (.int i2), .val (.ref a_TRUE), .unset, .unset, .unset, .unset, .unset]
  have p11 : ∀ t, St p e below Tc3 (mkF m 6 Ls10 [(.int i1)]) t → S0 t := fun t k => p9 t (by
    show St p e below Tc3 (mkF m 4 Ls1 [(.ref a_TRUE)]) t
    refine XS.astoreN Xc3.here hx rfl (hb hby at_4) rfl rfl (l' := Ls10) rfl ?_
    show St p e below Tc3 (mkF m 5 Ls10 []) t
    refine XS.iloadN Xc3.here hx rfl (hb hby at_5) rfl ?_
    exact k)
  obtain ⟨_, _, ⟨Tc12, Lc12, kc12, nc12⟩, -, Xc12, ⟨Lcc12, hQc12, lc12, yc12, zc12⟩, stc12⟩ := Jvm.LawKit.callS Xc3 hx (y := M0) hown (mvT hZ (ww hw 0 rfl)) (mvT hZ (ww hw 1 rfl)) (mvT hZ (ww hw 2 rfl)) (mvT hZ (ww hw 3 rfl)) (by decide) (backOf (W := 0) (rm1_0 l Z a0 hw [] a_TRUE a_UNKNOWN a_FALSE i1 h0 n0 O0 HE' ) hZ (ww hw 3 rfl) (ww hw 2 rfl) (by decide) (by decide)) (g := (mkF m 6 Ls10 [(.int i1)])) rfl (by rw [hml]; rfl) (argsL := [(.int i1)]) (rest := []) (lenOf pd0 rfl) rfl (by show 2 * 0 + _ ≤ _; exact Nat.le_of_eq rfl) (hb hby at_6) (fun _ _ => ⟨rfl, ec3, (by decide : 0 + 0 ≤ _), (by decide : 0 + 0 ≤ _)⟩)
  dsimp only [Pt.U, Pt.locs, Pt.cells, Pt.slots] at Xc12 lc12 yc12 zc12 stc12 hQc12
  subst lc12 yc12 zc12
  obtain ⟨Nqc12, ec12, hAc12⟩ := hQc12
  have Nc12 := Fr.app Nc3 Nqc12
  rcases hAc12 with ⟨rfl, g13⟩ | ⟨rfl, g14, g15⟩ | ⟨rfl, g16, g17⟩
  ·
   have p18 : ∀ t, St p e below Tc12 (mkF m 9 Ls10 [(.ref a_TRUE)]) t → S0 t := fun t k => p11 t (stc12 t k)
   let Ls19 : Array Slot := #[.val (.int i0), .val (.int i1), .val (.int i2), .val (.ref a_TRUE), .val (.ref a_TRUE), .unset, .unset, .unset, .unset]
   have p20 : ∀ t, St p e below Tc12 (mkF m 14 Ls19 [(.int (i2 &&& (1 : Int32)))]) t → S0 t := fun t k => p18 t (by
     show St p e below Tc12 (mkF m 9 Ls10 [(.ref a_TRUE)]) t
     refine XS.astore Xc12.here hx rfl (hb hby at_9) rfl rfl (l' := Ls19) rfl ?_
     show St p e below Tc12 (mkF m 11 Ls19 []) t
     refine XS.iloadN Xc12.here hx rfl (hb hby at_11) rfl ?_
     show St p e below Tc12 (mkF m 12 Ls19 [(.int i2)]) t
     refine XT.iconstV Xc12.here hx rfl (1 : Int32) (hb hby at_12) (by decide) ?_
     show St p e below Tc12 (mkF m 13 Ls19 [(.int (1 : Int32)), (.int i2)]) t
     refine XS.iand Xc12.here hx rfl (hb hby at_13) rfl ?_
     exact k)
   by_cases g21 : (i2 &&& (1 : Int32)) = (0 : Int32)
   ·
    let Ls22 : Array Slot := #[.val (.int i0), .val (.int i1), .val (.int i2), .val (.ref a_TRUE), .val (.ref a_TRUE), .val (.int (0 : Int32)), .unset, .unset, .unset]
    have p23 : ∀ t, St p e below Tc12 (mkF m 25 Ls22 [(.ref a_TRUE)]) t → S0 t := fun t k => p20 t (by
      show St p e below Tc12 (mkF m 14 Ls19 [(.int (i2 &&& (1 : Int32)))]) t
      refine XS.ifYes Xc12.here hx rfl (pc0 := 14) (pc' := 21) rfl (hb hby at_14) rfl ((if0 _ _).trans (teq g21).1) (by decide) (by decide) ?_
      show St p e below Tc12 (mkF m 21 Ls19 []) t
      refine XT.iconstV Xc12.here hx rfl (0 : Int32) (hb hby at_21) (by decide) ?_
      show St p e below Tc12 (mkF m 22 Ls19 [(.int (0 : Int32))]) t
      refine XS.istore Xc12.here hx rfl (hb hby at_22) rfl (l' := Ls22) rfl ?_
      show St p e below Tc12 (mkF m 24 Ls22 []) t
      refine XS.aloadN Xc12.here hx rfl (hb hby at_24) rfl rfl ?_
      exact k)
    obtain ⟨cqc24, kqc24, qc24a, qc24b, qc24c⟩ := isOf hZ ec12 (Ea_TRUE.ext O0.2)
    obtain ⟨_, _, ⟨Tc24, Lc24, kc24, nc24⟩, -, Xc24, ⟨Lcc24, hQc24, lc24, yc24, zc24⟩, stc24⟩ := Xc12.virtualBack hx (y := M1) (z := M1) hown (mvT hZ (ww hw 8 rfl)) (mvT hZ (ww hw 9 rfl)) (notFace_of_selects (args := #[]) (mvT hZ (ww hw 11 rfl))) (mvT hZ (ww hw 11 rfl)) (mvT hZ (ww hw 10 rfl)) (by decide) (backOf (W := 0) (rm2_1 l Z a0 hw [] a_TRUE a_UNKNOWN a_FALSE h0 n0 O0 HE' ) hZ (ww hw 12 rfl) (ww hw 6 rfl) (by decide) (by decide)) qc24a qc24c (g := (mkF m 25 Ls22 [(.ref a_TRUE)])) rfl (by rw [hml]; rfl) (Steps.refl _) (argsL := []) (rest := []) (lenOf pd1 rfl) rfl (by show 2 * 0 + _ ≤ _; exact Nat.le_of_eq rfl) (hb hby at_25) (fun _ _ => ⟨rfl, ec12, (by decide : 0 + 0 ≤ _), (by decide : 0 + 0 ≤ _)⟩)
    dsimp only [Pt.U, Pt.locs, Pt.cells, Pt.slots] at Xc24 lc24 yc24 zc24 stc24 hQc24
    subst lc24 yc24 zc24
    obtain ⟨Nqc24, ec24, hAc24⟩ := hQc24
    have Nc24 := Fr.app Nc12 Nqc24
    obtain rfl := hAc24
    have p25 : ∀ t, St p e below Tc24 (mkF m 28 Ls22 [(.ref a_FALSE)]) t → S0 t := fun t k => p23 t (stc24.trans k)
    obtain ⟨cqc26, kqc26, qc26a, qc26b, qc26c⟩ := isOf hZ ec24 (Ea_FALSE.ext O0.2)
    obtain ⟨_, _, ⟨Tc26, Lc26, kc26, nc26⟩, -, Xc26, ⟨Lcc26, hQc26, lc26, yc26, zc26⟩, stc26⟩ := Xc24.virtualBack hx (y := M1) (z := M1) hown (mvT hZ (ww hw 8 rfl)) (mvT hZ (ww hw 9 rfl)) (notFace_of_selects (args := #[]) (mvT hZ (ww hw 11 rfl))) (mvT hZ (ww hw 11 rfl)) (mvT hZ (ww hw 10 rfl)) (by decide) (backOf (W := 0) (rm2_2 l Z a0 hw [] a_TRUE a_UNKNOWN a_FALSE h0 n0 O0 HE' ) hZ (ww hw 12 rfl) (ww hw 6 rfl) (by decide) (by decide)) qc26a qc26c (g := (mkF m 28 Ls22 [(.ref a_FALSE)])) rfl (by rw [hml]; rfl) (Steps.refl _) (argsL := []) (rest := []) (lenOf pd1 rfl) rfl (by show 2 * 0 + _ ≤ _; exact Nat.le_of_eq rfl) (hb hby at_28) (fun _ _ => ⟨rfl, ec24, (by decide : 0 + 0 ≤ _), (by decide : 0 + 0 ≤ _)⟩)
    dsimp only [Pt.U, Pt.locs, Pt.cells, Pt.slots] at Xc26 lc26 yc26 zc26 stc26 hQc26
    subst lc26 yc26 zc26
    obtain ⟨Nqc26, ec26, hAc26⟩ := hQc26
    have Nc26 := Fr.app Nc24 Nqc26
    obtain rfl := hAc26
    have p27 : ∀ t, St p e below Tc26 (mkF m 31 Ls22 [(.ref a_TRUE)]) t → S0 t := fun t k => p25 t (stc26.trans k)
    let Ls28 : Array Slot := #[.val (.int i0), .val (.int i1), .val (.int i2), .val (.ref a_TRUE), .val (.ref a_TRUE), .val (.int (0 : Int32)), .val (.int (1 : Int32)), .unset, .unset]
    have p29 : ∀ t, St p e below Tc26 (mkF m 44 Ls28 [(.int (0 : Int32))]) t → S0 t := fun t k => p27 t (by
      show St p e below Tc26 (mkF m 31 Ls22 [(.ref a_TRUE)]) t
      refine XS.aloadN Xc26.here hx rfl (hb hby at_31) rfl rfl ?_
      show St p e below Tc26 (mkF m 32 Ls22 [(.ref a_TRUE), (.ref a_TRUE)]) t
      refine Jvm.RoadKit.acmp (g := (mkF m 32 Ls22 [(.ref a_TRUE), (.ref a_TRUE)])) Xc26 hx rfl rfl rfl (pc0 := 32) (pc' := 35) (same := true) rfl (hb hby at_32) rfl (decide_eq_true rfl) (by decide) (by decide) ?_
      show St p e below Tc26 (mkF m 35 Ls22 []) t
      refine XT.iconstV Xc26.here hx rfl (1 : Int32) (hb hby at_35) (by decide) ?_
      show St p e below Tc26 (mkF m 36 Ls22 [(.int (1 : Int32))]) t
      refine XS.goto Xc26.here hx rfl (pc0 := 36) (pc' := 40) rfl (hb hby at_36) (by decide) (by decide) ?_
      show St p e below Tc26 (mkF m 40 Ls22 [(.int (1 : Int32))]) t
      refine XS.istore Xc26.here hx rfl (hb hby at_40) rfl (l' := Ls28) rfl ?_
      show St p e below Tc26 (mkF m 42 Ls28 []) t
      refine XS.iload Xc26.here hx rfl (hb hby at_42) rfl ?_
      exact k)
    obtain ⟨_, _, ⟨Tc30, Lc30, kc30, nc30⟩, -, Xc30, ⟨Lcc30, hQc30, lc30, yc30, zc30⟩, stc30⟩ := Jvm.LawKit.callS Xc26 hx (y := M2) hown (mvT hZ (ww hw 18 rfl)) (mvT hZ (ww hw 19 rfl)) (mvT hZ (ww hw 6 rfl)) (mvT hZ (ww hw 20 rfl)) (by decide) (backOf (W := 0) (rm3_3 l Z a0 hw [] a_TRUE a_UNKNOWN a_FALSE h0 n0 O0 HE' ) hZ (ww hw 20 rfl) (ww hw 6 rfl) (by decide) (by decide)) (g := (mkF m 44 Ls28 [(.int (0 : Int32))])) rfl (by rw [hml]; rfl) (argsL := [(.int (0 : Int32))]) (rest := []) (lenOf pd2 rfl) rfl (by show 2 * 0 + _ ≤ _; exact Nat.le_of_eq rfl) (hb hby at_44) (fun _ _ => ⟨rfl, ec26, (by decide : 0 + 0 ≤ _), (by decide : 0 + 0 ≤ _)⟩)
    dsimp only [Pt.U, Pt.locs, Pt.cells, Pt.slots] at Xc30 lc30 yc30 zc30 stc30 hQc30
    subst lc30 yc30 zc30
    obtain ⟨Nqc30, ec30, hAc30⟩ := hQc30
    have Nc30 := Fr.app Nc26 Nqc30
    obtain rfl := hAc30
    have p31 : ∀ t, St p e below Tc30 (mkF m 47 Ls28 [(.ref a_FALSE)]) t → S0 t := fun t k => p29 t (stc30 t k)
    obtain ⟨cqc32, kqc32, qc32a, qc32b, qc32c⟩ := isOf hZ ec30 (Ea_FALSE.ext O0.2)
    obtain ⟨_, _, ⟨Tc32, Lc32, kc32, nc32⟩, -, Xc32, ⟨Lcc32, hQc32, lc32, yc32, zc32⟩, stc32⟩ := Xc30.virtualBack hx (y := M1) (z := M1) hown (mvT hZ (ww hw 8 rfl)) (mvT hZ (ww hw 9 rfl)) (notFace_of_selects (args := #[]) (mvT hZ (ww hw 11 rfl))) (mvT hZ (ww hw 11 rfl)) (mvT hZ (ww hw 10 rfl)) (by decide) (backOf (W := 0) (rm2_2 l Z a0 hw [] a_TRUE a_UNKNOWN a_FALSE h0 n0 O0 HE' ) hZ (ww hw 12 rfl) (ww hw 6 rfl) (by decide) (by decide)) qc32a qc32c (g := (mkF m 47 Ls28 [(.ref a_FALSE)])) rfl (by rw [hml]; rfl) (Steps.refl _) (argsL := []) (rest := []) (lenOf pd1 rfl) rfl (by show 2 * 0 + _ ≤ _; exact Nat.le_of_eq rfl) (hb hby at_47) (fun _ _ => ⟨rfl, ec30, (by decide : 0 + 0 ≤ _), (by decide : 0 + 0 ≤ _)⟩)
    dsimp only [Pt.U, Pt.locs, Pt.cells, Pt.slots] at Xc32 lc32 yc32 zc32 stc32 hQc32
    subst lc32 yc32 zc32
    obtain ⟨Nqc32, ec32, hAc32⟩ := hQc32
    have Nc32 := Fr.app Nc30 Nqc32
    obtain rfl := hAc32
    have p33 : ∀ t, St p e below Tc32 (mkF m 50 Ls28 [(.ref a_TRUE)]) t → S0 t := fun t k => p31 t (stc32.trans k)
    have p34 : ∀ t, St p e below Tc32 (mkF m 60 Ls28 [(.int (1 : Int32)), (.ref a_TRUE)]) t → S0 t := fun t k => p33 t (by
      show St p e below Tc32 (mkF m 50 Ls28 [(.ref a_TRUE)]) t
      refine XS.iload Xc32.here hx rfl (hb hby at_50) rfl ?_
      show St p e below Tc32 (mkF m 52 Ls28 [(.int (0 : Int32)), (.ref a_TRUE)]) t
      refine XS.ifNo Xc32.here hx rfl (hb hby at_52) rfl ((if0 _ _).trans (teq (by decide : (0 : Int32) = (0 : Int32))).2) ?_
      show St p e below Tc32 (mkF m 55 Ls28 [(.ref a_TRUE)]) t
      refine XT.iconstV Xc32.here hx rfl (1 : Int32) (hb hby at_55) (by decide) ?_
      show St p e below Tc32 (mkF m 56 Ls28 [(.int (1 : Int32)), (.ref a_TRUE)]) t
      refine XS.goto Xc32.here hx rfl (pc0 := 56) (pc' := 60) rfl (hb hby at_56) (by decide) (by decide) ?_
      exact k)
    obtain ⟨_, _, ⟨Tc35, Lc35, kc35, nc35⟩, -, Xc35, ⟨Lcc35, hQc35, lc35, yc35, zc35⟩, stc35⟩ := Jvm.LawKit.callS Xc32 hx (y := M2) hown (mvT hZ (ww hw 18 rfl)) (mvT hZ (ww hw 19 rfl)) (mvT hZ (ww hw 6 rfl)) (mvT hZ (ww hw 20 rfl)) (by decide) (backOf (W := 1) (rm3_4 l Z a0 hw [] a_TRUE a_UNKNOWN a_FALSE h0 n0 O0 HE' ) hZ (ww hw 20 rfl) (ww hw 6 rfl) (by decide) (by decide)) (g := (mkF m 60 Ls28 [(.int (1 : Int32)), (.ref a_TRUE)])) rfl (by rw [hml]; rfl) (argsL := [(.int (1 : Int32))]) (rest := [(.ref a_TRUE)]) (lenOf pd2 rfl) rfl (by show 2 * 0 + _ ≤ _; exact Nat.le_of_eq rfl) (hb hby at_60) (fun _ _ => ⟨rfl, ec32, (by decide : 0 + 0 ≤ _), (by decide : 0 + 0 ≤ _)⟩)
    dsimp only [Pt.U, Pt.locs, Pt.cells, Pt.slots] at Xc35 lc35 yc35 zc35 stc35 hQc35
    subst lc35 yc35 zc35
    obtain ⟨Nqc35, ec35, hAc35⟩ := hQc35
    have Nc35 := Fr.app Nc32 Nqc35
    obtain rfl := hAc35
    have p36 : ∀ t, St p e below Tc35 (mkF m 63 Ls28 [(.ref a_TRUE), (.ref a_TRUE)]) t → S0 t := fun t k => p34 t (stc35 t k)
    let Ls37 : Array Slot := #[.val (.int i0), .val (.int i1), .val (.int i2), .val (.ref a_TRUE), .val (.ref a_TRUE), .val (.int (0 : Int32)), .val (.int (1 : Int32)), .val (.int (1 : Int32)), .unset]
    have p38 : ∀ t, St p e below Tc35 (mkF m 76 Ls37 [(.ref a_TRUE), (.ref a_TRUE)]) t → S0 t := fun t k => p36 t (by
      show St p e below Tc35 (mkF m 63 Ls28 [(.ref a_TRUE), (.ref a_TRUE)]) t
      refine Jvm.RoadKit.acmp (g := (mkF m 63 Ls28 [(.ref a_TRUE), (.ref a_TRUE)])) Xc35 hx rfl rfl rfl (pc0 := 63) (pc' := 66) (same := true) rfl (hb hby at_63) rfl (decide_eq_true rfl) (by decide) (by decide) ?_
      show St p e below Tc35 (mkF m 66 Ls28 []) t
      refine XT.iconstV Xc35.here hx rfl (1 : Int32) (hb hby at_66) (by decide) ?_
      show St p e below Tc35 (mkF m 67 Ls28 [(.int (1 : Int32))]) t
      refine XS.goto Xc35.here hx rfl (pc0 := 67) (pc' := 71) rfl (hb hby at_67) (by decide) (by decide) ?_
      show St p e below Tc35 (mkF m 71 Ls28 [(.int (1 : Int32))]) t
      refine XS.istore Xc35.here hx rfl (hb hby at_71) rfl (l' := Ls37) rfl ?_
      show St p e below Tc35 (mkF m 73 Ls37 []) t
      refine XS.aloadN Xc35.here hx rfl (hb hby at_73) rfl rfl ?_
      show St p e below Tc35 (mkF m 74 Ls37 [(.ref a_TRUE)]) t
      refine XS.aload Xc35.here hx rfl (hb hby at_74) rfl rfl ?_
      exact k)
    obtain ⟨cqc39, kqc39, qc39a, qc39b, qc39c⟩ := isOf hZ ec35 (Ea_TRUE.ext O0.2)
    obtain ⟨_, _, ⟨Tc39, Lc39, kc39, nc39⟩, -, Xc39, ⟨Lcc39, hQc39, lc39, yc39, zc39⟩, stc39⟩ := Xc35.virtualBack hx (y := M3) (z := M3) hown (mvT hZ (ww hw 21 rfl)) (mvT hZ (ww hw 22 rfl)) (notFace_of_selects (args := #[]) (mvT hZ (ww hw 24 rfl))) (mvT hZ (ww hw 24 rfl)) (mvT hZ (ww hw 23 rfl)) (by decide) (backOf (W := 0) (rm4_5 l Z a0 hw [] a_TRUE a_UNKNOWN a_FALSE h0 n0 O0 HE' ) hZ (ww hw 25 rfl) (ww hw 6 rfl) (by decide) (by decide)) qc39a qc39c (g := (mkF m 76 Ls37 [(.ref a_TRUE), (.ref a_TRUE)])) rfl (by rw [hml]; rfl) (Steps.refl _) (argsL := [(.ref a_TRUE)]) (rest := []) (lenOf pd3 rfl) rfl (by show 2 * 0 + _ ≤ _; exact Nat.le_of_eq rfl) (hb hby at_76) (fun _ _ => ⟨rfl, ec35, (by decide : 0 + 0 ≤ _), (by decide : 0 + 0 ≤ _)⟩)
    dsimp only [Pt.U, Pt.locs, Pt.cells, Pt.slots] at Xc39 lc39 yc39 zc39 stc39 hQc39
    subst lc39 yc39 zc39
    obtain ⟨Nqc39, ec39, hAc39⟩ := hQc39
    have Nc39 := Fr.app Nc35 Nqc39
    obtain rfl := hAc39
    have p40 : ∀ t, St p e below Tc39 (mkF m 79 Ls37 [(.ref a_TRUE)]) t → S0 t := fun t k => p38 t (stc39.trans k)
    obtain ⟨cqc41, kqc41, qc41a, qc41b, qc41c⟩ := isOf hZ ec39 (Ea_TRUE.ext O0.2)
    obtain ⟨_, _, ⟨Tc41, Lc41, kc41, nc41⟩, -, Xc41, ⟨Lcc41, hQc41, lc41, yc41, zc41⟩, stc41⟩ := Xc39.virtualBack hx (y := M1) (z := M1) hown (mvT hZ (ww hw 8 rfl)) (mvT hZ (ww hw 9 rfl)) (notFace_of_selects (args := #[]) (mvT hZ (ww hw 11 rfl))) (mvT hZ (ww hw 11 rfl)) (mvT hZ (ww hw 10 rfl)) (by decide) (backOf (W := 0) (rm2_1 l Z a0 hw [] a_TRUE a_UNKNOWN a_FALSE h0 n0 O0 HE' ) hZ (ww hw 12 rfl) (ww hw 6 rfl) (by decide) (by decide)) qc41a qc41c (g := (mkF m 79 Ls37 [(.ref a_TRUE)])) rfl (by rw [hml]; rfl) (Steps.refl _) (argsL := []) (rest := []) (lenOf pd1 rfl) rfl (by show 2 * 0 + _ ≤ _; exact Nat.le_of_eq rfl) (hb hby at_79) (fun _ _ => ⟨rfl, ec39, (by decide : 0 + 0 ≤ _), (by decide : 0 + 0 ≤ _)⟩)
    dsimp only [Pt.U, Pt.locs, Pt.cells, Pt.slots] at Xc41 lc41 yc41 zc41 stc41 hQc41
    subst lc41 yc41 zc41
    obtain ⟨Nqc41, ec41, hAc41⟩ := hQc41
    have Nc41 := Fr.app Nc39 Nqc41
    obtain rfl := hAc41
    have p42 : ∀ t, St p e below Tc41 (mkF m 82 Ls37 [(.ref a_FALSE)]) t → S0 t := fun t k => p40 t (stc41.trans k)
    have p43 : ∀ t, St p e below Tc41 (mkF m 83 Ls37 [(.ref a_TRUE), (.ref a_FALSE)]) t → S0 t := fun t k => p42 t (by
      show St p e below Tc41 (mkF m 82 Ls37 [(.ref a_FALSE)]) t
      refine XS.aloadN Xc41.here hx rfl (hb hby at_82) rfl rfl ?_
      exact k)
    obtain ⟨cqc44, kqc44, qc44a, qc44b, qc44c⟩ := isOf hZ ec41 (Ea_TRUE.ext O0.2)
    obtain ⟨_, _, ⟨Tc44, Lc44, kc44, nc44⟩, -, Xc44, ⟨Lcc44, hQc44, lc44, yc44, zc44⟩, stc44⟩ := Xc41.virtualBack hx (y := M1) (z := M1) hown (mvT hZ (ww hw 8 rfl)) (mvT hZ (ww hw 9 rfl)) (notFace_of_selects (args := #[]) (mvT hZ (ww hw 11 rfl))) (mvT hZ (ww hw 11 rfl)) (mvT hZ (ww hw 10 rfl)) (by decide) (backOf (W := 1) (rm2_1 l Z a0 hw [] a_TRUE a_UNKNOWN a_FALSE h0 n0 O0 HE' ) hZ (ww hw 12 rfl) (ww hw 6 rfl) (by decide) (by decide)) qc44a qc44c (g := (mkF m 83 Ls37 [(.ref a_TRUE), (.ref a_FALSE)])) rfl (by rw [hml]; rfl) (Steps.refl _) (argsL := []) (rest := [(.ref a_FALSE)]) (lenOf pd1 rfl) rfl (by show 2 * 0 + _ ≤ _; exact Nat.le_of_eq rfl) (hb hby at_83) (fun _ _ => ⟨rfl, ec41, (by decide : 0 + 0 ≤ _), (by decide : 0 + 0 ≤ _)⟩)
    dsimp only [Pt.U, Pt.locs, Pt.cells, Pt.slots] at Xc44 lc44 yc44 zc44 stc44 hQc44
    subst lc44 yc44 zc44
    obtain ⟨Nqc44, ec44, hAc44⟩ := hQc44
    have Nc44 := Fr.app Nc41 Nqc44
    obtain rfl := hAc44
    have p45 : ∀ t, St p e below Tc44 (mkF m 86 Ls37 [(.ref a_FALSE), (.ref a_FALSE)]) t → S0 t := fun t k => p43 t (stc44.trans k)
    have p46 : ∀ t, St p e below Tc44 (mkF m 88 Ls37 [(.ref a_TRUE), (.ref a_FALSE), (.ref a_FALSE)]) t → S0 t := fun t k => p45 t (by
      show St p e below Tc44 (mkF m 86 Ls37 [(.ref a_FALSE), (.ref a_FALSE)]) t
      refine XS.aload Xc44.here hx rfl (hb hby at_86) rfl rfl ?_
      exact k)
    obtain ⟨cqc47, kqc47, qc47a, qc47b, qc47c⟩ := isOf hZ ec44 (Ea_TRUE.ext O0.2)
    obtain ⟨_, _, ⟨Tc47, Lc47, kc47, nc47⟩, -, Xc47, ⟨Lcc47, hQc47, lc47, yc47, zc47⟩, stc47⟩ := Xc44.virtualBack hx (y := M1) (z := M1) hown (mvT hZ (ww hw 8 rfl)) (mvT hZ (ww hw 9 rfl)) (notFace_of_selects (args := #[]) (mvT hZ (ww hw 11 rfl))) (mvT hZ (ww hw 11 rfl)) (mvT hZ (ww hw 10 rfl)) (by decide) (backOf (W := 2) (rm2_1 l Z a0 hw [] a_TRUE a_UNKNOWN a_FALSE h0 n0 O0 HE' ) hZ (ww hw 12 rfl) (ww hw 6 rfl) (by decide) (by decide)) qc47a qc47c (g := (mkF m 88 Ls37 [(.ref a_TRUE), (.ref a_FALSE), (.ref a_FALSE)])) rfl (by rw [hml]; rfl) (Steps.refl _) (argsL := []) (rest := [(.ref a_FALSE), (.ref a_FALSE)]) (lenOf pd1 rfl) rfl (by show 2 * 0 + _ ≤ _; exact Nat.le_of_eq rfl) (hb hby at_88) (fun _ _ => ⟨rfl, ec44, (by decide : 0 + 0 ≤ _), (by decide : 0 + 0 ≤ _)⟩)
    dsimp only [Pt.U, Pt.locs, Pt.cells, Pt.slots] at Xc47 lc47 yc47 zc47 stc47 hQc47
    subst lc47 yc47 zc47
    obtain ⟨Nqc47, ec47, hAc47⟩ := hQc47
    have Nc47 := Fr.app Nc44 Nqc47
    obtain rfl := hAc47
    have p48 : ∀ t, St p e below Tc47 (mkF m 91 Ls37 [(.ref a_FALSE), (.ref a_FALSE), (.ref a_FALSE)]) t → S0 t := fun t k => p46 t (stc47.trans k)
    obtain ⟨cqc49, kqc49, qc49a, qc49b, qc49c⟩ := isOf hZ ec47 (Ea_FALSE.ext O0.2)
    obtain ⟨_, _, ⟨Tc49, Lc49, kc49, nc49⟩, -, Xc49, ⟨Lcc49, hQc49, lc49, yc49, zc49⟩, stc49⟩ := Xc47.virtualBack hx (y := M4) (z := M4) hown (mvT hZ (ww hw 26 rfl)) (mvT hZ (ww hw 27 rfl)) (notFace_of_selects (args := #[]) (mvT hZ (ww hw 29 rfl))) (mvT hZ (ww hw 29 rfl)) (mvT hZ (ww hw 28 rfl)) (by decide) (backOf (W := 1) (rm5_6 l Z a0 hw [] a_TRUE a_UNKNOWN a_FALSE h0 n0 O0 HE' ) hZ (ww hw 30 rfl) (ww hw 6 rfl) (by decide) (by decide)) qc49a qc49c (g := (mkF m 91 Ls37 [(.ref a_FALSE), (.ref a_FALSE), (.ref a_FALSE)])) rfl (by rw [hml]; rfl) (Steps.refl _) (argsL := [(.ref a_FALSE)]) (rest := [(.ref a_FALSE)]) (lenOf pd3 rfl) rfl (by show 2 * 0 + _ ≤ _; exact Nat.le_of_eq rfl) (hb hby at_91) (fun _ _ => ⟨rfl, ec47, (by decide : 0 + 0 ≤ _), (by decide : 0 + 0 ≤ _)⟩)
    dsimp only [Pt.U, Pt.locs, Pt.cells, Pt.slots] at Xc49 lc49 yc49 zc49 stc49 hQc49
    subst lc49 yc49 zc49
    obtain ⟨Nqc49, ec49, hAc49⟩ := hQc49
    have Nc49 := Fr.app Nc47 Nqc49
    obtain rfl := hAc49
    have p50 : ∀ t, St p e below Tc49 (mkF m 94 Ls37 [(.ref a_FALSE), (.ref a_FALSE)]) t → S0 t := fun t k => p48 t (stc49.trans k)
    let Ls51 : Array Slot := #[.val (.int i0), .val (.int i1), .val (.int i2), .val (.ref a_TRUE), .val (.ref a_TRUE), .val (.int (0 : Int32)), .val (.int (1 : Int32)), .val (.int (1 : Int32)), .val (.int (1 : Int32))]
    have p52 : ∀ t, St p e below Tc49 (mkF m 124 Ls51 [(.int (1 : Int32))]) t → S0 t := fun t k => p50 t (by
      show St p e below Tc49 (mkF m 94 Ls37 [(.ref a_FALSE), (.ref a_FALSE)]) t
      refine Jvm.RoadKit.acmp (g := (mkF m 94 Ls37 [(.ref a_FALSE), (.ref a_FALSE)])) Xc49 hx rfl rfl rfl (pc0 := 94) (pc' := 97) (same := true) rfl (hb hby at_94) rfl (decide_eq_true rfl) (by decide) (by decide) ?_
      show St p e below Tc49 (mkF m 97 Ls37 []) t
      refine XT.iconstV Xc49.here hx rfl (1 : Int32) (hb hby at_97) (by decide) ?_
      show St p e below Tc49 (mkF m 98 Ls37 [(.int (1 : Int32))]) t
      refine XS.goto Xc49.here hx rfl (pc0 := 98) (pc' := 102) rfl (hb hby at_98) (by decide) (by decide) ?_
      show St p e below Tc49 (mkF m 102 Ls37 [(.int (1 : Int32))]) t
      refine XS.istore Xc49.here hx rfl (hb hby at_102) rfl (l' := Ls51) rfl ?_
      show St p e below Tc49 (mkF m 104 Ls51 []) t
      refine XS.iload Xc49.here hx rfl (hb hby at_104) rfl ?_
      show St p e below Tc49 (mkF m 106 Ls51 [(.int (1 : Int32))]) t
      refine XS.ifNo Xc49.here hx rfl (hb hby at_106) rfl ((if0 _ _).trans (feq (by decide : ¬ ((1 : Int32) = (0 : Int32)))).1) ?_
      show St p e below Tc49 (mkF m 109 Ls51 []) t
      refine XS.iload Xc49.here hx rfl (hb hby at_109) rfl ?_
      show St p e below Tc49 (mkF m 111 Ls51 [(.int (1 : Int32))]) t
      refine XS.ifNo Xc49.here hx rfl (hb hby at_111) rfl ((if0 _ _).trans (feq (by decide : ¬ ((1 : Int32) = (0 : Int32)))).1) ?_
      show St p e below Tc49 (mkF m 114 Ls51 []) t
      refine XS.iload Xc49.here hx rfl (hb hby at_114) rfl ?_
      show St p e below Tc49 (mkF m 116 Ls51 [(.int (1 : Int32))]) t
      refine XS.ifNo Xc49.here hx rfl (hb hby at_116) rfl ((if0 _ _).trans (feq (by decide : ¬ ((1 : Int32) = (0 : Int32)))).1) ?_
      show St p e below Tc49 (mkF m 119 Ls51 []) t
      refine XT.iconstV Xc49.here hx rfl (1 : Int32) (hb hby at_119) (by decide) ?_
      show St p e below Tc49 (mkF m 120 Ls51 [(.int (1 : Int32))]) t
      refine XS.goto Xc49.here hx rfl (pc0 := 120) (pc' := 124) rfl (hb hby at_120) (by decide) (by decide) ?_
      exact k)
    obtain ⟨fs, hr, hrun, hended, hW, hsame⟩ := Xc49.leave (v := some (.int (1 : Int32))) (fun h => by rw [Bd.returns] at h; cases h)
    refine ⟨_, _, p52 _ ?_, hrun, hended, _, _, rfl, ?_, ⟨_, rfl⟩, hW, hsame.mono (by decide) (by decide)⟩
    · exact retOut Xc49 hx Bd.returns rfl (Or.inl ⟨rfl, by simp, _, rfl⟩) (hb hby at_124) hr
    · exact ⟨rfl, Nc49⟩
   ·
    let Ls53 : Array Slot := #[.val (.int i0), .val (.int i1), .val (.int i2), .val (.ref a_TRUE), .val (.ref a_TRUE), .val (.int (1 : Int32)), .unset, .unset, .unset]
    have p54 : ∀ t, St p e below Tc12 (mkF m 25 Ls53 [(.ref a_TRUE)]) t → S0 t := fun t k => p20 t (by
      show St p e below Tc12 (mkF m 14 Ls19 [(.int (i2 &&& (1 : Int32)))]) t
      refine XS.ifNo Xc12.here hx rfl (hb hby at_14) rfl ((if0 _ _).trans (feq g21).1) ?_
      show St p e below Tc12 (mkF m 17 Ls19 []) t
      refine XT.iconstV Xc12.here hx rfl (1 : Int32) (hb hby at_17) (by decide) ?_
      show St p e below Tc12 (mkF m 18 Ls19 [(.int (1 : Int32))]) t
      refine XS.goto Xc12.here hx rfl (pc0 := 18) (pc' := 22) rfl (hb hby at_18) (by decide) (by decide) ?_
      show St p e below Tc12 (mkF m 22 Ls19 [(.int (1 : Int32))]) t
      refine XS.istore Xc12.here hx rfl (hb hby at_22) rfl (l' := Ls53) rfl ?_
      show St p e below Tc12 (mkF m 24 Ls53 []) t
      refine XS.aloadN Xc12.here hx rfl (hb hby at_24) rfl rfl ?_
      exact k)
    obtain ⟨cqc55, kqc55, qc55a, qc55b, qc55c⟩ := isOf hZ ec12 (Ea_TRUE.ext O0.2)
    obtain ⟨_, _, ⟨Tc55, Lc55, kc55, nc55⟩, -, Xc55, ⟨Lcc55, hQc55, lc55, yc55, zc55⟩, stc55⟩ := Xc12.virtualBack hx (y := M1) (z := M1) hown (mvT hZ (ww hw 8 rfl)) (mvT hZ (ww hw 9 rfl)) (notFace_of_selects (args := #[]) (mvT hZ (ww hw 11 rfl))) (mvT hZ (ww hw 11 rfl)) (mvT hZ (ww hw 10 rfl)) (by decide) (backOf (W := 0) (rm2_1 l Z a0 hw [] a_TRUE a_UNKNOWN a_FALSE h0 n0 O0 HE' ) hZ (ww hw 12 rfl) (ww hw 6 rfl) (by decide) (by decide)) qc55a qc55c (g := (mkF m 25 Ls53 [(.ref a_TRUE)])) rfl (by rw [hml]; rfl) (Steps.refl _) (argsL := []) (rest := []) (lenOf pd1 rfl) rfl (by show 2 * 0 + _ ≤ _; exact Nat.le_of_eq rfl) (hb hby at_25) (fun _ _ => ⟨rfl, ec12, (by decide : 0 + 0 ≤ _), (by decide : 0 + 0 ≤ _)⟩)
    dsimp only [Pt.U, Pt.locs, Pt.cells, Pt.slots] at Xc55 lc55 yc55 zc55 stc55 hQc55
    subst lc55 yc55 zc55
    obtain ⟨Nqc55, ec55, hAc55⟩ := hQc55
    have Nc55 := Fr.app Nc12 Nqc55
    obtain rfl := hAc55
    have p56 : ∀ t, St p e below Tc55 (mkF m 28 Ls53 [(.ref a_FALSE)]) t → S0 t := fun t k => p54 t (stc55.trans k)
    obtain ⟨cqc57, kqc57, qc57a, qc57b, qc57c⟩ := isOf hZ ec55 (Ea_FALSE.ext O0.2)
    obtain ⟨_, _, ⟨Tc57, Lc57, kc57, nc57⟩, -, Xc57, ⟨Lcc57, hQc57, lc57, yc57, zc57⟩, stc57⟩ := Xc55.virtualBack hx (y := M1) (z := M1) hown (mvT hZ (ww hw 8 rfl)) (mvT hZ (ww hw 9 rfl)) (notFace_of_selects (args := #[]) (mvT hZ (ww hw 11 rfl))) (mvT hZ (ww hw 11 rfl)) (mvT hZ (ww hw 10 rfl)) (by decide) (backOf (W := 0) (rm2_2 l Z a0 hw [] a_TRUE a_UNKNOWN a_FALSE h0 n0 O0 HE' ) hZ (ww hw 12 rfl) (ww hw 6 rfl) (by decide) (by decide)) qc57a qc57c (g := (mkF m 28 Ls53 [(.ref a_FALSE)])) rfl (by rw [hml]; rfl) (Steps.refl _) (argsL := []) (rest := []) (lenOf pd1 rfl) rfl (by show 2 * 0 + _ ≤ _; exact Nat.le_of_eq rfl) (hb hby at_28) (fun _ _ => ⟨rfl, ec55, (by decide : 0 + 0 ≤ _), (by decide : 0 + 0 ≤ _)⟩)
    dsimp only [Pt.U, Pt.locs, Pt.cells, Pt.slots] at Xc57 lc57 yc57 zc57 stc57 hQc57
    subst lc57 yc57 zc57
    obtain ⟨Nqc57, ec57, hAc57⟩ := hQc57
    have Nc57 := Fr.app Nc55 Nqc57
    obtain rfl := hAc57
    have p58 : ∀ t, St p e below Tc57 (mkF m 31 Ls53 [(.ref a_TRUE)]) t → S0 t := fun t k => p56 t (stc57.trans k)
    let Ls59 : Array Slot := #[.val (.int i0), .val (.int i1), .val (.int i2), .val (.ref a_TRUE), .val (.ref a_TRUE), .val (.int (1 : Int32)), .val (.int (1 : Int32)), .unset, .unset]
    have p60 : ∀ t, St p e below Tc57 (mkF m 44 Ls59 [(.int (1 : Int32))]) t → S0 t := fun t k => p58 t (by
      show St p e below Tc57 (mkF m 31 Ls53 [(.ref a_TRUE)]) t
      refine XS.aloadN Xc57.here hx rfl (hb hby at_31) rfl rfl ?_
      show St p e below Tc57 (mkF m 32 Ls53 [(.ref a_TRUE), (.ref a_TRUE)]) t
      refine Jvm.RoadKit.acmp (g := (mkF m 32 Ls53 [(.ref a_TRUE), (.ref a_TRUE)])) Xc57 hx rfl rfl rfl (pc0 := 32) (pc' := 35) (same := true) rfl (hb hby at_32) rfl (decide_eq_true rfl) (by decide) (by decide) ?_
      show St p e below Tc57 (mkF m 35 Ls53 []) t
      refine XT.iconstV Xc57.here hx rfl (1 : Int32) (hb hby at_35) (by decide) ?_
      show St p e below Tc57 (mkF m 36 Ls53 [(.int (1 : Int32))]) t
      refine XS.goto Xc57.here hx rfl (pc0 := 36) (pc' := 40) rfl (hb hby at_36) (by decide) (by decide) ?_
      show St p e below Tc57 (mkF m 40 Ls53 [(.int (1 : Int32))]) t
      refine XS.istore Xc57.here hx rfl (hb hby at_40) rfl (l' := Ls59) rfl ?_
      show St p e below Tc57 (mkF m 42 Ls59 []) t
      refine XS.iload Xc57.here hx rfl (hb hby at_42) rfl ?_
      exact k)
    obtain ⟨_, _, ⟨Tc61, Lc61, kc61, nc61⟩, -, Xc61, ⟨Lcc61, hQc61, lc61, yc61, zc61⟩, stc61⟩ := Jvm.LawKit.callS Xc57 hx (y := M2) hown (mvT hZ (ww hw 18 rfl)) (mvT hZ (ww hw 19 rfl)) (mvT hZ (ww hw 6 rfl)) (mvT hZ (ww hw 20 rfl)) (by decide) (backOf (W := 0) (rm3_4 l Z a0 hw [] a_TRUE a_UNKNOWN a_FALSE h0 n0 O0 HE' ) hZ (ww hw 20 rfl) (ww hw 6 rfl) (by decide) (by decide)) (g := (mkF m 44 Ls59 [(.int (1 : Int32))])) rfl (by rw [hml]; rfl) (argsL := [(.int (1 : Int32))]) (rest := []) (lenOf pd2 rfl) rfl (by show 2 * 0 + _ ≤ _; exact Nat.le_of_eq rfl) (hb hby at_44) (fun _ _ => ⟨rfl, ec57, (by decide : 0 + 0 ≤ _), (by decide : 0 + 0 ≤ _)⟩)
    dsimp only [Pt.U, Pt.locs, Pt.cells, Pt.slots] at Xc61 lc61 yc61 zc61 stc61 hQc61
    subst lc61 yc61 zc61
    obtain ⟨Nqc61, ec61, hAc61⟩ := hQc61
    have Nc61 := Fr.app Nc57 Nqc61
    obtain rfl := hAc61
    have p62 : ∀ t, St p e below Tc61 (mkF m 47 Ls59 [(.ref a_TRUE)]) t → S0 t := fun t k => p60 t (stc61 t k)
    obtain ⟨cqc63, kqc63, qc63a, qc63b, qc63c⟩ := isOf hZ ec61 (Ea_TRUE.ext O0.2)
    obtain ⟨_, _, ⟨Tc63, Lc63, kc63, nc63⟩, -, Xc63, ⟨Lcc63, hQc63, lc63, yc63, zc63⟩, stc63⟩ := Xc61.virtualBack hx (y := M1) (z := M1) hown (mvT hZ (ww hw 8 rfl)) (mvT hZ (ww hw 9 rfl)) (notFace_of_selects (args := #[]) (mvT hZ (ww hw 11 rfl))) (mvT hZ (ww hw 11 rfl)) (mvT hZ (ww hw 10 rfl)) (by decide) (backOf (W := 0) (rm2_1 l Z a0 hw [] a_TRUE a_UNKNOWN a_FALSE h0 n0 O0 HE' ) hZ (ww hw 12 rfl) (ww hw 6 rfl) (by decide) (by decide)) qc63a qc63c (g := (mkF m 47 Ls59 [(.ref a_TRUE)])) rfl (by rw [hml]; rfl) (Steps.refl _) (argsL := []) (rest := []) (lenOf pd1 rfl) rfl (by show 2 * 0 + _ ≤ _; exact Nat.le_of_eq rfl) (hb hby at_47) (fun _ _ => ⟨rfl, ec61, (by decide : 0 + 0 ≤ _), (by decide : 0 + 0 ≤ _)⟩)
    dsimp only [Pt.U, Pt.locs, Pt.cells, Pt.slots] at Xc63 lc63 yc63 zc63 stc63 hQc63
    subst lc63 yc63 zc63
    obtain ⟨Nqc63, ec63, hAc63⟩ := hQc63
    have Nc63 := Fr.app Nc61 Nqc63
    obtain rfl := hAc63
    have p64 : ∀ t, St p e below Tc63 (mkF m 50 Ls59 [(.ref a_FALSE)]) t → S0 t := fun t k => p62 t (stc63.trans k)
    have p65 : ∀ t, St p e below Tc63 (mkF m 60 Ls59 [(.int (0 : Int32)), (.ref a_FALSE)]) t → S0 t := fun t k => p64 t (by
      show St p e below Tc63 (mkF m 50 Ls59 [(.ref a_FALSE)]) t
      refine XS.iload Xc63.here hx rfl (hb hby at_50) rfl ?_
      show St p e below Tc63 (mkF m 52 Ls59 [(.int (1 : Int32)), (.ref a_FALSE)]) t
      refine XS.ifYes Xc63.here hx rfl (pc0 := 52) (pc' := 59) rfl (hb hby at_52) rfl ((if0 _ _).trans (feq (by decide : ¬ ((1 : Int32) = (0 : Int32)))).2) (by decide) (by decide) ?_
      show St p e below Tc63 (mkF m 59 Ls59 [(.ref a_FALSE)]) t
      refine XT.iconstV Xc63.here hx rfl (0 : Int32) (hb hby at_59) (by decide) ?_
      exact k)
    obtain ⟨_, _, ⟨Tc66, Lc66, kc66, nc66⟩, -, Xc66, ⟨Lcc66, hQc66, lc66, yc66, zc66⟩, stc66⟩ := Jvm.LawKit.callS Xc63 hx (y := M2) hown (mvT hZ (ww hw 18 rfl)) (mvT hZ (ww hw 19 rfl)) (mvT hZ (ww hw 6 rfl)) (mvT hZ (ww hw 20 rfl)) (by decide) (backOf (W := 1) (rm3_3 l Z a0 hw [] a_TRUE a_UNKNOWN a_FALSE h0 n0 O0 HE' ) hZ (ww hw 20 rfl) (ww hw 6 rfl) (by decide) (by decide)) (g := (mkF m 60 Ls59 [(.int (0 : Int32)), (.ref a_FALSE)])) rfl (by rw [hml]; rfl) (argsL := [(.int (0 : Int32))]) (rest := [(.ref a_FALSE)]) (lenOf pd2 rfl) rfl (by show 2 * 0 + _ ≤ _; exact Nat.le_of_eq rfl) (hb hby at_60) (fun _ _ => ⟨rfl, ec63, (by decide : 0 + 0 ≤ _), (by decide : 0 + 0 ≤ _)⟩)
    dsimp only [Pt.U, Pt.locs, Pt.cells, Pt.slots] at Xc66 lc66 yc66 zc66 stc66 hQc66
    subst lc66 yc66 zc66
    obtain ⟨Nqc66, ec66, hAc66⟩ := hQc66
    have Nc66 := Fr.app Nc63 Nqc66
    obtain rfl := hAc66
    have p67 : ∀ t, St p e below Tc66 (mkF m 63 Ls59 [(.ref a_FALSE), (.ref a_FALSE)]) t → S0 t := fun t k => p65 t (stc66 t k)
    let Ls68 : Array Slot := #[.val (.int i0), .val (.int i1), .val (.int i2), .val (.ref a_TRUE), .val (.ref a_TRUE), .val (.int (1 : Int32)), .val (.int (1 : Int32)), .val (.int (1 : Int32)), .unset]
    have p69 : ∀ t, St p e below Tc66 (mkF m 76 Ls68 [(.ref a_TRUE), (.ref a_TRUE)]) t → S0 t := fun t k => p67 t (by
      show St p e below Tc66 (mkF m 63 Ls59 [(.ref a_FALSE), (.ref a_FALSE)]) t
      refine Jvm.RoadKit.acmp (g := (mkF m 63 Ls59 [(.ref a_FALSE), (.ref a_FALSE)])) Xc66 hx rfl rfl rfl (pc0 := 63) (pc' := 66) (same := true) rfl (hb hby at_63) rfl (decide_eq_true rfl) (by decide) (by decide) ?_
      show St p e below Tc66 (mkF m 66 Ls59 []) t
      refine XT.iconstV Xc66.here hx rfl (1 : Int32) (hb hby at_66) (by decide) ?_
      show St p e below Tc66 (mkF m 67 Ls59 [(.int (1 : Int32))]) t
      refine XS.goto Xc66.here hx rfl (pc0 := 67) (pc' := 71) rfl (hb hby at_67) (by decide) (by decide) ?_
      show St p e below Tc66 (mkF m 71 Ls59 [(.int (1 : Int32))]) t
      refine XS.istore Xc66.here hx rfl (hb hby at_71) rfl (l' := Ls68) rfl ?_
      show St p e below Tc66 (mkF m 73 Ls68 []) t
      refine XS.aloadN Xc66.here hx rfl (hb hby at_73) rfl rfl ?_
      show St p e below Tc66 (mkF m 74 Ls68 [(.ref a_TRUE)]) t
      refine XS.aload Xc66.here hx rfl (hb hby at_74) rfl rfl ?_
      exact k)
    obtain ⟨cqc70, kqc70, qc70a, qc70b, qc70c⟩ := isOf hZ ec66 (Ea_TRUE.ext O0.2)
    obtain ⟨_, _, ⟨Tc70, Lc70, kc70, nc70⟩, -, Xc70, ⟨Lcc70, hQc70, lc70, yc70, zc70⟩, stc70⟩ := Xc66.virtualBack hx (y := M3) (z := M3) hown (mvT hZ (ww hw 21 rfl)) (mvT hZ (ww hw 22 rfl)) (notFace_of_selects (args := #[]) (mvT hZ (ww hw 24 rfl))) (mvT hZ (ww hw 24 rfl)) (mvT hZ (ww hw 23 rfl)) (by decide) (backOf (W := 0) (rm4_5 l Z a0 hw [] a_TRUE a_UNKNOWN a_FALSE h0 n0 O0 HE' ) hZ (ww hw 25 rfl) (ww hw 6 rfl) (by decide) (by decide)) qc70a qc70c (g := (mkF m 76 Ls68 [(.ref a_TRUE), (.ref a_TRUE)])) rfl (by rw [hml]; rfl) (Steps.refl _) (argsL := [(.ref a_TRUE)]) (rest := []) (lenOf pd3 rfl) rfl (by show 2 * 0 + _ ≤ _; exact Nat.le_of_eq rfl) (hb hby at_76) (fun _ _ => ⟨rfl, ec66, (by decide : 0 + 0 ≤ _), (by decide : 0 + 0 ≤ _)⟩)
    dsimp only [Pt.U, Pt.locs, Pt.cells, Pt.slots] at Xc70 lc70 yc70 zc70 stc70 hQc70
    subst lc70 yc70 zc70
    obtain ⟨Nqc70, ec70, hAc70⟩ := hQc70
    have Nc70 := Fr.app Nc66 Nqc70
    obtain rfl := hAc70
    have p71 : ∀ t, St p e below Tc70 (mkF m 79 Ls68 [(.ref a_TRUE)]) t → S0 t := fun t k => p69 t (stc70.trans k)
    obtain ⟨cqc72, kqc72, qc72a, qc72b, qc72c⟩ := isOf hZ ec70 (Ea_TRUE.ext O0.2)
    obtain ⟨_, _, ⟨Tc72, Lc72, kc72, nc72⟩, -, Xc72, ⟨Lcc72, hQc72, lc72, yc72, zc72⟩, stc72⟩ := Xc70.virtualBack hx (y := M1) (z := M1) hown (mvT hZ (ww hw 8 rfl)) (mvT hZ (ww hw 9 rfl)) (notFace_of_selects (args := #[]) (mvT hZ (ww hw 11 rfl))) (mvT hZ (ww hw 11 rfl)) (mvT hZ (ww hw 10 rfl)) (by decide) (backOf (W := 0) (rm2_1 l Z a0 hw [] a_TRUE a_UNKNOWN a_FALSE h0 n0 O0 HE' ) hZ (ww hw 12 rfl) (ww hw 6 rfl) (by decide) (by decide)) qc72a qc72c (g := (mkF m 79 Ls68 [(.ref a_TRUE)])) rfl (by rw [hml]; rfl) (Steps.refl _) (argsL := []) (rest := []) (lenOf pd1 rfl) rfl (by show 2 * 0 + _ ≤ _; exact Nat.le_of_eq rfl) (hb hby at_79) (fun _ _ => ⟨rfl, ec70, (by decide : 0 + 0 ≤ _), (by decide : 0 + 0 ≤ _)⟩)
    dsimp only [Pt.U, Pt.locs, Pt.cells, Pt.slots] at Xc72 lc72 yc72 zc72 stc72 hQc72
    subst lc72 yc72 zc72
    obtain ⟨Nqc72, ec72, hAc72⟩ := hQc72
    have Nc72 := Fr.app Nc70 Nqc72
    obtain rfl := hAc72
    have p73 : ∀ t, St p e below Tc72 (mkF m 82 Ls68 [(.ref a_FALSE)]) t → S0 t := fun t k => p71 t (stc72.trans k)
    have p74 : ∀ t, St p e below Tc72 (mkF m 83 Ls68 [(.ref a_TRUE), (.ref a_FALSE)]) t → S0 t := fun t k => p73 t (by
      show St p e below Tc72 (mkF m 82 Ls68 [(.ref a_FALSE)]) t
      refine XS.aloadN Xc72.here hx rfl (hb hby at_82) rfl rfl ?_
      exact k)
    obtain ⟨cqc75, kqc75, qc75a, qc75b, qc75c⟩ := isOf hZ ec72 (Ea_TRUE.ext O0.2)
    obtain ⟨_, _, ⟨Tc75, Lc75, kc75, nc75⟩, -, Xc75, ⟨Lcc75, hQc75, lc75, yc75, zc75⟩, stc75⟩ := Xc72.virtualBack hx (y := M1) (z := M1) hown (mvT hZ (ww hw 8 rfl)) (mvT hZ (ww hw 9 rfl)) (notFace_of_selects (args := #[]) (mvT hZ (ww hw 11 rfl))) (mvT hZ (ww hw 11 rfl)) (mvT hZ (ww hw 10 rfl)) (by decide) (backOf (W := 1) (rm2_1 l Z a0 hw [] a_TRUE a_UNKNOWN a_FALSE h0 n0 O0 HE' ) hZ (ww hw 12 rfl) (ww hw 6 rfl) (by decide) (by decide)) qc75a qc75c (g := (mkF m 83 Ls68 [(.ref a_TRUE), (.ref a_FALSE)])) rfl (by rw [hml]; rfl) (Steps.refl _) (argsL := []) (rest := [(.ref a_FALSE)]) (lenOf pd1 rfl) rfl (by show 2 * 0 + _ ≤ _; exact Nat.le_of_eq rfl) (hb hby at_83) (fun _ _ => ⟨rfl, ec72, (by decide : 0 + 0 ≤ _), (by decide : 0 + 0 ≤ _)⟩)
    dsimp only [Pt.U, Pt.locs, Pt.cells, Pt.slots] at Xc75 lc75 yc75 zc75 stc75 hQc75
    subst lc75 yc75 zc75
    obtain ⟨Nqc75, ec75, hAc75⟩ := hQc75
    have Nc75 := Fr.app Nc72 Nqc75
    obtain rfl := hAc75
    have p76 : ∀ t, St p e below Tc75 (mkF m 86 Ls68 [(.ref a_FALSE), (.ref a_FALSE)]) t → S0 t := fun t k => p74 t (stc75.trans k)
    have p77 : ∀ t, St p e below Tc75 (mkF m 88 Ls68 [(.ref a_TRUE), (.ref a_FALSE), (.ref a_FALSE)]) t → S0 t := fun t k => p76 t (by
      show St p e below Tc75 (mkF m 86 Ls68 [(.ref a_FALSE), (.ref a_FALSE)]) t
      refine XS.aload Xc75.here hx rfl (hb hby at_86) rfl rfl ?_
      exact k)
    obtain ⟨cqc78, kqc78, qc78a, qc78b, qc78c⟩ := isOf hZ ec75 (Ea_TRUE.ext O0.2)
    obtain ⟨_, _, ⟨Tc78, Lc78, kc78, nc78⟩, -, Xc78, ⟨Lcc78, hQc78, lc78, yc78, zc78⟩, stc78⟩ := Xc75.virtualBack hx (y := M1) (z := M1) hown (mvT hZ (ww hw 8 rfl)) (mvT hZ (ww hw 9 rfl)) (notFace_of_selects (args := #[]) (mvT hZ (ww hw 11 rfl))) (mvT hZ (ww hw 11 rfl)) (mvT hZ (ww hw 10 rfl)) (by decide) (backOf (W := 2) (rm2_1 l Z a0 hw [] a_TRUE a_UNKNOWN a_FALSE h0 n0 O0 HE' ) hZ (ww hw 12 rfl) (ww hw 6 rfl) (by decide) (by decide)) qc78a qc78c (g := (mkF m 88 Ls68 [(.ref a_TRUE), (.ref a_FALSE), (.ref a_FALSE)])) rfl (by rw [hml]; rfl) (Steps.refl _) (argsL := []) (rest := [(.ref a_FALSE), (.ref a_FALSE)]) (lenOf pd1 rfl) rfl (by show 2 * 0 + _ ≤ _; exact Nat.le_of_eq rfl) (hb hby at_88) (fun _ _ => ⟨rfl, ec75, (by decide : 0 + 0 ≤ _), (by decide : 0 + 0 ≤ _)⟩)
    dsimp only [Pt.U, Pt.locs, Pt.cells, Pt.slots] at Xc78 lc78 yc78 zc78 stc78 hQc78
    subst lc78 yc78 zc78
    obtain ⟨Nqc78, ec78, hAc78⟩ := hQc78
    have Nc78 := Fr.app Nc75 Nqc78
    obtain rfl := hAc78
    have p79 : ∀ t, St p e below Tc78 (mkF m 91 Ls68 [(.ref a_FALSE), (.ref a_FALSE), (.ref a_FALSE)]) t → S0 t := fun t k => p77 t (stc78.trans k)
    obtain ⟨cqc80, kqc80, qc80a, qc80b, qc80c⟩ := isOf hZ ec78 (Ea_FALSE.ext O0.2)
    obtain ⟨_, _, ⟨Tc80, Lc80, kc80, nc80⟩, -, Xc80, ⟨Lcc80, hQc80, lc80, yc80, zc80⟩, stc80⟩ := Xc78.virtualBack hx (y := M4) (z := M4) hown (mvT hZ (ww hw 26 rfl)) (mvT hZ (ww hw 27 rfl)) (notFace_of_selects (args := #[]) (mvT hZ (ww hw 29 rfl))) (mvT hZ (ww hw 29 rfl)) (mvT hZ (ww hw 28 rfl)) (by decide) (backOf (W := 1) (rm5_6 l Z a0 hw [] a_TRUE a_UNKNOWN a_FALSE h0 n0 O0 HE' ) hZ (ww hw 30 rfl) (ww hw 6 rfl) (by decide) (by decide)) qc80a qc80c (g := (mkF m 91 Ls68 [(.ref a_FALSE), (.ref a_FALSE), (.ref a_FALSE)])) rfl (by rw [hml]; rfl) (Steps.refl _) (argsL := [(.ref a_FALSE)]) (rest := [(.ref a_FALSE)]) (lenOf pd3 rfl) rfl (by show 2 * 0 + _ ≤ _; exact Nat.le_of_eq rfl) (hb hby at_91) (fun _ _ => ⟨rfl, ec78, (by decide : 0 + 0 ≤ _), (by decide : 0 + 0 ≤ _)⟩)
    dsimp only [Pt.U, Pt.locs, Pt.cells, Pt.slots] at Xc80 lc80 yc80 zc80 stc80 hQc80
    subst lc80 yc80 zc80
    obtain ⟨Nqc80, ec80, hAc80⟩ := hQc80
    have Nc80 := Fr.app Nc78 Nqc80
    obtain rfl := hAc80
    have p81 : ∀ t, St p e below Tc80 (mkF m 94 Ls68 [(.ref a_FALSE), (.ref a_FALSE)]) t → S0 t := fun t k => p79 t (stc80.trans k)
    let Ls82 : Array Slot := #[.val (.int i0), .val (.int i1), .val (.int i2), .val (.ref a_TRUE), .val (.ref a_TRUE), .val (.int (1 : Int32)), .val (.int (1 : Int32)), .val (.int (1 : Int32)), .val (.int (1 : Int32))]
    have p83 : ∀ t, St p e below Tc80 (mkF m 124 Ls82 [(.int (1 : Int32))]) t → S0 t := fun t k => p81 t (by
      show St p e below Tc80 (mkF m 94 Ls68 [(.ref a_FALSE), (.ref a_FALSE)]) t
      refine Jvm.RoadKit.acmp (g := (mkF m 94 Ls68 [(.ref a_FALSE), (.ref a_FALSE)])) Xc80 hx rfl rfl rfl (pc0 := 94) (pc' := 97) (same := true) rfl (hb hby at_94) rfl (decide_eq_true rfl) (by decide) (by decide) ?_
      show St p e below Tc80 (mkF m 97 Ls68 []) t
      refine XT.iconstV Xc80.here hx rfl (1 : Int32) (hb hby at_97) (by decide) ?_
      show St p e below Tc80 (mkF m 98 Ls68 [(.int (1 : Int32))]) t
      refine XS.goto Xc80.here hx rfl (pc0 := 98) (pc' := 102) rfl (hb hby at_98) (by decide) (by decide) ?_
      show St p e below Tc80 (mkF m 102 Ls68 [(.int (1 : Int32))]) t
      refine XS.istore Xc80.here hx rfl (hb hby at_102) rfl (l' := Ls82) rfl ?_
      show St p e below Tc80 (mkF m 104 Ls82 []) t
      refine XS.iload Xc80.here hx rfl (hb hby at_104) rfl ?_
      show St p e below Tc80 (mkF m 106 Ls82 [(.int (1 : Int32))]) t
      refine XS.ifNo Xc80.here hx rfl (hb hby at_106) rfl ((if0 _ _).trans (feq (by decide : ¬ ((1 : Int32) = (0 : Int32)))).1) ?_
      show St p e below Tc80 (mkF m 109 Ls82 []) t
      refine XS.iload Xc80.here hx rfl (hb hby at_109) rfl ?_
      show St p e below Tc80 (mkF m 111 Ls82 [(.int (1 : Int32))]) t
      refine XS.ifNo Xc80.here hx rfl (hb hby at_111) rfl ((if0 _ _).trans (feq (by decide : ¬ ((1 : Int32) = (0 : Int32)))).1) ?_
      show St p e below Tc80 (mkF m 114 Ls82 []) t
      refine XS.iload Xc80.here hx rfl (hb hby at_114) rfl ?_
      show St p e below Tc80 (mkF m 116 Ls82 [(.int (1 : Int32))]) t
      refine XS.ifNo Xc80.here hx rfl (hb hby at_116) rfl ((if0 _ _).trans (feq (by decide : ¬ ((1 : Int32) = (0 : Int32)))).1) ?_
      show St p e below Tc80 (mkF m 119 Ls82 []) t
      refine XT.iconstV Xc80.here hx rfl (1 : Int32) (hb hby at_119) (by decide) ?_
      show St p e below Tc80 (mkF m 120 Ls82 [(.int (1 : Int32))]) t
      refine XS.goto Xc80.here hx rfl (pc0 := 120) (pc' := 124) rfl (hb hby at_120) (by decide) (by decide) ?_
      exact k)
    obtain ⟨fs, hr, hrun, hended, hW, hsame⟩ := Xc80.leave (v := some (.int (1 : Int32))) (fun h => by rw [Bd.returns] at h; cases h)
    refine ⟨_, _, p83 _ ?_, hrun, hended, _, _, rfl, ?_, ⟨_, rfl⟩, hW, hsame.mono (by decide) (by decide)⟩
    · exact retOut Xc80 hx Bd.returns rfl (Or.inl ⟨rfl, by simp, _, rfl⟩) (hb hby at_124) hr
    · exact ⟨rfl, Nc80⟩
  ·
   have p84 : ∀ t, St p e below Tc12 (mkF m 9 Ls10 [(.ref a_FALSE)]) t → S0 t := fun t k => p11 t (stc12 t k)
   let Ls85 : Array Slot := #[.val (.int i0), .val (.int i1), .val (.int i2), .val (.ref a_TRUE), .val (.ref a_FALSE), .unset, .unset, .unset, .unset]
   have p86 : ∀ t, St p e below Tc12 (mkF m 14 Ls85 [(.int (i2 &&& (1 : Int32)))]) t → S0 t := fun t k => p84 t (by
     show St p e below Tc12 (mkF m 9 Ls10 [(.ref a_FALSE)]) t
     refine XS.astore Xc12.here hx rfl (hb hby at_9) rfl rfl (l' := Ls85) rfl ?_
     show St p e below Tc12 (mkF m 11 Ls85 []) t
     refine XS.iloadN Xc12.here hx rfl (hb hby at_11) rfl ?_
     show St p e below Tc12 (mkF m 12 Ls85 [(.int i2)]) t
     refine XT.iconstV Xc12.here hx rfl (1 : Int32) (hb hby at_12) (by decide) ?_
     show St p e below Tc12 (mkF m 13 Ls85 [(.int (1 : Int32)), (.int i2)]) t
     refine XS.iand Xc12.here hx rfl (hb hby at_13) rfl ?_
     exact k)
   by_cases g87 : (i2 &&& (1 : Int32)) = (0 : Int32)
   ·
    let Ls88 : Array Slot := #[.val (.int i0), .val (.int i1), .val (.int i2), .val (.ref a_TRUE), .val (.ref a_FALSE), .val (.int (0 : Int32)), .unset, .unset, .unset]
    have p89 : ∀ t, St p e below Tc12 (mkF m 25 Ls88 [(.ref a_TRUE)]) t → S0 t := fun t k => p86 t (by
      show St p e below Tc12 (mkF m 14 Ls85 [(.int (i2 &&& (1 : Int32)))]) t
      refine XS.ifYes Xc12.here hx rfl (pc0 := 14) (pc' := 21) rfl (hb hby at_14) rfl ((if0 _ _).trans (teq g87).1) (by decide) (by decide) ?_
      show St p e below Tc12 (mkF m 21 Ls85 []) t
      refine XT.iconstV Xc12.here hx rfl (0 : Int32) (hb hby at_21) (by decide) ?_
      show St p e below Tc12 (mkF m 22 Ls85 [(.int (0 : Int32))]) t
      refine XS.istore Xc12.here hx rfl (hb hby at_22) rfl (l' := Ls88) rfl ?_
      show St p e below Tc12 (mkF m 24 Ls88 []) t
      refine XS.aloadN Xc12.here hx rfl (hb hby at_24) rfl rfl ?_
      exact k)
    obtain ⟨cqc90, kqc90, qc90a, qc90b, qc90c⟩ := isOf hZ ec12 (Ea_TRUE.ext O0.2)
    obtain ⟨_, _, ⟨Tc90, Lc90, kc90, nc90⟩, -, Xc90, ⟨Lcc90, hQc90, lc90, yc90, zc90⟩, stc90⟩ := Xc12.virtualBack hx (y := M1) (z := M1) hown (mvT hZ (ww hw 8 rfl)) (mvT hZ (ww hw 9 rfl)) (notFace_of_selects (args := #[]) (mvT hZ (ww hw 11 rfl))) (mvT hZ (ww hw 11 rfl)) (mvT hZ (ww hw 10 rfl)) (by decide) (backOf (W := 0) (rm2_1 l Z a0 hw [] a_TRUE a_UNKNOWN a_FALSE h0 n0 O0 HE' ) hZ (ww hw 12 rfl) (ww hw 6 rfl) (by decide) (by decide)) qc90a qc90c (g := (mkF m 25 Ls88 [(.ref a_TRUE)])) rfl (by rw [hml]; rfl) (Steps.refl _) (argsL := []) (rest := []) (lenOf pd1 rfl) rfl (by show 2 * 0 + _ ≤ _; exact Nat.le_of_eq rfl) (hb hby at_25) (fun _ _ => ⟨rfl, ec12, (by decide : 0 + 0 ≤ _), (by decide : 0 + 0 ≤ _)⟩)
    dsimp only [Pt.U, Pt.locs, Pt.cells, Pt.slots] at Xc90 lc90 yc90 zc90 stc90 hQc90
    subst lc90 yc90 zc90
    obtain ⟨Nqc90, ec90, hAc90⟩ := hQc90
    have Nc90 := Fr.app Nc12 Nqc90
    obtain rfl := hAc90
    have p91 : ∀ t, St p e below Tc90 (mkF m 28 Ls88 [(.ref a_FALSE)]) t → S0 t := fun t k => p89 t (stc90.trans k)
    obtain ⟨cqc92, kqc92, qc92a, qc92b, qc92c⟩ := isOf hZ ec90 (Ea_FALSE.ext O0.2)
    obtain ⟨_, _, ⟨Tc92, Lc92, kc92, nc92⟩, -, Xc92, ⟨Lcc92, hQc92, lc92, yc92, zc92⟩, stc92⟩ := Xc90.virtualBack hx (y := M1) (z := M1) hown (mvT hZ (ww hw 8 rfl)) (mvT hZ (ww hw 9 rfl)) (notFace_of_selects (args := #[]) (mvT hZ (ww hw 11 rfl))) (mvT hZ (ww hw 11 rfl)) (mvT hZ (ww hw 10 rfl)) (by decide) (backOf (W := 0) (rm2_2 l Z a0 hw [] a_TRUE a_UNKNOWN a_FALSE h0 n0 O0 HE' ) hZ (ww hw 12 rfl) (ww hw 6 rfl) (by decide) (by decide)) qc92a qc92c (g := (mkF m 28 Ls88 [(.ref a_FALSE)])) rfl (by rw [hml]; rfl) (Steps.refl _) (argsL := []) (rest := []) (lenOf pd1 rfl) rfl (by show 2 * 0 + _ ≤ _; exact Nat.le_of_eq rfl) (hb hby at_28) (fun _ _ => ⟨rfl, ec90, (by decide : 0 + 0 ≤ _), (by decide : 0 + 0 ≤ _)⟩)
    dsimp only [Pt.U, Pt.locs, Pt.cells, Pt.slots] at Xc92 lc92 yc92 zc92 stc92 hQc92
    subst lc92 yc92 zc92
    obtain ⟨Nqc92, ec92, hAc92⟩ := hQc92
    have Nc92 := Fr.app Nc90 Nqc92
    obtain rfl := hAc92
    have p93 : ∀ t, St p e below Tc92 (mkF m 31 Ls88 [(.ref a_TRUE)]) t → S0 t := fun t k => p91 t (stc92.trans k)
    let Ls94 : Array Slot := #[.val (.int i0), .val (.int i1), .val (.int i2), .val (.ref a_TRUE), .val (.ref a_FALSE), .val (.int (0 : Int32)), .val (.int (1 : Int32)), .unset, .unset]
    have p95 : ∀ t, St p e below Tc92 (mkF m 44 Ls94 [(.int (0 : Int32))]) t → S0 t := fun t k => p93 t (by
      show St p e below Tc92 (mkF m 31 Ls88 [(.ref a_TRUE)]) t
      refine XS.aloadN Xc92.here hx rfl (hb hby at_31) rfl rfl ?_
      show St p e below Tc92 (mkF m 32 Ls88 [(.ref a_TRUE), (.ref a_TRUE)]) t
      refine Jvm.RoadKit.acmp (g := (mkF m 32 Ls88 [(.ref a_TRUE), (.ref a_TRUE)])) Xc92 hx rfl rfl rfl (pc0 := 32) (pc' := 35) (same := true) rfl (hb hby at_32) rfl (decide_eq_true rfl) (by decide) (by decide) ?_
      show St p e below Tc92 (mkF m 35 Ls88 []) t
      refine XT.iconstV Xc92.here hx rfl (1 : Int32) (hb hby at_35) (by decide) ?_
      show St p e below Tc92 (mkF m 36 Ls88 [(.int (1 : Int32))]) t
      refine XS.goto Xc92.here hx rfl (pc0 := 36) (pc' := 40) rfl (hb hby at_36) (by decide) (by decide) ?_
      show St p e below Tc92 (mkF m 40 Ls88 [(.int (1 : Int32))]) t
      refine XS.istore Xc92.here hx rfl (hb hby at_40) rfl (l' := Ls94) rfl ?_
      show St p e below Tc92 (mkF m 42 Ls94 []) t
      refine XS.iload Xc92.here hx rfl (hb hby at_42) rfl ?_
      exact k)
    obtain ⟨_, _, ⟨Tc96, Lc96, kc96, nc96⟩, -, Xc96, ⟨Lcc96, hQc96, lc96, yc96, zc96⟩, stc96⟩ := Jvm.LawKit.callS Xc92 hx (y := M2) hown (mvT hZ (ww hw 18 rfl)) (mvT hZ (ww hw 19 rfl)) (mvT hZ (ww hw 6 rfl)) (mvT hZ (ww hw 20 rfl)) (by decide) (backOf (W := 0) (rm3_3 l Z a0 hw [] a_TRUE a_UNKNOWN a_FALSE h0 n0 O0 HE' ) hZ (ww hw 20 rfl) (ww hw 6 rfl) (by decide) (by decide)) (g := (mkF m 44 Ls94 [(.int (0 : Int32))])) rfl (by rw [hml]; rfl) (argsL := [(.int (0 : Int32))]) (rest := []) (lenOf pd2 rfl) rfl (by show 2 * 0 + _ ≤ _; exact Nat.le_of_eq rfl) (hb hby at_44) (fun _ _ => ⟨rfl, ec92, (by decide : 0 + 0 ≤ _), (by decide : 0 + 0 ≤ _)⟩)
    dsimp only [Pt.U, Pt.locs, Pt.cells, Pt.slots] at Xc96 lc96 yc96 zc96 stc96 hQc96
    subst lc96 yc96 zc96
    obtain ⟨Nqc96, ec96, hAc96⟩ := hQc96
    have Nc96 := Fr.app Nc92 Nqc96
    obtain rfl := hAc96
    have p97 : ∀ t, St p e below Tc96 (mkF m 47 Ls94 [(.ref a_FALSE)]) t → S0 t := fun t k => p95 t (stc96 t k)
    obtain ⟨cqc98, kqc98, qc98a, qc98b, qc98c⟩ := isOf hZ ec96 (Ea_FALSE.ext O0.2)
    obtain ⟨_, _, ⟨Tc98, Lc98, kc98, nc98⟩, -, Xc98, ⟨Lcc98, hQc98, lc98, yc98, zc98⟩, stc98⟩ := Xc96.virtualBack hx (y := M1) (z := M1) hown (mvT hZ (ww hw 8 rfl)) (mvT hZ (ww hw 9 rfl)) (notFace_of_selects (args := #[]) (mvT hZ (ww hw 11 rfl))) (mvT hZ (ww hw 11 rfl)) (mvT hZ (ww hw 10 rfl)) (by decide) (backOf (W := 0) (rm2_2 l Z a0 hw [] a_TRUE a_UNKNOWN a_FALSE h0 n0 O0 HE' ) hZ (ww hw 12 rfl) (ww hw 6 rfl) (by decide) (by decide)) qc98a qc98c (g := (mkF m 47 Ls94 [(.ref a_FALSE)])) rfl (by rw [hml]; rfl) (Steps.refl _) (argsL := []) (rest := []) (lenOf pd1 rfl) rfl (by show 2 * 0 + _ ≤ _; exact Nat.le_of_eq rfl) (hb hby at_47) (fun _ _ => ⟨rfl, ec96, (by decide : 0 + 0 ≤ _), (by decide : 0 + 0 ≤ _)⟩)
    dsimp only [Pt.U, Pt.locs, Pt.cells, Pt.slots] at Xc98 lc98 yc98 zc98 stc98 hQc98
    subst lc98 yc98 zc98
    obtain ⟨Nqc98, ec98, hAc98⟩ := hQc98
    have Nc98 := Fr.app Nc96 Nqc98
    obtain rfl := hAc98
    have p99 : ∀ t, St p e below Tc98 (mkF m 50 Ls94 [(.ref a_TRUE)]) t → S0 t := fun t k => p97 t (stc98.trans k)
    have p100 : ∀ t, St p e below Tc98 (mkF m 60 Ls94 [(.int (1 : Int32)), (.ref a_TRUE)]) t → S0 t := fun t k => p99 t (by
      show St p e below Tc98 (mkF m 50 Ls94 [(.ref a_TRUE)]) t
      refine XS.iload Xc98.here hx rfl (hb hby at_50) rfl ?_
      show St p e below Tc98 (mkF m 52 Ls94 [(.int (0 : Int32)), (.ref a_TRUE)]) t
      refine XS.ifNo Xc98.here hx rfl (hb hby at_52) rfl ((if0 _ _).trans (teq (by decide : (0 : Int32) = (0 : Int32))).2) ?_
      show St p e below Tc98 (mkF m 55 Ls94 [(.ref a_TRUE)]) t
      refine XT.iconstV Xc98.here hx rfl (1 : Int32) (hb hby at_55) (by decide) ?_
      show St p e below Tc98 (mkF m 56 Ls94 [(.int (1 : Int32)), (.ref a_TRUE)]) t
      refine XS.goto Xc98.here hx rfl (pc0 := 56) (pc' := 60) rfl (hb hby at_56) (by decide) (by decide) ?_
      exact k)
    obtain ⟨_, _, ⟨Tc101, Lc101, kc101, nc101⟩, -, Xc101, ⟨Lcc101, hQc101, lc101, yc101, zc101⟩, stc101⟩ := Jvm.LawKit.callS Xc98 hx (y := M2) hown (mvT hZ (ww hw 18 rfl)) (mvT hZ (ww hw 19 rfl)) (mvT hZ (ww hw 6 rfl)) (mvT hZ (ww hw 20 rfl)) (by decide) (backOf (W := 1) (rm3_4 l Z a0 hw [] a_TRUE a_UNKNOWN a_FALSE h0 n0 O0 HE' ) hZ (ww hw 20 rfl) (ww hw 6 rfl) (by decide) (by decide)) (g := (mkF m 60 Ls94 [(.int (1 : Int32)), (.ref a_TRUE)])) rfl (by rw [hml]; rfl) (argsL := [(.int (1 : Int32))]) (rest := [(.ref a_TRUE)]) (lenOf pd2 rfl) rfl (by show 2 * 0 + _ ≤ _; exact Nat.le_of_eq rfl) (hb hby at_60) (fun _ _ => ⟨rfl, ec98, (by decide : 0 + 0 ≤ _), (by decide : 0 + 0 ≤ _)⟩)
    dsimp only [Pt.U, Pt.locs, Pt.cells, Pt.slots] at Xc101 lc101 yc101 zc101 stc101 hQc101
    subst lc101 yc101 zc101
    obtain ⟨Nqc101, ec101, hAc101⟩ := hQc101
    have Nc101 := Fr.app Nc98 Nqc101
    obtain rfl := hAc101
    have p102 : ∀ t, St p e below Tc101 (mkF m 63 Ls94 [(.ref a_TRUE), (.ref a_TRUE)]) t → S0 t := fun t k => p100 t (stc101 t k)
    let Ls103 : Array Slot := #[.val (.int i0), .val (.int i1), .val (.int i2), .val (.ref a_TRUE), .val (.ref a_FALSE), .val (.int (0 : Int32)), .val (.int (1 : Int32)), .val (.int (1 : Int32)), .unset]
    have p104 : ∀ t, St p e below Tc101 (mkF m 76 Ls103 [(.ref a_FALSE), (.ref a_TRUE)]) t → S0 t := fun t k => p102 t (by
      show St p e below Tc101 (mkF m 63 Ls94 [(.ref a_TRUE), (.ref a_TRUE)]) t
      refine Jvm.RoadKit.acmp (g := (mkF m 63 Ls94 [(.ref a_TRUE), (.ref a_TRUE)])) Xc101 hx rfl rfl rfl (pc0 := 63) (pc' := 66) (same := true) rfl (hb hby at_63) rfl (decide_eq_true rfl) (by decide) (by decide) ?_
      show St p e below Tc101 (mkF m 66 Ls94 []) t
      refine XT.iconstV Xc101.here hx rfl (1 : Int32) (hb hby at_66) (by decide) ?_
      show St p e below Tc101 (mkF m 67 Ls94 [(.int (1 : Int32))]) t
      refine XS.goto Xc101.here hx rfl (pc0 := 67) (pc' := 71) rfl (hb hby at_67) (by decide) (by decide) ?_
      show St p e below Tc101 (mkF m 71 Ls94 [(.int (1 : Int32))]) t
      refine XS.istore Xc101.here hx rfl (hb hby at_71) rfl (l' := Ls103) rfl ?_
      show St p e below Tc101 (mkF m 73 Ls103 []) t
      refine XS.aloadN Xc101.here hx rfl (hb hby at_73) rfl rfl ?_
      show St p e below Tc101 (mkF m 74 Ls103 [(.ref a_TRUE)]) t
      refine XS.aload Xc101.here hx rfl (hb hby at_74) rfl rfl ?_
      exact k)
    obtain ⟨cqc105, kqc105, qc105a, qc105b, qc105c⟩ := isOf hZ ec101 (Ea_TRUE.ext O0.2)
    obtain ⟨_, _, ⟨Tc105, Lc105, kc105, nc105⟩, -, Xc105, ⟨Lcc105, hQc105, lc105, yc105, zc105⟩, stc105⟩ := Xc101.virtualBack hx (y := M3) (z := M3) hown (mvT hZ (ww hw 21 rfl)) (mvT hZ (ww hw 22 rfl)) (notFace_of_selects (args := #[]) (mvT hZ (ww hw 24 rfl))) (mvT hZ (ww hw 24 rfl)) (mvT hZ (ww hw 23 rfl)) (by decide) (backOf (W := 0) (rm4_7 l Z a0 hw [] a_TRUE a_UNKNOWN a_FALSE h0 n0 O0 HE' ) hZ (ww hw 25 rfl) (ww hw 6 rfl) (by decide) (by decide)) qc105a qc105c (g := (mkF m 76 Ls103 [(.ref a_FALSE), (.ref a_TRUE)])) rfl (by rw [hml]; rfl) (Steps.refl _) (argsL := [(.ref a_FALSE)]) (rest := []) (lenOf pd3 rfl) rfl (by show 2 * 0 + _ ≤ _; exact Nat.le_of_eq rfl) (hb hby at_76) (fun _ _ => ⟨rfl, ec101, (by decide : 0 + 0 ≤ _), (by decide : 0 + 0 ≤ _)⟩)
    dsimp only [Pt.U, Pt.locs, Pt.cells, Pt.slots] at Xc105 lc105 yc105 zc105 stc105 hQc105
    subst lc105 yc105 zc105
    obtain ⟨Nqc105, ec105, hAc105⟩ := hQc105
    have Nc105 := Fr.app Nc101 Nqc105
    obtain rfl := hAc105
    have p106 : ∀ t, St p e below Tc105 (mkF m 79 Ls103 [(.ref a_FALSE)]) t → S0 t := fun t k => p104 t (stc105.trans k)
    obtain ⟨cqc107, kqc107, qc107a, qc107b, qc107c⟩ := isOf hZ ec105 (Ea_FALSE.ext O0.2)
    obtain ⟨_, _, ⟨Tc107, Lc107, kc107, nc107⟩, -, Xc107, ⟨Lcc107, hQc107, lc107, yc107, zc107⟩, stc107⟩ := Xc105.virtualBack hx (y := M1) (z := M1) hown (mvT hZ (ww hw 8 rfl)) (mvT hZ (ww hw 9 rfl)) (notFace_of_selects (args := #[]) (mvT hZ (ww hw 11 rfl))) (mvT hZ (ww hw 11 rfl)) (mvT hZ (ww hw 10 rfl)) (by decide) (backOf (W := 0) (rm2_2 l Z a0 hw [] a_TRUE a_UNKNOWN a_FALSE h0 n0 O0 HE' ) hZ (ww hw 12 rfl) (ww hw 6 rfl) (by decide) (by decide)) qc107a qc107c (g := (mkF m 79 Ls103 [(.ref a_FALSE)])) rfl (by rw [hml]; rfl) (Steps.refl _) (argsL := []) (rest := []) (lenOf pd1 rfl) rfl (by show 2 * 0 + _ ≤ _; exact Nat.le_of_eq rfl) (hb hby at_79) (fun _ _ => ⟨rfl, ec105, (by decide : 0 + 0 ≤ _), (by decide : 0 + 0 ≤ _)⟩)
    dsimp only [Pt.U, Pt.locs, Pt.cells, Pt.slots] at Xc107 lc107 yc107 zc107 stc107 hQc107
    subst lc107 yc107 zc107
    obtain ⟨Nqc107, ec107, hAc107⟩ := hQc107
    have Nc107 := Fr.app Nc105 Nqc107
    obtain rfl := hAc107
    have p108 : ∀ t, St p e below Tc107 (mkF m 82 Ls103 [(.ref a_TRUE)]) t → S0 t := fun t k => p106 t (stc107.trans k)
    have p109 : ∀ t, St p e below Tc107 (mkF m 83 Ls103 [(.ref a_TRUE), (.ref a_TRUE)]) t → S0 t := fun t k => p108 t (by
      show St p e below Tc107 (mkF m 82 Ls103 [(.ref a_TRUE)]) t
      refine XS.aloadN Xc107.here hx rfl (hb hby at_82) rfl rfl ?_
      exact k)
    obtain ⟨cqc110, kqc110, qc110a, qc110b, qc110c⟩ := isOf hZ ec107 (Ea_TRUE.ext O0.2)
    obtain ⟨_, _, ⟨Tc110, Lc110, kc110, nc110⟩, -, Xc110, ⟨Lcc110, hQc110, lc110, yc110, zc110⟩, stc110⟩ := Xc107.virtualBack hx (y := M1) (z := M1) hown (mvT hZ (ww hw 8 rfl)) (mvT hZ (ww hw 9 rfl)) (notFace_of_selects (args := #[]) (mvT hZ (ww hw 11 rfl))) (mvT hZ (ww hw 11 rfl)) (mvT hZ (ww hw 10 rfl)) (by decide) (backOf (W := 1) (rm2_1 l Z a0 hw [] a_TRUE a_UNKNOWN a_FALSE h0 n0 O0 HE' ) hZ (ww hw 12 rfl) (ww hw 6 rfl) (by decide) (by decide)) qc110a qc110c (g := (mkF m 83 Ls103 [(.ref a_TRUE), (.ref a_TRUE)])) rfl (by rw [hml]; rfl) (Steps.refl _) (argsL := []) (rest := [(.ref a_TRUE)]) (lenOf pd1 rfl) rfl (by show 2 * 0 + _ ≤ _; exact Nat.le_of_eq rfl) (hb hby at_83) (fun _ _ => ⟨rfl, ec107, (by decide : 0 + 0 ≤ _), (by decide : 0 + 0 ≤ _)⟩)
    dsimp only [Pt.U, Pt.locs, Pt.cells, Pt.slots] at Xc110 lc110 yc110 zc110 stc110 hQc110
    subst lc110 yc110 zc110
    obtain ⟨Nqc110, ec110, hAc110⟩ := hQc110
    have Nc110 := Fr.app Nc107 Nqc110
    obtain rfl := hAc110
    have p111 : ∀ t, St p e below Tc110 (mkF m 86 Ls103 [(.ref a_FALSE), (.ref a_TRUE)]) t → S0 t := fun t k => p109 t (stc110.trans k)
    have p112 : ∀ t, St p e below Tc110 (mkF m 88 Ls103 [(.ref a_FALSE), (.ref a_FALSE), (.ref a_TRUE)]) t → S0 t := fun t k => p111 t (by
      show St p e below Tc110 (mkF m 86 Ls103 [(.ref a_FALSE), (.ref a_TRUE)]) t
      refine XS.aload Xc110.here hx rfl (hb hby at_86) rfl rfl ?_
      exact k)
    obtain ⟨cqc113, kqc113, qc113a, qc113b, qc113c⟩ := isOf hZ ec110 (Ea_FALSE.ext O0.2)
    obtain ⟨_, _, ⟨Tc113, Lc113, kc113, nc113⟩, -, Xc113, ⟨Lcc113, hQc113, lc113, yc113, zc113⟩, stc113⟩ := Xc110.virtualBack hx (y := M1) (z := M1) hown (mvT hZ (ww hw 8 rfl)) (mvT hZ (ww hw 9 rfl)) (notFace_of_selects (args := #[]) (mvT hZ (ww hw 11 rfl))) (mvT hZ (ww hw 11 rfl)) (mvT hZ (ww hw 10 rfl)) (by decide) (backOf (W := 2) (rm2_2 l Z a0 hw [] a_TRUE a_UNKNOWN a_FALSE h0 n0 O0 HE' ) hZ (ww hw 12 rfl) (ww hw 6 rfl) (by decide) (by decide)) qc113a qc113c (g := (mkF m 88 Ls103 [(.ref a_FALSE), (.ref a_FALSE), (.ref a_TRUE)])) rfl (by rw [hml]; rfl) (Steps.refl _) (argsL := []) (rest := [(.ref a_FALSE), (.ref a_TRUE)]) (lenOf pd1 rfl) rfl (by show 2 * 0 + _ ≤ _; exact Nat.le_of_eq rfl) (hb hby at_88) (fun _ _ => ⟨rfl, ec110, (by decide : 0 + 0 ≤ _), (by decide : 0 + 0 ≤ _)⟩)
    dsimp only [Pt.U, Pt.locs, Pt.cells, Pt.slots] at Xc113 lc113 yc113 zc113 stc113 hQc113
    subst lc113 yc113 zc113
    obtain ⟨Nqc113, ec113, hAc113⟩ := hQc113
    have Nc113 := Fr.app Nc110 Nqc113
    obtain rfl := hAc113
    have p114 : ∀ t, St p e below Tc113 (mkF m 91 Ls103 [(.ref a_TRUE), (.ref a_FALSE), (.ref a_TRUE)]) t → S0 t := fun t k => p112 t (stc113.trans k)
    obtain ⟨cqc115, kqc115, qc115a, qc115b, qc115c⟩ := isOf hZ ec113 (Ea_FALSE.ext O0.2)
    obtain ⟨_, _, ⟨Tc115, Lc115, kc115, nc115⟩, -, Xc115, ⟨Lcc115, hQc115, lc115, yc115, zc115⟩, stc115⟩ := Xc113.virtualBack hx (y := M4) (z := M4) hown (mvT hZ (ww hw 26 rfl)) (mvT hZ (ww hw 27 rfl)) (notFace_of_selects (args := #[]) (mvT hZ (ww hw 29 rfl))) (mvT hZ (ww hw 29 rfl)) (mvT hZ (ww hw 28 rfl)) (by decide) (backOf (W := 1) (rm5_8 l Z a0 hw [] a_TRUE a_UNKNOWN a_FALSE h0 n0 O0 HE' ) hZ (ww hw 30 rfl) (ww hw 6 rfl) (by decide) (by decide)) qc115a qc115c (g := (mkF m 91 Ls103 [(.ref a_TRUE), (.ref a_FALSE), (.ref a_TRUE)])) rfl (by rw [hml]; rfl) (Steps.refl _) (argsL := [(.ref a_TRUE)]) (rest := [(.ref a_TRUE)]) (lenOf pd3 rfl) rfl (by show 2 * 0 + _ ≤ _; exact Nat.le_of_eq rfl) (hb hby at_91) (fun _ _ => ⟨rfl, ec113, (by decide : 0 + 0 ≤ _), (by decide : 0 + 0 ≤ _)⟩)
    dsimp only [Pt.U, Pt.locs, Pt.cells, Pt.slots] at Xc115 lc115 yc115 zc115 stc115 hQc115
    subst lc115 yc115 zc115
    obtain ⟨Nqc115, ec115, hAc115⟩ := hQc115
    have Nc115 := Fr.app Nc113 Nqc115
    obtain rfl := hAc115
    have p116 : ∀ t, St p e below Tc115 (mkF m 94 Ls103 [(.ref a_TRUE), (.ref a_TRUE)]) t → S0 t := fun t k => p114 t (stc115.trans k)
    let Ls117 : Array Slot := #[.val (.int i0), .val (.int i1), .val (.int i2), .val (.ref a_TRUE), .val (.ref a_FALSE), .val (.int (0 : Int32)), .val (.int (1 : Int32)), .val (.int (1 : Int32)), .val (.int (1 : Int32))]
    have p118 : ∀ t, St p e below Tc115 (mkF m 124 Ls117 [(.int (1 : Int32))]) t → S0 t := fun t k => p116 t (by
      show St p e below Tc115 (mkF m 94 Ls103 [(.ref a_TRUE), (.ref a_TRUE)]) t
      refine Jvm.RoadKit.acmp (g := (mkF m 94 Ls103 [(.ref a_TRUE), (.ref a_TRUE)])) Xc115 hx rfl rfl rfl (pc0 := 94) (pc' := 97) (same := true) rfl (hb hby at_94) rfl (decide_eq_true rfl) (by decide) (by decide) ?_
      show St p e below Tc115 (mkF m 97 Ls103 []) t
      refine XT.iconstV Xc115.here hx rfl (1 : Int32) (hb hby at_97) (by decide) ?_
      show St p e below Tc115 (mkF m 98 Ls103 [(.int (1 : Int32))]) t
      refine XS.goto Xc115.here hx rfl (pc0 := 98) (pc' := 102) rfl (hb hby at_98) (by decide) (by decide) ?_
      show St p e below Tc115 (mkF m 102 Ls103 [(.int (1 : Int32))]) t
      refine XS.istore Xc115.here hx rfl (hb hby at_102) rfl (l' := Ls117) rfl ?_
      show St p e below Tc115 (mkF m 104 Ls117 []) t
      refine XS.iload Xc115.here hx rfl (hb hby at_104) rfl ?_
      show St p e below Tc115 (mkF m 106 Ls117 [(.int (1 : Int32))]) t
      refine XS.ifNo Xc115.here hx rfl (hb hby at_106) rfl ((if0 _ _).trans (feq (by decide : ¬ ((1 : Int32) = (0 : Int32)))).1) ?_
      show St p e below Tc115 (mkF m 109 Ls117 []) t
      refine XS.iload Xc115.here hx rfl (hb hby at_109) rfl ?_
      show St p e below Tc115 (mkF m 111 Ls117 [(.int (1 : Int32))]) t
      refine XS.ifNo Xc115.here hx rfl (hb hby at_111) rfl ((if0 _ _).trans (feq (by decide : ¬ ((1 : Int32) = (0 : Int32)))).1) ?_
      show St p e below Tc115 (mkF m 114 Ls117 []) t
      refine XS.iload Xc115.here hx rfl (hb hby at_114) rfl ?_
      show St p e below Tc115 (mkF m 116 Ls117 [(.int (1 : Int32))]) t
      refine XS.ifNo Xc115.here hx rfl (hb hby at_116) rfl ((if0 _ _).trans (feq (by decide : ¬ ((1 : Int32) = (0 : Int32)))).1) ?_
      show St p e below Tc115 (mkF m 119 Ls117 []) t
      refine XT.iconstV Xc115.here hx rfl (1 : Int32) (hb hby at_119) (by decide) ?_
      show St p e below Tc115 (mkF m 120 Ls117 [(.int (1 : Int32))]) t
      refine XS.goto Xc115.here hx rfl (pc0 := 120) (pc' := 124) rfl (hb hby at_120) (by decide) (by decide) ?_
      exact k)
    obtain ⟨fs, hr, hrun, hended, hW, hsame⟩ := Xc115.leave (v := some (.int (1 : Int32))) (fun h => by rw [Bd.returns] at h; cases h)
    refine ⟨_, _, p118 _ ?_, hrun, hended, _, _, rfl, ?_, ⟨_, rfl⟩, hW, hsame.mono (by decide) (by decide)⟩
    · exact retOut Xc115 hx Bd.returns rfl (Or.inl ⟨rfl, by simp, _, rfl⟩) (hb hby at_124) hr
    · exact ⟨rfl, Nc115⟩
   ·
    let Ls119 : Array Slot := #[.val (.int i0), .val (.int i1), .val (.int i2), .val (.ref a_TRUE), .val (.ref a_FALSE), .val (.int (1 : Int32)), .unset, .unset, .unset]
    have p120 : ∀ t, St p e below Tc12 (mkF m 25 Ls119 [(.ref a_TRUE)]) t → S0 t := fun t k => p86 t (by
      show St p e below Tc12 (mkF m 14 Ls85 [(.int (i2 &&& (1 : Int32)))]) t
      refine XS.ifNo Xc12.here hx rfl (hb hby at_14) rfl ((if0 _ _).trans (feq g87).1) ?_
      show St p e below Tc12 (mkF m 17 Ls85 []) t
      refine XT.iconstV Xc12.here hx rfl (1 : Int32) (hb hby at_17) (by decide) ?_
      show St p e below Tc12 (mkF m 18 Ls85 [(.int (1 : Int32))]) t
      refine XS.goto Xc12.here hx rfl (pc0 := 18) (pc' := 22) rfl (hb hby at_18) (by decide) (by decide) ?_
      show St p e below Tc12 (mkF m 22 Ls85 [(.int (1 : Int32))]) t
      refine XS.istore Xc12.here hx rfl (hb hby at_22) rfl (l' := Ls119) rfl ?_
      show St p e below Tc12 (mkF m 24 Ls119 []) t
      refine XS.aloadN Xc12.here hx rfl (hb hby at_24) rfl rfl ?_
      exact k)
    obtain ⟨cqc121, kqc121, qc121a, qc121b, qc121c⟩ := isOf hZ ec12 (Ea_TRUE.ext O0.2)
    obtain ⟨_, _, ⟨Tc121, Lc121, kc121, nc121⟩, -, Xc121, ⟨Lcc121, hQc121, lc121, yc121, zc121⟩, stc121⟩ := Xc12.virtualBack hx (y := M1) (z := M1) hown (mvT hZ (ww hw 8 rfl)) (mvT hZ (ww hw 9 rfl)) (notFace_of_selects (args := #[]) (mvT hZ (ww hw 11 rfl))) (mvT hZ (ww hw 11 rfl)) (mvT hZ (ww hw 10 rfl)) (by decide) (backOf (W := 0) (rm2_1 l Z a0 hw [] a_TRUE a_UNKNOWN a_FALSE h0 n0 O0 HE' ) hZ (ww hw 12 rfl) (ww hw 6 rfl) (by decide) (by decide)) qc121a qc121c (g := (mkF m 25 Ls119 [(.ref a_TRUE)])) rfl (by rw [hml]; rfl) (Steps.refl _) (argsL := []) (rest := []) (lenOf pd1 rfl) rfl (by show 2 * 0 + _ ≤ _; exact Nat.le_of_eq rfl) (hb hby at_25) (fun _ _ => ⟨rfl, ec12, (by decide : 0 + 0 ≤ _), (by decide : 0 + 0 ≤ _)⟩)
    dsimp only [Pt.U, Pt.locs, Pt.cells, Pt.slots] at Xc121 lc121 yc121 zc121 stc121 hQc121
    subst lc121 yc121 zc121
    obtain ⟨Nqc121, ec121, hAc121⟩ := hQc121
    have Nc121 := Fr.app Nc12 Nqc121
    obtain rfl := hAc121
    have p122 : ∀ t, St p e below Tc121 (mkF m 28 Ls119 [(.ref a_FALSE)]) t → S0 t := fun t k => p120 t (stc121.trans k)
    obtain ⟨cqc123, kqc123, qc123a, qc123b, qc123c⟩ := isOf hZ ec121 (Ea_FALSE.ext O0.2)
    obtain ⟨_, _, ⟨Tc123, Lc123, kc123, nc123⟩, -, Xc123, ⟨Lcc123, hQc123, lc123, yc123, zc123⟩, stc123⟩ := Xc121.virtualBack hx (y := M1) (z := M1) hown (mvT hZ (ww hw 8 rfl)) (mvT hZ (ww hw 9 rfl)) (notFace_of_selects (args := #[]) (mvT hZ (ww hw 11 rfl))) (mvT hZ (ww hw 11 rfl)) (mvT hZ (ww hw 10 rfl)) (by decide) (backOf (W := 0) (rm2_2 l Z a0 hw [] a_TRUE a_UNKNOWN a_FALSE h0 n0 O0 HE' ) hZ (ww hw 12 rfl) (ww hw 6 rfl) (by decide) (by decide)) qc123a qc123c (g := (mkF m 28 Ls119 [(.ref a_FALSE)])) rfl (by rw [hml]; rfl) (Steps.refl _) (argsL := []) (rest := []) (lenOf pd1 rfl) rfl (by show 2 * 0 + _ ≤ _; exact Nat.le_of_eq rfl) (hb hby at_28) (fun _ _ => ⟨rfl, ec121, (by decide : 0 + 0 ≤ _), (by decide : 0 + 0 ≤ _)⟩)
    dsimp only [Pt.U, Pt.locs, Pt.cells, Pt.slots] at Xc123 lc123 yc123 zc123 stc123 hQc123
    subst lc123 yc123 zc123
    obtain ⟨Nqc123, ec123, hAc123⟩ := hQc123
    have Nc123 := Fr.app Nc121 Nqc123
    obtain rfl := hAc123
    have p124 : ∀ t, St p e below Tc123 (mkF m 31 Ls119 [(.ref a_TRUE)]) t → S0 t := fun t k => p122 t (stc123.trans k)
    let Ls125 : Array Slot := #[.val (.int i0), .val (.int i1), .val (.int i2), .val (.ref a_TRUE), .val (.ref a_FALSE), .val (.int (1 : Int32)), .val (.int (1 : Int32)), .unset, .unset]
    have p126 : ∀ t, St p e below Tc123 (mkF m 44 Ls125 [(.int (1 : Int32))]) t → S0 t := fun t k => p124 t (by
      show St p e below Tc123 (mkF m 31 Ls119 [(.ref a_TRUE)]) t
      refine XS.aloadN Xc123.here hx rfl (hb hby at_31) rfl rfl ?_
      show St p e below Tc123 (mkF m 32 Ls119 [(.ref a_TRUE), (.ref a_TRUE)]) t
      refine Jvm.RoadKit.acmp (g := (mkF m 32 Ls119 [(.ref a_TRUE), (.ref a_TRUE)])) Xc123 hx rfl rfl rfl (pc0 := 32) (pc' := 35) (same := true) rfl (hb hby at_32) rfl (decide_eq_true rfl) (by decide) (by decide) ?_
      show St p e below Tc123 (mkF m 35 Ls119 []) t
      refine XT.iconstV Xc123.here hx rfl (1 : Int32) (hb hby at_35) (by decide) ?_
      show St p e below Tc123 (mkF m 36 Ls119 [(.int (1 : Int32))]) t
      refine XS.goto Xc123.here hx rfl (pc0 := 36) (pc' := 40) rfl (hb hby at_36) (by decide) (by decide) ?_
      show St p e below Tc123 (mkF m 40 Ls119 [(.int (1 : Int32))]) t
      refine XS.istore Xc123.here hx rfl (hb hby at_40) rfl (l' := Ls125) rfl ?_
      show St p e below Tc123 (mkF m 42 Ls125 []) t
      refine XS.iload Xc123.here hx rfl (hb hby at_42) rfl ?_
      exact k)
    obtain ⟨_, _, ⟨Tc127, Lc127, kc127, nc127⟩, -, Xc127, ⟨Lcc127, hQc127, lc127, yc127, zc127⟩, stc127⟩ := Jvm.LawKit.callS Xc123 hx (y := M2) hown (mvT hZ (ww hw 18 rfl)) (mvT hZ (ww hw 19 rfl)) (mvT hZ (ww hw 6 rfl)) (mvT hZ (ww hw 20 rfl)) (by decide) (backOf (W := 0) (rm3_4 l Z a0 hw [] a_TRUE a_UNKNOWN a_FALSE h0 n0 O0 HE' ) hZ (ww hw 20 rfl) (ww hw 6 rfl) (by decide) (by decide)) (g := (mkF m 44 Ls125 [(.int (1 : Int32))])) rfl (by rw [hml]; rfl) (argsL := [(.int (1 : Int32))]) (rest := []) (lenOf pd2 rfl) rfl (by show 2 * 0 + _ ≤ _; exact Nat.le_of_eq rfl) (hb hby at_44) (fun _ _ => ⟨rfl, ec123, (by decide : 0 + 0 ≤ _), (by decide : 0 + 0 ≤ _)⟩)
    dsimp only [Pt.U, Pt.locs, Pt.cells, Pt.slots] at Xc127 lc127 yc127 zc127 stc127 hQc127
    subst lc127 yc127 zc127
    obtain ⟨Nqc127, ec127, hAc127⟩ := hQc127
    have Nc127 := Fr.app Nc123 Nqc127
    obtain rfl := hAc127
    have p128 : ∀ t, St p e below Tc127 (mkF m 47 Ls125 [(.ref a_TRUE)]) t → S0 t := fun t k => p126 t (stc127 t k)
    obtain ⟨cqc129, kqc129, qc129a, qc129b, qc129c⟩ := isOf hZ ec127 (Ea_TRUE.ext O0.2)
    obtain ⟨_, _, ⟨Tc129, Lc129, kc129, nc129⟩, -, Xc129, ⟨Lcc129, hQc129, lc129, yc129, zc129⟩, stc129⟩ := Xc127.virtualBack hx (y := M1) (z := M1) hown (mvT hZ (ww hw 8 rfl)) (mvT hZ (ww hw 9 rfl)) (notFace_of_selects (args := #[]) (mvT hZ (ww hw 11 rfl))) (mvT hZ (ww hw 11 rfl)) (mvT hZ (ww hw 10 rfl)) (by decide) (backOf (W := 0) (rm2_1 l Z a0 hw [] a_TRUE a_UNKNOWN a_FALSE h0 n0 O0 HE' ) hZ (ww hw 12 rfl) (ww hw 6 rfl) (by decide) (by decide)) qc129a qc129c (g := (mkF m 47 Ls125 [(.ref a_TRUE)])) rfl (by rw [hml]; rfl) (Steps.refl _) (argsL := []) (rest := []) (lenOf pd1 rfl) rfl (by show 2 * 0 + _ ≤ _; exact Nat.le_of_eq rfl) (hb hby at_47) (fun _ _ => ⟨rfl, ec127, (by decide : 0 + 0 ≤ _), (by decide : 0 + 0 ≤ _)⟩)
    dsimp only [Pt.U, Pt.locs, Pt.cells, Pt.slots] at Xc129 lc129 yc129 zc129 stc129 hQc129
    subst lc129 yc129 zc129
    obtain ⟨Nqc129, ec129, hAc129⟩ := hQc129
    have Nc129 := Fr.app Nc127 Nqc129
    obtain rfl := hAc129
    have p130 : ∀ t, St p e below Tc129 (mkF m 50 Ls125 [(.ref a_FALSE)]) t → S0 t := fun t k => p128 t (stc129.trans k)
    have p131 : ∀ t, St p e below Tc129 (mkF m 60 Ls125 [(.int (0 : Int32)), (.ref a_FALSE)]) t → S0 t := fun t k => p130 t (by
      show St p e below Tc129 (mkF m 50 Ls125 [(.ref a_FALSE)]) t
      refine XS.iload Xc129.here hx rfl (hb hby at_50) rfl ?_
      show St p e below Tc129 (mkF m 52 Ls125 [(.int (1 : Int32)), (.ref a_FALSE)]) t
      refine XS.ifYes Xc129.here hx rfl (pc0 := 52) (pc' := 59) rfl (hb hby at_52) rfl ((if0 _ _).trans (feq (by decide : ¬ ((1 : Int32) = (0 : Int32)))).2) (by decide) (by decide) ?_
      show St p e below Tc129 (mkF m 59 Ls125 [(.ref a_FALSE)]) t
      refine XT.iconstV Xc129.here hx rfl (0 : Int32) (hb hby at_59) (by decide) ?_
      exact k)
    obtain ⟨_, _, ⟨Tc132, Lc132, kc132, nc132⟩, -, Xc132, ⟨Lcc132, hQc132, lc132, yc132, zc132⟩, stc132⟩ := Jvm.LawKit.callS Xc129 hx (y := M2) hown (mvT hZ (ww hw 18 rfl)) (mvT hZ (ww hw 19 rfl)) (mvT hZ (ww hw 6 rfl)) (mvT hZ (ww hw 20 rfl)) (by decide) (backOf (W := 1) (rm3_3 l Z a0 hw [] a_TRUE a_UNKNOWN a_FALSE h0 n0 O0 HE' ) hZ (ww hw 20 rfl) (ww hw 6 rfl) (by decide) (by decide)) (g := (mkF m 60 Ls125 [(.int (0 : Int32)), (.ref a_FALSE)])) rfl (by rw [hml]; rfl) (argsL := [(.int (0 : Int32))]) (rest := [(.ref a_FALSE)]) (lenOf pd2 rfl) rfl (by show 2 * 0 + _ ≤ _; exact Nat.le_of_eq rfl) (hb hby at_60) (fun _ _ => ⟨rfl, ec129, (by decide : 0 + 0 ≤ _), (by decide : 0 + 0 ≤ _)⟩)
    dsimp only [Pt.U, Pt.locs, Pt.cells, Pt.slots] at Xc132 lc132 yc132 zc132 stc132 hQc132
    subst lc132 yc132 zc132
    obtain ⟨Nqc132, ec132, hAc132⟩ := hQc132
    have Nc132 := Fr.app Nc129 Nqc132
    obtain rfl := hAc132
    have p133 : ∀ t, St p e below Tc132 (mkF m 63 Ls125 [(.ref a_FALSE), (.ref a_FALSE)]) t → S0 t := fun t k => p131 t (stc132 t k)
    let Ls134 : Array Slot := #[.val (.int i0), .val (.int i1), .val (.int i2), .val (.ref a_TRUE), .val (.ref a_FALSE), .val (.int (1 : Int32)), .val (.int (1 : Int32)), .val (.int (1 : Int32)), .unset]
    have p135 : ∀ t, St p e below Tc132 (mkF m 76 Ls134 [(.ref a_FALSE), (.ref a_TRUE)]) t → S0 t := fun t k => p133 t (by
      show St p e below Tc132 (mkF m 63 Ls125 [(.ref a_FALSE), (.ref a_FALSE)]) t
      refine Jvm.RoadKit.acmp (g := (mkF m 63 Ls125 [(.ref a_FALSE), (.ref a_FALSE)])) Xc132 hx rfl rfl rfl (pc0 := 63) (pc' := 66) (same := true) rfl (hb hby at_63) rfl (decide_eq_true rfl) (by decide) (by decide) ?_
      show St p e below Tc132 (mkF m 66 Ls125 []) t
      refine XT.iconstV Xc132.here hx rfl (1 : Int32) (hb hby at_66) (by decide) ?_
      show St p e below Tc132 (mkF m 67 Ls125 [(.int (1 : Int32))]) t
      refine XS.goto Xc132.here hx rfl (pc0 := 67) (pc' := 71) rfl (hb hby at_67) (by decide) (by decide) ?_
      show St p e below Tc132 (mkF m 71 Ls125 [(.int (1 : Int32))]) t
      refine XS.istore Xc132.here hx rfl (hb hby at_71) rfl (l' := Ls134) rfl ?_
      show St p e below Tc132 (mkF m 73 Ls134 []) t
      refine XS.aloadN Xc132.here hx rfl (hb hby at_73) rfl rfl ?_
      show St p e below Tc132 (mkF m 74 Ls134 [(.ref a_TRUE)]) t
      refine XS.aload Xc132.here hx rfl (hb hby at_74) rfl rfl ?_
      exact k)
    obtain ⟨cqc136, kqc136, qc136a, qc136b, qc136c⟩ := isOf hZ ec132 (Ea_TRUE.ext O0.2)
    obtain ⟨_, _, ⟨Tc136, Lc136, kc136, nc136⟩, -, Xc136, ⟨Lcc136, hQc136, lc136, yc136, zc136⟩, stc136⟩ := Xc132.virtualBack hx (y := M3) (z := M3) hown (mvT hZ (ww hw 21 rfl)) (mvT hZ (ww hw 22 rfl)) (notFace_of_selects (args := #[]) (mvT hZ (ww hw 24 rfl))) (mvT hZ (ww hw 24 rfl)) (mvT hZ (ww hw 23 rfl)) (by decide) (backOf (W := 0) (rm4_7 l Z a0 hw [] a_TRUE a_UNKNOWN a_FALSE h0 n0 O0 HE' ) hZ (ww hw 25 rfl) (ww hw 6 rfl) (by decide) (by decide)) qc136a qc136c (g := (mkF m 76 Ls134 [(.ref a_FALSE), (.ref a_TRUE)])) rfl (by rw [hml]; rfl) (Steps.refl _) (argsL := [(.ref a_FALSE)]) (rest := []) (lenOf pd3 rfl) rfl (by show 2 * 0 + _ ≤ _; exact Nat.le_of_eq rfl) (hb hby at_76) (fun _ _ => ⟨rfl, ec132, (by decide : 0 + 0 ≤ _), (by decide : 0 + 0 ≤ _)⟩)
    dsimp only [Pt.U, Pt.locs, Pt.cells, Pt.slots] at Xc136 lc136 yc136 zc136 stc136 hQc136
    subst lc136 yc136 zc136
    obtain ⟨Nqc136, ec136, hAc136⟩ := hQc136
    have Nc136 := Fr.app Nc132 Nqc136
    obtain rfl := hAc136
    have p137 : ∀ t, St p e below Tc136 (mkF m 79 Ls134 [(.ref a_FALSE)]) t → S0 t := fun t k => p135 t (stc136.trans k)
    obtain ⟨cqc138, kqc138, qc138a, qc138b, qc138c⟩ := isOf hZ ec136 (Ea_FALSE.ext O0.2)
    obtain ⟨_, _, ⟨Tc138, Lc138, kc138, nc138⟩, -, Xc138, ⟨Lcc138, hQc138, lc138, yc138, zc138⟩, stc138⟩ := Xc136.virtualBack hx (y := M1) (z := M1) hown (mvT hZ (ww hw 8 rfl)) (mvT hZ (ww hw 9 rfl)) (notFace_of_selects (args := #[]) (mvT hZ (ww hw 11 rfl))) (mvT hZ (ww hw 11 rfl)) (mvT hZ (ww hw 10 rfl)) (by decide) (backOf (W := 0) (rm2_2 l Z a0 hw [] a_TRUE a_UNKNOWN a_FALSE h0 n0 O0 HE' ) hZ (ww hw 12 rfl) (ww hw 6 rfl) (by decide) (by decide)) qc138a qc138c (g := (mkF m 79 Ls134 [(.ref a_FALSE)])) rfl (by rw [hml]; rfl) (Steps.refl _) (argsL := []) (rest := []) (lenOf pd1 rfl) rfl (by show 2 * 0 + _ ≤ _; exact Nat.le_of_eq rfl) (hb hby at_79) (fun _ _ => ⟨rfl, ec136, (by decide : 0 + 0 ≤ _), (by decide : 0 + 0 ≤ _)⟩)
    dsimp only [Pt.U, Pt.locs, Pt.cells, Pt.slots] at Xc138 lc138 yc138 zc138 stc138 hQc138
    subst lc138 yc138 zc138
    obtain ⟨Nqc138, ec138, hAc138⟩ := hQc138
    have Nc138 := Fr.app Nc136 Nqc138
    obtain rfl := hAc138
    have p139 : ∀ t, St p e below Tc138 (mkF m 82 Ls134 [(.ref a_TRUE)]) t → S0 t := fun t k => p137 t (stc138.trans k)
    have p140 : ∀ t, St p e below Tc138 (mkF m 83 Ls134 [(.ref a_TRUE), (.ref a_TRUE)]) t → S0 t := fun t k => p139 t (by
      show St p e below Tc138 (mkF m 82 Ls134 [(.ref a_TRUE)]) t
      refine XS.aloadN Xc138.here hx rfl (hb hby at_82) rfl rfl ?_
      exact k)
    obtain ⟨cqc141, kqc141, qc141a, qc141b, qc141c⟩ := isOf hZ ec138 (Ea_TRUE.ext O0.2)
    obtain ⟨_, _, ⟨Tc141, Lc141, kc141, nc141⟩, -, Xc141, ⟨Lcc141, hQc141, lc141, yc141, zc141⟩, stc141⟩ := Xc138.virtualBack hx (y := M1) (z := M1) hown (mvT hZ (ww hw 8 rfl)) (mvT hZ (ww hw 9 rfl)) (notFace_of_selects (args := #[]) (mvT hZ (ww hw 11 rfl))) (mvT hZ (ww hw 11 rfl)) (mvT hZ (ww hw 10 rfl)) (by decide) (backOf (W := 1) (rm2_1 l Z a0 hw [] a_TRUE a_UNKNOWN a_FALSE h0 n0 O0 HE' ) hZ (ww hw 12 rfl) (ww hw 6 rfl) (by decide) (by decide)) qc141a qc141c (g := (mkF m 83 Ls134 [(.ref a_TRUE), (.ref a_TRUE)])) rfl (by rw [hml]; rfl) (Steps.refl _) (argsL := []) (rest := [(.ref a_TRUE)]) (lenOf pd1 rfl) rfl (by show 2 * 0 + _ ≤ _; exact Nat.le_of_eq rfl) (hb hby at_83) (fun _ _ => ⟨rfl, ec138, (by decide : 0 + 0 ≤ _), (by decide : 0 + 0 ≤ _)⟩)
    dsimp only [Pt.U, Pt.locs, Pt.cells, Pt.slots] at Xc141 lc141 yc141 zc141 stc141 hQc141
    subst lc141 yc141 zc141
    obtain ⟨Nqc141, ec141, hAc141⟩ := hQc141
    have Nc141 := Fr.app Nc138 Nqc141
    obtain rfl := hAc141
    have p142 : ∀ t, St p e below Tc141 (mkF m 86 Ls134 [(.ref a_FALSE), (.ref a_TRUE)]) t → S0 t := fun t k => p140 t (stc141.trans k)
    have p143 : ∀ t, St p e below Tc141 (mkF m 88 Ls134 [(.ref a_FALSE), (.ref a_FALSE), (.ref a_TRUE)]) t → S0 t := fun t k => p142 t (by
      show St p e below Tc141 (mkF m 86 Ls134 [(.ref a_FALSE), (.ref a_TRUE)]) t
      refine XS.aload Xc141.here hx rfl (hb hby at_86) rfl rfl ?_
      exact k)
    obtain ⟨cqc144, kqc144, qc144a, qc144b, qc144c⟩ := isOf hZ ec141 (Ea_FALSE.ext O0.2)
    obtain ⟨_, _, ⟨Tc144, Lc144, kc144, nc144⟩, -, Xc144, ⟨Lcc144, hQc144, lc144, yc144, zc144⟩, stc144⟩ := Xc141.virtualBack hx (y := M1) (z := M1) hown (mvT hZ (ww hw 8 rfl)) (mvT hZ (ww hw 9 rfl)) (notFace_of_selects (args := #[]) (mvT hZ (ww hw 11 rfl))) (mvT hZ (ww hw 11 rfl)) (mvT hZ (ww hw 10 rfl)) (by decide) (backOf (W := 2) (rm2_2 l Z a0 hw [] a_TRUE a_UNKNOWN a_FALSE h0 n0 O0 HE' ) hZ (ww hw 12 rfl) (ww hw 6 rfl) (by decide) (by decide)) qc144a qc144c (g := (mkF m 88 Ls134 [(.ref a_FALSE), (.ref a_FALSE), (.ref a_TRUE)])) rfl (by rw [hml]; rfl) (Steps.refl _) (argsL := []) (rest := [(.ref a_FALSE), (.ref a_TRUE)]) (lenOf pd1 rfl) rfl (by show 2 * 0 + _ ≤ _; exact Nat.le_of_eq rfl) (hb hby at_88) (fun _ _ => ⟨rfl, ec141, (by decide : 0 + 0 ≤ _), (by decide : 0 + 0 ≤ _)⟩)
    dsimp only [Pt.U, Pt.locs, Pt.cells, Pt.slots] at Xc144 lc144 yc144 zc144 stc144 hQc144
    subst lc144 yc144 zc144
    obtain ⟨Nqc144, ec144, hAc144⟩ := hQc144
    have Nc144 := Fr.app Nc141 Nqc144
    obtain rfl := hAc144
    have p145 : ∀ t, St p e below Tc144 (mkF m 91 Ls134 [(.ref a_TRUE), (.ref a_FALSE), (.ref a_TRUE)]) t → S0 t := fun t k => p143 t (stc144.trans k)
    obtain ⟨cqc146, kqc146, qc146a, qc146b, qc146c⟩ := isOf hZ ec144 (Ea_FALSE.ext O0.2)
    obtain ⟨_, _, ⟨Tc146, Lc146, kc146, nc146⟩, -, Xc146, ⟨Lcc146, hQc146, lc146, yc146, zc146⟩, stc146⟩ := Xc144.virtualBack hx (y := M4) (z := M4) hown (mvT hZ (ww hw 26 rfl)) (mvT hZ (ww hw 27 rfl)) (notFace_of_selects (args := #[]) (mvT hZ (ww hw 29 rfl))) (mvT hZ (ww hw 29 rfl)) (mvT hZ (ww hw 28 rfl)) (by decide) (backOf (W := 1) (rm5_8 l Z a0 hw [] a_TRUE a_UNKNOWN a_FALSE h0 n0 O0 HE' ) hZ (ww hw 30 rfl) (ww hw 6 rfl) (by decide) (by decide)) qc146a qc146c (g := (mkF m 91 Ls134 [(.ref a_TRUE), (.ref a_FALSE), (.ref a_TRUE)])) rfl (by rw [hml]; rfl) (Steps.refl _) (argsL := [(.ref a_TRUE)]) (rest := [(.ref a_TRUE)]) (lenOf pd3 rfl) rfl (by show 2 * 0 + _ ≤ _; exact Nat.le_of_eq rfl) (hb hby at_91) (fun _ _ => ⟨rfl, ec144, (by decide : 0 + 0 ≤ _), (by decide : 0 + 0 ≤ _)⟩)
    dsimp only [Pt.U, Pt.locs, Pt.cells, Pt.slots] at Xc146 lc146 yc146 zc146 stc146 hQc146
    subst lc146 yc146 zc146
    obtain ⟨Nqc146, ec146, hAc146⟩ := hQc146
    have Nc146 := Fr.app Nc144 Nqc146
    obtain rfl := hAc146
    have p147 : ∀ t, St p e below Tc146 (mkF m 94 Ls134 [(.ref a_TRUE), (.ref a_TRUE)]) t → S0 t := fun t k => p145 t (stc146.trans k)
    let Ls148 : Array Slot := #[.val (.int i0), .val (.int i1), .val (.int i2), .val (.ref a_TRUE), .val (.ref a_FALSE), .val (.int (1 : Int32)), .val (.int (1 : Int32)), .val (.int (1 : Int32)), .val (.int (1 : Int32))]
    have p149 : ∀ t, St p e below Tc146 (mkF m 124 Ls148 [(.int (1 : Int32))]) t → S0 t := fun t k => p147 t (by
      show St p e below Tc146 (mkF m 94 Ls134 [(.ref a_TRUE), (.ref a_TRUE)]) t
      refine Jvm.RoadKit.acmp (g := (mkF m 94 Ls134 [(.ref a_TRUE), (.ref a_TRUE)])) Xc146 hx rfl rfl rfl (pc0 := 94) (pc' := 97) (same := true) rfl (hb hby at_94) rfl (decide_eq_true rfl) (by decide) (by decide) ?_
      show St p e below Tc146 (mkF m 97 Ls134 []) t
      refine XT.iconstV Xc146.here hx rfl (1 : Int32) (hb hby at_97) (by decide) ?_
      show St p e below Tc146 (mkF m 98 Ls134 [(.int (1 : Int32))]) t
      refine XS.goto Xc146.here hx rfl (pc0 := 98) (pc' := 102) rfl (hb hby at_98) (by decide) (by decide) ?_
      show St p e below Tc146 (mkF m 102 Ls134 [(.int (1 : Int32))]) t
      refine XS.istore Xc146.here hx rfl (hb hby at_102) rfl (l' := Ls148) rfl ?_
      show St p e below Tc146 (mkF m 104 Ls148 []) t
      refine XS.iload Xc146.here hx rfl (hb hby at_104) rfl ?_
      show St p e below Tc146 (mkF m 106 Ls148 [(.int (1 : Int32))]) t
      refine XS.ifNo Xc146.here hx rfl (hb hby at_106) rfl ((if0 _ _).trans (feq (by decide : ¬ ((1 : Int32) = (0 : Int32)))).1) ?_
      show St p e below Tc146 (mkF m 109 Ls148 []) t
      refine XS.iload Xc146.here hx rfl (hb hby at_109) rfl ?_
      show St p e below Tc146 (mkF m 111 Ls148 [(.int (1 : Int32))]) t
      refine XS.ifNo Xc146.here hx rfl (hb hby at_111) rfl ((if0 _ _).trans (feq (by decide : ¬ ((1 : Int32) = (0 : Int32)))).1) ?_
      show St p e below Tc146 (mkF m 114 Ls148 []) t
      refine XS.iload Xc146.here hx rfl (hb hby at_114) rfl ?_
      show St p e below Tc146 (mkF m 116 Ls148 [(.int (1 : Int32))]) t
      refine XS.ifNo Xc146.here hx rfl (hb hby at_116) rfl ((if0 _ _).trans (feq (by decide : ¬ ((1 : Int32) = (0 : Int32)))).1) ?_
      show St p e below Tc146 (mkF m 119 Ls148 []) t
      refine XT.iconstV Xc146.here hx rfl (1 : Int32) (hb hby at_119) (by decide) ?_
      show St p e below Tc146 (mkF m 120 Ls148 [(.int (1 : Int32))]) t
      refine XS.goto Xc146.here hx rfl (pc0 := 120) (pc' := 124) rfl (hb hby at_120) (by decide) (by decide) ?_
      exact k)
    obtain ⟨fs, hr, hrun, hended, hW, hsame⟩ := Xc146.leave (v := some (.int (1 : Int32))) (fun h => by rw [Bd.returns] at h; cases h)
    refine ⟨_, _, p149 _ ?_, hrun, hended, _, _, rfl, ?_, ⟨_, rfl⟩, hW, hsame.mono (by decide) (by decide)⟩
    · exact retOut Xc146 hx Bd.returns rfl (Or.inl ⟨rfl, by simp, _, rfl⟩) (hb hby at_124) hr
    · exact ⟨rfl, Nc146⟩
  ·
   have p150 : ∀ t, St p e below Tc12 (mkF m 9 Ls10 [(.ref a_UNKNOWN)]) t → S0 t := fun t k => p11 t (stc12 t k)
   let Ls151 : Array Slot := #[.val (.int i0), .val (.int i1), .val (.int i2), .val (.ref a_TRUE), .val (.ref a_UNKNOWN), .unset, .unset, .unset, .unset]
   have p152 : ∀ t, St p e below Tc12 (mkF m 14 Ls151 [(.int (i2 &&& (1 : Int32)))]) t → S0 t := fun t k => p150 t (by
     show St p e below Tc12 (mkF m 9 Ls10 [(.ref a_UNKNOWN)]) t
     refine XS.astore Xc12.here hx rfl (hb hby at_9) rfl rfl (l' := Ls151) rfl ?_
     show St p e below Tc12 (mkF m 11 Ls151 []) t
     refine XS.iloadN Xc12.here hx rfl (hb hby at_11) rfl ?_
     show St p e below Tc12 (mkF m 12 Ls151 [(.int i2)]) t
     refine XT.iconstV Xc12.here hx rfl (1 : Int32) (hb hby at_12) (by decide) ?_
     show St p e below Tc12 (mkF m 13 Ls151 [(.int (1 : Int32)), (.int i2)]) t
     refine XS.iand Xc12.here hx rfl (hb hby at_13) rfl ?_
     exact k)
   by_cases g153 : (i2 &&& (1 : Int32)) = (0 : Int32)
   ·
    let Ls154 : Array Slot := #[.val (.int i0), .val (.int i1), .val (.int i2), .val (.ref a_TRUE), .val (.ref a_UNKNOWN), .val (.int (0 : Int32)), .unset, .unset, .unset]
    have p155 : ∀ t, St p e below Tc12 (mkF m 25 Ls154 [(.ref a_TRUE)]) t → S0 t := fun t k => p152 t (by
      show St p e below Tc12 (mkF m 14 Ls151 [(.int (i2 &&& (1 : Int32)))]) t
      refine XS.ifYes Xc12.here hx rfl (pc0 := 14) (pc' := 21) rfl (hb hby at_14) rfl ((if0 _ _).trans (teq g153).1) (by decide) (by decide) ?_
      show St p e below Tc12 (mkF m 21 Ls151 []) t
      refine XT.iconstV Xc12.here hx rfl (0 : Int32) (hb hby at_21) (by decide) ?_
      show St p e below Tc12 (mkF m 22 Ls151 [(.int (0 : Int32))]) t
      refine XS.istore Xc12.here hx rfl (hb hby at_22) rfl (l' := Ls154) rfl ?_
      show St p e below Tc12 (mkF m 24 Ls154 []) t
      refine XS.aloadN Xc12.here hx rfl (hb hby at_24) rfl rfl ?_
      exact k)
    obtain ⟨cqc156, kqc156, qc156a, qc156b, qc156c⟩ := isOf hZ ec12 (Ea_TRUE.ext O0.2)
    obtain ⟨_, _, ⟨Tc156, Lc156, kc156, nc156⟩, -, Xc156, ⟨Lcc156, hQc156, lc156, yc156, zc156⟩, stc156⟩ := Xc12.virtualBack hx (y := M1) (z := M1) hown (mvT hZ (ww hw 8 rfl)) (mvT hZ (ww hw 9 rfl)) (notFace_of_selects (args := #[]) (mvT hZ (ww hw 11 rfl))) (mvT hZ (ww hw 11 rfl)) (mvT hZ (ww hw 10 rfl)) (by decide) (backOf (W := 0) (rm2_1 l Z a0 hw [] a_TRUE a_UNKNOWN a_FALSE h0 n0 O0 HE' ) hZ (ww hw 12 rfl) (ww hw 6 rfl) (by decide) (by decide)) qc156a qc156c (g := (mkF m 25 Ls154 [(.ref a_TRUE)])) rfl (by rw [hml]; rfl) (Steps.refl _) (argsL := []) (rest := []) (lenOf pd1 rfl) rfl (by show 2 * 0 + _ ≤ _; exact Nat.le_of_eq rfl) (hb hby at_25) (fun _ _ => ⟨rfl, ec12, (by decide : 0 + 0 ≤ _), (by decide : 0 + 0 ≤ _)⟩)
    dsimp only [Pt.U, Pt.locs, Pt.cells, Pt.slots] at Xc156 lc156 yc156 zc156 stc156 hQc156
    subst lc156 yc156 zc156
    obtain ⟨Nqc156, ec156, hAc156⟩ := hQc156
    have Nc156 := Fr.app Nc12 Nqc156
    obtain rfl := hAc156
    have p157 : ∀ t, St p e below Tc156 (mkF m 28 Ls154 [(.ref a_FALSE)]) t → S0 t := fun t k => p155 t (stc156.trans k)
    obtain ⟨cqc158, kqc158, qc158a, qc158b, qc158c⟩ := isOf hZ ec156 (Ea_FALSE.ext O0.2)
    obtain ⟨_, _, ⟨Tc158, Lc158, kc158, nc158⟩, -, Xc158, ⟨Lcc158, hQc158, lc158, yc158, zc158⟩, stc158⟩ := Xc156.virtualBack hx (y := M1) (z := M1) hown (mvT hZ (ww hw 8 rfl)) (mvT hZ (ww hw 9 rfl)) (notFace_of_selects (args := #[]) (mvT hZ (ww hw 11 rfl))) (mvT hZ (ww hw 11 rfl)) (mvT hZ (ww hw 10 rfl)) (by decide) (backOf (W := 0) (rm2_2 l Z a0 hw [] a_TRUE a_UNKNOWN a_FALSE h0 n0 O0 HE' ) hZ (ww hw 12 rfl) (ww hw 6 rfl) (by decide) (by decide)) qc158a qc158c (g := (mkF m 28 Ls154 [(.ref a_FALSE)])) rfl (by rw [hml]; rfl) (Steps.refl _) (argsL := []) (rest := []) (lenOf pd1 rfl) rfl (by show 2 * 0 + _ ≤ _; exact Nat.le_of_eq rfl) (hb hby at_28) (fun _ _ => ⟨rfl, ec156, (by decide : 0 + 0 ≤ _), (by decide : 0 + 0 ≤ _)⟩)
    dsimp only [Pt.U, Pt.locs, Pt.cells, Pt.slots] at Xc158 lc158 yc158 zc158 stc158 hQc158
    subst lc158 yc158 zc158
    obtain ⟨Nqc158, ec158, hAc158⟩ := hQc158
    have Nc158 := Fr.app Nc156 Nqc158
    obtain rfl := hAc158
    have p159 : ∀ t, St p e below Tc158 (mkF m 31 Ls154 [(.ref a_TRUE)]) t → S0 t := fun t k => p157 t (stc158.trans k)
    let Ls160 : Array Slot := #[.val (.int i0), .val (.int i1), .val (.int i2), .val (.ref a_TRUE), .val (.ref a_UNKNOWN), .val (.int (0 : Int32)), .val (.int (1 : Int32)), .unset, .unset]
    have p161 : ∀ t, St p e below Tc158 (mkF m 44 Ls160 [(.int (0 : Int32))]) t → S0 t := fun t k => p159 t (by
      show St p e below Tc158 (mkF m 31 Ls154 [(.ref a_TRUE)]) t
      refine XS.aloadN Xc158.here hx rfl (hb hby at_31) rfl rfl ?_
      show St p e below Tc158 (mkF m 32 Ls154 [(.ref a_TRUE), (.ref a_TRUE)]) t
      refine Jvm.RoadKit.acmp (g := (mkF m 32 Ls154 [(.ref a_TRUE), (.ref a_TRUE)])) Xc158 hx rfl rfl rfl (pc0 := 32) (pc' := 35) (same := true) rfl (hb hby at_32) rfl (decide_eq_true rfl) (by decide) (by decide) ?_
      show St p e below Tc158 (mkF m 35 Ls154 []) t
      refine XT.iconstV Xc158.here hx rfl (1 : Int32) (hb hby at_35) (by decide) ?_
      show St p e below Tc158 (mkF m 36 Ls154 [(.int (1 : Int32))]) t
      refine XS.goto Xc158.here hx rfl (pc0 := 36) (pc' := 40) rfl (hb hby at_36) (by decide) (by decide) ?_
      show St p e below Tc158 (mkF m 40 Ls154 [(.int (1 : Int32))]) t
      refine XS.istore Xc158.here hx rfl (hb hby at_40) rfl (l' := Ls160) rfl ?_
      show St p e below Tc158 (mkF m 42 Ls160 []) t
      refine XS.iload Xc158.here hx rfl (hb hby at_42) rfl ?_
      exact k)
    obtain ⟨_, _, ⟨Tc162, Lc162, kc162, nc162⟩, -, Xc162, ⟨Lcc162, hQc162, lc162, yc162, zc162⟩, stc162⟩ := Jvm.LawKit.callS Xc158 hx (y := M2) hown (mvT hZ (ww hw 18 rfl)) (mvT hZ (ww hw 19 rfl)) (mvT hZ (ww hw 6 rfl)) (mvT hZ (ww hw 20 rfl)) (by decide) (backOf (W := 0) (rm3_3 l Z a0 hw [] a_TRUE a_UNKNOWN a_FALSE h0 n0 O0 HE' ) hZ (ww hw 20 rfl) (ww hw 6 rfl) (by decide) (by decide)) (g := (mkF m 44 Ls160 [(.int (0 : Int32))])) rfl (by rw [hml]; rfl) (argsL := [(.int (0 : Int32))]) (rest := []) (lenOf pd2 rfl) rfl (by show 2 * 0 + _ ≤ _; exact Nat.le_of_eq rfl) (hb hby at_44) (fun _ _ => ⟨rfl, ec158, (by decide : 0 + 0 ≤ _), (by decide : 0 + 0 ≤ _)⟩)
    dsimp only [Pt.U, Pt.locs, Pt.cells, Pt.slots] at Xc162 lc162 yc162 zc162 stc162 hQc162
    subst lc162 yc162 zc162
    obtain ⟨Nqc162, ec162, hAc162⟩ := hQc162
    have Nc162 := Fr.app Nc158 Nqc162
    obtain rfl := hAc162
    have p163 : ∀ t, St p e below Tc162 (mkF m 47 Ls160 [(.ref a_FALSE)]) t → S0 t := fun t k => p161 t (stc162 t k)
    obtain ⟨cqc164, kqc164, qc164a, qc164b, qc164c⟩ := isOf hZ ec162 (Ea_FALSE.ext O0.2)
    obtain ⟨_, _, ⟨Tc164, Lc164, kc164, nc164⟩, -, Xc164, ⟨Lcc164, hQc164, lc164, yc164, zc164⟩, stc164⟩ := Xc162.virtualBack hx (y := M1) (z := M1) hown (mvT hZ (ww hw 8 rfl)) (mvT hZ (ww hw 9 rfl)) (notFace_of_selects (args := #[]) (mvT hZ (ww hw 11 rfl))) (mvT hZ (ww hw 11 rfl)) (mvT hZ (ww hw 10 rfl)) (by decide) (backOf (W := 0) (rm2_2 l Z a0 hw [] a_TRUE a_UNKNOWN a_FALSE h0 n0 O0 HE' ) hZ (ww hw 12 rfl) (ww hw 6 rfl) (by decide) (by decide)) qc164a qc164c (g := (mkF m 47 Ls160 [(.ref a_FALSE)])) rfl (by rw [hml]; rfl) (Steps.refl _) (argsL := []) (rest := []) (lenOf pd1 rfl) rfl (by show 2 * 0 + _ ≤ _; exact Nat.le_of_eq rfl) (hb hby at_47) (fun _ _ => ⟨rfl, ec162, (by decide : 0 + 0 ≤ _), (by decide : 0 + 0 ≤ _)⟩)
    dsimp only [Pt.U, Pt.locs, Pt.cells, Pt.slots] at Xc164 lc164 yc164 zc164 stc164 hQc164
    subst lc164 yc164 zc164
    obtain ⟨Nqc164, ec164, hAc164⟩ := hQc164
    have Nc164 := Fr.app Nc162 Nqc164
    obtain rfl := hAc164
    have p165 : ∀ t, St p e below Tc164 (mkF m 50 Ls160 [(.ref a_TRUE)]) t → S0 t := fun t k => p163 t (stc164.trans k)
    have p166 : ∀ t, St p e below Tc164 (mkF m 60 Ls160 [(.int (1 : Int32)), (.ref a_TRUE)]) t → S0 t := fun t k => p165 t (by
      show St p e below Tc164 (mkF m 50 Ls160 [(.ref a_TRUE)]) t
      refine XS.iload Xc164.here hx rfl (hb hby at_50) rfl ?_
      show St p e below Tc164 (mkF m 52 Ls160 [(.int (0 : Int32)), (.ref a_TRUE)]) t
      refine XS.ifNo Xc164.here hx rfl (hb hby at_52) rfl ((if0 _ _).trans (teq (by decide : (0 : Int32) = (0 : Int32))).2) ?_
      show St p e below Tc164 (mkF m 55 Ls160 [(.ref a_TRUE)]) t
      refine XT.iconstV Xc164.here hx rfl (1 : Int32) (hb hby at_55) (by decide) ?_
      show St p e below Tc164 (mkF m 56 Ls160 [(.int (1 : Int32)), (.ref a_TRUE)]) t
      refine XS.goto Xc164.here hx rfl (pc0 := 56) (pc' := 60) rfl (hb hby at_56) (by decide) (by decide) ?_
      exact k)
    obtain ⟨_, _, ⟨Tc167, Lc167, kc167, nc167⟩, -, Xc167, ⟨Lcc167, hQc167, lc167, yc167, zc167⟩, stc167⟩ := Jvm.LawKit.callS Xc164 hx (y := M2) hown (mvT hZ (ww hw 18 rfl)) (mvT hZ (ww hw 19 rfl)) (mvT hZ (ww hw 6 rfl)) (mvT hZ (ww hw 20 rfl)) (by decide) (backOf (W := 1) (rm3_4 l Z a0 hw [] a_TRUE a_UNKNOWN a_FALSE h0 n0 O0 HE' ) hZ (ww hw 20 rfl) (ww hw 6 rfl) (by decide) (by decide)) (g := (mkF m 60 Ls160 [(.int (1 : Int32)), (.ref a_TRUE)])) rfl (by rw [hml]; rfl) (argsL := [(.int (1 : Int32))]) (rest := [(.ref a_TRUE)]) (lenOf pd2 rfl) rfl (by show 2 * 0 + _ ≤ _; exact Nat.le_of_eq rfl) (hb hby at_60) (fun _ _ => ⟨rfl, ec164, (by decide : 0 + 0 ≤ _), (by decide : 0 + 0 ≤ _)⟩)
    dsimp only [Pt.U, Pt.locs, Pt.cells, Pt.slots] at Xc167 lc167 yc167 zc167 stc167 hQc167
    subst lc167 yc167 zc167
    obtain ⟨Nqc167, ec167, hAc167⟩ := hQc167
    have Nc167 := Fr.app Nc164 Nqc167
    obtain rfl := hAc167
    have p168 : ∀ t, St p e below Tc167 (mkF m 63 Ls160 [(.ref a_TRUE), (.ref a_TRUE)]) t → S0 t := fun t k => p166 t (stc167 t k)
    let Ls169 : Array Slot := #[.val (.int i0), .val (.int i1), .val (.int i2), .val (.ref a_TRUE), .val (.ref a_UNKNOWN), .val (.int (0 : Int32)), .val (.int (1 : Int32)), .val (.int (1 : Int32)), .unset]
    have p170 : ∀ t, St p e below Tc167 (mkF m 76 Ls169 [(.ref a_UNKNOWN), (.ref a_TRUE)]) t → S0 t := fun t k => p168 t (by
      show St p e below Tc167 (mkF m 63 Ls160 [(.ref a_TRUE), (.ref a_TRUE)]) t
      refine Jvm.RoadKit.acmp (g := (mkF m 63 Ls160 [(.ref a_TRUE), (.ref a_TRUE)])) Xc167 hx rfl rfl rfl (pc0 := 63) (pc' := 66) (same := true) rfl (hb hby at_63) rfl (decide_eq_true rfl) (by decide) (by decide) ?_
      show St p e below Tc167 (mkF m 66 Ls160 []) t
      refine XT.iconstV Xc167.here hx rfl (1 : Int32) (hb hby at_66) (by decide) ?_
      show St p e below Tc167 (mkF m 67 Ls160 [(.int (1 : Int32))]) t
      refine XS.goto Xc167.here hx rfl (pc0 := 67) (pc' := 71) rfl (hb hby at_67) (by decide) (by decide) ?_
      show St p e below Tc167 (mkF m 71 Ls160 [(.int (1 : Int32))]) t
      refine XS.istore Xc167.here hx rfl (hb hby at_71) rfl (l' := Ls169) rfl ?_
      show St p e below Tc167 (mkF m 73 Ls169 []) t
      refine XS.aloadN Xc167.here hx rfl (hb hby at_73) rfl rfl ?_
      show St p e below Tc167 (mkF m 74 Ls169 [(.ref a_TRUE)]) t
      refine XS.aload Xc167.here hx rfl (hb hby at_74) rfl rfl ?_
      exact k)
    obtain ⟨cqc171, kqc171, qc171a, qc171b, qc171c⟩ := isOf hZ ec167 (Ea_TRUE.ext O0.2)
    obtain ⟨_, _, ⟨Tc171, Lc171, kc171, nc171⟩, -, Xc171, ⟨Lcc171, hQc171, lc171, yc171, zc171⟩, stc171⟩ := Xc167.virtualBack hx (y := M3) (z := M3) hown (mvT hZ (ww hw 21 rfl)) (mvT hZ (ww hw 22 rfl)) (notFace_of_selects (args := #[]) (mvT hZ (ww hw 24 rfl))) (mvT hZ (ww hw 24 rfl)) (mvT hZ (ww hw 23 rfl)) (by decide) (backOf (W := 0) (rm4_9 l Z a0 hw [] a_TRUE a_UNKNOWN a_FALSE h0 n0 O0 HE' ) hZ (ww hw 25 rfl) (ww hw 6 rfl) (by decide) (by decide)) qc171a qc171c (g := (mkF m 76 Ls169 [(.ref a_UNKNOWN), (.ref a_TRUE)])) rfl (by rw [hml]; rfl) (Steps.refl _) (argsL := [(.ref a_UNKNOWN)]) (rest := []) (lenOf pd3 rfl) rfl (by show 2 * 0 + _ ≤ _; exact Nat.le_of_eq rfl) (hb hby at_76) (fun _ _ => ⟨rfl, ec167, (by decide : 0 + 0 ≤ _), (by decide : 0 + 0 ≤ _)⟩)
    dsimp only [Pt.U, Pt.locs, Pt.cells, Pt.slots] at Xc171 lc171 yc171 zc171 stc171 hQc171
    subst lc171 yc171 zc171
    obtain ⟨Nqc171, ec171, hAc171⟩ := hQc171
    have Nc171 := Fr.app Nc167 Nqc171
    obtain rfl := hAc171
    have p172 : ∀ t, St p e below Tc171 (mkF m 79 Ls169 [(.ref a_UNKNOWN)]) t → S0 t := fun t k => p170 t (stc171.trans k)
    obtain ⟨cqc173, kqc173, qc173a, qc173b, qc173c⟩ := isOf hZ ec171 (Ea_UNKNOWN.ext O0.2)
    obtain ⟨_, _, ⟨Tc173, Lc173, kc173, nc173⟩, -, Xc173, ⟨Lcc173, hQc173, lc173, yc173, zc173⟩, stc173⟩ := Xc171.virtualBack hx (y := M1) (z := M1) hown (mvT hZ (ww hw 8 rfl)) (mvT hZ (ww hw 9 rfl)) (notFace_of_selects (args := #[]) (mvT hZ (ww hw 11 rfl))) (mvT hZ (ww hw 11 rfl)) (mvT hZ (ww hw 10 rfl)) (by decide) (backOf (W := 0) (rm2_10 l Z a0 hw [] a_TRUE a_UNKNOWN a_FALSE h0 n0 O0 HE' ) hZ (ww hw 12 rfl) (ww hw 6 rfl) (by decide) (by decide)) qc173a qc173c (g := (mkF m 79 Ls169 [(.ref a_UNKNOWN)])) rfl (by rw [hml]; rfl) (Steps.refl _) (argsL := []) (rest := []) (lenOf pd1 rfl) rfl (by show 2 * 0 + _ ≤ _; exact Nat.le_of_eq rfl) (hb hby at_79) (fun _ _ => ⟨rfl, ec171, (by decide : 0 + 0 ≤ _), (by decide : 0 + 0 ≤ _)⟩)
    dsimp only [Pt.U, Pt.locs, Pt.cells, Pt.slots] at Xc173 lc173 yc173 zc173 stc173 hQc173
    subst lc173 yc173 zc173
    obtain ⟨Nqc173, ec173, hAc173⟩ := hQc173
    have Nc173 := Fr.app Nc171 Nqc173
    obtain rfl := hAc173
    have p174 : ∀ t, St p e below Tc173 (mkF m 82 Ls169 [(.ref a_UNKNOWN)]) t → S0 t := fun t k => p172 t (stc173.trans k)
    have p175 : ∀ t, St p e below Tc173 (mkF m 83 Ls169 [(.ref a_TRUE), (.ref a_UNKNOWN)]) t → S0 t := fun t k => p174 t (by
      show St p e below Tc173 (mkF m 82 Ls169 [(.ref a_UNKNOWN)]) t
      refine XS.aloadN Xc173.here hx rfl (hb hby at_82) rfl rfl ?_
      exact k)
    obtain ⟨cqc176, kqc176, qc176a, qc176b, qc176c⟩ := isOf hZ ec173 (Ea_TRUE.ext O0.2)
    obtain ⟨_, _, ⟨Tc176, Lc176, kc176, nc176⟩, -, Xc176, ⟨Lcc176, hQc176, lc176, yc176, zc176⟩, stc176⟩ := Xc173.virtualBack hx (y := M1) (z := M1) hown (mvT hZ (ww hw 8 rfl)) (mvT hZ (ww hw 9 rfl)) (notFace_of_selects (args := #[]) (mvT hZ (ww hw 11 rfl))) (mvT hZ (ww hw 11 rfl)) (mvT hZ (ww hw 10 rfl)) (by decide) (backOf (W := 1) (rm2_1 l Z a0 hw [] a_TRUE a_UNKNOWN a_FALSE h0 n0 O0 HE' ) hZ (ww hw 12 rfl) (ww hw 6 rfl) (by decide) (by decide)) qc176a qc176c (g := (mkF m 83 Ls169 [(.ref a_TRUE), (.ref a_UNKNOWN)])) rfl (by rw [hml]; rfl) (Steps.refl _) (argsL := []) (rest := [(.ref a_UNKNOWN)]) (lenOf pd1 rfl) rfl (by show 2 * 0 + _ ≤ _; exact Nat.le_of_eq rfl) (hb hby at_83) (fun _ _ => ⟨rfl, ec173, (by decide : 0 + 0 ≤ _), (by decide : 0 + 0 ≤ _)⟩)
    dsimp only [Pt.U, Pt.locs, Pt.cells, Pt.slots] at Xc176 lc176 yc176 zc176 stc176 hQc176
    subst lc176 yc176 zc176
    obtain ⟨Nqc176, ec176, hAc176⟩ := hQc176
    have Nc176 := Fr.app Nc173 Nqc176
    obtain rfl := hAc176
    have p177 : ∀ t, St p e below Tc176 (mkF m 86 Ls169 [(.ref a_FALSE), (.ref a_UNKNOWN)]) t → S0 t := fun t k => p175 t (stc176.trans k)
    have p178 : ∀ t, St p e below Tc176 (mkF m 88 Ls169 [(.ref a_UNKNOWN), (.ref a_FALSE), (.ref a_UNKNOWN)]) t → S0 t := fun t k => p177 t (by
      show St p e below Tc176 (mkF m 86 Ls169 [(.ref a_FALSE), (.ref a_UNKNOWN)]) t
      refine XS.aload Xc176.here hx rfl (hb hby at_86) rfl rfl ?_
      exact k)
    obtain ⟨cqc179, kqc179, qc179a, qc179b, qc179c⟩ := isOf hZ ec176 (Ea_UNKNOWN.ext O0.2)
    obtain ⟨_, _, ⟨Tc179, Lc179, kc179, nc179⟩, -, Xc179, ⟨Lcc179, hQc179, lc179, yc179, zc179⟩, stc179⟩ := Xc176.virtualBack hx (y := M1) (z := M1) hown (mvT hZ (ww hw 8 rfl)) (mvT hZ (ww hw 9 rfl)) (notFace_of_selects (args := #[]) (mvT hZ (ww hw 11 rfl))) (mvT hZ (ww hw 11 rfl)) (mvT hZ (ww hw 10 rfl)) (by decide) (backOf (W := 2) (rm2_10 l Z a0 hw [] a_TRUE a_UNKNOWN a_FALSE h0 n0 O0 HE' ) hZ (ww hw 12 rfl) (ww hw 6 rfl) (by decide) (by decide)) qc179a qc179c (g := (mkF m 88 Ls169 [(.ref a_UNKNOWN), (.ref a_FALSE), (.ref a_UNKNOWN)])) rfl (by rw [hml]; rfl) (Steps.refl _) (argsL := []) (rest := [(.ref a_FALSE), (.ref a_UNKNOWN)]) (lenOf pd1 rfl) rfl (by show 2 * 0 + _ ≤ _; exact Nat.le_of_eq rfl) (hb hby at_88) (fun _ _ => ⟨rfl, ec176, (by decide : 0 + 0 ≤ _), (by decide : 0 + 0 ≤ _)⟩)
    dsimp only [Pt.U, Pt.locs, Pt.cells, Pt.slots] at Xc179 lc179 yc179 zc179 stc179 hQc179
    subst lc179 yc179 zc179
    obtain ⟨Nqc179, ec179, hAc179⟩ := hQc179
    have Nc179 := Fr.app Nc176 Nqc179
    obtain rfl := hAc179
    have p180 : ∀ t, St p e below Tc179 (mkF m 91 Ls169 [(.ref a_UNKNOWN), (.ref a_FALSE), (.ref a_UNKNOWN)]) t → S0 t := fun t k => p178 t (stc179.trans k)
    obtain ⟨cqc181, kqc181, qc181a, qc181b, qc181c⟩ := isOf hZ ec179 (Ea_FALSE.ext O0.2)
    obtain ⟨_, _, ⟨Tc181, Lc181, kc181, nc181⟩, -, Xc181, ⟨Lcc181, hQc181, lc181, yc181, zc181⟩, stc181⟩ := Xc179.virtualBack hx (y := M4) (z := M4) hown (mvT hZ (ww hw 26 rfl)) (mvT hZ (ww hw 27 rfl)) (notFace_of_selects (args := #[]) (mvT hZ (ww hw 29 rfl))) (mvT hZ (ww hw 29 rfl)) (mvT hZ (ww hw 28 rfl)) (by decide) (backOf (W := 1) (rm5_11 l Z a0 hw [] a_TRUE a_UNKNOWN a_FALSE h0 n0 O0 HE' ) hZ (ww hw 30 rfl) (ww hw 6 rfl) (by decide) (by decide)) qc181a qc181c (g := (mkF m 91 Ls169 [(.ref a_UNKNOWN), (.ref a_FALSE), (.ref a_UNKNOWN)])) rfl (by rw [hml]; rfl) (Steps.refl _) (argsL := [(.ref a_UNKNOWN)]) (rest := [(.ref a_UNKNOWN)]) (lenOf pd3 rfl) rfl (by show 2 * 0 + _ ≤ _; exact Nat.le_of_eq rfl) (hb hby at_91) (fun _ _ => ⟨rfl, ec179, (by decide : 0 + 0 ≤ _), (by decide : 0 + 0 ≤ _)⟩)
    dsimp only [Pt.U, Pt.locs, Pt.cells, Pt.slots] at Xc181 lc181 yc181 zc181 stc181 hQc181
    subst lc181 yc181 zc181
    obtain ⟨Nqc181, ec181, hAc181⟩ := hQc181
    have Nc181 := Fr.app Nc179 Nqc181
    obtain rfl := hAc181
    have p182 : ∀ t, St p e below Tc181 (mkF m 94 Ls169 [(.ref a_UNKNOWN), (.ref a_UNKNOWN)]) t → S0 t := fun t k => p180 t (stc181.trans k)
    let Ls183 : Array Slot := #[.val (.int i0), .val (.int i1), .val (.int i2), .val (.ref a_TRUE), .val (.ref a_UNKNOWN), .val (.int (0 : Int32)), .val (.int (1 : Int32)), .val (.int (1 : Int32)), .val (.int (1 : Int32))]
    have p184 : ∀ t, St p e below Tc181 (mkF m 124 Ls183 [(.int (1 : Int32))]) t → S0 t := fun t k => p182 t (by
      show St p e below Tc181 (mkF m 94 Ls169 [(.ref a_UNKNOWN), (.ref a_UNKNOWN)]) t
      refine Jvm.RoadKit.acmp (g := (mkF m 94 Ls169 [(.ref a_UNKNOWN), (.ref a_UNKNOWN)])) Xc181 hx rfl rfl rfl (pc0 := 94) (pc' := 97) (same := true) rfl (hb hby at_94) rfl (decide_eq_true rfl) (by decide) (by decide) ?_
      show St p e below Tc181 (mkF m 97 Ls169 []) t
      refine XT.iconstV Xc181.here hx rfl (1 : Int32) (hb hby at_97) (by decide) ?_
      show St p e below Tc181 (mkF m 98 Ls169 [(.int (1 : Int32))]) t
      refine XS.goto Xc181.here hx rfl (pc0 := 98) (pc' := 102) rfl (hb hby at_98) (by decide) (by decide) ?_
      show St p e below Tc181 (mkF m 102 Ls169 [(.int (1 : Int32))]) t
      refine XS.istore Xc181.here hx rfl (hb hby at_102) rfl (l' := Ls183) rfl ?_
      show St p e below Tc181 (mkF m 104 Ls183 []) t
      refine XS.iload Xc181.here hx rfl (hb hby at_104) rfl ?_
      show St p e below Tc181 (mkF m 106 Ls183 [(.int (1 : Int32))]) t
      refine XS.ifNo Xc181.here hx rfl (hb hby at_106) rfl ((if0 _ _).trans (feq (by decide : ¬ ((1 : Int32) = (0 : Int32)))).1) ?_
      show St p e below Tc181 (mkF m 109 Ls183 []) t
      refine XS.iload Xc181.here hx rfl (hb hby at_109) rfl ?_
      show St p e below Tc181 (mkF m 111 Ls183 [(.int (1 : Int32))]) t
      refine XS.ifNo Xc181.here hx rfl (hb hby at_111) rfl ((if0 _ _).trans (feq (by decide : ¬ ((1 : Int32) = (0 : Int32)))).1) ?_
      show St p e below Tc181 (mkF m 114 Ls183 []) t
      refine XS.iload Xc181.here hx rfl (hb hby at_114) rfl ?_
      show St p e below Tc181 (mkF m 116 Ls183 [(.int (1 : Int32))]) t
      refine XS.ifNo Xc181.here hx rfl (hb hby at_116) rfl ((if0 _ _).trans (feq (by decide : ¬ ((1 : Int32) = (0 : Int32)))).1) ?_
      show St p e below Tc181 (mkF m 119 Ls183 []) t
      refine XT.iconstV Xc181.here hx rfl (1 : Int32) (hb hby at_119) (by decide) ?_
      show St p e below Tc181 (mkF m 120 Ls183 [(.int (1 : Int32))]) t
      refine XS.goto Xc181.here hx rfl (pc0 := 120) (pc' := 124) rfl (hb hby at_120) (by decide) (by decide) ?_
      exact k)
    obtain ⟨fs, hr, hrun, hended, hW, hsame⟩ := Xc181.leave (v := some (.int (1 : Int32))) (fun h => by rw [Bd.returns] at h; cases h)
    refine ⟨_, _, p184 _ ?_, hrun, hended, _, _, rfl, ?_, ⟨_, rfl⟩, hW, hsame.mono (by decide) (by decide)⟩
    · exact retOut Xc181 hx Bd.returns rfl (Or.inl ⟨rfl, by simp, _, rfl⟩) (hb hby at_124) hr
    · exact ⟨rfl, Nc181⟩
   ·
    let Ls185 : Array Slot := #[.val (.int i0), .val (.int i1), .val (.int i2), .val (.ref a_TRUE), .val (.ref a_UNKNOWN), .val (.int (1 : Int32)), .unset, .unset, .unset]
    have p186 : ∀ t, St p e below Tc12 (mkF m 25 Ls185 [(.ref a_TRUE)]) t → S0 t := fun t k => p152 t (by
      show St p e below Tc12 (mkF m 14 Ls151 [(.int (i2 &&& (1 : Int32)))]) t
      refine XS.ifNo Xc12.here hx rfl (hb hby at_14) rfl ((if0 _ _).trans (feq g153).1) ?_
      show St p e below Tc12 (mkF m 17 Ls151 []) t
      refine XT.iconstV Xc12.here hx rfl (1 : Int32) (hb hby at_17) (by decide) ?_
      show St p e below Tc12 (mkF m 18 Ls151 [(.int (1 : Int32))]) t
      refine XS.goto Xc12.here hx rfl (pc0 := 18) (pc' := 22) rfl (hb hby at_18) (by decide) (by decide) ?_
      show St p e below Tc12 (mkF m 22 Ls151 [(.int (1 : Int32))]) t
      refine XS.istore Xc12.here hx rfl (hb hby at_22) rfl (l' := Ls185) rfl ?_
      show St p e below Tc12 (mkF m 24 Ls185 []) t
      refine XS.aloadN Xc12.here hx rfl (hb hby at_24) rfl rfl ?_
      exact k)
    obtain ⟨cqc187, kqc187, qc187a, qc187b, qc187c⟩ := isOf hZ ec12 (Ea_TRUE.ext O0.2)
    obtain ⟨_, _, ⟨Tc187, Lc187, kc187, nc187⟩, -, Xc187, ⟨Lcc187, hQc187, lc187, yc187, zc187⟩, stc187⟩ := Xc12.virtualBack hx (y := M1) (z := M1) hown (mvT hZ (ww hw 8 rfl)) (mvT hZ (ww hw 9 rfl)) (notFace_of_selects (args := #[]) (mvT hZ (ww hw 11 rfl))) (mvT hZ (ww hw 11 rfl)) (mvT hZ (ww hw 10 rfl)) (by decide) (backOf (W := 0) (rm2_1 l Z a0 hw [] a_TRUE a_UNKNOWN a_FALSE h0 n0 O0 HE' ) hZ (ww hw 12 rfl) (ww hw 6 rfl) (by decide) (by decide)) qc187a qc187c (g := (mkF m 25 Ls185 [(.ref a_TRUE)])) rfl (by rw [hml]; rfl) (Steps.refl _) (argsL := []) (rest := []) (lenOf pd1 rfl) rfl (by show 2 * 0 + _ ≤ _; exact Nat.le_of_eq rfl) (hb hby at_25) (fun _ _ => ⟨rfl, ec12, (by decide : 0 + 0 ≤ _), (by decide : 0 + 0 ≤ _)⟩)
    dsimp only [Pt.U, Pt.locs, Pt.cells, Pt.slots] at Xc187 lc187 yc187 zc187 stc187 hQc187
    subst lc187 yc187 zc187
    obtain ⟨Nqc187, ec187, hAc187⟩ := hQc187
    have Nc187 := Fr.app Nc12 Nqc187
    obtain rfl := hAc187
    have p188 : ∀ t, St p e below Tc187 (mkF m 28 Ls185 [(.ref a_FALSE)]) t → S0 t := fun t k => p186 t (stc187.trans k)
    obtain ⟨cqc189, kqc189, qc189a, qc189b, qc189c⟩ := isOf hZ ec187 (Ea_FALSE.ext O0.2)
    obtain ⟨_, _, ⟨Tc189, Lc189, kc189, nc189⟩, -, Xc189, ⟨Lcc189, hQc189, lc189, yc189, zc189⟩, stc189⟩ := Xc187.virtualBack hx (y := M1) (z := M1) hown (mvT hZ (ww hw 8 rfl)) (mvT hZ (ww hw 9 rfl)) (notFace_of_selects (args := #[]) (mvT hZ (ww hw 11 rfl))) (mvT hZ (ww hw 11 rfl)) (mvT hZ (ww hw 10 rfl)) (by decide) (backOf (W := 0) (rm2_2 l Z a0 hw [] a_TRUE a_UNKNOWN a_FALSE h0 n0 O0 HE' ) hZ (ww hw 12 rfl) (ww hw 6 rfl) (by decide) (by decide)) qc189a qc189c (g := (mkF m 28 Ls185 [(.ref a_FALSE)])) rfl (by rw [hml]; rfl) (Steps.refl _) (argsL := []) (rest := []) (lenOf pd1 rfl) rfl (by show 2 * 0 + _ ≤ _; exact Nat.le_of_eq rfl) (hb hby at_28) (fun _ _ => ⟨rfl, ec187, (by decide : 0 + 0 ≤ _), (by decide : 0 + 0 ≤ _)⟩)
    dsimp only [Pt.U, Pt.locs, Pt.cells, Pt.slots] at Xc189 lc189 yc189 zc189 stc189 hQc189
    subst lc189 yc189 zc189
    obtain ⟨Nqc189, ec189, hAc189⟩ := hQc189
    have Nc189 := Fr.app Nc187 Nqc189
    obtain rfl := hAc189
    have p190 : ∀ t, St p e below Tc189 (mkF m 31 Ls185 [(.ref a_TRUE)]) t → S0 t := fun t k => p188 t (stc189.trans k)
    let Ls191 : Array Slot := #[.val (.int i0), .val (.int i1), .val (.int i2), .val (.ref a_TRUE), .val (.ref a_UNKNOWN), .val (.int (1 : Int32)), .val (.int (1 : Int32)), .unset, .unset]
    have p192 : ∀ t, St p e below Tc189 (mkF m 44 Ls191 [(.int (1 : Int32))]) t → S0 t := fun t k => p190 t (by
      show St p e below Tc189 (mkF m 31 Ls185 [(.ref a_TRUE)]) t
      refine XS.aloadN Xc189.here hx rfl (hb hby at_31) rfl rfl ?_
      show St p e below Tc189 (mkF m 32 Ls185 [(.ref a_TRUE), (.ref a_TRUE)]) t
      refine Jvm.RoadKit.acmp (g := (mkF m 32 Ls185 [(.ref a_TRUE), (.ref a_TRUE)])) Xc189 hx rfl rfl rfl (pc0 := 32) (pc' := 35) (same := true) rfl (hb hby at_32) rfl (decide_eq_true rfl) (by decide) (by decide) ?_
      show St p e below Tc189 (mkF m 35 Ls185 []) t
      refine XT.iconstV Xc189.here hx rfl (1 : Int32) (hb hby at_35) (by decide) ?_
      show St p e below Tc189 (mkF m 36 Ls185 [(.int (1 : Int32))]) t
      refine XS.goto Xc189.here hx rfl (pc0 := 36) (pc' := 40) rfl (hb hby at_36) (by decide) (by decide) ?_
      show St p e below Tc189 (mkF m 40 Ls185 [(.int (1 : Int32))]) t
      refine XS.istore Xc189.here hx rfl (hb hby at_40) rfl (l' := Ls191) rfl ?_
      show St p e below Tc189 (mkF m 42 Ls191 []) t
      refine XS.iload Xc189.here hx rfl (hb hby at_42) rfl ?_
      exact k)
    obtain ⟨_, _, ⟨Tc193, Lc193, kc193, nc193⟩, -, Xc193, ⟨Lcc193, hQc193, lc193, yc193, zc193⟩, stc193⟩ := Jvm.LawKit.callS Xc189 hx (y := M2) hown (mvT hZ (ww hw 18 rfl)) (mvT hZ (ww hw 19 rfl)) (mvT hZ (ww hw 6 rfl)) (mvT hZ (ww hw 20 rfl)) (by decide) (backOf (W := 0) (rm3_4 l Z a0 hw [] a_TRUE a_UNKNOWN a_FALSE h0 n0 O0 HE' ) hZ (ww hw 20 rfl) (ww hw 6 rfl) (by decide) (by decide)) (g := (mkF m 44 Ls191 [(.int (1 : Int32))])) rfl (by rw [hml]; rfl) (argsL := [(.int (1 : Int32))]) (rest := []) (lenOf pd2 rfl) rfl (by show 2 * 0 + _ ≤ _; exact Nat.le_of_eq rfl) (hb hby at_44) (fun _ _ => ⟨rfl, ec189, (by decide : 0 + 0 ≤ _), (by decide : 0 + 0 ≤ _)⟩)
    dsimp only [Pt.U, Pt.locs, Pt.cells, Pt.slots] at Xc193 lc193 yc193 zc193 stc193 hQc193
    subst lc193 yc193 zc193
    obtain ⟨Nqc193, ec193, hAc193⟩ := hQc193
    have Nc193 := Fr.app Nc189 Nqc193
    obtain rfl := hAc193
    have p194 : ∀ t, St p e below Tc193 (mkF m 47 Ls191 [(.ref a_TRUE)]) t → S0 t := fun t k => p192 t (stc193 t k)
    obtain ⟨cqc195, kqc195, qc195a, qc195b, qc195c⟩ := isOf hZ ec193 (Ea_TRUE.ext O0.2)
    obtain ⟨_, _, ⟨Tc195, Lc195, kc195, nc195⟩, -, Xc195, ⟨Lcc195, hQc195, lc195, yc195, zc195⟩, stc195⟩ := Xc193.virtualBack hx (y := M1) (z := M1) hown (mvT hZ (ww hw 8 rfl)) (mvT hZ (ww hw 9 rfl)) (notFace_of_selects (args := #[]) (mvT hZ (ww hw 11 rfl))) (mvT hZ (ww hw 11 rfl)) (mvT hZ (ww hw 10 rfl)) (by decide) (backOf (W := 0) (rm2_1 l Z a0 hw [] a_TRUE a_UNKNOWN a_FALSE h0 n0 O0 HE' ) hZ (ww hw 12 rfl) (ww hw 6 rfl) (by decide) (by decide)) qc195a qc195c (g := (mkF m 47 Ls191 [(.ref a_TRUE)])) rfl (by rw [hml]; rfl) (Steps.refl _) (argsL := []) (rest := []) (lenOf pd1 rfl) rfl (by show 2 * 0 + _ ≤ _; exact Nat.le_of_eq rfl) (hb hby at_47) (fun _ _ => ⟨rfl, ec193, (by decide : 0 + 0 ≤ _), (by decide : 0 + 0 ≤ _)⟩)
    dsimp only [Pt.U, Pt.locs, Pt.cells, Pt.slots] at Xc195 lc195 yc195 zc195 stc195 hQc195
    subst lc195 yc195 zc195
    obtain ⟨Nqc195, ec195, hAc195⟩ := hQc195
    have Nc195 := Fr.app Nc193 Nqc195
    obtain rfl := hAc195
    have p196 : ∀ t, St p e below Tc195 (mkF m 50 Ls191 [(.ref a_FALSE)]) t → S0 t := fun t k => p194 t (stc195.trans k)
    have p197 : ∀ t, St p e below Tc195 (mkF m 60 Ls191 [(.int (0 : Int32)), (.ref a_FALSE)]) t → S0 t := fun t k => p196 t (by
      show St p e below Tc195 (mkF m 50 Ls191 [(.ref a_FALSE)]) t
      refine XS.iload Xc195.here hx rfl (hb hby at_50) rfl ?_
      show St p e below Tc195 (mkF m 52 Ls191 [(.int (1 : Int32)), (.ref a_FALSE)]) t
      refine XS.ifYes Xc195.here hx rfl (pc0 := 52) (pc' := 59) rfl (hb hby at_52) rfl ((if0 _ _).trans (feq (by decide : ¬ ((1 : Int32) = (0 : Int32)))).2) (by decide) (by decide) ?_
      show St p e below Tc195 (mkF m 59 Ls191 [(.ref a_FALSE)]) t
      refine XT.iconstV Xc195.here hx rfl (0 : Int32) (hb hby at_59) (by decide) ?_
      exact k)
    obtain ⟨_, _, ⟨Tc198, Lc198, kc198, nc198⟩, -, Xc198, ⟨Lcc198, hQc198, lc198, yc198, zc198⟩, stc198⟩ := Jvm.LawKit.callS Xc195 hx (y := M2) hown (mvT hZ (ww hw 18 rfl)) (mvT hZ (ww hw 19 rfl)) (mvT hZ (ww hw 6 rfl)) (mvT hZ (ww hw 20 rfl)) (by decide) (backOf (W := 1) (rm3_3 l Z a0 hw [] a_TRUE a_UNKNOWN a_FALSE h0 n0 O0 HE' ) hZ (ww hw 20 rfl) (ww hw 6 rfl) (by decide) (by decide)) (g := (mkF m 60 Ls191 [(.int (0 : Int32)), (.ref a_FALSE)])) rfl (by rw [hml]; rfl) (argsL := [(.int (0 : Int32))]) (rest := [(.ref a_FALSE)]) (lenOf pd2 rfl) rfl (by show 2 * 0 + _ ≤ _; exact Nat.le_of_eq rfl) (hb hby at_60) (fun _ _ => ⟨rfl, ec195, (by decide : 0 + 0 ≤ _), (by decide : 0 + 0 ≤ _)⟩)
    dsimp only [Pt.U, Pt.locs, Pt.cells, Pt.slots] at Xc198 lc198 yc198 zc198 stc198 hQc198
    subst lc198 yc198 zc198
    obtain ⟨Nqc198, ec198, hAc198⟩ := hQc198
    have Nc198 := Fr.app Nc195 Nqc198
    obtain rfl := hAc198
    have p199 : ∀ t, St p e below Tc198 (mkF m 63 Ls191 [(.ref a_FALSE), (.ref a_FALSE)]) t → S0 t := fun t k => p197 t (stc198 t k)
    let Ls200 : Array Slot := #[.val (.int i0), .val (.int i1), .val (.int i2), .val (.ref a_TRUE), .val (.ref a_UNKNOWN), .val (.int (1 : Int32)), .val (.int (1 : Int32)), .val (.int (1 : Int32)), .unset]
    have p201 : ∀ t, St p e below Tc198 (mkF m 76 Ls200 [(.ref a_UNKNOWN), (.ref a_TRUE)]) t → S0 t := fun t k => p199 t (by
      show St p e below Tc198 (mkF m 63 Ls191 [(.ref a_FALSE), (.ref a_FALSE)]) t
      refine Jvm.RoadKit.acmp (g := (mkF m 63 Ls191 [(.ref a_FALSE), (.ref a_FALSE)])) Xc198 hx rfl rfl rfl (pc0 := 63) (pc' := 66) (same := true) rfl (hb hby at_63) rfl (decide_eq_true rfl) (by decide) (by decide) ?_
      show St p e below Tc198 (mkF m 66 Ls191 []) t
      refine XT.iconstV Xc198.here hx rfl (1 : Int32) (hb hby at_66) (by decide) ?_
      show St p e below Tc198 (mkF m 67 Ls191 [(.int (1 : Int32))]) t
      refine XS.goto Xc198.here hx rfl (pc0 := 67) (pc' := 71) rfl (hb hby at_67) (by decide) (by decide) ?_
      show St p e below Tc198 (mkF m 71 Ls191 [(.int (1 : Int32))]) t
      refine XS.istore Xc198.here hx rfl (hb hby at_71) rfl (l' := Ls200) rfl ?_
      show St p e below Tc198 (mkF m 73 Ls200 []) t
      refine XS.aloadN Xc198.here hx rfl (hb hby at_73) rfl rfl ?_
      show St p e below Tc198 (mkF m 74 Ls200 [(.ref a_TRUE)]) t
      refine XS.aload Xc198.here hx rfl (hb hby at_74) rfl rfl ?_
      exact k)
    obtain ⟨cqc202, kqc202, qc202a, qc202b, qc202c⟩ := isOf hZ ec198 (Ea_TRUE.ext O0.2)
    obtain ⟨_, _, ⟨Tc202, Lc202, kc202, nc202⟩, -, Xc202, ⟨Lcc202, hQc202, lc202, yc202, zc202⟩, stc202⟩ := Xc198.virtualBack hx (y := M3) (z := M3) hown (mvT hZ (ww hw 21 rfl)) (mvT hZ (ww hw 22 rfl)) (notFace_of_selects (args := #[]) (mvT hZ (ww hw 24 rfl))) (mvT hZ (ww hw 24 rfl)) (mvT hZ (ww hw 23 rfl)) (by decide) (backOf (W := 0) (rm4_9 l Z a0 hw [] a_TRUE a_UNKNOWN a_FALSE h0 n0 O0 HE' ) hZ (ww hw 25 rfl) (ww hw 6 rfl) (by decide) (by decide)) qc202a qc202c (g := (mkF m 76 Ls200 [(.ref a_UNKNOWN), (.ref a_TRUE)])) rfl (by rw [hml]; rfl) (Steps.refl _) (argsL := [(.ref a_UNKNOWN)]) (rest := []) (lenOf pd3 rfl) rfl (by show 2 * 0 + _ ≤ _; exact Nat.le_of_eq rfl) (hb hby at_76) (fun _ _ => ⟨rfl, ec198, (by decide : 0 + 0 ≤ _), (by decide : 0 + 0 ≤ _)⟩)
    dsimp only [Pt.U, Pt.locs, Pt.cells, Pt.slots] at Xc202 lc202 yc202 zc202 stc202 hQc202
    subst lc202 yc202 zc202
    obtain ⟨Nqc202, ec202, hAc202⟩ := hQc202
    have Nc202 := Fr.app Nc198 Nqc202
    obtain rfl := hAc202
    have p203 : ∀ t, St p e below Tc202 (mkF m 79 Ls200 [(.ref a_UNKNOWN)]) t → S0 t := fun t k => p201 t (stc202.trans k)
    obtain ⟨cqc204, kqc204, qc204a, qc204b, qc204c⟩ := isOf hZ ec202 (Ea_UNKNOWN.ext O0.2)
    obtain ⟨_, _, ⟨Tc204, Lc204, kc204, nc204⟩, -, Xc204, ⟨Lcc204, hQc204, lc204, yc204, zc204⟩, stc204⟩ := Xc202.virtualBack hx (y := M1) (z := M1) hown (mvT hZ (ww hw 8 rfl)) (mvT hZ (ww hw 9 rfl)) (notFace_of_selects (args := #[]) (mvT hZ (ww hw 11 rfl))) (mvT hZ (ww hw 11 rfl)) (mvT hZ (ww hw 10 rfl)) (by decide) (backOf (W := 0) (rm2_10 l Z a0 hw [] a_TRUE a_UNKNOWN a_FALSE h0 n0 O0 HE' ) hZ (ww hw 12 rfl) (ww hw 6 rfl) (by decide) (by decide)) qc204a qc204c (g := (mkF m 79 Ls200 [(.ref a_UNKNOWN)])) rfl (by rw [hml]; rfl) (Steps.refl _) (argsL := []) (rest := []) (lenOf pd1 rfl) rfl (by show 2 * 0 + _ ≤ _; exact Nat.le_of_eq rfl) (hb hby at_79) (fun _ _ => ⟨rfl, ec202, (by decide : 0 + 0 ≤ _), (by decide : 0 + 0 ≤ _)⟩)
    dsimp only [Pt.U, Pt.locs, Pt.cells, Pt.slots] at Xc204 lc204 yc204 zc204 stc204 hQc204
    subst lc204 yc204 zc204
    obtain ⟨Nqc204, ec204, hAc204⟩ := hQc204
    have Nc204 := Fr.app Nc202 Nqc204
    obtain rfl := hAc204
    have p205 : ∀ t, St p e below Tc204 (mkF m 82 Ls200 [(.ref a_UNKNOWN)]) t → S0 t := fun t k => p203 t (stc204.trans k)
    have p206 : ∀ t, St p e below Tc204 (mkF m 83 Ls200 [(.ref a_TRUE), (.ref a_UNKNOWN)]) t → S0 t := fun t k => p205 t (by
      show St p e below Tc204 (mkF m 82 Ls200 [(.ref a_UNKNOWN)]) t
      refine XS.aloadN Xc204.here hx rfl (hb hby at_82) rfl rfl ?_
      exact k)
    obtain ⟨cqc207, kqc207, qc207a, qc207b, qc207c⟩ := isOf hZ ec204 (Ea_TRUE.ext O0.2)
    obtain ⟨_, _, ⟨Tc207, Lc207, kc207, nc207⟩, -, Xc207, ⟨Lcc207, hQc207, lc207, yc207, zc207⟩, stc207⟩ := Xc204.virtualBack hx (y := M1) (z := M1) hown (mvT hZ (ww hw 8 rfl)) (mvT hZ (ww hw 9 rfl)) (notFace_of_selects (args := #[]) (mvT hZ (ww hw 11 rfl))) (mvT hZ (ww hw 11 rfl)) (mvT hZ (ww hw 10 rfl)) (by decide) (backOf (W := 1) (rm2_1 l Z a0 hw [] a_TRUE a_UNKNOWN a_FALSE h0 n0 O0 HE' ) hZ (ww hw 12 rfl) (ww hw 6 rfl) (by decide) (by decide)) qc207a qc207c (g := (mkF m 83 Ls200 [(.ref a_TRUE), (.ref a_UNKNOWN)])) rfl (by rw [hml]; rfl) (Steps.refl _) (argsL := []) (rest := [(.ref a_UNKNOWN)]) (lenOf pd1 rfl) rfl (by show 2 * 0 + _ ≤ _; exact Nat.le_of_eq rfl) (hb hby at_83) (fun _ _ => ⟨rfl, ec204, (by decide : 0 + 0 ≤ _), (by decide : 0 + 0 ≤ _)⟩)
    dsimp only [Pt.U, Pt.locs, Pt.cells, Pt.slots] at Xc207 lc207 yc207 zc207 stc207 hQc207
    subst lc207 yc207 zc207
    obtain ⟨Nqc207, ec207, hAc207⟩ := hQc207
    have Nc207 := Fr.app Nc204 Nqc207
    obtain rfl := hAc207
    have p208 : ∀ t, St p e below Tc207 (mkF m 86 Ls200 [(.ref a_FALSE), (.ref a_UNKNOWN)]) t → S0 t := fun t k => p206 t (stc207.trans k)
    have p209 : ∀ t, St p e below Tc207 (mkF m 88 Ls200 [(.ref a_UNKNOWN), (.ref a_FALSE), (.ref a_UNKNOWN)]) t → S0 t := fun t k => p208 t (by
      show St p e below Tc207 (mkF m 86 Ls200 [(.ref a_FALSE), (.ref a_UNKNOWN)]) t
      refine XS.aload Xc207.here hx rfl (hb hby at_86) rfl rfl ?_
      exact k)
    obtain ⟨cqc210, kqc210, qc210a, qc210b, qc210c⟩ := isOf hZ ec207 (Ea_UNKNOWN.ext O0.2)
    obtain ⟨_, _, ⟨Tc210, Lc210, kc210, nc210⟩, -, Xc210, ⟨Lcc210, hQc210, lc210, yc210, zc210⟩, stc210⟩ := Xc207.virtualBack hx (y := M1) (z := M1) hown (mvT hZ (ww hw 8 rfl)) (mvT hZ (ww hw 9 rfl)) (notFace_of_selects (args := #[]) (mvT hZ (ww hw 11 rfl))) (mvT hZ (ww hw 11 rfl)) (mvT hZ (ww hw 10 rfl)) (by decide) (backOf (W := 2) (rm2_10 l Z a0 hw [] a_TRUE a_UNKNOWN a_FALSE h0 n0 O0 HE' ) hZ (ww hw 12 rfl) (ww hw 6 rfl) (by decide) (by decide)) qc210a qc210c (g := (mkF m 88 Ls200 [(.ref a_UNKNOWN), (.ref a_FALSE), (.ref a_UNKNOWN)])) rfl (by rw [hml]; rfl) (Steps.refl _) (argsL := []) (rest := [(.ref a_FALSE), (.ref a_UNKNOWN)]) (lenOf pd1 rfl) rfl (by show 2 * 0 + _ ≤ _; exact Nat.le_of_eq rfl) (hb hby at_88) (fun _ _ => ⟨rfl, ec207, (by decide : 0 + 0 ≤ _), (by decide : 0 + 0 ≤ _)⟩)
    dsimp only [Pt.U, Pt.locs, Pt.cells, Pt.slots] at Xc210 lc210 yc210 zc210 stc210 hQc210
    subst lc210 yc210 zc210
    obtain ⟨Nqc210, ec210, hAc210⟩ := hQc210
    have Nc210 := Fr.app Nc207 Nqc210
    obtain rfl := hAc210
    have p211 : ∀ t, St p e below Tc210 (mkF m 91 Ls200 [(.ref a_UNKNOWN), (.ref a_FALSE), (.ref a_UNKNOWN)]) t → S0 t := fun t k => p209 t (stc210.trans k)
    obtain ⟨cqc212, kqc212, qc212a, qc212b, qc212c⟩ := isOf hZ ec210 (Ea_FALSE.ext O0.2)
    obtain ⟨_, _, ⟨Tc212, Lc212, kc212, nc212⟩, -, Xc212, ⟨Lcc212, hQc212, lc212, yc212, zc212⟩, stc212⟩ := Xc210.virtualBack hx (y := M4) (z := M4) hown (mvT hZ (ww hw 26 rfl)) (mvT hZ (ww hw 27 rfl)) (notFace_of_selects (args := #[]) (mvT hZ (ww hw 29 rfl))) (mvT hZ (ww hw 29 rfl)) (mvT hZ (ww hw 28 rfl)) (by decide) (backOf (W := 1) (rm5_11 l Z a0 hw [] a_TRUE a_UNKNOWN a_FALSE h0 n0 O0 HE' ) hZ (ww hw 30 rfl) (ww hw 6 rfl) (by decide) (by decide)) qc212a qc212c (g := (mkF m 91 Ls200 [(.ref a_UNKNOWN), (.ref a_FALSE), (.ref a_UNKNOWN)])) rfl (by rw [hml]; rfl) (Steps.refl _) (argsL := [(.ref a_UNKNOWN)]) (rest := [(.ref a_UNKNOWN)]) (lenOf pd3 rfl) rfl (by show 2 * 0 + _ ≤ _; exact Nat.le_of_eq rfl) (hb hby at_91) (fun _ _ => ⟨rfl, ec210, (by decide : 0 + 0 ≤ _), (by decide : 0 + 0 ≤ _)⟩)
    dsimp only [Pt.U, Pt.locs, Pt.cells, Pt.slots] at Xc212 lc212 yc212 zc212 stc212 hQc212
    subst lc212 yc212 zc212
    obtain ⟨Nqc212, ec212, hAc212⟩ := hQc212
    have Nc212 := Fr.app Nc210 Nqc212
    obtain rfl := hAc212
    have p213 : ∀ t, St p e below Tc212 (mkF m 94 Ls200 [(.ref a_UNKNOWN), (.ref a_UNKNOWN)]) t → S0 t := fun t k => p211 t (stc212.trans k)
    let Ls214 : Array Slot := #[.val (.int i0), .val (.int i1), .val (.int i2), .val (.ref a_TRUE), .val (.ref a_UNKNOWN), .val (.int (1 : Int32)), .val (.int (1 : Int32)), .val (.int (1 : Int32)), .val (.int (1 : Int32))]
    have p215 : ∀ t, St p e below Tc212 (mkF m 124 Ls214 [(.int (1 : Int32))]) t → S0 t := fun t k => p213 t (by
      show St p e below Tc212 (mkF m 94 Ls200 [(.ref a_UNKNOWN), (.ref a_UNKNOWN)]) t
      refine Jvm.RoadKit.acmp (g := (mkF m 94 Ls200 [(.ref a_UNKNOWN), (.ref a_UNKNOWN)])) Xc212 hx rfl rfl rfl (pc0 := 94) (pc' := 97) (same := true) rfl (hb hby at_94) rfl (decide_eq_true rfl) (by decide) (by decide) ?_
      show St p e below Tc212 (mkF m 97 Ls200 []) t
      refine XT.iconstV Xc212.here hx rfl (1 : Int32) (hb hby at_97) (by decide) ?_
      show St p e below Tc212 (mkF m 98 Ls200 [(.int (1 : Int32))]) t
      refine XS.goto Xc212.here hx rfl (pc0 := 98) (pc' := 102) rfl (hb hby at_98) (by decide) (by decide) ?_
      show St p e below Tc212 (mkF m 102 Ls200 [(.int (1 : Int32))]) t
      refine XS.istore Xc212.here hx rfl (hb hby at_102) rfl (l' := Ls214) rfl ?_
      show St p e below Tc212 (mkF m 104 Ls214 []) t
      refine XS.iload Xc212.here hx rfl (hb hby at_104) rfl ?_
      show St p e below Tc212 (mkF m 106 Ls214 [(.int (1 : Int32))]) t
      refine XS.ifNo Xc212.here hx rfl (hb hby at_106) rfl ((if0 _ _).trans (feq (by decide : ¬ ((1 : Int32) = (0 : Int32)))).1) ?_
      show St p e below Tc212 (mkF m 109 Ls214 []) t
      refine XS.iload Xc212.here hx rfl (hb hby at_109) rfl ?_
      show St p e below Tc212 (mkF m 111 Ls214 [(.int (1 : Int32))]) t
      refine XS.ifNo Xc212.here hx rfl (hb hby at_111) rfl ((if0 _ _).trans (feq (by decide : ¬ ((1 : Int32) = (0 : Int32)))).1) ?_
      show St p e below Tc212 (mkF m 114 Ls214 []) t
      refine XS.iload Xc212.here hx rfl (hb hby at_114) rfl ?_
      show St p e below Tc212 (mkF m 116 Ls214 [(.int (1 : Int32))]) t
      refine XS.ifNo Xc212.here hx rfl (hb hby at_116) rfl ((if0 _ _).trans (feq (by decide : ¬ ((1 : Int32) = (0 : Int32)))).1) ?_
      show St p e below Tc212 (mkF m 119 Ls214 []) t
      refine XT.iconstV Xc212.here hx rfl (1 : Int32) (hb hby at_119) (by decide) ?_
      show St p e below Tc212 (mkF m 120 Ls214 [(.int (1 : Int32))]) t
      refine XS.goto Xc212.here hx rfl (pc0 := 120) (pc' := 124) rfl (hb hby at_120) (by decide) (by decide) ?_
      exact k)
    obtain ⟨fs, hr, hrun, hended, hW, hsame⟩ := Xc212.leave (v := some (.int (1 : Int32))) (fun h => by rw [Bd.returns] at h; cases h)
    refine ⟨_, _, p215 _ ?_, hrun, hended, _, _, rfl, ?_, ⟨_, rfl⟩, hW, hsame.mono (by decide) (by decide)⟩
    · exact retOut Xc212 hx Bd.returns rfl (Or.inl ⟨rfl, by simp, _, rfl⟩) (hb hby at_124) hr
    · exact ⟨rfl, Nc212⟩
 ·
  have p216 : ∀ t, St p e below Tc3 (mkF m 4 Ls1 [(.ref a_FALSE)]) t → S0 t := fun t k => p2 t (stc3 t k)
  let Ls217 : Array Slot := #[.val (.int i0), .val (.int i1), .val (.int i2), .val (.ref a_FALSE), .unset, .unset, .unset, .unset, .unset]
  have p218 : ∀ t, St p e below Tc3 (mkF m 6 Ls217 [(.int i1)]) t → S0 t := fun t k => p216 t (by
    show St p e below Tc3 (mkF m 4 Ls1 [(.ref a_FALSE)]) t
    refine XS.astoreN Xc3.here hx rfl (hb hby at_4) rfl rfl (l' := Ls217) rfl ?_
    show St p e below Tc3 (mkF m 5 Ls217 []) t
    refine XS.iloadN Xc3.here hx rfl (hb hby at_5) rfl ?_
    exact k)
  obtain ⟨_, _, ⟨Tc219, Lc219, kc219, nc219⟩, -, Xc219, ⟨Lcc219, hQc219, lc219, yc219, zc219⟩, stc219⟩ := Jvm.LawKit.callS Xc3 hx (y := M0) hown (mvT hZ (ww hw 0 rfl)) (mvT hZ (ww hw 1 rfl)) (mvT hZ (ww hw 2 rfl)) (mvT hZ (ww hw 3 rfl)) (by decide) (backOf (W := 0) (rm1_0 l Z a0 hw [] a_TRUE a_UNKNOWN a_FALSE i1 h0 n0 O0 HE' ) hZ (ww hw 3 rfl) (ww hw 2 rfl) (by decide) (by decide)) (g := (mkF m 6 Ls217 [(.int i1)])) rfl (by rw [hml]; rfl) (argsL := [(.int i1)]) (rest := []) (lenOf pd0 rfl) rfl (by show 2 * 0 + _ ≤ _; exact Nat.le_of_eq rfl) (hb hby at_6) (fun _ _ => ⟨rfl, ec3, (by decide : 0 + 0 ≤ _), (by decide : 0 + 0 ≤ _)⟩)
  dsimp only [Pt.U, Pt.locs, Pt.cells, Pt.slots] at Xc219 lc219 yc219 zc219 stc219 hQc219
  subst lc219 yc219 zc219
  obtain ⟨Nqc219, ec219, hAc219⟩ := hQc219
  have Nc219 := Fr.app Nc3 Nqc219
  rcases hAc219 with ⟨rfl, g220⟩ | ⟨rfl, g221, g222⟩ | ⟨rfl, g223, g224⟩
  ·
   have p225 : ∀ t, St p e below Tc219 (mkF m 9 Ls217 [(.ref a_TRUE)]) t → S0 t := fun t k => p218 t (stc219 t k)
   let Ls226 : Array Slot := #[.val (.int i0), .val (.int i1), .val (.int i2), .val (.ref a_FALSE), .val (.ref a_TRUE), .unset, .unset, .unset, .unset]
   have p227 : ∀ t, St p e below Tc219 (mkF m 14 Ls226 [(.int (i2 &&& (1 : Int32)))]) t → S0 t := fun t k => p225 t (by
     show St p e below Tc219 (mkF m 9 Ls217 [(.ref a_TRUE)]) t
     refine XS.astore Xc219.here hx rfl (hb hby at_9) rfl rfl (l' := Ls226) rfl ?_
     show St p e below Tc219 (mkF m 11 Ls226 []) t
     refine XS.iloadN Xc219.here hx rfl (hb hby at_11) rfl ?_
     show St p e below Tc219 (mkF m 12 Ls226 [(.int i2)]) t
     refine XT.iconstV Xc219.here hx rfl (1 : Int32) (hb hby at_12) (by decide) ?_
     show St p e below Tc219 (mkF m 13 Ls226 [(.int (1 : Int32)), (.int i2)]) t
     refine XS.iand Xc219.here hx rfl (hb hby at_13) rfl ?_
     exact k)
   by_cases g228 : (i2 &&& (1 : Int32)) = (0 : Int32)
   ·
    let Ls229 : Array Slot := #[.val (.int i0), .val (.int i1), .val (.int i2), .val (.ref a_FALSE), .val (.ref a_TRUE), .val (.int (0 : Int32)), .unset, .unset, .unset]
    have p230 : ∀ t, St p e below Tc219 (mkF m 25 Ls229 [(.ref a_FALSE)]) t → S0 t := fun t k => p227 t (by
      show St p e below Tc219 (mkF m 14 Ls226 [(.int (i2 &&& (1 : Int32)))]) t
      refine XS.ifYes Xc219.here hx rfl (pc0 := 14) (pc' := 21) rfl (hb hby at_14) rfl ((if0 _ _).trans (teq g228).1) (by decide) (by decide) ?_
      show St p e below Tc219 (mkF m 21 Ls226 []) t
      refine XT.iconstV Xc219.here hx rfl (0 : Int32) (hb hby at_21) (by decide) ?_
      show St p e below Tc219 (mkF m 22 Ls226 [(.int (0 : Int32))]) t
      refine XS.istore Xc219.here hx rfl (hb hby at_22) rfl (l' := Ls229) rfl ?_
      show St p e below Tc219 (mkF m 24 Ls229 []) t
      refine XS.aloadN Xc219.here hx rfl (hb hby at_24) rfl rfl ?_
      exact k)
    obtain ⟨cqc231, kqc231, qc231a, qc231b, qc231c⟩ := isOf hZ ec219 (Ea_FALSE.ext O0.2)
    obtain ⟨_, _, ⟨Tc231, Lc231, kc231, nc231⟩, -, Xc231, ⟨Lcc231, hQc231, lc231, yc231, zc231⟩, stc231⟩ := Xc219.virtualBack hx (y := M1) (z := M1) hown (mvT hZ (ww hw 8 rfl)) (mvT hZ (ww hw 9 rfl)) (notFace_of_selects (args := #[]) (mvT hZ (ww hw 11 rfl))) (mvT hZ (ww hw 11 rfl)) (mvT hZ (ww hw 10 rfl)) (by decide) (backOf (W := 0) (rm2_2 l Z a0 hw [] a_TRUE a_UNKNOWN a_FALSE h0 n0 O0 HE' ) hZ (ww hw 12 rfl) (ww hw 6 rfl) (by decide) (by decide)) qc231a qc231c (g := (mkF m 25 Ls229 [(.ref a_FALSE)])) rfl (by rw [hml]; rfl) (Steps.refl _) (argsL := []) (rest := []) (lenOf pd1 rfl) rfl (by show 2 * 0 + _ ≤ _; exact Nat.le_of_eq rfl) (hb hby at_25) (fun _ _ => ⟨rfl, ec219, (by decide : 0 + 0 ≤ _), (by decide : 0 + 0 ≤ _)⟩)
    dsimp only [Pt.U, Pt.locs, Pt.cells, Pt.slots] at Xc231 lc231 yc231 zc231 stc231 hQc231
    subst lc231 yc231 zc231
    obtain ⟨Nqc231, ec231, hAc231⟩ := hQc231
    have Nc231 := Fr.app Nc219 Nqc231
    obtain rfl := hAc231
    have p232 : ∀ t, St p e below Tc231 (mkF m 28 Ls229 [(.ref a_TRUE)]) t → S0 t := fun t k => p230 t (stc231.trans k)
    obtain ⟨cqc233, kqc233, qc233a, qc233b, qc233c⟩ := isOf hZ ec231 (Ea_TRUE.ext O0.2)
    obtain ⟨_, _, ⟨Tc233, Lc233, kc233, nc233⟩, -, Xc233, ⟨Lcc233, hQc233, lc233, yc233, zc233⟩, stc233⟩ := Xc231.virtualBack hx (y := M1) (z := M1) hown (mvT hZ (ww hw 8 rfl)) (mvT hZ (ww hw 9 rfl)) (notFace_of_selects (args := #[]) (mvT hZ (ww hw 11 rfl))) (mvT hZ (ww hw 11 rfl)) (mvT hZ (ww hw 10 rfl)) (by decide) (backOf (W := 0) (rm2_1 l Z a0 hw [] a_TRUE a_UNKNOWN a_FALSE h0 n0 O0 HE' ) hZ (ww hw 12 rfl) (ww hw 6 rfl) (by decide) (by decide)) qc233a qc233c (g := (mkF m 28 Ls229 [(.ref a_TRUE)])) rfl (by rw [hml]; rfl) (Steps.refl _) (argsL := []) (rest := []) (lenOf pd1 rfl) rfl (by show 2 * 0 + _ ≤ _; exact Nat.le_of_eq rfl) (hb hby at_28) (fun _ _ => ⟨rfl, ec231, (by decide : 0 + 0 ≤ _), (by decide : 0 + 0 ≤ _)⟩)
    dsimp only [Pt.U, Pt.locs, Pt.cells, Pt.slots] at Xc233 lc233 yc233 zc233 stc233 hQc233
    subst lc233 yc233 zc233
    obtain ⟨Nqc233, ec233, hAc233⟩ := hQc233
    have Nc233 := Fr.app Nc231 Nqc233
    obtain rfl := hAc233
    have p234 : ∀ t, St p e below Tc233 (mkF m 31 Ls229 [(.ref a_FALSE)]) t → S0 t := fun t k => p232 t (stc233.trans k)
    let Ls235 : Array Slot := #[.val (.int i0), .val (.int i1), .val (.int i2), .val (.ref a_FALSE), .val (.ref a_TRUE), .val (.int (0 : Int32)), .val (.int (1 : Int32)), .unset, .unset]
    have p236 : ∀ t, St p e below Tc233 (mkF m 44 Ls235 [(.int (0 : Int32))]) t → S0 t := fun t k => p234 t (by
      show St p e below Tc233 (mkF m 31 Ls229 [(.ref a_FALSE)]) t
      refine XS.aloadN Xc233.here hx rfl (hb hby at_31) rfl rfl ?_
      show St p e below Tc233 (mkF m 32 Ls229 [(.ref a_FALSE), (.ref a_FALSE)]) t
      refine Jvm.RoadKit.acmp (g := (mkF m 32 Ls229 [(.ref a_FALSE), (.ref a_FALSE)])) Xc233 hx rfl rfl rfl (pc0 := 32) (pc' := 35) (same := true) rfl (hb hby at_32) rfl (decide_eq_true rfl) (by decide) (by decide) ?_
      show St p e below Tc233 (mkF m 35 Ls229 []) t
      refine XT.iconstV Xc233.here hx rfl (1 : Int32) (hb hby at_35) (by decide) ?_
      show St p e below Tc233 (mkF m 36 Ls229 [(.int (1 : Int32))]) t
      refine XS.goto Xc233.here hx rfl (pc0 := 36) (pc' := 40) rfl (hb hby at_36) (by decide) (by decide) ?_
      show St p e below Tc233 (mkF m 40 Ls229 [(.int (1 : Int32))]) t
      refine XS.istore Xc233.here hx rfl (hb hby at_40) rfl (l' := Ls235) rfl ?_
      show St p e below Tc233 (mkF m 42 Ls235 []) t
      refine XS.iload Xc233.here hx rfl (hb hby at_42) rfl ?_
      exact k)
    obtain ⟨_, _, ⟨Tc237, Lc237, kc237, nc237⟩, -, Xc237, ⟨Lcc237, hQc237, lc237, yc237, zc237⟩, stc237⟩ := Jvm.LawKit.callS Xc233 hx (y := M2) hown (mvT hZ (ww hw 18 rfl)) (mvT hZ (ww hw 19 rfl)) (mvT hZ (ww hw 6 rfl)) (mvT hZ (ww hw 20 rfl)) (by decide) (backOf (W := 0) (rm3_3 l Z a0 hw [] a_TRUE a_UNKNOWN a_FALSE h0 n0 O0 HE' ) hZ (ww hw 20 rfl) (ww hw 6 rfl) (by decide) (by decide)) (g := (mkF m 44 Ls235 [(.int (0 : Int32))])) rfl (by rw [hml]; rfl) (argsL := [(.int (0 : Int32))]) (rest := []) (lenOf pd2 rfl) rfl (by show 2 * 0 + _ ≤ _; exact Nat.le_of_eq rfl) (hb hby at_44) (fun _ _ => ⟨rfl, ec233, (by decide : 0 + 0 ≤ _), (by decide : 0 + 0 ≤ _)⟩)
    dsimp only [Pt.U, Pt.locs, Pt.cells, Pt.slots] at Xc237 lc237 yc237 zc237 stc237 hQc237
    subst lc237 yc237 zc237
    obtain ⟨Nqc237, ec237, hAc237⟩ := hQc237
    have Nc237 := Fr.app Nc233 Nqc237
    obtain rfl := hAc237
    have p238 : ∀ t, St p e below Tc237 (mkF m 47 Ls235 [(.ref a_FALSE)]) t → S0 t := fun t k => p236 t (stc237 t k)
    obtain ⟨cqc239, kqc239, qc239a, qc239b, qc239c⟩ := isOf hZ ec237 (Ea_FALSE.ext O0.2)
    obtain ⟨_, _, ⟨Tc239, Lc239, kc239, nc239⟩, -, Xc239, ⟨Lcc239, hQc239, lc239, yc239, zc239⟩, stc239⟩ := Xc237.virtualBack hx (y := M1) (z := M1) hown (mvT hZ (ww hw 8 rfl)) (mvT hZ (ww hw 9 rfl)) (notFace_of_selects (args := #[]) (mvT hZ (ww hw 11 rfl))) (mvT hZ (ww hw 11 rfl)) (mvT hZ (ww hw 10 rfl)) (by decide) (backOf (W := 0) (rm2_2 l Z a0 hw [] a_TRUE a_UNKNOWN a_FALSE h0 n0 O0 HE' ) hZ (ww hw 12 rfl) (ww hw 6 rfl) (by decide) (by decide)) qc239a qc239c (g := (mkF m 47 Ls235 [(.ref a_FALSE)])) rfl (by rw [hml]; rfl) (Steps.refl _) (argsL := []) (rest := []) (lenOf pd1 rfl) rfl (by show 2 * 0 + _ ≤ _; exact Nat.le_of_eq rfl) (hb hby at_47) (fun _ _ => ⟨rfl, ec237, (by decide : 0 + 0 ≤ _), (by decide : 0 + 0 ≤ _)⟩)
    dsimp only [Pt.U, Pt.locs, Pt.cells, Pt.slots] at Xc239 lc239 yc239 zc239 stc239 hQc239
    subst lc239 yc239 zc239
    obtain ⟨Nqc239, ec239, hAc239⟩ := hQc239
    have Nc239 := Fr.app Nc237 Nqc239
    obtain rfl := hAc239
    have p240 : ∀ t, St p e below Tc239 (mkF m 50 Ls235 [(.ref a_TRUE)]) t → S0 t := fun t k => p238 t (stc239.trans k)
    have p241 : ∀ t, St p e below Tc239 (mkF m 60 Ls235 [(.int (1 : Int32)), (.ref a_TRUE)]) t → S0 t := fun t k => p240 t (by
      show St p e below Tc239 (mkF m 50 Ls235 [(.ref a_TRUE)]) t
      refine XS.iload Xc239.here hx rfl (hb hby at_50) rfl ?_
      show St p e below Tc239 (mkF m 52 Ls235 [(.int (0 : Int32)), (.ref a_TRUE)]) t
      refine XS.ifNo Xc239.here hx rfl (hb hby at_52) rfl ((if0 _ _).trans (teq (by decide : (0 : Int32) = (0 : Int32))).2) ?_
      show St p e below Tc239 (mkF m 55 Ls235 [(.ref a_TRUE)]) t
      refine XT.iconstV Xc239.here hx rfl (1 : Int32) (hb hby at_55) (by decide) ?_
      show St p e below Tc239 (mkF m 56 Ls235 [(.int (1 : Int32)), (.ref a_TRUE)]) t
      refine XS.goto Xc239.here hx rfl (pc0 := 56) (pc' := 60) rfl (hb hby at_56) (by decide) (by decide) ?_
      exact k)
    obtain ⟨_, _, ⟨Tc242, Lc242, kc242, nc242⟩, -, Xc242, ⟨Lcc242, hQc242, lc242, yc242, zc242⟩, stc242⟩ := Jvm.LawKit.callS Xc239 hx (y := M2) hown (mvT hZ (ww hw 18 rfl)) (mvT hZ (ww hw 19 rfl)) (mvT hZ (ww hw 6 rfl)) (mvT hZ (ww hw 20 rfl)) (by decide) (backOf (W := 1) (rm3_4 l Z a0 hw [] a_TRUE a_UNKNOWN a_FALSE h0 n0 O0 HE' ) hZ (ww hw 20 rfl) (ww hw 6 rfl) (by decide) (by decide)) (g := (mkF m 60 Ls235 [(.int (1 : Int32)), (.ref a_TRUE)])) rfl (by rw [hml]; rfl) (argsL := [(.int (1 : Int32))]) (rest := [(.ref a_TRUE)]) (lenOf pd2 rfl) rfl (by show 2 * 0 + _ ≤ _; exact Nat.le_of_eq rfl) (hb hby at_60) (fun _ _ => ⟨rfl, ec239, (by decide : 0 + 0 ≤ _), (by decide : 0 + 0 ≤ _)⟩)
    dsimp only [Pt.U, Pt.locs, Pt.cells, Pt.slots] at Xc242 lc242 yc242 zc242 stc242 hQc242
    subst lc242 yc242 zc242
    obtain ⟨Nqc242, ec242, hAc242⟩ := hQc242
    have Nc242 := Fr.app Nc239 Nqc242
    obtain rfl := hAc242
    have p243 : ∀ t, St p e below Tc242 (mkF m 63 Ls235 [(.ref a_TRUE), (.ref a_TRUE)]) t → S0 t := fun t k => p241 t (stc242 t k)
    let Ls244 : Array Slot := #[.val (.int i0), .val (.int i1), .val (.int i2), .val (.ref a_FALSE), .val (.ref a_TRUE), .val (.int (0 : Int32)), .val (.int (1 : Int32)), .val (.int (1 : Int32)), .unset]
    have p245 : ∀ t, St p e below Tc242 (mkF m 76 Ls244 [(.ref a_TRUE), (.ref a_FALSE)]) t → S0 t := fun t k => p243 t (by
      show St p e below Tc242 (mkF m 63 Ls235 [(.ref a_TRUE), (.ref a_TRUE)]) t
      refine Jvm.RoadKit.acmp (g := (mkF m 63 Ls235 [(.ref a_TRUE), (.ref a_TRUE)])) Xc242 hx rfl rfl rfl (pc0 := 63) (pc' := 66) (same := true) rfl (hb hby at_63) rfl (decide_eq_true rfl) (by decide) (by decide) ?_
      show St p e below Tc242 (mkF m 66 Ls235 []) t
      refine XT.iconstV Xc242.here hx rfl (1 : Int32) (hb hby at_66) (by decide) ?_
      show St p e below Tc242 (mkF m 67 Ls235 [(.int (1 : Int32))]) t
      refine XS.goto Xc242.here hx rfl (pc0 := 67) (pc' := 71) rfl (hb hby at_67) (by decide) (by decide) ?_
      show St p e below Tc242 (mkF m 71 Ls235 [(.int (1 : Int32))]) t
      refine XS.istore Xc242.here hx rfl (hb hby at_71) rfl (l' := Ls244) rfl ?_
      show St p e below Tc242 (mkF m 73 Ls244 []) t
      refine XS.aloadN Xc242.here hx rfl (hb hby at_73) rfl rfl ?_
      show St p e below Tc242 (mkF m 74 Ls244 [(.ref a_FALSE)]) t
      refine XS.aload Xc242.here hx rfl (hb hby at_74) rfl rfl ?_
      exact k)
    obtain ⟨cqc246, kqc246, qc246a, qc246b, qc246c⟩ := isOf hZ ec242 (Ea_FALSE.ext O0.2)
    obtain ⟨_, _, ⟨Tc246, Lc246, kc246, nc246⟩, -, Xc246, ⟨Lcc246, hQc246, lc246, yc246, zc246⟩, stc246⟩ := Xc242.virtualBack hx (y := M3) (z := M3) hown (mvT hZ (ww hw 21 rfl)) (mvT hZ (ww hw 22 rfl)) (notFace_of_selects (args := #[]) (mvT hZ (ww hw 24 rfl))) (mvT hZ (ww hw 24 rfl)) (mvT hZ (ww hw 23 rfl)) (by decide) (backOf (W := 0) (rm4_12 l Z a0 hw [] a_TRUE a_UNKNOWN a_FALSE h0 n0 O0 HE' ) hZ (ww hw 25 rfl) (ww hw 6 rfl) (by decide) (by decide)) qc246a qc246c (g := (mkF m 76 Ls244 [(.ref a_TRUE), (.ref a_FALSE)])) rfl (by rw [hml]; rfl) (Steps.refl _) (argsL := [(.ref a_TRUE)]) (rest := []) (lenOf pd3 rfl) rfl (by show 2 * 0 + _ ≤ _; exact Nat.le_of_eq rfl) (hb hby at_76) (fun _ _ => ⟨rfl, ec242, (by decide : 0 + 0 ≤ _), (by decide : 0 + 0 ≤ _)⟩)
    dsimp only [Pt.U, Pt.locs, Pt.cells, Pt.slots] at Xc246 lc246 yc246 zc246 stc246 hQc246
    subst lc246 yc246 zc246
    obtain ⟨Nqc246, ec246, hAc246⟩ := hQc246
    have Nc246 := Fr.app Nc242 Nqc246
    obtain rfl := hAc246
    have p247 : ∀ t, St p e below Tc246 (mkF m 79 Ls244 [(.ref a_FALSE)]) t → S0 t := fun t k => p245 t (stc246.trans k)
    obtain ⟨cqc248, kqc248, qc248a, qc248b, qc248c⟩ := isOf hZ ec246 (Ea_FALSE.ext O0.2)
    obtain ⟨_, _, ⟨Tc248, Lc248, kc248, nc248⟩, -, Xc248, ⟨Lcc248, hQc248, lc248, yc248, zc248⟩, stc248⟩ := Xc246.virtualBack hx (y := M1) (z := M1) hown (mvT hZ (ww hw 8 rfl)) (mvT hZ (ww hw 9 rfl)) (notFace_of_selects (args := #[]) (mvT hZ (ww hw 11 rfl))) (mvT hZ (ww hw 11 rfl)) (mvT hZ (ww hw 10 rfl)) (by decide) (backOf (W := 0) (rm2_2 l Z a0 hw [] a_TRUE a_UNKNOWN a_FALSE h0 n0 O0 HE' ) hZ (ww hw 12 rfl) (ww hw 6 rfl) (by decide) (by decide)) qc248a qc248c (g := (mkF m 79 Ls244 [(.ref a_FALSE)])) rfl (by rw [hml]; rfl) (Steps.refl _) (argsL := []) (rest := []) (lenOf pd1 rfl) rfl (by show 2 * 0 + _ ≤ _; exact Nat.le_of_eq rfl) (hb hby at_79) (fun _ _ => ⟨rfl, ec246, (by decide : 0 + 0 ≤ _), (by decide : 0 + 0 ≤ _)⟩)
    dsimp only [Pt.U, Pt.locs, Pt.cells, Pt.slots] at Xc248 lc248 yc248 zc248 stc248 hQc248
    subst lc248 yc248 zc248
    obtain ⟨Nqc248, ec248, hAc248⟩ := hQc248
    have Nc248 := Fr.app Nc246 Nqc248
    obtain rfl := hAc248
    have p249 : ∀ t, St p e below Tc248 (mkF m 82 Ls244 [(.ref a_TRUE)]) t → S0 t := fun t k => p247 t (stc248.trans k)
    have p250 : ∀ t, St p e below Tc248 (mkF m 83 Ls244 [(.ref a_FALSE), (.ref a_TRUE)]) t → S0 t := fun t k => p249 t (by
      show St p e below Tc248 (mkF m 82 Ls244 [(.ref a_TRUE)]) t
      refine XS.aloadN Xc248.here hx rfl (hb hby at_82) rfl rfl ?_
      exact k)
    obtain ⟨cqc251, kqc251, qc251a, qc251b, qc251c⟩ := isOf hZ ec248 (Ea_FALSE.ext O0.2)
    obtain ⟨_, _, ⟨Tc251, Lc251, kc251, nc251⟩, -, Xc251, ⟨Lcc251, hQc251, lc251, yc251, zc251⟩, stc251⟩ := Xc248.virtualBack hx (y := M1) (z := M1) hown (mvT hZ (ww hw 8 rfl)) (mvT hZ (ww hw 9 rfl)) (notFace_of_selects (args := #[]) (mvT hZ (ww hw 11 rfl))) (mvT hZ (ww hw 11 rfl)) (mvT hZ (ww hw 10 rfl)) (by decide) (backOf (W := 1) (rm2_2 l Z a0 hw [] a_TRUE a_UNKNOWN a_FALSE h0 n0 O0 HE' ) hZ (ww hw 12 rfl) (ww hw 6 rfl) (by decide) (by decide)) qc251a qc251c (g := (mkF m 83 Ls244 [(.ref a_FALSE), (.ref a_TRUE)])) rfl (by rw [hml]; rfl) (Steps.refl _) (argsL := []) (rest := [(.ref a_TRUE)]) (lenOf pd1 rfl) rfl (by show 2 * 0 + _ ≤ _; exact Nat.le_of_eq rfl) (hb hby at_83) (fun _ _ => ⟨rfl, ec248, (by decide : 0 + 0 ≤ _), (by decide : 0 + 0 ≤ _)⟩)
    dsimp only [Pt.U, Pt.locs, Pt.cells, Pt.slots] at Xc251 lc251 yc251 zc251 stc251 hQc251
    subst lc251 yc251 zc251
    obtain ⟨Nqc251, ec251, hAc251⟩ := hQc251
    have Nc251 := Fr.app Nc248 Nqc251
    obtain rfl := hAc251
    have p252 : ∀ t, St p e below Tc251 (mkF m 86 Ls244 [(.ref a_TRUE), (.ref a_TRUE)]) t → S0 t := fun t k => p250 t (stc251.trans k)
    have p253 : ∀ t, St p e below Tc251 (mkF m 88 Ls244 [(.ref a_TRUE), (.ref a_TRUE), (.ref a_TRUE)]) t → S0 t := fun t k => p252 t (by
      show St p e below Tc251 (mkF m 86 Ls244 [(.ref a_TRUE), (.ref a_TRUE)]) t
      refine XS.aload Xc251.here hx rfl (hb hby at_86) rfl rfl ?_
      exact k)
    obtain ⟨cqc254, kqc254, qc254a, qc254b, qc254c⟩ := isOf hZ ec251 (Ea_TRUE.ext O0.2)
    obtain ⟨_, _, ⟨Tc254, Lc254, kc254, nc254⟩, -, Xc254, ⟨Lcc254, hQc254, lc254, yc254, zc254⟩, stc254⟩ := Xc251.virtualBack hx (y := M1) (z := M1) hown (mvT hZ (ww hw 8 rfl)) (mvT hZ (ww hw 9 rfl)) (notFace_of_selects (args := #[]) (mvT hZ (ww hw 11 rfl))) (mvT hZ (ww hw 11 rfl)) (mvT hZ (ww hw 10 rfl)) (by decide) (backOf (W := 2) (rm2_1 l Z a0 hw [] a_TRUE a_UNKNOWN a_FALSE h0 n0 O0 HE' ) hZ (ww hw 12 rfl) (ww hw 6 rfl) (by decide) (by decide)) qc254a qc254c (g := (mkF m 88 Ls244 [(.ref a_TRUE), (.ref a_TRUE), (.ref a_TRUE)])) rfl (by rw [hml]; rfl) (Steps.refl _) (argsL := []) (rest := [(.ref a_TRUE), (.ref a_TRUE)]) (lenOf pd1 rfl) rfl (by show 2 * 0 + _ ≤ _; exact Nat.le_of_eq rfl) (hb hby at_88) (fun _ _ => ⟨rfl, ec251, (by decide : 0 + 0 ≤ _), (by decide : 0 + 0 ≤ _)⟩)
    dsimp only [Pt.U, Pt.locs, Pt.cells, Pt.slots] at Xc254 lc254 yc254 zc254 stc254 hQc254
    subst lc254 yc254 zc254
    obtain ⟨Nqc254, ec254, hAc254⟩ := hQc254
    have Nc254 := Fr.app Nc251 Nqc254
    obtain rfl := hAc254
    have p255 : ∀ t, St p e below Tc254 (mkF m 91 Ls244 [(.ref a_FALSE), (.ref a_TRUE), (.ref a_TRUE)]) t → S0 t := fun t k => p253 t (stc254.trans k)
    obtain ⟨cqc256, kqc256, qc256a, qc256b, qc256c⟩ := isOf hZ ec254 (Ea_TRUE.ext O0.2)
    obtain ⟨_, _, ⟨Tc256, Lc256, kc256, nc256⟩, -, Xc256, ⟨Lcc256, hQc256, lc256, yc256, zc256⟩, stc256⟩ := Xc254.virtualBack hx (y := M4) (z := M4) hown (mvT hZ (ww hw 26 rfl)) (mvT hZ (ww hw 27 rfl)) (notFace_of_selects (args := #[]) (mvT hZ (ww hw 29 rfl))) (mvT hZ (ww hw 29 rfl)) (mvT hZ (ww hw 28 rfl)) (by decide) (backOf (W := 1) (rm5_13 l Z a0 hw [] a_TRUE a_UNKNOWN a_FALSE h0 n0 O0 HE' ) hZ (ww hw 30 rfl) (ww hw 6 rfl) (by decide) (by decide)) qc256a qc256c (g := (mkF m 91 Ls244 [(.ref a_FALSE), (.ref a_TRUE), (.ref a_TRUE)])) rfl (by rw [hml]; rfl) (Steps.refl _) (argsL := [(.ref a_FALSE)]) (rest := [(.ref a_TRUE)]) (lenOf pd3 rfl) rfl (by show 2 * 0 + _ ≤ _; exact Nat.le_of_eq rfl) (hb hby at_91) (fun _ _ => ⟨rfl, ec254, (by decide : 0 + 0 ≤ _), (by decide : 0 + 0 ≤ _)⟩)
    dsimp only [Pt.U, Pt.locs, Pt.cells, Pt.slots] at Xc256 lc256 yc256 zc256 stc256 hQc256
    subst lc256 yc256 zc256
    obtain ⟨Nqc256, ec256, hAc256⟩ := hQc256
    have Nc256 := Fr.app Nc254 Nqc256
    obtain rfl := hAc256
    have p257 : ∀ t, St p e below Tc256 (mkF m 94 Ls244 [(.ref a_TRUE), (.ref a_TRUE)]) t → S0 t := fun t k => p255 t (stc256.trans k)
    let Ls258 : Array Slot := #[.val (.int i0), .val (.int i1), .val (.int i2), .val (.ref a_FALSE), .val (.ref a_TRUE), .val (.int (0 : Int32)), .val (.int (1 : Int32)), .val (.int (1 : Int32)), .val (.int (1 : Int32))]
    have p259 : ∀ t, St p e below Tc256 (mkF m 124 Ls258 [(.int (1 : Int32))]) t → S0 t := fun t k => p257 t (by
      show St p e below Tc256 (mkF m 94 Ls244 [(.ref a_TRUE), (.ref a_TRUE)]) t
      refine Jvm.RoadKit.acmp (g := (mkF m 94 Ls244 [(.ref a_TRUE), (.ref a_TRUE)])) Xc256 hx rfl rfl rfl (pc0 := 94) (pc' := 97) (same := true) rfl (hb hby at_94) rfl (decide_eq_true rfl) (by decide) (by decide) ?_
      show St p e below Tc256 (mkF m 97 Ls244 []) t
      refine XT.iconstV Xc256.here hx rfl (1 : Int32) (hb hby at_97) (by decide) ?_
      show St p e below Tc256 (mkF m 98 Ls244 [(.int (1 : Int32))]) t
      refine XS.goto Xc256.here hx rfl (pc0 := 98) (pc' := 102) rfl (hb hby at_98) (by decide) (by decide) ?_
      show St p e below Tc256 (mkF m 102 Ls244 [(.int (1 : Int32))]) t
      refine XS.istore Xc256.here hx rfl (hb hby at_102) rfl (l' := Ls258) rfl ?_
      show St p e below Tc256 (mkF m 104 Ls258 []) t
      refine XS.iload Xc256.here hx rfl (hb hby at_104) rfl ?_
      show St p e below Tc256 (mkF m 106 Ls258 [(.int (1 : Int32))]) t
      refine XS.ifNo Xc256.here hx rfl (hb hby at_106) rfl ((if0 _ _).trans (feq (by decide : ¬ ((1 : Int32) = (0 : Int32)))).1) ?_
      show St p e below Tc256 (mkF m 109 Ls258 []) t
      refine XS.iload Xc256.here hx rfl (hb hby at_109) rfl ?_
      show St p e below Tc256 (mkF m 111 Ls258 [(.int (1 : Int32))]) t
      refine XS.ifNo Xc256.here hx rfl (hb hby at_111) rfl ((if0 _ _).trans (feq (by decide : ¬ ((1 : Int32) = (0 : Int32)))).1) ?_
      show St p e below Tc256 (mkF m 114 Ls258 []) t
      refine XS.iload Xc256.here hx rfl (hb hby at_114) rfl ?_
      show St p e below Tc256 (mkF m 116 Ls258 [(.int (1 : Int32))]) t
      refine XS.ifNo Xc256.here hx rfl (hb hby at_116) rfl ((if0 _ _).trans (feq (by decide : ¬ ((1 : Int32) = (0 : Int32)))).1) ?_
      show St p e below Tc256 (mkF m 119 Ls258 []) t
      refine XT.iconstV Xc256.here hx rfl (1 : Int32) (hb hby at_119) (by decide) ?_
      show St p e below Tc256 (mkF m 120 Ls258 [(.int (1 : Int32))]) t
      refine XS.goto Xc256.here hx rfl (pc0 := 120) (pc' := 124) rfl (hb hby at_120) (by decide) (by decide) ?_
      exact k)
    obtain ⟨fs, hr, hrun, hended, hW, hsame⟩ := Xc256.leave (v := some (.int (1 : Int32))) (fun h => by rw [Bd.returns] at h; cases h)
    refine ⟨_, _, p259 _ ?_, hrun, hended, _, _, rfl, ?_, ⟨_, rfl⟩, hW, hsame.mono (by decide) (by decide)⟩
    · exact retOut Xc256 hx Bd.returns rfl (Or.inl ⟨rfl, by simp, _, rfl⟩) (hb hby at_124) hr
    · exact ⟨rfl, Nc256⟩
   ·
    let Ls260 : Array Slot := #[.val (.int i0), .val (.int i1), .val (.int i2), .val (.ref a_FALSE), .val (.ref a_TRUE), .val (.int (1 : Int32)), .unset, .unset, .unset]
    have p261 : ∀ t, St p e below Tc219 (mkF m 25 Ls260 [(.ref a_FALSE)]) t → S0 t := fun t k => p227 t (by
      show St p e below Tc219 (mkF m 14 Ls226 [(.int (i2 &&& (1 : Int32)))]) t
      refine XS.ifNo Xc219.here hx rfl (hb hby at_14) rfl ((if0 _ _).trans (feq g228).1) ?_
      show St p e below Tc219 (mkF m 17 Ls226 []) t
      refine XT.iconstV Xc219.here hx rfl (1 : Int32) (hb hby at_17) (by decide) ?_
      show St p e below Tc219 (mkF m 18 Ls226 [(.int (1 : Int32))]) t
      refine XS.goto Xc219.here hx rfl (pc0 := 18) (pc' := 22) rfl (hb hby at_18) (by decide) (by decide) ?_
      show St p e below Tc219 (mkF m 22 Ls226 [(.int (1 : Int32))]) t
      refine XS.istore Xc219.here hx rfl (hb hby at_22) rfl (l' := Ls260) rfl ?_
      show St p e below Tc219 (mkF m 24 Ls260 []) t
      refine XS.aloadN Xc219.here hx rfl (hb hby at_24) rfl rfl ?_
      exact k)
    obtain ⟨cqc262, kqc262, qc262a, qc262b, qc262c⟩ := isOf hZ ec219 (Ea_FALSE.ext O0.2)
    obtain ⟨_, _, ⟨Tc262, Lc262, kc262, nc262⟩, -, Xc262, ⟨Lcc262, hQc262, lc262, yc262, zc262⟩, stc262⟩ := Xc219.virtualBack hx (y := M1) (z := M1) hown (mvT hZ (ww hw 8 rfl)) (mvT hZ (ww hw 9 rfl)) (notFace_of_selects (args := #[]) (mvT hZ (ww hw 11 rfl))) (mvT hZ (ww hw 11 rfl)) (mvT hZ (ww hw 10 rfl)) (by decide) (backOf (W := 0) (rm2_2 l Z a0 hw [] a_TRUE a_UNKNOWN a_FALSE h0 n0 O0 HE' ) hZ (ww hw 12 rfl) (ww hw 6 rfl) (by decide) (by decide)) qc262a qc262c (g := (mkF m 25 Ls260 [(.ref a_FALSE)])) rfl (by rw [hml]; rfl) (Steps.refl _) (argsL := []) (rest := []) (lenOf pd1 rfl) rfl (by show 2 * 0 + _ ≤ _; exact Nat.le_of_eq rfl) (hb hby at_25) (fun _ _ => ⟨rfl, ec219, (by decide : 0 + 0 ≤ _), (by decide : 0 + 0 ≤ _)⟩)
    dsimp only [Pt.U, Pt.locs, Pt.cells, Pt.slots] at Xc262 lc262 yc262 zc262 stc262 hQc262
    subst lc262 yc262 zc262
    obtain ⟨Nqc262, ec262, hAc262⟩ := hQc262
    have Nc262 := Fr.app Nc219 Nqc262
    obtain rfl := hAc262
    have p263 : ∀ t, St p e below Tc262 (mkF m 28 Ls260 [(.ref a_TRUE)]) t → S0 t := fun t k => p261 t (stc262.trans k)
    obtain ⟨cqc264, kqc264, qc264a, qc264b, qc264c⟩ := isOf hZ ec262 (Ea_TRUE.ext O0.2)
    obtain ⟨_, _, ⟨Tc264, Lc264, kc264, nc264⟩, -, Xc264, ⟨Lcc264, hQc264, lc264, yc264, zc264⟩, stc264⟩ := Xc262.virtualBack hx (y := M1) (z := M1) hown (mvT hZ (ww hw 8 rfl)) (mvT hZ (ww hw 9 rfl)) (notFace_of_selects (args := #[]) (mvT hZ (ww hw 11 rfl))) (mvT hZ (ww hw 11 rfl)) (mvT hZ (ww hw 10 rfl)) (by decide) (backOf (W := 0) (rm2_1 l Z a0 hw [] a_TRUE a_UNKNOWN a_FALSE h0 n0 O0 HE' ) hZ (ww hw 12 rfl) (ww hw 6 rfl) (by decide) (by decide)) qc264a qc264c (g := (mkF m 28 Ls260 [(.ref a_TRUE)])) rfl (by rw [hml]; rfl) (Steps.refl _) (argsL := []) (rest := []) (lenOf pd1 rfl) rfl (by show 2 * 0 + _ ≤ _; exact Nat.le_of_eq rfl) (hb hby at_28) (fun _ _ => ⟨rfl, ec262, (by decide : 0 + 0 ≤ _), (by decide : 0 + 0 ≤ _)⟩)
    dsimp only [Pt.U, Pt.locs, Pt.cells, Pt.slots] at Xc264 lc264 yc264 zc264 stc264 hQc264
    subst lc264 yc264 zc264
    obtain ⟨Nqc264, ec264, hAc264⟩ := hQc264
    have Nc264 := Fr.app Nc262 Nqc264
    obtain rfl := hAc264
    have p265 : ∀ t, St p e below Tc264 (mkF m 31 Ls260 [(.ref a_FALSE)]) t → S0 t := fun t k => p263 t (stc264.trans k)
    let Ls266 : Array Slot := #[.val (.int i0), .val (.int i1), .val (.int i2), .val (.ref a_FALSE), .val (.ref a_TRUE), .val (.int (1 : Int32)), .val (.int (1 : Int32)), .unset, .unset]
    have p267 : ∀ t, St p e below Tc264 (mkF m 44 Ls266 [(.int (1 : Int32))]) t → S0 t := fun t k => p265 t (by
      show St p e below Tc264 (mkF m 31 Ls260 [(.ref a_FALSE)]) t
      refine XS.aloadN Xc264.here hx rfl (hb hby at_31) rfl rfl ?_
      show St p e below Tc264 (mkF m 32 Ls260 [(.ref a_FALSE), (.ref a_FALSE)]) t
      refine Jvm.RoadKit.acmp (g := (mkF m 32 Ls260 [(.ref a_FALSE), (.ref a_FALSE)])) Xc264 hx rfl rfl rfl (pc0 := 32) (pc' := 35) (same := true) rfl (hb hby at_32) rfl (decide_eq_true rfl) (by decide) (by decide) ?_
      show St p e below Tc264 (mkF m 35 Ls260 []) t
      refine XT.iconstV Xc264.here hx rfl (1 : Int32) (hb hby at_35) (by decide) ?_
      show St p e below Tc264 (mkF m 36 Ls260 [(.int (1 : Int32))]) t
      refine XS.goto Xc264.here hx rfl (pc0 := 36) (pc' := 40) rfl (hb hby at_36) (by decide) (by decide) ?_
      show St p e below Tc264 (mkF m 40 Ls260 [(.int (1 : Int32))]) t
      refine XS.istore Xc264.here hx rfl (hb hby at_40) rfl (l' := Ls266) rfl ?_
      show St p e below Tc264 (mkF m 42 Ls266 []) t
      refine XS.iload Xc264.here hx rfl (hb hby at_42) rfl ?_
      exact k)
    obtain ⟨_, _, ⟨Tc268, Lc268, kc268, nc268⟩, -, Xc268, ⟨Lcc268, hQc268, lc268, yc268, zc268⟩, stc268⟩ := Jvm.LawKit.callS Xc264 hx (y := M2) hown (mvT hZ (ww hw 18 rfl)) (mvT hZ (ww hw 19 rfl)) (mvT hZ (ww hw 6 rfl)) (mvT hZ (ww hw 20 rfl)) (by decide) (backOf (W := 0) (rm3_4 l Z a0 hw [] a_TRUE a_UNKNOWN a_FALSE h0 n0 O0 HE' ) hZ (ww hw 20 rfl) (ww hw 6 rfl) (by decide) (by decide)) (g := (mkF m 44 Ls266 [(.int (1 : Int32))])) rfl (by rw [hml]; rfl) (argsL := [(.int (1 : Int32))]) (rest := []) (lenOf pd2 rfl) rfl (by show 2 * 0 + _ ≤ _; exact Nat.le_of_eq rfl) (hb hby at_44) (fun _ _ => ⟨rfl, ec264, (by decide : 0 + 0 ≤ _), (by decide : 0 + 0 ≤ _)⟩)
    dsimp only [Pt.U, Pt.locs, Pt.cells, Pt.slots] at Xc268 lc268 yc268 zc268 stc268 hQc268
    subst lc268 yc268 zc268
    obtain ⟨Nqc268, ec268, hAc268⟩ := hQc268
    have Nc268 := Fr.app Nc264 Nqc268
    obtain rfl := hAc268
    have p269 : ∀ t, St p e below Tc268 (mkF m 47 Ls266 [(.ref a_TRUE)]) t → S0 t := fun t k => p267 t (stc268 t k)
    obtain ⟨cqc270, kqc270, qc270a, qc270b, qc270c⟩ := isOf hZ ec268 (Ea_TRUE.ext O0.2)
    obtain ⟨_, _, ⟨Tc270, Lc270, kc270, nc270⟩, -, Xc270, ⟨Lcc270, hQc270, lc270, yc270, zc270⟩, stc270⟩ := Xc268.virtualBack hx (y := M1) (z := M1) hown (mvT hZ (ww hw 8 rfl)) (mvT hZ (ww hw 9 rfl)) (notFace_of_selects (args := #[]) (mvT hZ (ww hw 11 rfl))) (mvT hZ (ww hw 11 rfl)) (mvT hZ (ww hw 10 rfl)) (by decide) (backOf (W := 0) (rm2_1 l Z a0 hw [] a_TRUE a_UNKNOWN a_FALSE h0 n0 O0 HE' ) hZ (ww hw 12 rfl) (ww hw 6 rfl) (by decide) (by decide)) qc270a qc270c (g := (mkF m 47 Ls266 [(.ref a_TRUE)])) rfl (by rw [hml]; rfl) (Steps.refl _) (argsL := []) (rest := []) (lenOf pd1 rfl) rfl (by show 2 * 0 + _ ≤ _; exact Nat.le_of_eq rfl) (hb hby at_47) (fun _ _ => ⟨rfl, ec268, (by decide : 0 + 0 ≤ _), (by decide : 0 + 0 ≤ _)⟩)
    dsimp only [Pt.U, Pt.locs, Pt.cells, Pt.slots] at Xc270 lc270 yc270 zc270 stc270 hQc270
    subst lc270 yc270 zc270
    obtain ⟨Nqc270, ec270, hAc270⟩ := hQc270
    have Nc270 := Fr.app Nc268 Nqc270
    obtain rfl := hAc270
    have p271 : ∀ t, St p e below Tc270 (mkF m 50 Ls266 [(.ref a_FALSE)]) t → S0 t := fun t k => p269 t (stc270.trans k)
    have p272 : ∀ t, St p e below Tc270 (mkF m 60 Ls266 [(.int (0 : Int32)), (.ref a_FALSE)]) t → S0 t := fun t k => p271 t (by
      show St p e below Tc270 (mkF m 50 Ls266 [(.ref a_FALSE)]) t
      refine XS.iload Xc270.here hx rfl (hb hby at_50) rfl ?_
      show St p e below Tc270 (mkF m 52 Ls266 [(.int (1 : Int32)), (.ref a_FALSE)]) t
      refine XS.ifYes Xc270.here hx rfl (pc0 := 52) (pc' := 59) rfl (hb hby at_52) rfl ((if0 _ _).trans (feq (by decide : ¬ ((1 : Int32) = (0 : Int32)))).2) (by decide) (by decide) ?_
      show St p e below Tc270 (mkF m 59 Ls266 [(.ref a_FALSE)]) t
      refine XT.iconstV Xc270.here hx rfl (0 : Int32) (hb hby at_59) (by decide) ?_
      exact k)
    obtain ⟨_, _, ⟨Tc273, Lc273, kc273, nc273⟩, -, Xc273, ⟨Lcc273, hQc273, lc273, yc273, zc273⟩, stc273⟩ := Jvm.LawKit.callS Xc270 hx (y := M2) hown (mvT hZ (ww hw 18 rfl)) (mvT hZ (ww hw 19 rfl)) (mvT hZ (ww hw 6 rfl)) (mvT hZ (ww hw 20 rfl)) (by decide) (backOf (W := 1) (rm3_3 l Z a0 hw [] a_TRUE a_UNKNOWN a_FALSE h0 n0 O0 HE' ) hZ (ww hw 20 rfl) (ww hw 6 rfl) (by decide) (by decide)) (g := (mkF m 60 Ls266 [(.int (0 : Int32)), (.ref a_FALSE)])) rfl (by rw [hml]; rfl) (argsL := [(.int (0 : Int32))]) (rest := [(.ref a_FALSE)]) (lenOf pd2 rfl) rfl (by show 2 * 0 + _ ≤ _; exact Nat.le_of_eq rfl) (hb hby at_60) (fun _ _ => ⟨rfl, ec270, (by decide : 0 + 0 ≤ _), (by decide : 0 + 0 ≤ _)⟩)
    dsimp only [Pt.U, Pt.locs, Pt.cells, Pt.slots] at Xc273 lc273 yc273 zc273 stc273 hQc273
    subst lc273 yc273 zc273
    obtain ⟨Nqc273, ec273, hAc273⟩ := hQc273
    have Nc273 := Fr.app Nc270 Nqc273
    obtain rfl := hAc273
    have p274 : ∀ t, St p e below Tc273 (mkF m 63 Ls266 [(.ref a_FALSE), (.ref a_FALSE)]) t → S0 t := fun t k => p272 t (stc273 t k)
    let Ls275 : Array Slot := #[.val (.int i0), .val (.int i1), .val (.int i2), .val (.ref a_FALSE), .val (.ref a_TRUE), .val (.int (1 : Int32)), .val (.int (1 : Int32)), .val (.int (1 : Int32)), .unset]
    have p276 : ∀ t, St p e below Tc273 (mkF m 76 Ls275 [(.ref a_TRUE), (.ref a_FALSE)]) t → S0 t := fun t k => p274 t (by
      show St p e below Tc273 (mkF m 63 Ls266 [(.ref a_FALSE), (.ref a_FALSE)]) t
      refine Jvm.RoadKit.acmp (g := (mkF m 63 Ls266 [(.ref a_FALSE), (.ref a_FALSE)])) Xc273 hx rfl rfl rfl (pc0 := 63) (pc' := 66) (same := true) rfl (hb hby at_63) rfl (decide_eq_true rfl) (by decide) (by decide) ?_
      show St p e below Tc273 (mkF m 66 Ls266 []) t
      refine XT.iconstV Xc273.here hx rfl (1 : Int32) (hb hby at_66) (by decide) ?_
      show St p e below Tc273 (mkF m 67 Ls266 [(.int (1 : Int32))]) t
      refine XS.goto Xc273.here hx rfl (pc0 := 67) (pc' := 71) rfl (hb hby at_67) (by decide) (by decide) ?_
      show St p e below Tc273 (mkF m 71 Ls266 [(.int (1 : Int32))]) t
      refine XS.istore Xc273.here hx rfl (hb hby at_71) rfl (l' := Ls275) rfl ?_
      show St p e below Tc273 (mkF m 73 Ls275 []) t
      refine XS.aloadN Xc273.here hx rfl (hb hby at_73) rfl rfl ?_
      show St p e below Tc273 (mkF m 74 Ls275 [(.ref a_FALSE)]) t
      refine XS.aload Xc273.here hx rfl (hb hby at_74) rfl rfl ?_
      exact k)
    obtain ⟨cqc277, kqc277, qc277a, qc277b, qc277c⟩ := isOf hZ ec273 (Ea_FALSE.ext O0.2)
    obtain ⟨_, _, ⟨Tc277, Lc277, kc277, nc277⟩, -, Xc277, ⟨Lcc277, hQc277, lc277, yc277, zc277⟩, stc277⟩ := Xc273.virtualBack hx (y := M3) (z := M3) hown (mvT hZ (ww hw 21 rfl)) (mvT hZ (ww hw 22 rfl)) (notFace_of_selects (args := #[]) (mvT hZ (ww hw 24 rfl))) (mvT hZ (ww hw 24 rfl)) (mvT hZ (ww hw 23 rfl)) (by decide) (backOf (W := 0) (rm4_12 l Z a0 hw [] a_TRUE a_UNKNOWN a_FALSE h0 n0 O0 HE' ) hZ (ww hw 25 rfl) (ww hw 6 rfl) (by decide) (by decide)) qc277a qc277c (g := (mkF m 76 Ls275 [(.ref a_TRUE), (.ref a_FALSE)])) rfl (by rw [hml]; rfl) (Steps.refl _) (argsL := [(.ref a_TRUE)]) (rest := []) (lenOf pd3 rfl) rfl (by show 2 * 0 + _ ≤ _; exact Nat.le_of_eq rfl) (hb hby at_76) (fun _ _ => ⟨rfl, ec273, (by decide : 0 + 0 ≤ _), (by decide : 0 + 0 ≤ _)⟩)
    dsimp only [Pt.U, Pt.locs, Pt.cells, Pt.slots] at Xc277 lc277 yc277 zc277 stc277 hQc277
    subst lc277 yc277 zc277
    obtain ⟨Nqc277, ec277, hAc277⟩ := hQc277
    have Nc277 := Fr.app Nc273 Nqc277
    obtain rfl := hAc277
    have p278 : ∀ t, St p e below Tc277 (mkF m 79 Ls275 [(.ref a_FALSE)]) t → S0 t := fun t k => p276 t (stc277.trans k)
    obtain ⟨cqc279, kqc279, qc279a, qc279b, qc279c⟩ := isOf hZ ec277 (Ea_FALSE.ext O0.2)
    obtain ⟨_, _, ⟨Tc279, Lc279, kc279, nc279⟩, -, Xc279, ⟨Lcc279, hQc279, lc279, yc279, zc279⟩, stc279⟩ := Xc277.virtualBack hx (y := M1) (z := M1) hown (mvT hZ (ww hw 8 rfl)) (mvT hZ (ww hw 9 rfl)) (notFace_of_selects (args := #[]) (mvT hZ (ww hw 11 rfl))) (mvT hZ (ww hw 11 rfl)) (mvT hZ (ww hw 10 rfl)) (by decide) (backOf (W := 0) (rm2_2 l Z a0 hw [] a_TRUE a_UNKNOWN a_FALSE h0 n0 O0 HE' ) hZ (ww hw 12 rfl) (ww hw 6 rfl) (by decide) (by decide)) qc279a qc279c (g := (mkF m 79 Ls275 [(.ref a_FALSE)])) rfl (by rw [hml]; rfl) (Steps.refl _) (argsL := []) (rest := []) (lenOf pd1 rfl) rfl (by show 2 * 0 + _ ≤ _; exact Nat.le_of_eq rfl) (hb hby at_79) (fun _ _ => ⟨rfl, ec277, (by decide : 0 + 0 ≤ _), (by decide : 0 + 0 ≤ _)⟩)
    dsimp only [Pt.U, Pt.locs, Pt.cells, Pt.slots] at Xc279 lc279 yc279 zc279 stc279 hQc279
    subst lc279 yc279 zc279
    obtain ⟨Nqc279, ec279, hAc279⟩ := hQc279
    have Nc279 := Fr.app Nc277 Nqc279
    obtain rfl := hAc279
    have p280 : ∀ t, St p e below Tc279 (mkF m 82 Ls275 [(.ref a_TRUE)]) t → S0 t := fun t k => p278 t (stc279.trans k)
    have p281 : ∀ t, St p e below Tc279 (mkF m 83 Ls275 [(.ref a_FALSE), (.ref a_TRUE)]) t → S0 t := fun t k => p280 t (by
      show St p e below Tc279 (mkF m 82 Ls275 [(.ref a_TRUE)]) t
      refine XS.aloadN Xc279.here hx rfl (hb hby at_82) rfl rfl ?_
      exact k)
    obtain ⟨cqc282, kqc282, qc282a, qc282b, qc282c⟩ := isOf hZ ec279 (Ea_FALSE.ext O0.2)
    obtain ⟨_, _, ⟨Tc282, Lc282, kc282, nc282⟩, -, Xc282, ⟨Lcc282, hQc282, lc282, yc282, zc282⟩, stc282⟩ := Xc279.virtualBack hx (y := M1) (z := M1) hown (mvT hZ (ww hw 8 rfl)) (mvT hZ (ww hw 9 rfl)) (notFace_of_selects (args := #[]) (mvT hZ (ww hw 11 rfl))) (mvT hZ (ww hw 11 rfl)) (mvT hZ (ww hw 10 rfl)) (by decide) (backOf (W := 1) (rm2_2 l Z a0 hw [] a_TRUE a_UNKNOWN a_FALSE h0 n0 O0 HE' ) hZ (ww hw 12 rfl) (ww hw 6 rfl) (by decide) (by decide)) qc282a qc282c (g := (mkF m 83 Ls275 [(.ref a_FALSE), (.ref a_TRUE)])) rfl (by rw [hml]; rfl) (Steps.refl _) (argsL := []) (rest := [(.ref a_TRUE)]) (lenOf pd1 rfl) rfl (by show 2 * 0 + _ ≤ _; exact Nat.le_of_eq rfl) (hb hby at_83) (fun _ _ => ⟨rfl, ec279, (by decide : 0 + 0 ≤ _), (by decide : 0 + 0 ≤ _)⟩)
    dsimp only [Pt.U, Pt.locs, Pt.cells, Pt.slots] at Xc282 lc282 yc282 zc282 stc282 hQc282
    subst lc282 yc282 zc282
    obtain ⟨Nqc282, ec282, hAc282⟩ := hQc282
    have Nc282 := Fr.app Nc279 Nqc282
    obtain rfl := hAc282
    have p283 : ∀ t, St p e below Tc282 (mkF m 86 Ls275 [(.ref a_TRUE), (.ref a_TRUE)]) t → S0 t := fun t k => p281 t (stc282.trans k)
    have p284 : ∀ t, St p e below Tc282 (mkF m 88 Ls275 [(.ref a_TRUE), (.ref a_TRUE), (.ref a_TRUE)]) t → S0 t := fun t k => p283 t (by
      show St p e below Tc282 (mkF m 86 Ls275 [(.ref a_TRUE), (.ref a_TRUE)]) t
      refine XS.aload Xc282.here hx rfl (hb hby at_86) rfl rfl ?_
      exact k)
    obtain ⟨cqc285, kqc285, qc285a, qc285b, qc285c⟩ := isOf hZ ec282 (Ea_TRUE.ext O0.2)
    obtain ⟨_, _, ⟨Tc285, Lc285, kc285, nc285⟩, -, Xc285, ⟨Lcc285, hQc285, lc285, yc285, zc285⟩, stc285⟩ := Xc282.virtualBack hx (y := M1) (z := M1) hown (mvT hZ (ww hw 8 rfl)) (mvT hZ (ww hw 9 rfl)) (notFace_of_selects (args := #[]) (mvT hZ (ww hw 11 rfl))) (mvT hZ (ww hw 11 rfl)) (mvT hZ (ww hw 10 rfl)) (by decide) (backOf (W := 2) (rm2_1 l Z a0 hw [] a_TRUE a_UNKNOWN a_FALSE h0 n0 O0 HE' ) hZ (ww hw 12 rfl) (ww hw 6 rfl) (by decide) (by decide)) qc285a qc285c (g := (mkF m 88 Ls275 [(.ref a_TRUE), (.ref a_TRUE), (.ref a_TRUE)])) rfl (by rw [hml]; rfl) (Steps.refl _) (argsL := []) (rest := [(.ref a_TRUE), (.ref a_TRUE)]) (lenOf pd1 rfl) rfl (by show 2 * 0 + _ ≤ _; exact Nat.le_of_eq rfl) (hb hby at_88) (fun _ _ => ⟨rfl, ec282, (by decide : 0 + 0 ≤ _), (by decide : 0 + 0 ≤ _)⟩)
    dsimp only [Pt.U, Pt.locs, Pt.cells, Pt.slots] at Xc285 lc285 yc285 zc285 stc285 hQc285
    subst lc285 yc285 zc285
    obtain ⟨Nqc285, ec285, hAc285⟩ := hQc285
    have Nc285 := Fr.app Nc282 Nqc285
    obtain rfl := hAc285
    have p286 : ∀ t, St p e below Tc285 (mkF m 91 Ls275 [(.ref a_FALSE), (.ref a_TRUE), (.ref a_TRUE)]) t → S0 t := fun t k => p284 t (stc285.trans k)
    obtain ⟨cqc287, kqc287, qc287a, qc287b, qc287c⟩ := isOf hZ ec285 (Ea_TRUE.ext O0.2)
    obtain ⟨_, _, ⟨Tc287, Lc287, kc287, nc287⟩, -, Xc287, ⟨Lcc287, hQc287, lc287, yc287, zc287⟩, stc287⟩ := Xc285.virtualBack hx (y := M4) (z := M4) hown (mvT hZ (ww hw 26 rfl)) (mvT hZ (ww hw 27 rfl)) (notFace_of_selects (args := #[]) (mvT hZ (ww hw 29 rfl))) (mvT hZ (ww hw 29 rfl)) (mvT hZ (ww hw 28 rfl)) (by decide) (backOf (W := 1) (rm5_13 l Z a0 hw [] a_TRUE a_UNKNOWN a_FALSE h0 n0 O0 HE' ) hZ (ww hw 30 rfl) (ww hw 6 rfl) (by decide) (by decide)) qc287a qc287c (g := (mkF m 91 Ls275 [(.ref a_FALSE), (.ref a_TRUE), (.ref a_TRUE)])) rfl (by rw [hml]; rfl) (Steps.refl _) (argsL := [(.ref a_FALSE)]) (rest := [(.ref a_TRUE)]) (lenOf pd3 rfl) rfl (by show 2 * 0 + _ ≤ _; exact Nat.le_of_eq rfl) (hb hby at_91) (fun _ _ => ⟨rfl, ec285, (by decide : 0 + 0 ≤ _), (by decide : 0 + 0 ≤ _)⟩)
    dsimp only [Pt.U, Pt.locs, Pt.cells, Pt.slots] at Xc287 lc287 yc287 zc287 stc287 hQc287
    subst lc287 yc287 zc287
    obtain ⟨Nqc287, ec287, hAc287⟩ := hQc287
    have Nc287 := Fr.app Nc285 Nqc287
    obtain rfl := hAc287
    have p288 : ∀ t, St p e below Tc287 (mkF m 94 Ls275 [(.ref a_TRUE), (.ref a_TRUE)]) t → S0 t := fun t k => p286 t (stc287.trans k)
    let Ls289 : Array Slot := #[.val (.int i0), .val (.int i1), .val (.int i2), .val (.ref a_FALSE), .val (.ref a_TRUE), .val (.int (1 : Int32)), .val (.int (1 : Int32)), .val (.int (1 : Int32)), .val (.int (1 : Int32))]
    have p290 : ∀ t, St p e below Tc287 (mkF m 124 Ls289 [(.int (1 : Int32))]) t → S0 t := fun t k => p288 t (by
      show St p e below Tc287 (mkF m 94 Ls275 [(.ref a_TRUE), (.ref a_TRUE)]) t
      refine Jvm.RoadKit.acmp (g := (mkF m 94 Ls275 [(.ref a_TRUE), (.ref a_TRUE)])) Xc287 hx rfl rfl rfl (pc0 := 94) (pc' := 97) (same := true) rfl (hb hby at_94) rfl (decide_eq_true rfl) (by decide) (by decide) ?_
      show St p e below Tc287 (mkF m 97 Ls275 []) t
      refine XT.iconstV Xc287.here hx rfl (1 : Int32) (hb hby at_97) (by decide) ?_
      show St p e below Tc287 (mkF m 98 Ls275 [(.int (1 : Int32))]) t
      refine XS.goto Xc287.here hx rfl (pc0 := 98) (pc' := 102) rfl (hb hby at_98) (by decide) (by decide) ?_
      show St p e below Tc287 (mkF m 102 Ls275 [(.int (1 : Int32))]) t
      refine XS.istore Xc287.here hx rfl (hb hby at_102) rfl (l' := Ls289) rfl ?_
      show St p e below Tc287 (mkF m 104 Ls289 []) t
      refine XS.iload Xc287.here hx rfl (hb hby at_104) rfl ?_
      show St p e below Tc287 (mkF m 106 Ls289 [(.int (1 : Int32))]) t
      refine XS.ifNo Xc287.here hx rfl (hb hby at_106) rfl ((if0 _ _).trans (feq (by decide : ¬ ((1 : Int32) = (0 : Int32)))).1) ?_
      show St p e below Tc287 (mkF m 109 Ls289 []) t
      refine XS.iload Xc287.here hx rfl (hb hby at_109) rfl ?_
      show St p e below Tc287 (mkF m 111 Ls289 [(.int (1 : Int32))]) t
      refine XS.ifNo Xc287.here hx rfl (hb hby at_111) rfl ((if0 _ _).trans (feq (by decide : ¬ ((1 : Int32) = (0 : Int32)))).1) ?_
      show St p e below Tc287 (mkF m 114 Ls289 []) t
      refine XS.iload Xc287.here hx rfl (hb hby at_114) rfl ?_
      show St p e below Tc287 (mkF m 116 Ls289 [(.int (1 : Int32))]) t
      refine XS.ifNo Xc287.here hx rfl (hb hby at_116) rfl ((if0 _ _).trans (feq (by decide : ¬ ((1 : Int32) = (0 : Int32)))).1) ?_
      show St p e below Tc287 (mkF m 119 Ls289 []) t
      refine XT.iconstV Xc287.here hx rfl (1 : Int32) (hb hby at_119) (by decide) ?_
      show St p e below Tc287 (mkF m 120 Ls289 [(.int (1 : Int32))]) t
      refine XS.goto Xc287.here hx rfl (pc0 := 120) (pc' := 124) rfl (hb hby at_120) (by decide) (by decide) ?_
      exact k)
    obtain ⟨fs, hr, hrun, hended, hW, hsame⟩ := Xc287.leave (v := some (.int (1 : Int32))) (fun h => by rw [Bd.returns] at h; cases h)
    refine ⟨_, _, p290 _ ?_, hrun, hended, _, _, rfl, ?_, ⟨_, rfl⟩, hW, hsame.mono (by decide) (by decide)⟩
    · exact retOut Xc287 hx Bd.returns rfl (Or.inl ⟨rfl, by simp, _, rfl⟩) (hb hby at_124) hr
    · exact ⟨rfl, Nc287⟩
  ·
   have p291 : ∀ t, St p e below Tc219 (mkF m 9 Ls217 [(.ref a_FALSE)]) t → S0 t := fun t k => p218 t (stc219 t k)
   let Ls292 : Array Slot := #[.val (.int i0), .val (.int i1), .val (.int i2), .val (.ref a_FALSE), .val (.ref a_FALSE), .unset, .unset, .unset, .unset]
   have p293 : ∀ t, St p e below Tc219 (mkF m 14 Ls292 [(.int (i2 &&& (1 : Int32)))]) t → S0 t := fun t k => p291 t (by
     show St p e below Tc219 (mkF m 9 Ls217 [(.ref a_FALSE)]) t
     refine XS.astore Xc219.here hx rfl (hb hby at_9) rfl rfl (l' := Ls292) rfl ?_
     show St p e below Tc219 (mkF m 11 Ls292 []) t
     refine XS.iloadN Xc219.here hx rfl (hb hby at_11) rfl ?_
     show St p e below Tc219 (mkF m 12 Ls292 [(.int i2)]) t
     refine XT.iconstV Xc219.here hx rfl (1 : Int32) (hb hby at_12) (by decide) ?_
     show St p e below Tc219 (mkF m 13 Ls292 [(.int (1 : Int32)), (.int i2)]) t
     refine XS.iand Xc219.here hx rfl (hb hby at_13) rfl ?_
     exact k)
   by_cases g294 : (i2 &&& (1 : Int32)) = (0 : Int32)
   ·
    let Ls295 : Array Slot := #[.val (.int i0), .val (.int i1), .val (.int i2), .val (.ref a_FALSE), .val (.ref a_FALSE), .val (.int (0 : Int32)), .unset, .unset, .unset]
    have p296 : ∀ t, St p e below Tc219 (mkF m 25 Ls295 [(.ref a_FALSE)]) t → S0 t := fun t k => p293 t (by
      show St p e below Tc219 (mkF m 14 Ls292 [(.int (i2 &&& (1 : Int32)))]) t
      refine XS.ifYes Xc219.here hx rfl (pc0 := 14) (pc' := 21) rfl (hb hby at_14) rfl ((if0 _ _).trans (teq g294).1) (by decide) (by decide) ?_
      show St p e below Tc219 (mkF m 21 Ls292 []) t
      refine XT.iconstV Xc219.here hx rfl (0 : Int32) (hb hby at_21) (by decide) ?_
      show St p e below Tc219 (mkF m 22 Ls292 [(.int (0 : Int32))]) t
      refine XS.istore Xc219.here hx rfl (hb hby at_22) rfl (l' := Ls295) rfl ?_
      show St p e below Tc219 (mkF m 24 Ls295 []) t
      refine XS.aloadN Xc219.here hx rfl (hb hby at_24) rfl rfl ?_
      exact k)
    obtain ⟨cqc297, kqc297, qc297a, qc297b, qc297c⟩ := isOf hZ ec219 (Ea_FALSE.ext O0.2)
    obtain ⟨_, _, ⟨Tc297, Lc297, kc297, nc297⟩, -, Xc297, ⟨Lcc297, hQc297, lc297, yc297, zc297⟩, stc297⟩ := Xc219.virtualBack hx (y := M1) (z := M1) hown (mvT hZ (ww hw 8 rfl)) (mvT hZ (ww hw 9 rfl)) (notFace_of_selects (args := #[]) (mvT hZ (ww hw 11 rfl))) (mvT hZ (ww hw 11 rfl)) (mvT hZ (ww hw 10 rfl)) (by decide) (backOf (W := 0) (rm2_2 l Z a0 hw [] a_TRUE a_UNKNOWN a_FALSE h0 n0 O0 HE' ) hZ (ww hw 12 rfl) (ww hw 6 rfl) (by decide) (by decide)) qc297a qc297c (g := (mkF m 25 Ls295 [(.ref a_FALSE)])) rfl (by rw [hml]; rfl) (Steps.refl _) (argsL := []) (rest := []) (lenOf pd1 rfl) rfl (by show 2 * 0 + _ ≤ _; exact Nat.le_of_eq rfl) (hb hby at_25) (fun _ _ => ⟨rfl, ec219, (by decide : 0 + 0 ≤ _), (by decide : 0 + 0 ≤ _)⟩)
    dsimp only [Pt.U, Pt.locs, Pt.cells, Pt.slots] at Xc297 lc297 yc297 zc297 stc297 hQc297
    subst lc297 yc297 zc297
    obtain ⟨Nqc297, ec297, hAc297⟩ := hQc297
    have Nc297 := Fr.app Nc219 Nqc297
    obtain rfl := hAc297
    have p298 : ∀ t, St p e below Tc297 (mkF m 28 Ls295 [(.ref a_TRUE)]) t → S0 t := fun t k => p296 t (stc297.trans k)
    obtain ⟨cqc299, kqc299, qc299a, qc299b, qc299c⟩ := isOf hZ ec297 (Ea_TRUE.ext O0.2)
    obtain ⟨_, _, ⟨Tc299, Lc299, kc299, nc299⟩, -, Xc299, ⟨Lcc299, hQc299, lc299, yc299, zc299⟩, stc299⟩ := Xc297.virtualBack hx (y := M1) (z := M1) hown (mvT hZ (ww hw 8 rfl)) (mvT hZ (ww hw 9 rfl)) (notFace_of_selects (args := #[]) (mvT hZ (ww hw 11 rfl))) (mvT hZ (ww hw 11 rfl)) (mvT hZ (ww hw 10 rfl)) (by decide) (backOf (W := 0) (rm2_1 l Z a0 hw [] a_TRUE a_UNKNOWN a_FALSE h0 n0 O0 HE' ) hZ (ww hw 12 rfl) (ww hw 6 rfl) (by decide) (by decide)) qc299a qc299c (g := (mkF m 28 Ls295 [(.ref a_TRUE)])) rfl (by rw [hml]; rfl) (Steps.refl _) (argsL := []) (rest := []) (lenOf pd1 rfl) rfl (by show 2 * 0 + _ ≤ _; exact Nat.le_of_eq rfl) (hb hby at_28) (fun _ _ => ⟨rfl, ec297, (by decide : 0 + 0 ≤ _), (by decide : 0 + 0 ≤ _)⟩)
    dsimp only [Pt.U, Pt.locs, Pt.cells, Pt.slots] at Xc299 lc299 yc299 zc299 stc299 hQc299
    subst lc299 yc299 zc299
    obtain ⟨Nqc299, ec299, hAc299⟩ := hQc299
    have Nc299 := Fr.app Nc297 Nqc299
    obtain rfl := hAc299
    have p300 : ∀ t, St p e below Tc299 (mkF m 31 Ls295 [(.ref a_FALSE)]) t → S0 t := fun t k => p298 t (stc299.trans k)
    let Ls301 : Array Slot := #[.val (.int i0), .val (.int i1), .val (.int i2), .val (.ref a_FALSE), .val (.ref a_FALSE), .val (.int (0 : Int32)), .val (.int (1 : Int32)), .unset, .unset]
    have p302 : ∀ t, St p e below Tc299 (mkF m 44 Ls301 [(.int (0 : Int32))]) t → S0 t := fun t k => p300 t (by
      show St p e below Tc299 (mkF m 31 Ls295 [(.ref a_FALSE)]) t
      refine XS.aloadN Xc299.here hx rfl (hb hby at_31) rfl rfl ?_
      show St p e below Tc299 (mkF m 32 Ls295 [(.ref a_FALSE), (.ref a_FALSE)]) t
      refine Jvm.RoadKit.acmp (g := (mkF m 32 Ls295 [(.ref a_FALSE), (.ref a_FALSE)])) Xc299 hx rfl rfl rfl (pc0 := 32) (pc' := 35) (same := true) rfl (hb hby at_32) rfl (decide_eq_true rfl) (by decide) (by decide) ?_
      show St p e below Tc299 (mkF m 35 Ls295 []) t
      refine XT.iconstV Xc299.here hx rfl (1 : Int32) (hb hby at_35) (by decide) ?_
      show St p e below Tc299 (mkF m 36 Ls295 [(.int (1 : Int32))]) t
      refine XS.goto Xc299.here hx rfl (pc0 := 36) (pc' := 40) rfl (hb hby at_36) (by decide) (by decide) ?_
      show St p e below Tc299 (mkF m 40 Ls295 [(.int (1 : Int32))]) t
      refine XS.istore Xc299.here hx rfl (hb hby at_40) rfl (l' := Ls301) rfl ?_
      show St p e below Tc299 (mkF m 42 Ls301 []) t
      refine XS.iload Xc299.here hx rfl (hb hby at_42) rfl ?_
      exact k)
    obtain ⟨_, _, ⟨Tc303, Lc303, kc303, nc303⟩, -, Xc303, ⟨Lcc303, hQc303, lc303, yc303, zc303⟩, stc303⟩ := Jvm.LawKit.callS Xc299 hx (y := M2) hown (mvT hZ (ww hw 18 rfl)) (mvT hZ (ww hw 19 rfl)) (mvT hZ (ww hw 6 rfl)) (mvT hZ (ww hw 20 rfl)) (by decide) (backOf (W := 0) (rm3_3 l Z a0 hw [] a_TRUE a_UNKNOWN a_FALSE h0 n0 O0 HE' ) hZ (ww hw 20 rfl) (ww hw 6 rfl) (by decide) (by decide)) (g := (mkF m 44 Ls301 [(.int (0 : Int32))])) rfl (by rw [hml]; rfl) (argsL := [(.int (0 : Int32))]) (rest := []) (lenOf pd2 rfl) rfl (by show 2 * 0 + _ ≤ _; exact Nat.le_of_eq rfl) (hb hby at_44) (fun _ _ => ⟨rfl, ec299, (by decide : 0 + 0 ≤ _), (by decide : 0 + 0 ≤ _)⟩)
    dsimp only [Pt.U, Pt.locs, Pt.cells, Pt.slots] at Xc303 lc303 yc303 zc303 stc303 hQc303
    subst lc303 yc303 zc303
    obtain ⟨Nqc303, ec303, hAc303⟩ := hQc303
    have Nc303 := Fr.app Nc299 Nqc303
    obtain rfl := hAc303
    have p304 : ∀ t, St p e below Tc303 (mkF m 47 Ls301 [(.ref a_FALSE)]) t → S0 t := fun t k => p302 t (stc303 t k)
    obtain ⟨cqc305, kqc305, qc305a, qc305b, qc305c⟩ := isOf hZ ec303 (Ea_FALSE.ext O0.2)
    obtain ⟨_, _, ⟨Tc305, Lc305, kc305, nc305⟩, -, Xc305, ⟨Lcc305, hQc305, lc305, yc305, zc305⟩, stc305⟩ := Xc303.virtualBack hx (y := M1) (z := M1) hown (mvT hZ (ww hw 8 rfl)) (mvT hZ (ww hw 9 rfl)) (notFace_of_selects (args := #[]) (mvT hZ (ww hw 11 rfl))) (mvT hZ (ww hw 11 rfl)) (mvT hZ (ww hw 10 rfl)) (by decide) (backOf (W := 0) (rm2_2 l Z a0 hw [] a_TRUE a_UNKNOWN a_FALSE h0 n0 O0 HE' ) hZ (ww hw 12 rfl) (ww hw 6 rfl) (by decide) (by decide)) qc305a qc305c (g := (mkF m 47 Ls301 [(.ref a_FALSE)])) rfl (by rw [hml]; rfl) (Steps.refl _) (argsL := []) (rest := []) (lenOf pd1 rfl) rfl (by show 2 * 0 + _ ≤ _; exact Nat.le_of_eq rfl) (hb hby at_47) (fun _ _ => ⟨rfl, ec303, (by decide : 0 + 0 ≤ _), (by decide : 0 + 0 ≤ _)⟩)
    dsimp only [Pt.U, Pt.locs, Pt.cells, Pt.slots] at Xc305 lc305 yc305 zc305 stc305 hQc305
    subst lc305 yc305 zc305
    obtain ⟨Nqc305, ec305, hAc305⟩ := hQc305
    have Nc305 := Fr.app Nc303 Nqc305
    obtain rfl := hAc305
    have p306 : ∀ t, St p e below Tc305 (mkF m 50 Ls301 [(.ref a_TRUE)]) t → S0 t := fun t k => p304 t (stc305.trans k)
    have p307 : ∀ t, St p e below Tc305 (mkF m 60 Ls301 [(.int (1 : Int32)), (.ref a_TRUE)]) t → S0 t := fun t k => p306 t (by
      show St p e below Tc305 (mkF m 50 Ls301 [(.ref a_TRUE)]) t
      refine XS.iload Xc305.here hx rfl (hb hby at_50) rfl ?_
      show St p e below Tc305 (mkF m 52 Ls301 [(.int (0 : Int32)), (.ref a_TRUE)]) t
      refine XS.ifNo Xc305.here hx rfl (hb hby at_52) rfl ((if0 _ _).trans (teq (by decide : (0 : Int32) = (0 : Int32))).2) ?_
      show St p e below Tc305 (mkF m 55 Ls301 [(.ref a_TRUE)]) t
      refine XT.iconstV Xc305.here hx rfl (1 : Int32) (hb hby at_55) (by decide) ?_
      show St p e below Tc305 (mkF m 56 Ls301 [(.int (1 : Int32)), (.ref a_TRUE)]) t
      refine XS.goto Xc305.here hx rfl (pc0 := 56) (pc' := 60) rfl (hb hby at_56) (by decide) (by decide) ?_
      exact k)
    obtain ⟨_, _, ⟨Tc308, Lc308, kc308, nc308⟩, -, Xc308, ⟨Lcc308, hQc308, lc308, yc308, zc308⟩, stc308⟩ := Jvm.LawKit.callS Xc305 hx (y := M2) hown (mvT hZ (ww hw 18 rfl)) (mvT hZ (ww hw 19 rfl)) (mvT hZ (ww hw 6 rfl)) (mvT hZ (ww hw 20 rfl)) (by decide) (backOf (W := 1) (rm3_4 l Z a0 hw [] a_TRUE a_UNKNOWN a_FALSE h0 n0 O0 HE' ) hZ (ww hw 20 rfl) (ww hw 6 rfl) (by decide) (by decide)) (g := (mkF m 60 Ls301 [(.int (1 : Int32)), (.ref a_TRUE)])) rfl (by rw [hml]; rfl) (argsL := [(.int (1 : Int32))]) (rest := [(.ref a_TRUE)]) (lenOf pd2 rfl) rfl (by show 2 * 0 + _ ≤ _; exact Nat.le_of_eq rfl) (hb hby at_60) (fun _ _ => ⟨rfl, ec305, (by decide : 0 + 0 ≤ _), (by decide : 0 + 0 ≤ _)⟩)
    dsimp only [Pt.U, Pt.locs, Pt.cells, Pt.slots] at Xc308 lc308 yc308 zc308 stc308 hQc308
    subst lc308 yc308 zc308
    obtain ⟨Nqc308, ec308, hAc308⟩ := hQc308
    have Nc308 := Fr.app Nc305 Nqc308
    obtain rfl := hAc308
    have p309 : ∀ t, St p e below Tc308 (mkF m 63 Ls301 [(.ref a_TRUE), (.ref a_TRUE)]) t → S0 t := fun t k => p307 t (stc308 t k)
    let Ls310 : Array Slot := #[.val (.int i0), .val (.int i1), .val (.int i2), .val (.ref a_FALSE), .val (.ref a_FALSE), .val (.int (0 : Int32)), .val (.int (1 : Int32)), .val (.int (1 : Int32)), .unset]
    have p311 : ∀ t, St p e below Tc308 (mkF m 76 Ls310 [(.ref a_FALSE), (.ref a_FALSE)]) t → S0 t := fun t k => p309 t (by
      show St p e below Tc308 (mkF m 63 Ls301 [(.ref a_TRUE), (.ref a_TRUE)]) t
      refine Jvm.RoadKit.acmp (g := (mkF m 63 Ls301 [(.ref a_TRUE), (.ref a_TRUE)])) Xc308 hx rfl rfl rfl (pc0 := 63) (pc' := 66) (same := true) rfl (hb hby at_63) rfl (decide_eq_true rfl) (by decide) (by decide) ?_
      show St p e below Tc308 (mkF m 66 Ls301 []) t
      refine XT.iconstV Xc308.here hx rfl (1 : Int32) (hb hby at_66) (by decide) ?_
      show St p e below Tc308 (mkF m 67 Ls301 [(.int (1 : Int32))]) t
      refine XS.goto Xc308.here hx rfl (pc0 := 67) (pc' := 71) rfl (hb hby at_67) (by decide) (by decide) ?_
      show St p e below Tc308 (mkF m 71 Ls301 [(.int (1 : Int32))]) t
      refine XS.istore Xc308.here hx rfl (hb hby at_71) rfl (l' := Ls310) rfl ?_
      show St p e below Tc308 (mkF m 73 Ls310 []) t
      refine XS.aloadN Xc308.here hx rfl (hb hby at_73) rfl rfl ?_
      show St p e below Tc308 (mkF m 74 Ls310 [(.ref a_FALSE)]) t
      refine XS.aload Xc308.here hx rfl (hb hby at_74) rfl rfl ?_
      exact k)
    obtain ⟨cqc312, kqc312, qc312a, qc312b, qc312c⟩ := isOf hZ ec308 (Ea_FALSE.ext O0.2)
    obtain ⟨_, _, ⟨Tc312, Lc312, kc312, nc312⟩, -, Xc312, ⟨Lcc312, hQc312, lc312, yc312, zc312⟩, stc312⟩ := Xc308.virtualBack hx (y := M3) (z := M3) hown (mvT hZ (ww hw 21 rfl)) (mvT hZ (ww hw 22 rfl)) (notFace_of_selects (args := #[]) (mvT hZ (ww hw 24 rfl))) (mvT hZ (ww hw 24 rfl)) (mvT hZ (ww hw 23 rfl)) (by decide) (backOf (W := 0) (rm4_14 l Z a0 hw [] a_TRUE a_UNKNOWN a_FALSE h0 n0 O0 HE' ) hZ (ww hw 25 rfl) (ww hw 6 rfl) (by decide) (by decide)) qc312a qc312c (g := (mkF m 76 Ls310 [(.ref a_FALSE), (.ref a_FALSE)])) rfl (by rw [hml]; rfl) (Steps.refl _) (argsL := [(.ref a_FALSE)]) (rest := []) (lenOf pd3 rfl) rfl (by show 2 * 0 + _ ≤ _; exact Nat.le_of_eq rfl) (hb hby at_76) (fun _ _ => ⟨rfl, ec308, (by decide : 0 + 0 ≤ _), (by decide : 0 + 0 ≤ _)⟩)
    dsimp only [Pt.U, Pt.locs, Pt.cells, Pt.slots] at Xc312 lc312 yc312 zc312 stc312 hQc312
    subst lc312 yc312 zc312
    obtain ⟨Nqc312, ec312, hAc312⟩ := hQc312
    have Nc312 := Fr.app Nc308 Nqc312
    obtain rfl := hAc312
    have p313 : ∀ t, St p e below Tc312 (mkF m 79 Ls310 [(.ref a_FALSE)]) t → S0 t := fun t k => p311 t (stc312.trans k)
    obtain ⟨cqc314, kqc314, qc314a, qc314b, qc314c⟩ := isOf hZ ec312 (Ea_FALSE.ext O0.2)
    obtain ⟨_, _, ⟨Tc314, Lc314, kc314, nc314⟩, -, Xc314, ⟨Lcc314, hQc314, lc314, yc314, zc314⟩, stc314⟩ := Xc312.virtualBack hx (y := M1) (z := M1) hown (mvT hZ (ww hw 8 rfl)) (mvT hZ (ww hw 9 rfl)) (notFace_of_selects (args := #[]) (mvT hZ (ww hw 11 rfl))) (mvT hZ (ww hw 11 rfl)) (mvT hZ (ww hw 10 rfl)) (by decide) (backOf (W := 0) (rm2_2 l Z a0 hw [] a_TRUE a_UNKNOWN a_FALSE h0 n0 O0 HE' ) hZ (ww hw 12 rfl) (ww hw 6 rfl) (by decide) (by decide)) qc314a qc314c (g := (mkF m 79 Ls310 [(.ref a_FALSE)])) rfl (by rw [hml]; rfl) (Steps.refl _) (argsL := []) (rest := []) (lenOf pd1 rfl) rfl (by show 2 * 0 + _ ≤ _; exact Nat.le_of_eq rfl) (hb hby at_79) (fun _ _ => ⟨rfl, ec312, (by decide : 0 + 0 ≤ _), (by decide : 0 + 0 ≤ _)⟩)
    dsimp only [Pt.U, Pt.locs, Pt.cells, Pt.slots] at Xc314 lc314 yc314 zc314 stc314 hQc314
    subst lc314 yc314 zc314
    obtain ⟨Nqc314, ec314, hAc314⟩ := hQc314
    have Nc314 := Fr.app Nc312 Nqc314
    obtain rfl := hAc314
    have p315 : ∀ t, St p e below Tc314 (mkF m 82 Ls310 [(.ref a_TRUE)]) t → S0 t := fun t k => p313 t (stc314.trans k)
    have p316 : ∀ t, St p e below Tc314 (mkF m 83 Ls310 [(.ref a_FALSE), (.ref a_TRUE)]) t → S0 t := fun t k => p315 t (by
      show St p e below Tc314 (mkF m 82 Ls310 [(.ref a_TRUE)]) t
      refine XS.aloadN Xc314.here hx rfl (hb hby at_82) rfl rfl ?_
      exact k)
    obtain ⟨cqc317, kqc317, qc317a, qc317b, qc317c⟩ := isOf hZ ec314 (Ea_FALSE.ext O0.2)
    obtain ⟨_, _, ⟨Tc317, Lc317, kc317, nc317⟩, -, Xc317, ⟨Lcc317, hQc317, lc317, yc317, zc317⟩, stc317⟩ := Xc314.virtualBack hx (y := M1) (z := M1) hown (mvT hZ (ww hw 8 rfl)) (mvT hZ (ww hw 9 rfl)) (notFace_of_selects (args := #[]) (mvT hZ (ww hw 11 rfl))) (mvT hZ (ww hw 11 rfl)) (mvT hZ (ww hw 10 rfl)) (by decide) (backOf (W := 1) (rm2_2 l Z a0 hw [] a_TRUE a_UNKNOWN a_FALSE h0 n0 O0 HE' ) hZ (ww hw 12 rfl) (ww hw 6 rfl) (by decide) (by decide)) qc317a qc317c (g := (mkF m 83 Ls310 [(.ref a_FALSE), (.ref a_TRUE)])) rfl (by rw [hml]; rfl) (Steps.refl _) (argsL := []) (rest := [(.ref a_TRUE)]) (lenOf pd1 rfl) rfl (by show 2 * 0 + _ ≤ _; exact Nat.le_of_eq rfl) (hb hby at_83) (fun _ _ => ⟨rfl, ec314, (by decide : 0 + 0 ≤ _), (by decide : 0 + 0 ≤ _)⟩)
    dsimp only [Pt.U, Pt.locs, Pt.cells, Pt.slots] at Xc317 lc317 yc317 zc317 stc317 hQc317
    subst lc317 yc317 zc317
    obtain ⟨Nqc317, ec317, hAc317⟩ := hQc317
    have Nc317 := Fr.app Nc314 Nqc317
    obtain rfl := hAc317
    have p318 : ∀ t, St p e below Tc317 (mkF m 86 Ls310 [(.ref a_TRUE), (.ref a_TRUE)]) t → S0 t := fun t k => p316 t (stc317.trans k)
    have p319 : ∀ t, St p e below Tc317 (mkF m 88 Ls310 [(.ref a_FALSE), (.ref a_TRUE), (.ref a_TRUE)]) t → S0 t := fun t k => p318 t (by
      show St p e below Tc317 (mkF m 86 Ls310 [(.ref a_TRUE), (.ref a_TRUE)]) t
      refine XS.aload Xc317.here hx rfl (hb hby at_86) rfl rfl ?_
      exact k)
    obtain ⟨cqc320, kqc320, qc320a, qc320b, qc320c⟩ := isOf hZ ec317 (Ea_FALSE.ext O0.2)
    obtain ⟨_, _, ⟨Tc320, Lc320, kc320, nc320⟩, -, Xc320, ⟨Lcc320, hQc320, lc320, yc320, zc320⟩, stc320⟩ := Xc317.virtualBack hx (y := M1) (z := M1) hown (mvT hZ (ww hw 8 rfl)) (mvT hZ (ww hw 9 rfl)) (notFace_of_selects (args := #[]) (mvT hZ (ww hw 11 rfl))) (mvT hZ (ww hw 11 rfl)) (mvT hZ (ww hw 10 rfl)) (by decide) (backOf (W := 2) (rm2_2 l Z a0 hw [] a_TRUE a_UNKNOWN a_FALSE h0 n0 O0 HE' ) hZ (ww hw 12 rfl) (ww hw 6 rfl) (by decide) (by decide)) qc320a qc320c (g := (mkF m 88 Ls310 [(.ref a_FALSE), (.ref a_TRUE), (.ref a_TRUE)])) rfl (by rw [hml]; rfl) (Steps.refl _) (argsL := []) (rest := [(.ref a_TRUE), (.ref a_TRUE)]) (lenOf pd1 rfl) rfl (by show 2 * 0 + _ ≤ _; exact Nat.le_of_eq rfl) (hb hby at_88) (fun _ _ => ⟨rfl, ec317, (by decide : 0 + 0 ≤ _), (by decide : 0 + 0 ≤ _)⟩)
    dsimp only [Pt.U, Pt.locs, Pt.cells, Pt.slots] at Xc320 lc320 yc320 zc320 stc320 hQc320
    subst lc320 yc320 zc320
    obtain ⟨Nqc320, ec320, hAc320⟩ := hQc320
    have Nc320 := Fr.app Nc317 Nqc320
    obtain rfl := hAc320
    have p321 : ∀ t, St p e below Tc320 (mkF m 91 Ls310 [(.ref a_TRUE), (.ref a_TRUE), (.ref a_TRUE)]) t → S0 t := fun t k => p319 t (stc320.trans k)
    obtain ⟨cqc322, kqc322, qc322a, qc322b, qc322c⟩ := isOf hZ ec320 (Ea_TRUE.ext O0.2)
    obtain ⟨_, _, ⟨Tc322, Lc322, kc322, nc322⟩, -, Xc322, ⟨Lcc322, hQc322, lc322, yc322, zc322⟩, stc322⟩ := Xc320.virtualBack hx (y := M4) (z := M4) hown (mvT hZ (ww hw 26 rfl)) (mvT hZ (ww hw 27 rfl)) (notFace_of_selects (args := #[]) (mvT hZ (ww hw 29 rfl))) (mvT hZ (ww hw 29 rfl)) (mvT hZ (ww hw 28 rfl)) (by decide) (backOf (W := 1) (rm5_15 l Z a0 hw [] a_TRUE a_UNKNOWN a_FALSE h0 n0 O0 HE' ) hZ (ww hw 30 rfl) (ww hw 6 rfl) (by decide) (by decide)) qc322a qc322c (g := (mkF m 91 Ls310 [(.ref a_TRUE), (.ref a_TRUE), (.ref a_TRUE)])) rfl (by rw [hml]; rfl) (Steps.refl _) (argsL := [(.ref a_TRUE)]) (rest := [(.ref a_TRUE)]) (lenOf pd3 rfl) rfl (by show 2 * 0 + _ ≤ _; exact Nat.le_of_eq rfl) (hb hby at_91) (fun _ _ => ⟨rfl, ec320, (by decide : 0 + 0 ≤ _), (by decide : 0 + 0 ≤ _)⟩)
    dsimp only [Pt.U, Pt.locs, Pt.cells, Pt.slots] at Xc322 lc322 yc322 zc322 stc322 hQc322
    subst lc322 yc322 zc322
    obtain ⟨Nqc322, ec322, hAc322⟩ := hQc322
    have Nc322 := Fr.app Nc320 Nqc322
    obtain rfl := hAc322
    have p323 : ∀ t, St p e below Tc322 (mkF m 94 Ls310 [(.ref a_TRUE), (.ref a_TRUE)]) t → S0 t := fun t k => p321 t (stc322.trans k)
    let Ls324 : Array Slot := #[.val (.int i0), .val (.int i1), .val (.int i2), .val (.ref a_FALSE), .val (.ref a_FALSE), .val (.int (0 : Int32)), .val (.int (1 : Int32)), .val (.int (1 : Int32)), .val (.int (1 : Int32))]
    have p325 : ∀ t, St p e below Tc322 (mkF m 124 Ls324 [(.int (1 : Int32))]) t → S0 t := fun t k => p323 t (by
      show St p e below Tc322 (mkF m 94 Ls310 [(.ref a_TRUE), (.ref a_TRUE)]) t
      refine Jvm.RoadKit.acmp (g := (mkF m 94 Ls310 [(.ref a_TRUE), (.ref a_TRUE)])) Xc322 hx rfl rfl rfl (pc0 := 94) (pc' := 97) (same := true) rfl (hb hby at_94) rfl (decide_eq_true rfl) (by decide) (by decide) ?_
      show St p e below Tc322 (mkF m 97 Ls310 []) t
      refine XT.iconstV Xc322.here hx rfl (1 : Int32) (hb hby at_97) (by decide) ?_
      show St p e below Tc322 (mkF m 98 Ls310 [(.int (1 : Int32))]) t
      refine XS.goto Xc322.here hx rfl (pc0 := 98) (pc' := 102) rfl (hb hby at_98) (by decide) (by decide) ?_
      show St p e below Tc322 (mkF m 102 Ls310 [(.int (1 : Int32))]) t
      refine XS.istore Xc322.here hx rfl (hb hby at_102) rfl (l' := Ls324) rfl ?_
      show St p e below Tc322 (mkF m 104 Ls324 []) t
      refine XS.iload Xc322.here hx rfl (hb hby at_104) rfl ?_
      show St p e below Tc322 (mkF m 106 Ls324 [(.int (1 : Int32))]) t
      refine XS.ifNo Xc322.here hx rfl (hb hby at_106) rfl ((if0 _ _).trans (feq (by decide : ¬ ((1 : Int32) = (0 : Int32)))).1) ?_
      show St p e below Tc322 (mkF m 109 Ls324 []) t
      refine XS.iload Xc322.here hx rfl (hb hby at_109) rfl ?_
      show St p e below Tc322 (mkF m 111 Ls324 [(.int (1 : Int32))]) t
      refine XS.ifNo Xc322.here hx rfl (hb hby at_111) rfl ((if0 _ _).trans (feq (by decide : ¬ ((1 : Int32) = (0 : Int32)))).1) ?_
      show St p e below Tc322 (mkF m 114 Ls324 []) t
      refine XS.iload Xc322.here hx rfl (hb hby at_114) rfl ?_
      show St p e below Tc322 (mkF m 116 Ls324 [(.int (1 : Int32))]) t
      refine XS.ifNo Xc322.here hx rfl (hb hby at_116) rfl ((if0 _ _).trans (feq (by decide : ¬ ((1 : Int32) = (0 : Int32)))).1) ?_
      show St p e below Tc322 (mkF m 119 Ls324 []) t
      refine XT.iconstV Xc322.here hx rfl (1 : Int32) (hb hby at_119) (by decide) ?_
      show St p e below Tc322 (mkF m 120 Ls324 [(.int (1 : Int32))]) t
      refine XS.goto Xc322.here hx rfl (pc0 := 120) (pc' := 124) rfl (hb hby at_120) (by decide) (by decide) ?_
      exact k)
    obtain ⟨fs, hr, hrun, hended, hW, hsame⟩ := Xc322.leave (v := some (.int (1 : Int32))) (fun h => by rw [Bd.returns] at h; cases h)
    refine ⟨_, _, p325 _ ?_, hrun, hended, _, _, rfl, ?_, ⟨_, rfl⟩, hW, hsame.mono (by decide) (by decide)⟩
    · exact retOut Xc322 hx Bd.returns rfl (Or.inl ⟨rfl, by simp, _, rfl⟩) (hb hby at_124) hr
    · exact ⟨rfl, Nc322⟩
   ·
    let Ls326 : Array Slot := #[.val (.int i0), .val (.int i1), .val (.int i2), .val (.ref a_FALSE), .val (.ref a_FALSE), .val (.int (1 : Int32)), .unset, .unset, .unset]
    have p327 : ∀ t, St p e below Tc219 (mkF m 25 Ls326 [(.ref a_FALSE)]) t → S0 t := fun t k => p293 t (by
      show St p e below Tc219 (mkF m 14 Ls292 [(.int (i2 &&& (1 : Int32)))]) t
      refine XS.ifNo Xc219.here hx rfl (hb hby at_14) rfl ((if0 _ _).trans (feq g294).1) ?_
      show St p e below Tc219 (mkF m 17 Ls292 []) t
      refine XT.iconstV Xc219.here hx rfl (1 : Int32) (hb hby at_17) (by decide) ?_
      show St p e below Tc219 (mkF m 18 Ls292 [(.int (1 : Int32))]) t
      refine XS.goto Xc219.here hx rfl (pc0 := 18) (pc' := 22) rfl (hb hby at_18) (by decide) (by decide) ?_
      show St p e below Tc219 (mkF m 22 Ls292 [(.int (1 : Int32))]) t
      refine XS.istore Xc219.here hx rfl (hb hby at_22) rfl (l' := Ls326) rfl ?_
      show St p e below Tc219 (mkF m 24 Ls326 []) t
      refine XS.aloadN Xc219.here hx rfl (hb hby at_24) rfl rfl ?_
      exact k)
    obtain ⟨cqc328, kqc328, qc328a, qc328b, qc328c⟩ := isOf hZ ec219 (Ea_FALSE.ext O0.2)
    obtain ⟨_, _, ⟨Tc328, Lc328, kc328, nc328⟩, -, Xc328, ⟨Lcc328, hQc328, lc328, yc328, zc328⟩, stc328⟩ := Xc219.virtualBack hx (y := M1) (z := M1) hown (mvT hZ (ww hw 8 rfl)) (mvT hZ (ww hw 9 rfl)) (notFace_of_selects (args := #[]) (mvT hZ (ww hw 11 rfl))) (mvT hZ (ww hw 11 rfl)) (mvT hZ (ww hw 10 rfl)) (by decide) (backOf (W := 0) (rm2_2 l Z a0 hw [] a_TRUE a_UNKNOWN a_FALSE h0 n0 O0 HE' ) hZ (ww hw 12 rfl) (ww hw 6 rfl) (by decide) (by decide)) qc328a qc328c (g := (mkF m 25 Ls326 [(.ref a_FALSE)])) rfl (by rw [hml]; rfl) (Steps.refl _) (argsL := []) (rest := []) (lenOf pd1 rfl) rfl (by show 2 * 0 + _ ≤ _; exact Nat.le_of_eq rfl) (hb hby at_25) (fun _ _ => ⟨rfl, ec219, (by decide : 0 + 0 ≤ _), (by decide : 0 + 0 ≤ _)⟩)
    dsimp only [Pt.U, Pt.locs, Pt.cells, Pt.slots] at Xc328 lc328 yc328 zc328 stc328 hQc328
    subst lc328 yc328 zc328
    obtain ⟨Nqc328, ec328, hAc328⟩ := hQc328
    have Nc328 := Fr.app Nc219 Nqc328
    obtain rfl := hAc328
    have p329 : ∀ t, St p e below Tc328 (mkF m 28 Ls326 [(.ref a_TRUE)]) t → S0 t := fun t k => p327 t (stc328.trans k)
    obtain ⟨cqc330, kqc330, qc330a, qc330b, qc330c⟩ := isOf hZ ec328 (Ea_TRUE.ext O0.2)
    obtain ⟨_, _, ⟨Tc330, Lc330, kc330, nc330⟩, -, Xc330, ⟨Lcc330, hQc330, lc330, yc330, zc330⟩, stc330⟩ := Xc328.virtualBack hx (y := M1) (z := M1) hown (mvT hZ (ww hw 8 rfl)) (mvT hZ (ww hw 9 rfl)) (notFace_of_selects (args := #[]) (mvT hZ (ww hw 11 rfl))) (mvT hZ (ww hw 11 rfl)) (mvT hZ (ww hw 10 rfl)) (by decide) (backOf (W := 0) (rm2_1 l Z a0 hw [] a_TRUE a_UNKNOWN a_FALSE h0 n0 O0 HE' ) hZ (ww hw 12 rfl) (ww hw 6 rfl) (by decide) (by decide)) qc330a qc330c (g := (mkF m 28 Ls326 [(.ref a_TRUE)])) rfl (by rw [hml]; rfl) (Steps.refl _) (argsL := []) (rest := []) (lenOf pd1 rfl) rfl (by show 2 * 0 + _ ≤ _; exact Nat.le_of_eq rfl) (hb hby at_28) (fun _ _ => ⟨rfl, ec328, (by decide : 0 + 0 ≤ _), (by decide : 0 + 0 ≤ _)⟩)
    dsimp only [Pt.U, Pt.locs, Pt.cells, Pt.slots] at Xc330 lc330 yc330 zc330 stc330 hQc330
    subst lc330 yc330 zc330
    obtain ⟨Nqc330, ec330, hAc330⟩ := hQc330
    have Nc330 := Fr.app Nc328 Nqc330
    obtain rfl := hAc330
    have p331 : ∀ t, St p e below Tc330 (mkF m 31 Ls326 [(.ref a_FALSE)]) t → S0 t := fun t k => p329 t (stc330.trans k)
    let Ls332 : Array Slot := #[.val (.int i0), .val (.int i1), .val (.int i2), .val (.ref a_FALSE), .val (.ref a_FALSE), .val (.int (1 : Int32)), .val (.int (1 : Int32)), .unset, .unset]
    have p333 : ∀ t, St p e below Tc330 (mkF m 44 Ls332 [(.int (1 : Int32))]) t → S0 t := fun t k => p331 t (by
      show St p e below Tc330 (mkF m 31 Ls326 [(.ref a_FALSE)]) t
      refine XS.aloadN Xc330.here hx rfl (hb hby at_31) rfl rfl ?_
      show St p e below Tc330 (mkF m 32 Ls326 [(.ref a_FALSE), (.ref a_FALSE)]) t
      refine Jvm.RoadKit.acmp (g := (mkF m 32 Ls326 [(.ref a_FALSE), (.ref a_FALSE)])) Xc330 hx rfl rfl rfl (pc0 := 32) (pc' := 35) (same := true) rfl (hb hby at_32) rfl (decide_eq_true rfl) (by decide) (by decide) ?_
      show St p e below Tc330 (mkF m 35 Ls326 []) t
      refine XT.iconstV Xc330.here hx rfl (1 : Int32) (hb hby at_35) (by decide) ?_
      show St p e below Tc330 (mkF m 36 Ls326 [(.int (1 : Int32))]) t
      refine XS.goto Xc330.here hx rfl (pc0 := 36) (pc' := 40) rfl (hb hby at_36) (by decide) (by decide) ?_
      show St p e below Tc330 (mkF m 40 Ls326 [(.int (1 : Int32))]) t
      refine XS.istore Xc330.here hx rfl (hb hby at_40) rfl (l' := Ls332) rfl ?_
      show St p e below Tc330 (mkF m 42 Ls332 []) t
      refine XS.iload Xc330.here hx rfl (hb hby at_42) rfl ?_
      exact k)
    obtain ⟨_, _, ⟨Tc334, Lc334, kc334, nc334⟩, -, Xc334, ⟨Lcc334, hQc334, lc334, yc334, zc334⟩, stc334⟩ := Jvm.LawKit.callS Xc330 hx (y := M2) hown (mvT hZ (ww hw 18 rfl)) (mvT hZ (ww hw 19 rfl)) (mvT hZ (ww hw 6 rfl)) (mvT hZ (ww hw 20 rfl)) (by decide) (backOf (W := 0) (rm3_4 l Z a0 hw [] a_TRUE a_UNKNOWN a_FALSE h0 n0 O0 HE' ) hZ (ww hw 20 rfl) (ww hw 6 rfl) (by decide) (by decide)) (g := (mkF m 44 Ls332 [(.int (1 : Int32))])) rfl (by rw [hml]; rfl) (argsL := [(.int (1 : Int32))]) (rest := []) (lenOf pd2 rfl) rfl (by show 2 * 0 + _ ≤ _; exact Nat.le_of_eq rfl) (hb hby at_44) (fun _ _ => ⟨rfl, ec330, (by decide : 0 + 0 ≤ _), (by decide : 0 + 0 ≤ _)⟩)
    dsimp only [Pt.U, Pt.locs, Pt.cells, Pt.slots] at Xc334 lc334 yc334 zc334 stc334 hQc334
    subst lc334 yc334 zc334
    obtain ⟨Nqc334, ec334, hAc334⟩ := hQc334
    have Nc334 := Fr.app Nc330 Nqc334
    obtain rfl := hAc334
    have p335 : ∀ t, St p e below Tc334 (mkF m 47 Ls332 [(.ref a_TRUE)]) t → S0 t := fun t k => p333 t (stc334 t k)
    obtain ⟨cqc336, kqc336, qc336a, qc336b, qc336c⟩ := isOf hZ ec334 (Ea_TRUE.ext O0.2)
    obtain ⟨_, _, ⟨Tc336, Lc336, kc336, nc336⟩, -, Xc336, ⟨Lcc336, hQc336, lc336, yc336, zc336⟩, stc336⟩ := Xc334.virtualBack hx (y := M1) (z := M1) hown (mvT hZ (ww hw 8 rfl)) (mvT hZ (ww hw 9 rfl)) (notFace_of_selects (args := #[]) (mvT hZ (ww hw 11 rfl))) (mvT hZ (ww hw 11 rfl)) (mvT hZ (ww hw 10 rfl)) (by decide) (backOf (W := 0) (rm2_1 l Z a0 hw [] a_TRUE a_UNKNOWN a_FALSE h0 n0 O0 HE' ) hZ (ww hw 12 rfl) (ww hw 6 rfl) (by decide) (by decide)) qc336a qc336c (g := (mkF m 47 Ls332 [(.ref a_TRUE)])) rfl (by rw [hml]; rfl) (Steps.refl _) (argsL := []) (rest := []) (lenOf pd1 rfl) rfl (by show 2 * 0 + _ ≤ _; exact Nat.le_of_eq rfl) (hb hby at_47) (fun _ _ => ⟨rfl, ec334, (by decide : 0 + 0 ≤ _), (by decide : 0 + 0 ≤ _)⟩)
    dsimp only [Pt.U, Pt.locs, Pt.cells, Pt.slots] at Xc336 lc336 yc336 zc336 stc336 hQc336
    subst lc336 yc336 zc336
    obtain ⟨Nqc336, ec336, hAc336⟩ := hQc336
    have Nc336 := Fr.app Nc334 Nqc336
    obtain rfl := hAc336
    have p337 : ∀ t, St p e below Tc336 (mkF m 50 Ls332 [(.ref a_FALSE)]) t → S0 t := fun t k => p335 t (stc336.trans k)
    have p338 : ∀ t, St p e below Tc336 (mkF m 60 Ls332 [(.int (0 : Int32)), (.ref a_FALSE)]) t → S0 t := fun t k => p337 t (by
      show St p e below Tc336 (mkF m 50 Ls332 [(.ref a_FALSE)]) t
      refine XS.iload Xc336.here hx rfl (hb hby at_50) rfl ?_
      show St p e below Tc336 (mkF m 52 Ls332 [(.int (1 : Int32)), (.ref a_FALSE)]) t
      refine XS.ifYes Xc336.here hx rfl (pc0 := 52) (pc' := 59) rfl (hb hby at_52) rfl ((if0 _ _).trans (feq (by decide : ¬ ((1 : Int32) = (0 : Int32)))).2) (by decide) (by decide) ?_
      show St p e below Tc336 (mkF m 59 Ls332 [(.ref a_FALSE)]) t
      refine XT.iconstV Xc336.here hx rfl (0 : Int32) (hb hby at_59) (by decide) ?_
      exact k)
    obtain ⟨_, _, ⟨Tc339, Lc339, kc339, nc339⟩, -, Xc339, ⟨Lcc339, hQc339, lc339, yc339, zc339⟩, stc339⟩ := Jvm.LawKit.callS Xc336 hx (y := M2) hown (mvT hZ (ww hw 18 rfl)) (mvT hZ (ww hw 19 rfl)) (mvT hZ (ww hw 6 rfl)) (mvT hZ (ww hw 20 rfl)) (by decide) (backOf (W := 1) (rm3_3 l Z a0 hw [] a_TRUE a_UNKNOWN a_FALSE h0 n0 O0 HE' ) hZ (ww hw 20 rfl) (ww hw 6 rfl) (by decide) (by decide)) (g := (mkF m 60 Ls332 [(.int (0 : Int32)), (.ref a_FALSE)])) rfl (by rw [hml]; rfl) (argsL := [(.int (0 : Int32))]) (rest := [(.ref a_FALSE)]) (lenOf pd2 rfl) rfl (by show 2 * 0 + _ ≤ _; exact Nat.le_of_eq rfl) (hb hby at_60) (fun _ _ => ⟨rfl, ec336, (by decide : 0 + 0 ≤ _), (by decide : 0 + 0 ≤ _)⟩)
    dsimp only [Pt.U, Pt.locs, Pt.cells, Pt.slots] at Xc339 lc339 yc339 zc339 stc339 hQc339
    subst lc339 yc339 zc339
    obtain ⟨Nqc339, ec339, hAc339⟩ := hQc339
    have Nc339 := Fr.app Nc336 Nqc339
    obtain rfl := hAc339
    have p340 : ∀ t, St p e below Tc339 (mkF m 63 Ls332 [(.ref a_FALSE), (.ref a_FALSE)]) t → S0 t := fun t k => p338 t (stc339 t k)
    let Ls341 : Array Slot := #[.val (.int i0), .val (.int i1), .val (.int i2), .val (.ref a_FALSE), .val (.ref a_FALSE), .val (.int (1 : Int32)), .val (.int (1 : Int32)), .val (.int (1 : Int32)), .unset]
    have p342 : ∀ t, St p e below Tc339 (mkF m 76 Ls341 [(.ref a_FALSE), (.ref a_FALSE)]) t → S0 t := fun t k => p340 t (by
      show St p e below Tc339 (mkF m 63 Ls332 [(.ref a_FALSE), (.ref a_FALSE)]) t
      refine Jvm.RoadKit.acmp (g := (mkF m 63 Ls332 [(.ref a_FALSE), (.ref a_FALSE)])) Xc339 hx rfl rfl rfl (pc0 := 63) (pc' := 66) (same := true) rfl (hb hby at_63) rfl (decide_eq_true rfl) (by decide) (by decide) ?_
      show St p e below Tc339 (mkF m 66 Ls332 []) t
      refine XT.iconstV Xc339.here hx rfl (1 : Int32) (hb hby at_66) (by decide) ?_
      show St p e below Tc339 (mkF m 67 Ls332 [(.int (1 : Int32))]) t
      refine XS.goto Xc339.here hx rfl (pc0 := 67) (pc' := 71) rfl (hb hby at_67) (by decide) (by decide) ?_
      show St p e below Tc339 (mkF m 71 Ls332 [(.int (1 : Int32))]) t
      refine XS.istore Xc339.here hx rfl (hb hby at_71) rfl (l' := Ls341) rfl ?_
      show St p e below Tc339 (mkF m 73 Ls341 []) t
      refine XS.aloadN Xc339.here hx rfl (hb hby at_73) rfl rfl ?_
      show St p e below Tc339 (mkF m 74 Ls341 [(.ref a_FALSE)]) t
      refine XS.aload Xc339.here hx rfl (hb hby at_74) rfl rfl ?_
      exact k)
    obtain ⟨cqc343, kqc343, qc343a, qc343b, qc343c⟩ := isOf hZ ec339 (Ea_FALSE.ext O0.2)
    obtain ⟨_, _, ⟨Tc343, Lc343, kc343, nc343⟩, -, Xc343, ⟨Lcc343, hQc343, lc343, yc343, zc343⟩, stc343⟩ := Xc339.virtualBack hx (y := M3) (z := M3) hown (mvT hZ (ww hw 21 rfl)) (mvT hZ (ww hw 22 rfl)) (notFace_of_selects (args := #[]) (mvT hZ (ww hw 24 rfl))) (mvT hZ (ww hw 24 rfl)) (mvT hZ (ww hw 23 rfl)) (by decide) (backOf (W := 0) (rm4_14 l Z a0 hw [] a_TRUE a_UNKNOWN a_FALSE h0 n0 O0 HE' ) hZ (ww hw 25 rfl) (ww hw 6 rfl) (by decide) (by decide)) qc343a qc343c (g := (mkF m 76 Ls341 [(.ref a_FALSE), (.ref a_FALSE)])) rfl (by rw [hml]; rfl) (Steps.refl _) (argsL := [(.ref a_FALSE)]) (rest := []) (lenOf pd3 rfl) rfl (by show 2 * 0 + _ ≤ _; exact Nat.le_of_eq rfl) (hb hby at_76) (fun _ _ => ⟨rfl, ec339, (by decide : 0 + 0 ≤ _), (by decide : 0 + 0 ≤ _)⟩)
    dsimp only [Pt.U, Pt.locs, Pt.cells, Pt.slots] at Xc343 lc343 yc343 zc343 stc343 hQc343
    subst lc343 yc343 zc343
    obtain ⟨Nqc343, ec343, hAc343⟩ := hQc343
    have Nc343 := Fr.app Nc339 Nqc343
    obtain rfl := hAc343
    have p344 : ∀ t, St p e below Tc343 (mkF m 79 Ls341 [(.ref a_FALSE)]) t → S0 t := fun t k => p342 t (stc343.trans k)
    obtain ⟨cqc345, kqc345, qc345a, qc345b, qc345c⟩ := isOf hZ ec343 (Ea_FALSE.ext O0.2)
    obtain ⟨_, _, ⟨Tc345, Lc345, kc345, nc345⟩, -, Xc345, ⟨Lcc345, hQc345, lc345, yc345, zc345⟩, stc345⟩ := Xc343.virtualBack hx (y := M1) (z := M1) hown (mvT hZ (ww hw 8 rfl)) (mvT hZ (ww hw 9 rfl)) (notFace_of_selects (args := #[]) (mvT hZ (ww hw 11 rfl))) (mvT hZ (ww hw 11 rfl)) (mvT hZ (ww hw 10 rfl)) (by decide) (backOf (W := 0) (rm2_2 l Z a0 hw [] a_TRUE a_UNKNOWN a_FALSE h0 n0 O0 HE' ) hZ (ww hw 12 rfl) (ww hw 6 rfl) (by decide) (by decide)) qc345a qc345c (g := (mkF m 79 Ls341 [(.ref a_FALSE)])) rfl (by rw [hml]; rfl) (Steps.refl _) (argsL := []) (rest := []) (lenOf pd1 rfl) rfl (by show 2 * 0 + _ ≤ _; exact Nat.le_of_eq rfl) (hb hby at_79) (fun _ _ => ⟨rfl, ec343, (by decide : 0 + 0 ≤ _), (by decide : 0 + 0 ≤ _)⟩)
    dsimp only [Pt.U, Pt.locs, Pt.cells, Pt.slots] at Xc345 lc345 yc345 zc345 stc345 hQc345
    subst lc345 yc345 zc345
    obtain ⟨Nqc345, ec345, hAc345⟩ := hQc345
    have Nc345 := Fr.app Nc343 Nqc345
    obtain rfl := hAc345
    have p346 : ∀ t, St p e below Tc345 (mkF m 82 Ls341 [(.ref a_TRUE)]) t → S0 t := fun t k => p344 t (stc345.trans k)
    have p347 : ∀ t, St p e below Tc345 (mkF m 83 Ls341 [(.ref a_FALSE), (.ref a_TRUE)]) t → S0 t := fun t k => p346 t (by
      show St p e below Tc345 (mkF m 82 Ls341 [(.ref a_TRUE)]) t
      refine XS.aloadN Xc345.here hx rfl (hb hby at_82) rfl rfl ?_
      exact k)
    obtain ⟨cqc348, kqc348, qc348a, qc348b, qc348c⟩ := isOf hZ ec345 (Ea_FALSE.ext O0.2)
    obtain ⟨_, _, ⟨Tc348, Lc348, kc348, nc348⟩, -, Xc348, ⟨Lcc348, hQc348, lc348, yc348, zc348⟩, stc348⟩ := Xc345.virtualBack hx (y := M1) (z := M1) hown (mvT hZ (ww hw 8 rfl)) (mvT hZ (ww hw 9 rfl)) (notFace_of_selects (args := #[]) (mvT hZ (ww hw 11 rfl))) (mvT hZ (ww hw 11 rfl)) (mvT hZ (ww hw 10 rfl)) (by decide) (backOf (W := 1) (rm2_2 l Z a0 hw [] a_TRUE a_UNKNOWN a_FALSE h0 n0 O0 HE' ) hZ (ww hw 12 rfl) (ww hw 6 rfl) (by decide) (by decide)) qc348a qc348c (g := (mkF m 83 Ls341 [(.ref a_FALSE), (.ref a_TRUE)])) rfl (by rw [hml]; rfl) (Steps.refl _) (argsL := []) (rest := [(.ref a_TRUE)]) (lenOf pd1 rfl) rfl (by show 2 * 0 + _ ≤ _; exact Nat.le_of_eq rfl) (hb hby at_83) (fun _ _ => ⟨rfl, ec345, (by decide : 0 + 0 ≤ _), (by decide : 0 + 0 ≤ _)⟩)
    dsimp only [Pt.U, Pt.locs, Pt.cells, Pt.slots] at Xc348 lc348 yc348 zc348 stc348 hQc348
    subst lc348 yc348 zc348
    obtain ⟨Nqc348, ec348, hAc348⟩ := hQc348
    have Nc348 := Fr.app Nc345 Nqc348
    obtain rfl := hAc348
    have p349 : ∀ t, St p e below Tc348 (mkF m 86 Ls341 [(.ref a_TRUE), (.ref a_TRUE)]) t → S0 t := fun t k => p347 t (stc348.trans k)
    have p350 : ∀ t, St p e below Tc348 (mkF m 88 Ls341 [(.ref a_FALSE), (.ref a_TRUE), (.ref a_TRUE)]) t → S0 t := fun t k => p349 t (by
      show St p e below Tc348 (mkF m 86 Ls341 [(.ref a_TRUE), (.ref a_TRUE)]) t
      refine XS.aload Xc348.here hx rfl (hb hby at_86) rfl rfl ?_
      exact k)
    obtain ⟨cqc351, kqc351, qc351a, qc351b, qc351c⟩ := isOf hZ ec348 (Ea_FALSE.ext O0.2)
    obtain ⟨_, _, ⟨Tc351, Lc351, kc351, nc351⟩, -, Xc351, ⟨Lcc351, hQc351, lc351, yc351, zc351⟩, stc351⟩ := Xc348.virtualBack hx (y := M1) (z := M1) hown (mvT hZ (ww hw 8 rfl)) (mvT hZ (ww hw 9 rfl)) (notFace_of_selects (args := #[]) (mvT hZ (ww hw 11 rfl))) (mvT hZ (ww hw 11 rfl)) (mvT hZ (ww hw 10 rfl)) (by decide) (backOf (W := 2) (rm2_2 l Z a0 hw [] a_TRUE a_UNKNOWN a_FALSE h0 n0 O0 HE' ) hZ (ww hw 12 rfl) (ww hw 6 rfl) (by decide) (by decide)) qc351a qc351c (g := (mkF m 88 Ls341 [(.ref a_FALSE), (.ref a_TRUE), (.ref a_TRUE)])) rfl (by rw [hml]; rfl) (Steps.refl _) (argsL := []) (rest := [(.ref a_TRUE), (.ref a_TRUE)]) (lenOf pd1 rfl) rfl (by show 2 * 0 + _ ≤ _; exact Nat.le_of_eq rfl) (hb hby at_88) (fun _ _ => ⟨rfl, ec348, (by decide : 0 + 0 ≤ _), (by decide : 0 + 0 ≤ _)⟩)
    dsimp only [Pt.U, Pt.locs, Pt.cells, Pt.slots] at Xc351 lc351 yc351 zc351 stc351 hQc351
    subst lc351 yc351 zc351
    obtain ⟨Nqc351, ec351, hAc351⟩ := hQc351
    have Nc351 := Fr.app Nc348 Nqc351
    obtain rfl := hAc351
    have p352 : ∀ t, St p e below Tc351 (mkF m 91 Ls341 [(.ref a_TRUE), (.ref a_TRUE), (.ref a_TRUE)]) t → S0 t := fun t k => p350 t (stc351.trans k)
    obtain ⟨cqc353, kqc353, qc353a, qc353b, qc353c⟩ := isOf hZ ec351 (Ea_TRUE.ext O0.2)
    obtain ⟨_, _, ⟨Tc353, Lc353, kc353, nc353⟩, -, Xc353, ⟨Lcc353, hQc353, lc353, yc353, zc353⟩, stc353⟩ := Xc351.virtualBack hx (y := M4) (z := M4) hown (mvT hZ (ww hw 26 rfl)) (mvT hZ (ww hw 27 rfl)) (notFace_of_selects (args := #[]) (mvT hZ (ww hw 29 rfl))) (mvT hZ (ww hw 29 rfl)) (mvT hZ (ww hw 28 rfl)) (by decide) (backOf (W := 1) (rm5_15 l Z a0 hw [] a_TRUE a_UNKNOWN a_FALSE h0 n0 O0 HE' ) hZ (ww hw 30 rfl) (ww hw 6 rfl) (by decide) (by decide)) qc353a qc353c (g := (mkF m 91 Ls341 [(.ref a_TRUE), (.ref a_TRUE), (.ref a_TRUE)])) rfl (by rw [hml]; rfl) (Steps.refl _) (argsL := [(.ref a_TRUE)]) (rest := [(.ref a_TRUE)]) (lenOf pd3 rfl) rfl (by show 2 * 0 + _ ≤ _; exact Nat.le_of_eq rfl) (hb hby at_91) (fun _ _ => ⟨rfl, ec351, (by decide : 0 + 0 ≤ _), (by decide : 0 + 0 ≤ _)⟩)
    dsimp only [Pt.U, Pt.locs, Pt.cells, Pt.slots] at Xc353 lc353 yc353 zc353 stc353 hQc353
    subst lc353 yc353 zc353
    obtain ⟨Nqc353, ec353, hAc353⟩ := hQc353
    have Nc353 := Fr.app Nc351 Nqc353
    obtain rfl := hAc353
    have p354 : ∀ t, St p e below Tc353 (mkF m 94 Ls341 [(.ref a_TRUE), (.ref a_TRUE)]) t → S0 t := fun t k => p352 t (stc353.trans k)
    let Ls355 : Array Slot := #[.val (.int i0), .val (.int i1), .val (.int i2), .val (.ref a_FALSE), .val (.ref a_FALSE), .val (.int (1 : Int32)), .val (.int (1 : Int32)), .val (.int (1 : Int32)), .val (.int (1 : Int32))]
    have p356 : ∀ t, St p e below Tc353 (mkF m 124 Ls355 [(.int (1 : Int32))]) t → S0 t := fun t k => p354 t (by
      show St p e below Tc353 (mkF m 94 Ls341 [(.ref a_TRUE), (.ref a_TRUE)]) t
      refine Jvm.RoadKit.acmp (g := (mkF m 94 Ls341 [(.ref a_TRUE), (.ref a_TRUE)])) Xc353 hx rfl rfl rfl (pc0 := 94) (pc' := 97) (same := true) rfl (hb hby at_94) rfl (decide_eq_true rfl) (by decide) (by decide) ?_
      show St p e below Tc353 (mkF m 97 Ls341 []) t
      refine XT.iconstV Xc353.here hx rfl (1 : Int32) (hb hby at_97) (by decide) ?_
      show St p e below Tc353 (mkF m 98 Ls341 [(.int (1 : Int32))]) t
      refine XS.goto Xc353.here hx rfl (pc0 := 98) (pc' := 102) rfl (hb hby at_98) (by decide) (by decide) ?_
      show St p e below Tc353 (mkF m 102 Ls341 [(.int (1 : Int32))]) t
      refine XS.istore Xc353.here hx rfl (hb hby at_102) rfl (l' := Ls355) rfl ?_
      show St p e below Tc353 (mkF m 104 Ls355 []) t
      refine XS.iload Xc353.here hx rfl (hb hby at_104) rfl ?_
      show St p e below Tc353 (mkF m 106 Ls355 [(.int (1 : Int32))]) t
      refine XS.ifNo Xc353.here hx rfl (hb hby at_106) rfl ((if0 _ _).trans (feq (by decide : ¬ ((1 : Int32) = (0 : Int32)))).1) ?_
      show St p e below Tc353 (mkF m 109 Ls355 []) t
      refine XS.iload Xc353.here hx rfl (hb hby at_109) rfl ?_
      show St p e below Tc353 (mkF m 111 Ls355 [(.int (1 : Int32))]) t
      refine XS.ifNo Xc353.here hx rfl (hb hby at_111) rfl ((if0 _ _).trans (feq (by decide : ¬ ((1 : Int32) = (0 : Int32)))).1) ?_
      show St p e below Tc353 (mkF m 114 Ls355 []) t
      refine XS.iload Xc353.here hx rfl (hb hby at_114) rfl ?_
      show St p e below Tc353 (mkF m 116 Ls355 [(.int (1 : Int32))]) t
      refine XS.ifNo Xc353.here hx rfl (hb hby at_116) rfl ((if0 _ _).trans (feq (by decide : ¬ ((1 : Int32) = (0 : Int32)))).1) ?_
      show St p e below Tc353 (mkF m 119 Ls355 []) t
      refine XT.iconstV Xc353.here hx rfl (1 : Int32) (hb hby at_119) (by decide) ?_
      show St p e below Tc353 (mkF m 120 Ls355 [(.int (1 : Int32))]) t
      refine XS.goto Xc353.here hx rfl (pc0 := 120) (pc' := 124) rfl (hb hby at_120) (by decide) (by decide) ?_
      exact k)
    obtain ⟨fs, hr, hrun, hended, hW, hsame⟩ := Xc353.leave (v := some (.int (1 : Int32))) (fun h => by rw [Bd.returns] at h; cases h)
    refine ⟨_, _, p356 _ ?_, hrun, hended, _, _, rfl, ?_, ⟨_, rfl⟩, hW, hsame.mono (by decide) (by decide)⟩
    · exact retOut Xc353 hx Bd.returns rfl (Or.inl ⟨rfl, by simp, _, rfl⟩) (hb hby at_124) hr
    · exact ⟨rfl, Nc353⟩
  ·
   have p357 : ∀ t, St p e below Tc219 (mkF m 9 Ls217 [(.ref a_UNKNOWN)]) t → S0 t := fun t k => p218 t (stc219 t k)
   let Ls358 : Array Slot := #[.val (.int i0), .val (.int i1), .val (.int i2), .val (.ref a_FALSE), .val (.ref a_UNKNOWN), .unset, .unset, .unset, .unset]
   have p359 : ∀ t, St p e below Tc219 (mkF m 14 Ls358 [(.int (i2 &&& (1 : Int32)))]) t → S0 t := fun t k => p357 t (by
     show St p e below Tc219 (mkF m 9 Ls217 [(.ref a_UNKNOWN)]) t
     refine XS.astore Xc219.here hx rfl (hb hby at_9) rfl rfl (l' := Ls358) rfl ?_
     show St p e below Tc219 (mkF m 11 Ls358 []) t
     refine XS.iloadN Xc219.here hx rfl (hb hby at_11) rfl ?_
     show St p e below Tc219 (mkF m 12 Ls358 [(.int i2)]) t
     refine XT.iconstV Xc219.here hx rfl (1 : Int32) (hb hby at_12) (by decide) ?_
     show St p e below Tc219 (mkF m 13 Ls358 [(.int (1 : Int32)), (.int i2)]) t
     refine XS.iand Xc219.here hx rfl (hb hby at_13) rfl ?_
     exact k)
   by_cases g360 : (i2 &&& (1 : Int32)) = (0 : Int32)
   ·
    let Ls361 : Array Slot := #[.val (.int i0), .val (.int i1), .val (.int i2), .val (.ref a_FALSE), .val (.ref a_UNKNOWN), .val (.int (0 : Int32)), .unset, .unset, .unset]
    have p362 : ∀ t, St p e below Tc219 (mkF m 25 Ls361 [(.ref a_FALSE)]) t → S0 t := fun t k => p359 t (by
      show St p e below Tc219 (mkF m 14 Ls358 [(.int (i2 &&& (1 : Int32)))]) t
      refine XS.ifYes Xc219.here hx rfl (pc0 := 14) (pc' := 21) rfl (hb hby at_14) rfl ((if0 _ _).trans (teq g360).1) (by decide) (by decide) ?_
      show St p e below Tc219 (mkF m 21 Ls358 []) t
      refine XT.iconstV Xc219.here hx rfl (0 : Int32) (hb hby at_21) (by decide) ?_
      show St p e below Tc219 (mkF m 22 Ls358 [(.int (0 : Int32))]) t
      refine XS.istore Xc219.here hx rfl (hb hby at_22) rfl (l' := Ls361) rfl ?_
      show St p e below Tc219 (mkF m 24 Ls361 []) t
      refine XS.aloadN Xc219.here hx rfl (hb hby at_24) rfl rfl ?_
      exact k)
    obtain ⟨cqc363, kqc363, qc363a, qc363b, qc363c⟩ := isOf hZ ec219 (Ea_FALSE.ext O0.2)
    obtain ⟨_, _, ⟨Tc363, Lc363, kc363, nc363⟩, -, Xc363, ⟨Lcc363, hQc363, lc363, yc363, zc363⟩, stc363⟩ := Xc219.virtualBack hx (y := M1) (z := M1) hown (mvT hZ (ww hw 8 rfl)) (mvT hZ (ww hw 9 rfl)) (notFace_of_selects (args := #[]) (mvT hZ (ww hw 11 rfl))) (mvT hZ (ww hw 11 rfl)) (mvT hZ (ww hw 10 rfl)) (by decide) (backOf (W := 0) (rm2_2 l Z a0 hw [] a_TRUE a_UNKNOWN a_FALSE h0 n0 O0 HE' ) hZ (ww hw 12 rfl) (ww hw 6 rfl) (by decide) (by decide)) qc363a qc363c (g := (mkF m 25 Ls361 [(.ref a_FALSE)])) rfl (by rw [hml]; rfl) (Steps.refl _) (argsL := []) (rest := []) (lenOf pd1 rfl) rfl (by show 2 * 0 + _ ≤ _; exact Nat.le_of_eq rfl) (hb hby at_25) (fun _ _ => ⟨rfl, ec219, (by decide : 0 + 0 ≤ _), (by decide : 0 + 0 ≤ _)⟩)
    dsimp only [Pt.U, Pt.locs, Pt.cells, Pt.slots] at Xc363 lc363 yc363 zc363 stc363 hQc363
    subst lc363 yc363 zc363
    obtain ⟨Nqc363, ec363, hAc363⟩ := hQc363
    have Nc363 := Fr.app Nc219 Nqc363
    obtain rfl := hAc363
    have p364 : ∀ t, St p e below Tc363 (mkF m 28 Ls361 [(.ref a_TRUE)]) t → S0 t := fun t k => p362 t (stc363.trans k)
    obtain ⟨cqc365, kqc365, qc365a, qc365b, qc365c⟩ := isOf hZ ec363 (Ea_TRUE.ext O0.2)
    obtain ⟨_, _, ⟨Tc365, Lc365, kc365, nc365⟩, -, Xc365, ⟨Lcc365, hQc365, lc365, yc365, zc365⟩, stc365⟩ := Xc363.virtualBack hx (y := M1) (z := M1) hown (mvT hZ (ww hw 8 rfl)) (mvT hZ (ww hw 9 rfl)) (notFace_of_selects (args := #[]) (mvT hZ (ww hw 11 rfl))) (mvT hZ (ww hw 11 rfl)) (mvT hZ (ww hw 10 rfl)) (by decide) (backOf (W := 0) (rm2_1 l Z a0 hw [] a_TRUE a_UNKNOWN a_FALSE h0 n0 O0 HE' ) hZ (ww hw 12 rfl) (ww hw 6 rfl) (by decide) (by decide)) qc365a qc365c (g := (mkF m 28 Ls361 [(.ref a_TRUE)])) rfl (by rw [hml]; rfl) (Steps.refl _) (argsL := []) (rest := []) (lenOf pd1 rfl) rfl (by show 2 * 0 + _ ≤ _; exact Nat.le_of_eq rfl) (hb hby at_28) (fun _ _ => ⟨rfl, ec363, (by decide : 0 + 0 ≤ _), (by decide : 0 + 0 ≤ _)⟩)
    dsimp only [Pt.U, Pt.locs, Pt.cells, Pt.slots] at Xc365 lc365 yc365 zc365 stc365 hQc365
    subst lc365 yc365 zc365
    obtain ⟨Nqc365, ec365, hAc365⟩ := hQc365
    have Nc365 := Fr.app Nc363 Nqc365
    obtain rfl := hAc365
    have p366 : ∀ t, St p e below Tc365 (mkF m 31 Ls361 [(.ref a_FALSE)]) t → S0 t := fun t k => p364 t (stc365.trans k)
    let Ls367 : Array Slot := #[.val (.int i0), .val (.int i1), .val (.int i2), .val (.ref a_FALSE), .val (.ref a_UNKNOWN), .val (.int (0 : Int32)), .val (.int (1 : Int32)), .unset, .unset]
    have p368 : ∀ t, St p e below Tc365 (mkF m 44 Ls367 [(.int (0 : Int32))]) t → S0 t := fun t k => p366 t (by
      show St p e below Tc365 (mkF m 31 Ls361 [(.ref a_FALSE)]) t
      refine XS.aloadN Xc365.here hx rfl (hb hby at_31) rfl rfl ?_
      show St p e below Tc365 (mkF m 32 Ls361 [(.ref a_FALSE), (.ref a_FALSE)]) t
      refine Jvm.RoadKit.acmp (g := (mkF m 32 Ls361 [(.ref a_FALSE), (.ref a_FALSE)])) Xc365 hx rfl rfl rfl (pc0 := 32) (pc' := 35) (same := true) rfl (hb hby at_32) rfl (decide_eq_true rfl) (by decide) (by decide) ?_
      show St p e below Tc365 (mkF m 35 Ls361 []) t
      refine XT.iconstV Xc365.here hx rfl (1 : Int32) (hb hby at_35) (by decide) ?_
      show St p e below Tc365 (mkF m 36 Ls361 [(.int (1 : Int32))]) t
      refine XS.goto Xc365.here hx rfl (pc0 := 36) (pc' := 40) rfl (hb hby at_36) (by decide) (by decide) ?_
      show St p e below Tc365 (mkF m 40 Ls361 [(.int (1 : Int32))]) t
      refine XS.istore Xc365.here hx rfl (hb hby at_40) rfl (l' := Ls367) rfl ?_
      show St p e below Tc365 (mkF m 42 Ls367 []) t
      refine XS.iload Xc365.here hx rfl (hb hby at_42) rfl ?_
      exact k)
    obtain ⟨_, _, ⟨Tc369, Lc369, kc369, nc369⟩, -, Xc369, ⟨Lcc369, hQc369, lc369, yc369, zc369⟩, stc369⟩ := Jvm.LawKit.callS Xc365 hx (y := M2) hown (mvT hZ (ww hw 18 rfl)) (mvT hZ (ww hw 19 rfl)) (mvT hZ (ww hw 6 rfl)) (mvT hZ (ww hw 20 rfl)) (by decide) (backOf (W := 0) (rm3_3 l Z a0 hw [] a_TRUE a_UNKNOWN a_FALSE h0 n0 O0 HE' ) hZ (ww hw 20 rfl) (ww hw 6 rfl) (by decide) (by decide)) (g := (mkF m 44 Ls367 [(.int (0 : Int32))])) rfl (by rw [hml]; rfl) (argsL := [(.int (0 : Int32))]) (rest := []) (lenOf pd2 rfl) rfl (by show 2 * 0 + _ ≤ _; exact Nat.le_of_eq rfl) (hb hby at_44) (fun _ _ => ⟨rfl, ec365, (by decide : 0 + 0 ≤ _), (by decide : 0 + 0 ≤ _)⟩)
    dsimp only [Pt.U, Pt.locs, Pt.cells, Pt.slots] at Xc369 lc369 yc369 zc369 stc369 hQc369
    subst lc369 yc369 zc369
    obtain ⟨Nqc369, ec369, hAc369⟩ := hQc369
    have Nc369 := Fr.app Nc365 Nqc369
    obtain rfl := hAc369
    have p370 : ∀ t, St p e below Tc369 (mkF m 47 Ls367 [(.ref a_FALSE)]) t → S0 t := fun t k => p368 t (stc369 t k)
    obtain ⟨cqc371, kqc371, qc371a, qc371b, qc371c⟩ := isOf hZ ec369 (Ea_FALSE.ext O0.2)
    obtain ⟨_, _, ⟨Tc371, Lc371, kc371, nc371⟩, -, Xc371, ⟨Lcc371, hQc371, lc371, yc371, zc371⟩, stc371⟩ := Xc369.virtualBack hx (y := M1) (z := M1) hown (mvT hZ (ww hw 8 rfl)) (mvT hZ (ww hw 9 rfl)) (notFace_of_selects (args := #[]) (mvT hZ (ww hw 11 rfl))) (mvT hZ (ww hw 11 rfl)) (mvT hZ (ww hw 10 rfl)) (by decide) (backOf (W := 0) (rm2_2 l Z a0 hw [] a_TRUE a_UNKNOWN a_FALSE h0 n0 O0 HE' ) hZ (ww hw 12 rfl) (ww hw 6 rfl) (by decide) (by decide)) qc371a qc371c (g := (mkF m 47 Ls367 [(.ref a_FALSE)])) rfl (by rw [hml]; rfl) (Steps.refl _) (argsL := []) (rest := []) (lenOf pd1 rfl) rfl (by show 2 * 0 + _ ≤ _; exact Nat.le_of_eq rfl) (hb hby at_47) (fun _ _ => ⟨rfl, ec369, (by decide : 0 + 0 ≤ _), (by decide : 0 + 0 ≤ _)⟩)
    dsimp only [Pt.U, Pt.locs, Pt.cells, Pt.slots] at Xc371 lc371 yc371 zc371 stc371 hQc371
    subst lc371 yc371 zc371
    obtain ⟨Nqc371, ec371, hAc371⟩ := hQc371
    have Nc371 := Fr.app Nc369 Nqc371
    obtain rfl := hAc371
    have p372 : ∀ t, St p e below Tc371 (mkF m 50 Ls367 [(.ref a_TRUE)]) t → S0 t := fun t k => p370 t (stc371.trans k)
    have p373 : ∀ t, St p e below Tc371 (mkF m 60 Ls367 [(.int (1 : Int32)), (.ref a_TRUE)]) t → S0 t := fun t k => p372 t (by
      show St p e below Tc371 (mkF m 50 Ls367 [(.ref a_TRUE)]) t
      refine XS.iload Xc371.here hx rfl (hb hby at_50) rfl ?_
      show St p e below Tc371 (mkF m 52 Ls367 [(.int (0 : Int32)), (.ref a_TRUE)]) t
      refine XS.ifNo Xc371.here hx rfl (hb hby at_52) rfl ((if0 _ _).trans (teq (by decide : (0 : Int32) = (0 : Int32))).2) ?_
      show St p e below Tc371 (mkF m 55 Ls367 [(.ref a_TRUE)]) t
      refine XT.iconstV Xc371.here hx rfl (1 : Int32) (hb hby at_55) (by decide) ?_
      show St p e below Tc371 (mkF m 56 Ls367 [(.int (1 : Int32)), (.ref a_TRUE)]) t
      refine XS.goto Xc371.here hx rfl (pc0 := 56) (pc' := 60) rfl (hb hby at_56) (by decide) (by decide) ?_
      exact k)
    obtain ⟨_, _, ⟨Tc374, Lc374, kc374, nc374⟩, -, Xc374, ⟨Lcc374, hQc374, lc374, yc374, zc374⟩, stc374⟩ := Jvm.LawKit.callS Xc371 hx (y := M2) hown (mvT hZ (ww hw 18 rfl)) (mvT hZ (ww hw 19 rfl)) (mvT hZ (ww hw 6 rfl)) (mvT hZ (ww hw 20 rfl)) (by decide) (backOf (W := 1) (rm3_4 l Z a0 hw [] a_TRUE a_UNKNOWN a_FALSE h0 n0 O0 HE' ) hZ (ww hw 20 rfl) (ww hw 6 rfl) (by decide) (by decide)) (g := (mkF m 60 Ls367 [(.int (1 : Int32)), (.ref a_TRUE)])) rfl (by rw [hml]; rfl) (argsL := [(.int (1 : Int32))]) (rest := [(.ref a_TRUE)]) (lenOf pd2 rfl) rfl (by show 2 * 0 + _ ≤ _; exact Nat.le_of_eq rfl) (hb hby at_60) (fun _ _ => ⟨rfl, ec371, (by decide : 0 + 0 ≤ _), (by decide : 0 + 0 ≤ _)⟩)
    dsimp only [Pt.U, Pt.locs, Pt.cells, Pt.slots] at Xc374 lc374 yc374 zc374 stc374 hQc374
    subst lc374 yc374 zc374
    obtain ⟨Nqc374, ec374, hAc374⟩ := hQc374
    have Nc374 := Fr.app Nc371 Nqc374
    obtain rfl := hAc374
    have p375 : ∀ t, St p e below Tc374 (mkF m 63 Ls367 [(.ref a_TRUE), (.ref a_TRUE)]) t → S0 t := fun t k => p373 t (stc374 t k)
    let Ls376 : Array Slot := #[.val (.int i0), .val (.int i1), .val (.int i2), .val (.ref a_FALSE), .val (.ref a_UNKNOWN), .val (.int (0 : Int32)), .val (.int (1 : Int32)), .val (.int (1 : Int32)), .unset]
    have p377 : ∀ t, St p e below Tc374 (mkF m 76 Ls376 [(.ref a_UNKNOWN), (.ref a_FALSE)]) t → S0 t := fun t k => p375 t (by
      show St p e below Tc374 (mkF m 63 Ls367 [(.ref a_TRUE), (.ref a_TRUE)]) t
      refine Jvm.RoadKit.acmp (g := (mkF m 63 Ls367 [(.ref a_TRUE), (.ref a_TRUE)])) Xc374 hx rfl rfl rfl (pc0 := 63) (pc' := 66) (same := true) rfl (hb hby at_63) rfl (decide_eq_true rfl) (by decide) (by decide) ?_
      show St p e below Tc374 (mkF m 66 Ls367 []) t
      refine XT.iconstV Xc374.here hx rfl (1 : Int32) (hb hby at_66) (by decide) ?_
      show St p e below Tc374 (mkF m 67 Ls367 [(.int (1 : Int32))]) t
      refine XS.goto Xc374.here hx rfl (pc0 := 67) (pc' := 71) rfl (hb hby at_67) (by decide) (by decide) ?_
      show St p e below Tc374 (mkF m 71 Ls367 [(.int (1 : Int32))]) t
      refine XS.istore Xc374.here hx rfl (hb hby at_71) rfl (l' := Ls376) rfl ?_
      show St p e below Tc374 (mkF m 73 Ls376 []) t
      refine XS.aloadN Xc374.here hx rfl (hb hby at_73) rfl rfl ?_
      show St p e below Tc374 (mkF m 74 Ls376 [(.ref a_FALSE)]) t
      refine XS.aload Xc374.here hx rfl (hb hby at_74) rfl rfl ?_
      exact k)
    obtain ⟨cqc378, kqc378, qc378a, qc378b, qc378c⟩ := isOf hZ ec374 (Ea_FALSE.ext O0.2)
    obtain ⟨_, _, ⟨Tc378, Lc378, kc378, nc378⟩, -, Xc378, ⟨Lcc378, hQc378, lc378, yc378, zc378⟩, stc378⟩ := Xc374.virtualBack hx (y := M3) (z := M3) hown (mvT hZ (ww hw 21 rfl)) (mvT hZ (ww hw 22 rfl)) (notFace_of_selects (args := #[]) (mvT hZ (ww hw 24 rfl))) (mvT hZ (ww hw 24 rfl)) (mvT hZ (ww hw 23 rfl)) (by decide) (backOf (W := 0) (rm4_16 l Z a0 hw [] a_TRUE a_UNKNOWN a_FALSE h0 n0 O0 HE' ) hZ (ww hw 25 rfl) (ww hw 6 rfl) (by decide) (by decide)) qc378a qc378c (g := (mkF m 76 Ls376 [(.ref a_UNKNOWN), (.ref a_FALSE)])) rfl (by rw [hml]; rfl) (Steps.refl _) (argsL := [(.ref a_UNKNOWN)]) (rest := []) (lenOf pd3 rfl) rfl (by show 2 * 0 + _ ≤ _; exact Nat.le_of_eq rfl) (hb hby at_76) (fun _ _ => ⟨rfl, ec374, (by decide : 0 + 0 ≤ _), (by decide : 0 + 0 ≤ _)⟩)
    dsimp only [Pt.U, Pt.locs, Pt.cells, Pt.slots] at Xc378 lc378 yc378 zc378 stc378 hQc378
    subst lc378 yc378 zc378
    obtain ⟨Nqc378, ec378, hAc378⟩ := hQc378
    have Nc378 := Fr.app Nc374 Nqc378
    obtain rfl := hAc378
    have p379 : ∀ t, St p e below Tc378 (mkF m 79 Ls376 [(.ref a_FALSE)]) t → S0 t := fun t k => p377 t (stc378.trans k)
    obtain ⟨cqc380, kqc380, qc380a, qc380b, qc380c⟩ := isOf hZ ec378 (Ea_FALSE.ext O0.2)
    obtain ⟨_, _, ⟨Tc380, Lc380, kc380, nc380⟩, -, Xc380, ⟨Lcc380, hQc380, lc380, yc380, zc380⟩, stc380⟩ := Xc378.virtualBack hx (y := M1) (z := M1) hown (mvT hZ (ww hw 8 rfl)) (mvT hZ (ww hw 9 rfl)) (notFace_of_selects (args := #[]) (mvT hZ (ww hw 11 rfl))) (mvT hZ (ww hw 11 rfl)) (mvT hZ (ww hw 10 rfl)) (by decide) (backOf (W := 0) (rm2_2 l Z a0 hw [] a_TRUE a_UNKNOWN a_FALSE h0 n0 O0 HE' ) hZ (ww hw 12 rfl) (ww hw 6 rfl) (by decide) (by decide)) qc380a qc380c (g := (mkF m 79 Ls376 [(.ref a_FALSE)])) rfl (by rw [hml]; rfl) (Steps.refl _) (argsL := []) (rest := []) (lenOf pd1 rfl) rfl (by show 2 * 0 + _ ≤ _; exact Nat.le_of_eq rfl) (hb hby at_79) (fun _ _ => ⟨rfl, ec378, (by decide : 0 + 0 ≤ _), (by decide : 0 + 0 ≤ _)⟩)
    dsimp only [Pt.U, Pt.locs, Pt.cells, Pt.slots] at Xc380 lc380 yc380 zc380 stc380 hQc380
    subst lc380 yc380 zc380
    obtain ⟨Nqc380, ec380, hAc380⟩ := hQc380
    have Nc380 := Fr.app Nc378 Nqc380
    obtain rfl := hAc380
    have p381 : ∀ t, St p e below Tc380 (mkF m 82 Ls376 [(.ref a_TRUE)]) t → S0 t := fun t k => p379 t (stc380.trans k)
    have p382 : ∀ t, St p e below Tc380 (mkF m 83 Ls376 [(.ref a_FALSE), (.ref a_TRUE)]) t → S0 t := fun t k => p381 t (by
      show St p e below Tc380 (mkF m 82 Ls376 [(.ref a_TRUE)]) t
      refine XS.aloadN Xc380.here hx rfl (hb hby at_82) rfl rfl ?_
      exact k)
    obtain ⟨cqc383, kqc383, qc383a, qc383b, qc383c⟩ := isOf hZ ec380 (Ea_FALSE.ext O0.2)
    obtain ⟨_, _, ⟨Tc383, Lc383, kc383, nc383⟩, -, Xc383, ⟨Lcc383, hQc383, lc383, yc383, zc383⟩, stc383⟩ := Xc380.virtualBack hx (y := M1) (z := M1) hown (mvT hZ (ww hw 8 rfl)) (mvT hZ (ww hw 9 rfl)) (notFace_of_selects (args := #[]) (mvT hZ (ww hw 11 rfl))) (mvT hZ (ww hw 11 rfl)) (mvT hZ (ww hw 10 rfl)) (by decide) (backOf (W := 1) (rm2_2 l Z a0 hw [] a_TRUE a_UNKNOWN a_FALSE h0 n0 O0 HE' ) hZ (ww hw 12 rfl) (ww hw 6 rfl) (by decide) (by decide)) qc383a qc383c (g := (mkF m 83 Ls376 [(.ref a_FALSE), (.ref a_TRUE)])) rfl (by rw [hml]; rfl) (Steps.refl _) (argsL := []) (rest := [(.ref a_TRUE)]) (lenOf pd1 rfl) rfl (by show 2 * 0 + _ ≤ _; exact Nat.le_of_eq rfl) (hb hby at_83) (fun _ _ => ⟨rfl, ec380, (by decide : 0 + 0 ≤ _), (by decide : 0 + 0 ≤ _)⟩)
    dsimp only [Pt.U, Pt.locs, Pt.cells, Pt.slots] at Xc383 lc383 yc383 zc383 stc383 hQc383
    subst lc383 yc383 zc383
    obtain ⟨Nqc383, ec383, hAc383⟩ := hQc383
    have Nc383 := Fr.app Nc380 Nqc383
    obtain rfl := hAc383
    have p384 : ∀ t, St p e below Tc383 (mkF m 86 Ls376 [(.ref a_TRUE), (.ref a_TRUE)]) t → S0 t := fun t k => p382 t (stc383.trans k)
    have p385 : ∀ t, St p e below Tc383 (mkF m 88 Ls376 [(.ref a_UNKNOWN), (.ref a_TRUE), (.ref a_TRUE)]) t → S0 t := fun t k => p384 t (by
      show St p e below Tc383 (mkF m 86 Ls376 [(.ref a_TRUE), (.ref a_TRUE)]) t
      refine XS.aload Xc383.here hx rfl (hb hby at_86) rfl rfl ?_
      exact k)
    obtain ⟨cqc386, kqc386, qc386a, qc386b, qc386c⟩ := isOf hZ ec383 (Ea_UNKNOWN.ext O0.2)
    obtain ⟨_, _, ⟨Tc386, Lc386, kc386, nc386⟩, -, Xc386, ⟨Lcc386, hQc386, lc386, yc386, zc386⟩, stc386⟩ := Xc383.virtualBack hx (y := M1) (z := M1) hown (mvT hZ (ww hw 8 rfl)) (mvT hZ (ww hw 9 rfl)) (notFace_of_selects (args := #[]) (mvT hZ (ww hw 11 rfl))) (mvT hZ (ww hw 11 rfl)) (mvT hZ (ww hw 10 rfl)) (by decide) (backOf (W := 2) (rm2_10 l Z a0 hw [] a_TRUE a_UNKNOWN a_FALSE h0 n0 O0 HE' ) hZ (ww hw 12 rfl) (ww hw 6 rfl) (by decide) (by decide)) qc386a qc386c (g := (mkF m 88 Ls376 [(.ref a_UNKNOWN), (.ref a_TRUE), (.ref a_TRUE)])) rfl (by rw [hml]; rfl) (Steps.refl _) (argsL := []) (rest := [(.ref a_TRUE), (.ref a_TRUE)]) (lenOf pd1 rfl) rfl (by show 2 * 0 + _ ≤ _; exact Nat.le_of_eq rfl) (hb hby at_88) (fun _ _ => ⟨rfl, ec383, (by decide : 0 + 0 ≤ _), (by decide : 0 + 0 ≤ _)⟩)
    dsimp only [Pt.U, Pt.locs, Pt.cells, Pt.slots] at Xc386 lc386 yc386 zc386 stc386 hQc386
    subst lc386 yc386 zc386
    obtain ⟨Nqc386, ec386, hAc386⟩ := hQc386
    have Nc386 := Fr.app Nc383 Nqc386
    obtain rfl := hAc386
    have p387 : ∀ t, St p e below Tc386 (mkF m 91 Ls376 [(.ref a_UNKNOWN), (.ref a_TRUE), (.ref a_TRUE)]) t → S0 t := fun t k => p385 t (stc386.trans k)
    obtain ⟨cqc388, kqc388, qc388a, qc388b, qc388c⟩ := isOf hZ ec386 (Ea_TRUE.ext O0.2)
    obtain ⟨_, _, ⟨Tc388, Lc388, kc388, nc388⟩, -, Xc388, ⟨Lcc388, hQc388, lc388, yc388, zc388⟩, stc388⟩ := Xc386.virtualBack hx (y := M4) (z := M4) hown (mvT hZ (ww hw 26 rfl)) (mvT hZ (ww hw 27 rfl)) (notFace_of_selects (args := #[]) (mvT hZ (ww hw 29 rfl))) (mvT hZ (ww hw 29 rfl)) (mvT hZ (ww hw 28 rfl)) (by decide) (backOf (W := 1) (rm5_17 l Z a0 hw [] a_TRUE a_UNKNOWN a_FALSE h0 n0 O0 HE' ) hZ (ww hw 30 rfl) (ww hw 6 rfl) (by decide) (by decide)) qc388a qc388c (g := (mkF m 91 Ls376 [(.ref a_UNKNOWN), (.ref a_TRUE), (.ref a_TRUE)])) rfl (by rw [hml]; rfl) (Steps.refl _) (argsL := [(.ref a_UNKNOWN)]) (rest := [(.ref a_TRUE)]) (lenOf pd3 rfl) rfl (by show 2 * 0 + _ ≤ _; exact Nat.le_of_eq rfl) (hb hby at_91) (fun _ _ => ⟨rfl, ec386, (by decide : 0 + 0 ≤ _), (by decide : 0 + 0 ≤ _)⟩)
    dsimp only [Pt.U, Pt.locs, Pt.cells, Pt.slots] at Xc388 lc388 yc388 zc388 stc388 hQc388
    subst lc388 yc388 zc388
    obtain ⟨Nqc388, ec388, hAc388⟩ := hQc388
    have Nc388 := Fr.app Nc386 Nqc388
    obtain rfl := hAc388
    have p389 : ∀ t, St p e below Tc388 (mkF m 94 Ls376 [(.ref a_TRUE), (.ref a_TRUE)]) t → S0 t := fun t k => p387 t (stc388.trans k)
    let Ls390 : Array Slot := #[.val (.int i0), .val (.int i1), .val (.int i2), .val (.ref a_FALSE), .val (.ref a_UNKNOWN), .val (.int (0 : Int32)), .val (.int (1 : Int32)), .val (.int (1 : Int32)), .val (.int (1 : Int32))]
    have p391 : ∀ t, St p e below Tc388 (mkF m 124 Ls390 [(.int (1 : Int32))]) t → S0 t := fun t k => p389 t (by
      show St p e below Tc388 (mkF m 94 Ls376 [(.ref a_TRUE), (.ref a_TRUE)]) t
      refine Jvm.RoadKit.acmp (g := (mkF m 94 Ls376 [(.ref a_TRUE), (.ref a_TRUE)])) Xc388 hx rfl rfl rfl (pc0 := 94) (pc' := 97) (same := true) rfl (hb hby at_94) rfl (decide_eq_true rfl) (by decide) (by decide) ?_
      show St p e below Tc388 (mkF m 97 Ls376 []) t
      refine XT.iconstV Xc388.here hx rfl (1 : Int32) (hb hby at_97) (by decide) ?_
      show St p e below Tc388 (mkF m 98 Ls376 [(.int (1 : Int32))]) t
      refine XS.goto Xc388.here hx rfl (pc0 := 98) (pc' := 102) rfl (hb hby at_98) (by decide) (by decide) ?_
      show St p e below Tc388 (mkF m 102 Ls376 [(.int (1 : Int32))]) t
      refine XS.istore Xc388.here hx rfl (hb hby at_102) rfl (l' := Ls390) rfl ?_
      show St p e below Tc388 (mkF m 104 Ls390 []) t
      refine XS.iload Xc388.here hx rfl (hb hby at_104) rfl ?_
      show St p e below Tc388 (mkF m 106 Ls390 [(.int (1 : Int32))]) t
      refine XS.ifNo Xc388.here hx rfl (hb hby at_106) rfl ((if0 _ _).trans (feq (by decide : ¬ ((1 : Int32) = (0 : Int32)))).1) ?_
      show St p e below Tc388 (mkF m 109 Ls390 []) t
      refine XS.iload Xc388.here hx rfl (hb hby at_109) rfl ?_
      show St p e below Tc388 (mkF m 111 Ls390 [(.int (1 : Int32))]) t
      refine XS.ifNo Xc388.here hx rfl (hb hby at_111) rfl ((if0 _ _).trans (feq (by decide : ¬ ((1 : Int32) = (0 : Int32)))).1) ?_
      show St p e below Tc388 (mkF m 114 Ls390 []) t
      refine XS.iload Xc388.here hx rfl (hb hby at_114) rfl ?_
      show St p e below Tc388 (mkF m 116 Ls390 [(.int (1 : Int32))]) t
      refine XS.ifNo Xc388.here hx rfl (hb hby at_116) rfl ((if0 _ _).trans (feq (by decide : ¬ ((1 : Int32) = (0 : Int32)))).1) ?_
      show St p e below Tc388 (mkF m 119 Ls390 []) t
      refine XT.iconstV Xc388.here hx rfl (1 : Int32) (hb hby at_119) (by decide) ?_
      show St p e below Tc388 (mkF m 120 Ls390 [(.int (1 : Int32))]) t
      refine XS.goto Xc388.here hx rfl (pc0 := 120) (pc' := 124) rfl (hb hby at_120) (by decide) (by decide) ?_
      exact k)
    obtain ⟨fs, hr, hrun, hended, hW, hsame⟩ := Xc388.leave (v := some (.int (1 : Int32))) (fun h => by rw [Bd.returns] at h; cases h)
    refine ⟨_, _, p391 _ ?_, hrun, hended, _, _, rfl, ?_, ⟨_, rfl⟩, hW, hsame.mono (by decide) (by decide)⟩
    · exact retOut Xc388 hx Bd.returns rfl (Or.inl ⟨rfl, by simp, _, rfl⟩) (hb hby at_124) hr
    · exact ⟨rfl, Nc388⟩
   ·
    let Ls392 : Array Slot := #[.val (.int i0), .val (.int i1), .val (.int i2), .val (.ref a_FALSE), .val (.ref a_UNKNOWN), .val (.int (1 : Int32)), .unset, .unset, .unset]
    have p393 : ∀ t, St p e below Tc219 (mkF m 25 Ls392 [(.ref a_FALSE)]) t → S0 t := fun t k => p359 t (by
      show St p e below Tc219 (mkF m 14 Ls358 [(.int (i2 &&& (1 : Int32)))]) t
      refine XS.ifNo Xc219.here hx rfl (hb hby at_14) rfl ((if0 _ _).trans (feq g360).1) ?_
      show St p e below Tc219 (mkF m 17 Ls358 []) t
      refine XT.iconstV Xc219.here hx rfl (1 : Int32) (hb hby at_17) (by decide) ?_
      show St p e below Tc219 (mkF m 18 Ls358 [(.int (1 : Int32))]) t
      refine XS.goto Xc219.here hx rfl (pc0 := 18) (pc' := 22) rfl (hb hby at_18) (by decide) (by decide) ?_
      show St p e below Tc219 (mkF m 22 Ls358 [(.int (1 : Int32))]) t
      refine XS.istore Xc219.here hx rfl (hb hby at_22) rfl (l' := Ls392) rfl ?_
      show St p e below Tc219 (mkF m 24 Ls392 []) t
      refine XS.aloadN Xc219.here hx rfl (hb hby at_24) rfl rfl ?_
      exact k)
    obtain ⟨cqc394, kqc394, qc394a, qc394b, qc394c⟩ := isOf hZ ec219 (Ea_FALSE.ext O0.2)
    obtain ⟨_, _, ⟨Tc394, Lc394, kc394, nc394⟩, -, Xc394, ⟨Lcc394, hQc394, lc394, yc394, zc394⟩, stc394⟩ := Xc219.virtualBack hx (y := M1) (z := M1) hown (mvT hZ (ww hw 8 rfl)) (mvT hZ (ww hw 9 rfl)) (notFace_of_selects (args := #[]) (mvT hZ (ww hw 11 rfl))) (mvT hZ (ww hw 11 rfl)) (mvT hZ (ww hw 10 rfl)) (by decide) (backOf (W := 0) (rm2_2 l Z a0 hw [] a_TRUE a_UNKNOWN a_FALSE h0 n0 O0 HE' ) hZ (ww hw 12 rfl) (ww hw 6 rfl) (by decide) (by decide)) qc394a qc394c (g := (mkF m 25 Ls392 [(.ref a_FALSE)])) rfl (by rw [hml]; rfl) (Steps.refl _) (argsL := []) (rest := []) (lenOf pd1 rfl) rfl (by show 2 * 0 + _ ≤ _; exact Nat.le_of_eq rfl) (hb hby at_25) (fun _ _ => ⟨rfl, ec219, (by decide : 0 + 0 ≤ _), (by decide : 0 + 0 ≤ _)⟩)
    dsimp only [Pt.U, Pt.locs, Pt.cells, Pt.slots] at Xc394 lc394 yc394 zc394 stc394 hQc394
    subst lc394 yc394 zc394
    obtain ⟨Nqc394, ec394, hAc394⟩ := hQc394
    have Nc394 := Fr.app Nc219 Nqc394
    obtain rfl := hAc394
    have p395 : ∀ t, St p e below Tc394 (mkF m 28 Ls392 [(.ref a_TRUE)]) t → S0 t := fun t k => p393 t (stc394.trans k)
    obtain ⟨cqc396, kqc396, qc396a, qc396b, qc396c⟩ := isOf hZ ec394 (Ea_TRUE.ext O0.2)
    obtain ⟨_, _, ⟨Tc396, Lc396, kc396, nc396⟩, -, Xc396, ⟨Lcc396, hQc396, lc396, yc396, zc396⟩, stc396⟩ := Xc394.virtualBack hx (y := M1) (z := M1) hown (mvT hZ (ww hw 8 rfl)) (mvT hZ (ww hw 9 rfl)) (notFace_of_selects (args := #[]) (mvT hZ (ww hw 11 rfl))) (mvT hZ (ww hw 11 rfl)) (mvT hZ (ww hw 10 rfl)) (by decide) (backOf (W := 0) (rm2_1 l Z a0 hw [] a_TRUE a_UNKNOWN a_FALSE h0 n0 O0 HE' ) hZ (ww hw 12 rfl) (ww hw 6 rfl) (by decide) (by decide)) qc396a qc396c (g := (mkF m 28 Ls392 [(.ref a_TRUE)])) rfl (by rw [hml]; rfl) (Steps.refl _) (argsL := []) (rest := []) (lenOf pd1 rfl) rfl (by show 2 * 0 + _ ≤ _; exact Nat.le_of_eq rfl) (hb hby at_28) (fun _ _ => ⟨rfl, ec394, (by decide : 0 + 0 ≤ _), (by decide : 0 + 0 ≤ _)⟩)
    dsimp only [Pt.U, Pt.locs, Pt.cells, Pt.slots] at Xc396 lc396 yc396 zc396 stc396 hQc396
    subst lc396 yc396 zc396
    obtain ⟨Nqc396, ec396, hAc396⟩ := hQc396
    have Nc396 := Fr.app Nc394 Nqc396
    obtain rfl := hAc396
    have p397 : ∀ t, St p e below Tc396 (mkF m 31 Ls392 [(.ref a_FALSE)]) t → S0 t := fun t k => p395 t (stc396.trans k)
    let Ls398 : Array Slot := #[.val (.int i0), .val (.int i1), .val (.int i2), .val (.ref a_FALSE), .val (.ref a_UNKNOWN), .val (.int (1 : Int32)), .val (.int (1 : Int32)), .unset, .unset]
    have p399 : ∀ t, St p e below Tc396 (mkF m 44 Ls398 [(.int (1 : Int32))]) t → S0 t := fun t k => p397 t (by
      show St p e below Tc396 (mkF m 31 Ls392 [(.ref a_FALSE)]) t
      refine XS.aloadN Xc396.here hx rfl (hb hby at_31) rfl rfl ?_
      show St p e below Tc396 (mkF m 32 Ls392 [(.ref a_FALSE), (.ref a_FALSE)]) t
      refine Jvm.RoadKit.acmp (g := (mkF m 32 Ls392 [(.ref a_FALSE), (.ref a_FALSE)])) Xc396 hx rfl rfl rfl (pc0 := 32) (pc' := 35) (same := true) rfl (hb hby at_32) rfl (decide_eq_true rfl) (by decide) (by decide) ?_
      show St p e below Tc396 (mkF m 35 Ls392 []) t
      refine XT.iconstV Xc396.here hx rfl (1 : Int32) (hb hby at_35) (by decide) ?_
      show St p e below Tc396 (mkF m 36 Ls392 [(.int (1 : Int32))]) t
      refine XS.goto Xc396.here hx rfl (pc0 := 36) (pc' := 40) rfl (hb hby at_36) (by decide) (by decide) ?_
      show St p e below Tc396 (mkF m 40 Ls392 [(.int (1 : Int32))]) t
      refine XS.istore Xc396.here hx rfl (hb hby at_40) rfl (l' := Ls398) rfl ?_
      show St p e below Tc396 (mkF m 42 Ls398 []) t
      refine XS.iload Xc396.here hx rfl (hb hby at_42) rfl ?_
      exact k)
    obtain ⟨_, _, ⟨Tc400, Lc400, kc400, nc400⟩, -, Xc400, ⟨Lcc400, hQc400, lc400, yc400, zc400⟩, stc400⟩ := Jvm.LawKit.callS Xc396 hx (y := M2) hown (mvT hZ (ww hw 18 rfl)) (mvT hZ (ww hw 19 rfl)) (mvT hZ (ww hw 6 rfl)) (mvT hZ (ww hw 20 rfl)) (by decide) (backOf (W := 0) (rm3_4 l Z a0 hw [] a_TRUE a_UNKNOWN a_FALSE h0 n0 O0 HE' ) hZ (ww hw 20 rfl) (ww hw 6 rfl) (by decide) (by decide)) (g := (mkF m 44 Ls398 [(.int (1 : Int32))])) rfl (by rw [hml]; rfl) (argsL := [(.int (1 : Int32))]) (rest := []) (lenOf pd2 rfl) rfl (by show 2 * 0 + _ ≤ _; exact Nat.le_of_eq rfl) (hb hby at_44) (fun _ _ => ⟨rfl, ec396, (by decide : 0 + 0 ≤ _), (by decide : 0 + 0 ≤ _)⟩)
    dsimp only [Pt.U, Pt.locs, Pt.cells, Pt.slots] at Xc400 lc400 yc400 zc400 stc400 hQc400
    subst lc400 yc400 zc400
    obtain ⟨Nqc400, ec400, hAc400⟩ := hQc400
    have Nc400 := Fr.app Nc396 Nqc400
    obtain rfl := hAc400
    have p401 : ∀ t, St p e below Tc400 (mkF m 47 Ls398 [(.ref a_TRUE)]) t → S0 t := fun t k => p399 t (stc400 t k)
    obtain ⟨cqc402, kqc402, qc402a, qc402b, qc402c⟩ := isOf hZ ec400 (Ea_TRUE.ext O0.2)
    obtain ⟨_, _, ⟨Tc402, Lc402, kc402, nc402⟩, -, Xc402, ⟨Lcc402, hQc402, lc402, yc402, zc402⟩, stc402⟩ := Xc400.virtualBack hx (y := M1) (z := M1) hown (mvT hZ (ww hw 8 rfl)) (mvT hZ (ww hw 9 rfl)) (notFace_of_selects (args := #[]) (mvT hZ (ww hw 11 rfl))) (mvT hZ (ww hw 11 rfl)) (mvT hZ (ww hw 10 rfl)) (by decide) (backOf (W := 0) (rm2_1 l Z a0 hw [] a_TRUE a_UNKNOWN a_FALSE h0 n0 O0 HE' ) hZ (ww hw 12 rfl) (ww hw 6 rfl) (by decide) (by decide)) qc402a qc402c (g := (mkF m 47 Ls398 [(.ref a_TRUE)])) rfl (by rw [hml]; rfl) (Steps.refl _) (argsL := []) (rest := []) (lenOf pd1 rfl) rfl (by show 2 * 0 + _ ≤ _; exact Nat.le_of_eq rfl) (hb hby at_47) (fun _ _ => ⟨rfl, ec400, (by decide : 0 + 0 ≤ _), (by decide : 0 + 0 ≤ _)⟩)
    dsimp only [Pt.U, Pt.locs, Pt.cells, Pt.slots] at Xc402 lc402 yc402 zc402 stc402 hQc402
    subst lc402 yc402 zc402
    obtain ⟨Nqc402, ec402, hAc402⟩ := hQc402
    have Nc402 := Fr.app Nc400 Nqc402
    obtain rfl := hAc402
    have p403 : ∀ t, St p e below Tc402 (mkF m 50 Ls398 [(.ref a_FALSE)]) t → S0 t := fun t k => p401 t (stc402.trans k)
    have p404 : ∀ t, St p e below Tc402 (mkF m 60 Ls398 [(.int (0 : Int32)), (.ref a_FALSE)]) t → S0 t := fun t k => p403 t (by
      show St p e below Tc402 (mkF m 50 Ls398 [(.ref a_FALSE)]) t
      refine XS.iload Xc402.here hx rfl (hb hby at_50) rfl ?_
      show St p e below Tc402 (mkF m 52 Ls398 [(.int (1 : Int32)), (.ref a_FALSE)]) t
      refine XS.ifYes Xc402.here hx rfl (pc0 := 52) (pc' := 59) rfl (hb hby at_52) rfl ((if0 _ _).trans (feq (by decide : ¬ ((1 : Int32) = (0 : Int32)))).2) (by decide) (by decide) ?_
      show St p e below Tc402 (mkF m 59 Ls398 [(.ref a_FALSE)]) t
      refine XT.iconstV Xc402.here hx rfl (0 : Int32) (hb hby at_59) (by decide) ?_
      exact k)
    obtain ⟨_, _, ⟨Tc405, Lc405, kc405, nc405⟩, -, Xc405, ⟨Lcc405, hQc405, lc405, yc405, zc405⟩, stc405⟩ := Jvm.LawKit.callS Xc402 hx (y := M2) hown (mvT hZ (ww hw 18 rfl)) (mvT hZ (ww hw 19 rfl)) (mvT hZ (ww hw 6 rfl)) (mvT hZ (ww hw 20 rfl)) (by decide) (backOf (W := 1) (rm3_3 l Z a0 hw [] a_TRUE a_UNKNOWN a_FALSE h0 n0 O0 HE' ) hZ (ww hw 20 rfl) (ww hw 6 rfl) (by decide) (by decide)) (g := (mkF m 60 Ls398 [(.int (0 : Int32)), (.ref a_FALSE)])) rfl (by rw [hml]; rfl) (argsL := [(.int (0 : Int32))]) (rest := [(.ref a_FALSE)]) (lenOf pd2 rfl) rfl (by show 2 * 0 + _ ≤ _; exact Nat.le_of_eq rfl) (hb hby at_60) (fun _ _ => ⟨rfl, ec402, (by decide : 0 + 0 ≤ _), (by decide : 0 + 0 ≤ _)⟩)
    dsimp only [Pt.U, Pt.locs, Pt.cells, Pt.slots] at Xc405 lc405 yc405 zc405 stc405 hQc405
    subst lc405 yc405 zc405
    obtain ⟨Nqc405, ec405, hAc405⟩ := hQc405
    have Nc405 := Fr.app Nc402 Nqc405
    obtain rfl := hAc405
    have p406 : ∀ t, St p e below Tc405 (mkF m 63 Ls398 [(.ref a_FALSE), (.ref a_FALSE)]) t → S0 t := fun t k => p404 t (stc405 t k)
    let Ls407 : Array Slot := #[.val (.int i0), .val (.int i1), .val (.int i2), .val (.ref a_FALSE), .val (.ref a_UNKNOWN), .val (.int (1 : Int32)), .val (.int (1 : Int32)), .val (.int (1 : Int32)), .unset]
    have p408 : ∀ t, St p e below Tc405 (mkF m 76 Ls407 [(.ref a_UNKNOWN), (.ref a_FALSE)]) t → S0 t := fun t k => p406 t (by
      show St p e below Tc405 (mkF m 63 Ls398 [(.ref a_FALSE), (.ref a_FALSE)]) t
      refine Jvm.RoadKit.acmp (g := (mkF m 63 Ls398 [(.ref a_FALSE), (.ref a_FALSE)])) Xc405 hx rfl rfl rfl (pc0 := 63) (pc' := 66) (same := true) rfl (hb hby at_63) rfl (decide_eq_true rfl) (by decide) (by decide) ?_
      show St p e below Tc405 (mkF m 66 Ls398 []) t
      refine XT.iconstV Xc405.here hx rfl (1 : Int32) (hb hby at_66) (by decide) ?_
      show St p e below Tc405 (mkF m 67 Ls398 [(.int (1 : Int32))]) t
      refine XS.goto Xc405.here hx rfl (pc0 := 67) (pc' := 71) rfl (hb hby at_67) (by decide) (by decide) ?_
      show St p e below Tc405 (mkF m 71 Ls398 [(.int (1 : Int32))]) t
      refine XS.istore Xc405.here hx rfl (hb hby at_71) rfl (l' := Ls407) rfl ?_
      show St p e below Tc405 (mkF m 73 Ls407 []) t
      refine XS.aloadN Xc405.here hx rfl (hb hby at_73) rfl rfl ?_
      show St p e below Tc405 (mkF m 74 Ls407 [(.ref a_FALSE)]) t
      refine XS.aload Xc405.here hx rfl (hb hby at_74) rfl rfl ?_
      exact k)
    obtain ⟨cqc409, kqc409, qc409a, qc409b, qc409c⟩ := isOf hZ ec405 (Ea_FALSE.ext O0.2)
    obtain ⟨_, _, ⟨Tc409, Lc409, kc409, nc409⟩, -, Xc409, ⟨Lcc409, hQc409, lc409, yc409, zc409⟩, stc409⟩ := Xc405.virtualBack hx (y := M3) (z := M3) hown (mvT hZ (ww hw 21 rfl)) (mvT hZ (ww hw 22 rfl)) (notFace_of_selects (args := #[]) (mvT hZ (ww hw 24 rfl))) (mvT hZ (ww hw 24 rfl)) (mvT hZ (ww hw 23 rfl)) (by decide) (backOf (W := 0) (rm4_16 l Z a0 hw [] a_TRUE a_UNKNOWN a_FALSE h0 n0 O0 HE' ) hZ (ww hw 25 rfl) (ww hw 6 rfl) (by decide) (by decide)) qc409a qc409c (g := (mkF m 76 Ls407 [(.ref a_UNKNOWN), (.ref a_FALSE)])) rfl (by rw [hml]; rfl) (Steps.refl _) (argsL := [(.ref a_UNKNOWN)]) (rest := []) (lenOf pd3 rfl) rfl (by show 2 * 0 + _ ≤ _; exact Nat.le_of_eq rfl) (hb hby at_76) (fun _ _ => ⟨rfl, ec405, (by decide : 0 + 0 ≤ _), (by decide : 0 + 0 ≤ _)⟩)
    dsimp only [Pt.U, Pt.locs, Pt.cells, Pt.slots] at Xc409 lc409 yc409 zc409 stc409 hQc409
    subst lc409 yc409 zc409
    obtain ⟨Nqc409, ec409, hAc409⟩ := hQc409
    have Nc409 := Fr.app Nc405 Nqc409
    obtain rfl := hAc409
    have p410 : ∀ t, St p e below Tc409 (mkF m 79 Ls407 [(.ref a_FALSE)]) t → S0 t := fun t k => p408 t (stc409.trans k)
    obtain ⟨cqc411, kqc411, qc411a, qc411b, qc411c⟩ := isOf hZ ec409 (Ea_FALSE.ext O0.2)
    obtain ⟨_, _, ⟨Tc411, Lc411, kc411, nc411⟩, -, Xc411, ⟨Lcc411, hQc411, lc411, yc411, zc411⟩, stc411⟩ := Xc409.virtualBack hx (y := M1) (z := M1) hown (mvT hZ (ww hw 8 rfl)) (mvT hZ (ww hw 9 rfl)) (notFace_of_selects (args := #[]) (mvT hZ (ww hw 11 rfl))) (mvT hZ (ww hw 11 rfl)) (mvT hZ (ww hw 10 rfl)) (by decide) (backOf (W := 0) (rm2_2 l Z a0 hw [] a_TRUE a_UNKNOWN a_FALSE h0 n0 O0 HE' ) hZ (ww hw 12 rfl) (ww hw 6 rfl) (by decide) (by decide)) qc411a qc411c (g := (mkF m 79 Ls407 [(.ref a_FALSE)])) rfl (by rw [hml]; rfl) (Steps.refl _) (argsL := []) (rest := []) (lenOf pd1 rfl) rfl (by show 2 * 0 + _ ≤ _; exact Nat.le_of_eq rfl) (hb hby at_79) (fun _ _ => ⟨rfl, ec409, (by decide : 0 + 0 ≤ _), (by decide : 0 + 0 ≤ _)⟩)
    dsimp only [Pt.U, Pt.locs, Pt.cells, Pt.slots] at Xc411 lc411 yc411 zc411 stc411 hQc411
    subst lc411 yc411 zc411
    obtain ⟨Nqc411, ec411, hAc411⟩ := hQc411
    have Nc411 := Fr.app Nc409 Nqc411
    obtain rfl := hAc411
    have p412 : ∀ t, St p e below Tc411 (mkF m 82 Ls407 [(.ref a_TRUE)]) t → S0 t := fun t k => p410 t (stc411.trans k)
    have p413 : ∀ t, St p e below Tc411 (mkF m 83 Ls407 [(.ref a_FALSE), (.ref a_TRUE)]) t → S0 t := fun t k => p412 t (by
      show St p e below Tc411 (mkF m 82 Ls407 [(.ref a_TRUE)]) t
      refine XS.aloadN Xc411.here hx rfl (hb hby at_82) rfl rfl ?_
      exact k)
    obtain ⟨cqc414, kqc414, qc414a, qc414b, qc414c⟩ := isOf hZ ec411 (Ea_FALSE.ext O0.2)
    obtain ⟨_, _, ⟨Tc414, Lc414, kc414, nc414⟩, -, Xc414, ⟨Lcc414, hQc414, lc414, yc414, zc414⟩, stc414⟩ := Xc411.virtualBack hx (y := M1) (z := M1) hown (mvT hZ (ww hw 8 rfl)) (mvT hZ (ww hw 9 rfl)) (notFace_of_selects (args := #[]) (mvT hZ (ww hw 11 rfl))) (mvT hZ (ww hw 11 rfl)) (mvT hZ (ww hw 10 rfl)) (by decide) (backOf (W := 1) (rm2_2 l Z a0 hw [] a_TRUE a_UNKNOWN a_FALSE h0 n0 O0 HE' ) hZ (ww hw 12 rfl) (ww hw 6 rfl) (by decide) (by decide)) qc414a qc414c (g := (mkF m 83 Ls407 [(.ref a_FALSE), (.ref a_TRUE)])) rfl (by rw [hml]; rfl) (Steps.refl _) (argsL := []) (rest := [(.ref a_TRUE)]) (lenOf pd1 rfl) rfl (by show 2 * 0 + _ ≤ _; exact Nat.le_of_eq rfl) (hb hby at_83) (fun _ _ => ⟨rfl, ec411, (by decide : 0 + 0 ≤ _), (by decide : 0 + 0 ≤ _)⟩)
    dsimp only [Pt.U, Pt.locs, Pt.cells, Pt.slots] at Xc414 lc414 yc414 zc414 stc414 hQc414
    subst lc414 yc414 zc414
    obtain ⟨Nqc414, ec414, hAc414⟩ := hQc414
    have Nc414 := Fr.app Nc411 Nqc414
    obtain rfl := hAc414
    have p415 : ∀ t, St p e below Tc414 (mkF m 86 Ls407 [(.ref a_TRUE), (.ref a_TRUE)]) t → S0 t := fun t k => p413 t (stc414.trans k)
    have p416 : ∀ t, St p e below Tc414 (mkF m 88 Ls407 [(.ref a_UNKNOWN), (.ref a_TRUE), (.ref a_TRUE)]) t → S0 t := fun t k => p415 t (by
      show St p e below Tc414 (mkF m 86 Ls407 [(.ref a_TRUE), (.ref a_TRUE)]) t
      refine XS.aload Xc414.here hx rfl (hb hby at_86) rfl rfl ?_
      exact k)
    obtain ⟨cqc417, kqc417, qc417a, qc417b, qc417c⟩ := isOf hZ ec414 (Ea_UNKNOWN.ext O0.2)
    obtain ⟨_, _, ⟨Tc417, Lc417, kc417, nc417⟩, -, Xc417, ⟨Lcc417, hQc417, lc417, yc417, zc417⟩, stc417⟩ := Xc414.virtualBack hx (y := M1) (z := M1) hown (mvT hZ (ww hw 8 rfl)) (mvT hZ (ww hw 9 rfl)) (notFace_of_selects (args := #[]) (mvT hZ (ww hw 11 rfl))) (mvT hZ (ww hw 11 rfl)) (mvT hZ (ww hw 10 rfl)) (by decide) (backOf (W := 2) (rm2_10 l Z a0 hw [] a_TRUE a_UNKNOWN a_FALSE h0 n0 O0 HE' ) hZ (ww hw 12 rfl) (ww hw 6 rfl) (by decide) (by decide)) qc417a qc417c (g := (mkF m 88 Ls407 [(.ref a_UNKNOWN), (.ref a_TRUE), (.ref a_TRUE)])) rfl (by rw [hml]; rfl) (Steps.refl _) (argsL := []) (rest := [(.ref a_TRUE), (.ref a_TRUE)]) (lenOf pd1 rfl) rfl (by show 2 * 0 + _ ≤ _; exact Nat.le_of_eq rfl) (hb hby at_88) (fun _ _ => ⟨rfl, ec414, (by decide : 0 + 0 ≤ _), (by decide : 0 + 0 ≤ _)⟩)
    dsimp only [Pt.U, Pt.locs, Pt.cells, Pt.slots] at Xc417 lc417 yc417 zc417 stc417 hQc417
    subst lc417 yc417 zc417
    obtain ⟨Nqc417, ec417, hAc417⟩ := hQc417
    have Nc417 := Fr.app Nc414 Nqc417
    obtain rfl := hAc417
    have p418 : ∀ t, St p e below Tc417 (mkF m 91 Ls407 [(.ref a_UNKNOWN), (.ref a_TRUE), (.ref a_TRUE)]) t → S0 t := fun t k => p416 t (stc417.trans k)
    obtain ⟨cqc419, kqc419, qc419a, qc419b, qc419c⟩ := isOf hZ ec417 (Ea_TRUE.ext O0.2)
    obtain ⟨_, _, ⟨Tc419, Lc419, kc419, nc419⟩, -, Xc419, ⟨Lcc419, hQc419, lc419, yc419, zc419⟩, stc419⟩ := Xc417.virtualBack hx (y := M4) (z := M4) hown (mvT hZ (ww hw 26 rfl)) (mvT hZ (ww hw 27 rfl)) (notFace_of_selects (args := #[]) (mvT hZ (ww hw 29 rfl))) (mvT hZ (ww hw 29 rfl)) (mvT hZ (ww hw 28 rfl)) (by decide) (backOf (W := 1) (rm5_17 l Z a0 hw [] a_TRUE a_UNKNOWN a_FALSE h0 n0 O0 HE' ) hZ (ww hw 30 rfl) (ww hw 6 rfl) (by decide) (by decide)) qc419a qc419c (g := (mkF m 91 Ls407 [(.ref a_UNKNOWN), (.ref a_TRUE), (.ref a_TRUE)])) rfl (by rw [hml]; rfl) (Steps.refl _) (argsL := [(.ref a_UNKNOWN)]) (rest := [(.ref a_TRUE)]) (lenOf pd3 rfl) rfl (by show 2 * 0 + _ ≤ _; exact Nat.le_of_eq rfl) (hb hby at_91) (fun _ _ => ⟨rfl, ec417, (by decide : 0 + 0 ≤ _), (by decide : 0 + 0 ≤ _)⟩)
    dsimp only [Pt.U, Pt.locs, Pt.cells, Pt.slots] at Xc419 lc419 yc419 zc419 stc419 hQc419
    subst lc419 yc419 zc419
    obtain ⟨Nqc419, ec419, hAc419⟩ := hQc419
    have Nc419 := Fr.app Nc417 Nqc419
    obtain rfl := hAc419
    have p420 : ∀ t, St p e below Tc419 (mkF m 94 Ls407 [(.ref a_TRUE), (.ref a_TRUE)]) t → S0 t := fun t k => p418 t (stc419.trans k)
    let Ls421 : Array Slot := #[.val (.int i0), .val (.int i1), .val (.int i2), .val (.ref a_FALSE), .val (.ref a_UNKNOWN), .val (.int (1 : Int32)), .val (.int (1 : Int32)), .val (.int (1 : Int32)), .val (.int (1 : Int32))]
    have p422 : ∀ t, St p e below Tc419 (mkF m 124 Ls421 [(.int (1 : Int32))]) t → S0 t := fun t k => p420 t (by
      show St p e below Tc419 (mkF m 94 Ls407 [(.ref a_TRUE), (.ref a_TRUE)]) t
      refine Jvm.RoadKit.acmp (g := (mkF m 94 Ls407 [(.ref a_TRUE), (.ref a_TRUE)])) Xc419 hx rfl rfl rfl (pc0 := 94) (pc' := 97) (same := true) rfl (hb hby at_94) rfl (decide_eq_true rfl) (by decide) (by decide) ?_
      show St p e below Tc419 (mkF m 97 Ls407 []) t
      refine XT.iconstV Xc419.here hx rfl (1 : Int32) (hb hby at_97) (by decide) ?_
      show St p e below Tc419 (mkF m 98 Ls407 [(.int (1 : Int32))]) t
      refine XS.goto Xc419.here hx rfl (pc0 := 98) (pc' := 102) rfl (hb hby at_98) (by decide) (by decide) ?_
      show St p e below Tc419 (mkF m 102 Ls407 [(.int (1 : Int32))]) t
      refine XS.istore Xc419.here hx rfl (hb hby at_102) rfl (l' := Ls421) rfl ?_
      show St p e below Tc419 (mkF m 104 Ls421 []) t
      refine XS.iload Xc419.here hx rfl (hb hby at_104) rfl ?_
      show St p e below Tc419 (mkF m 106 Ls421 [(.int (1 : Int32))]) t
      refine XS.ifNo Xc419.here hx rfl (hb hby at_106) rfl ((if0 _ _).trans (feq (by decide : ¬ ((1 : Int32) = (0 : Int32)))).1) ?_
      show St p e below Tc419 (mkF m 109 Ls421 []) t
      refine XS.iload Xc419.here hx rfl (hb hby at_109) rfl ?_
      show St p e below Tc419 (mkF m 111 Ls421 [(.int (1 : Int32))]) t
      refine XS.ifNo Xc419.here hx rfl (hb hby at_111) rfl ((if0 _ _).trans (feq (by decide : ¬ ((1 : Int32) = (0 : Int32)))).1) ?_
      show St p e below Tc419 (mkF m 114 Ls421 []) t
      refine XS.iload Xc419.here hx rfl (hb hby at_114) rfl ?_
      show St p e below Tc419 (mkF m 116 Ls421 [(.int (1 : Int32))]) t
      refine XS.ifNo Xc419.here hx rfl (hb hby at_116) rfl ((if0 _ _).trans (feq (by decide : ¬ ((1 : Int32) = (0 : Int32)))).1) ?_
      show St p e below Tc419 (mkF m 119 Ls421 []) t
      refine XT.iconstV Xc419.here hx rfl (1 : Int32) (hb hby at_119) (by decide) ?_
      show St p e below Tc419 (mkF m 120 Ls421 [(.int (1 : Int32))]) t
      refine XS.goto Xc419.here hx rfl (pc0 := 120) (pc' := 124) rfl (hb hby at_120) (by decide) (by decide) ?_
      exact k)
    obtain ⟨fs, hr, hrun, hended, hW, hsame⟩ := Xc419.leave (v := some (.int (1 : Int32))) (fun h => by rw [Bd.returns] at h; cases h)
    refine ⟨_, _, p422 _ ?_, hrun, hended, _, _, rfl, ?_, ⟨_, rfl⟩, hW, hsame.mono (by decide) (by decide)⟩
    · exact retOut Xc419 hx Bd.returns rfl (Or.inl ⟨rfl, by simp, _, rfl⟩) (hb hby at_124) hr
    · exact ⟨rfl, Nc419⟩
 ·
  have p423 : ∀ t, St p e below Tc3 (mkF m 4 Ls1 [(.ref a_UNKNOWN)]) t → S0 t := fun t k => p2 t (stc3 t k)
  let Ls424 : Array Slot := #[.val (.int i0), .val (.int i1), .val (.int i2), .val (.ref a_UNKNOWN), .unset, .unset, .unset, .unset, .unset]
  have p425 : ∀ t, St p e below Tc3 (mkF m 6 Ls424 [(.int i1)]) t → S0 t := fun t k => p423 t (by
    show St p e below Tc3 (mkF m 4 Ls1 [(.ref a_UNKNOWN)]) t
    refine XS.astoreN Xc3.here hx rfl (hb hby at_4) rfl rfl (l' := Ls424) rfl ?_
    show St p e below Tc3 (mkF m 5 Ls424 []) t
    refine XS.iloadN Xc3.here hx rfl (hb hby at_5) rfl ?_
    exact k)
  obtain ⟨_, _, ⟨Tc426, Lc426, kc426, nc426⟩, -, Xc426, ⟨Lcc426, hQc426, lc426, yc426, zc426⟩, stc426⟩ := Jvm.LawKit.callS Xc3 hx (y := M0) hown (mvT hZ (ww hw 0 rfl)) (mvT hZ (ww hw 1 rfl)) (mvT hZ (ww hw 2 rfl)) (mvT hZ (ww hw 3 rfl)) (by decide) (backOf (W := 0) (rm1_0 l Z a0 hw [] a_TRUE a_UNKNOWN a_FALSE i1 h0 n0 O0 HE' ) hZ (ww hw 3 rfl) (ww hw 2 rfl) (by decide) (by decide)) (g := (mkF m 6 Ls424 [(.int i1)])) rfl (by rw [hml]; rfl) (argsL := [(.int i1)]) (rest := []) (lenOf pd0 rfl) rfl (by show 2 * 0 + _ ≤ _; exact Nat.le_of_eq rfl) (hb hby at_6) (fun _ _ => ⟨rfl, ec3, (by decide : 0 + 0 ≤ _), (by decide : 0 + 0 ≤ _)⟩)
  dsimp only [Pt.U, Pt.locs, Pt.cells, Pt.slots] at Xc426 lc426 yc426 zc426 stc426 hQc426
  subst lc426 yc426 zc426
  obtain ⟨Nqc426, ec426, hAc426⟩ := hQc426
  have Nc426 := Fr.app Nc3 Nqc426
  rcases hAc426 with ⟨rfl, g427⟩ | ⟨rfl, g428, g429⟩ | ⟨rfl, g430, g431⟩
  ·
   have p432 : ∀ t, St p e below Tc426 (mkF m 9 Ls424 [(.ref a_TRUE)]) t → S0 t := fun t k => p425 t (stc426 t k)
   let Ls433 : Array Slot := #[.val (.int i0), .val (.int i1), .val (.int i2), .val (.ref a_UNKNOWN), .val (.ref a_TRUE), .unset, .unset, .unset, .unset]
   have p434 : ∀ t, St p e below Tc426 (mkF m 14 Ls433 [(.int (i2 &&& (1 : Int32)))]) t → S0 t := fun t k => p432 t (by
     show St p e below Tc426 (mkF m 9 Ls424 [(.ref a_TRUE)]) t
     refine XS.astore Xc426.here hx rfl (hb hby at_9) rfl rfl (l' := Ls433) rfl ?_
     show St p e below Tc426 (mkF m 11 Ls433 []) t
     refine XS.iloadN Xc426.here hx rfl (hb hby at_11) rfl ?_
     show St p e below Tc426 (mkF m 12 Ls433 [(.int i2)]) t
     refine XT.iconstV Xc426.here hx rfl (1 : Int32) (hb hby at_12) (by decide) ?_
     show St p e below Tc426 (mkF m 13 Ls433 [(.int (1 : Int32)), (.int i2)]) t
     refine XS.iand Xc426.here hx rfl (hb hby at_13) rfl ?_
     exact k)
   by_cases g435 : (i2 &&& (1 : Int32)) = (0 : Int32)
   ·
    let Ls436 : Array Slot := #[.val (.int i0), .val (.int i1), .val (.int i2), .val (.ref a_UNKNOWN), .val (.ref a_TRUE), .val (.int (0 : Int32)), .unset, .unset, .unset]
    have p437 : ∀ t, St p e below Tc426 (mkF m 25 Ls436 [(.ref a_UNKNOWN)]) t → S0 t := fun t k => p434 t (by
      show St p e below Tc426 (mkF m 14 Ls433 [(.int (i2 &&& (1 : Int32)))]) t
      refine XS.ifYes Xc426.here hx rfl (pc0 := 14) (pc' := 21) rfl (hb hby at_14) rfl ((if0 _ _).trans (teq g435).1) (by decide) (by decide) ?_
      show St p e below Tc426 (mkF m 21 Ls433 []) t
      refine XT.iconstV Xc426.here hx rfl (0 : Int32) (hb hby at_21) (by decide) ?_
      show St p e below Tc426 (mkF m 22 Ls433 [(.int (0 : Int32))]) t
      refine XS.istore Xc426.here hx rfl (hb hby at_22) rfl (l' := Ls436) rfl ?_
      show St p e below Tc426 (mkF m 24 Ls436 []) t
      refine XS.aloadN Xc426.here hx rfl (hb hby at_24) rfl rfl ?_
      exact k)
    obtain ⟨cqc438, kqc438, qc438a, qc438b, qc438c⟩ := isOf hZ ec426 (Ea_UNKNOWN.ext O0.2)
    obtain ⟨_, _, ⟨Tc438, Lc438, kc438, nc438⟩, -, Xc438, ⟨Lcc438, hQc438, lc438, yc438, zc438⟩, stc438⟩ := Xc426.virtualBack hx (y := M1) (z := M1) hown (mvT hZ (ww hw 8 rfl)) (mvT hZ (ww hw 9 rfl)) (notFace_of_selects (args := #[]) (mvT hZ (ww hw 11 rfl))) (mvT hZ (ww hw 11 rfl)) (mvT hZ (ww hw 10 rfl)) (by decide) (backOf (W := 0) (rm2_10 l Z a0 hw [] a_TRUE a_UNKNOWN a_FALSE h0 n0 O0 HE' ) hZ (ww hw 12 rfl) (ww hw 6 rfl) (by decide) (by decide)) qc438a qc438c (g := (mkF m 25 Ls436 [(.ref a_UNKNOWN)])) rfl (by rw [hml]; rfl) (Steps.refl _) (argsL := []) (rest := []) (lenOf pd1 rfl) rfl (by show 2 * 0 + _ ≤ _; exact Nat.le_of_eq rfl) (hb hby at_25) (fun _ _ => ⟨rfl, ec426, (by decide : 0 + 0 ≤ _), (by decide : 0 + 0 ≤ _)⟩)
    dsimp only [Pt.U, Pt.locs, Pt.cells, Pt.slots] at Xc438 lc438 yc438 zc438 stc438 hQc438
    subst lc438 yc438 zc438
    obtain ⟨Nqc438, ec438, hAc438⟩ := hQc438
    have Nc438 := Fr.app Nc426 Nqc438
    obtain rfl := hAc438
    have p439 : ∀ t, St p e below Tc438 (mkF m 28 Ls436 [(.ref a_UNKNOWN)]) t → S0 t := fun t k => p437 t (stc438.trans k)
    obtain ⟨cqc440, kqc440, qc440a, qc440b, qc440c⟩ := isOf hZ ec438 (Ea_UNKNOWN.ext O0.2)
    obtain ⟨_, _, ⟨Tc440, Lc440, kc440, nc440⟩, -, Xc440, ⟨Lcc440, hQc440, lc440, yc440, zc440⟩, stc440⟩ := Xc438.virtualBack hx (y := M1) (z := M1) hown (mvT hZ (ww hw 8 rfl)) (mvT hZ (ww hw 9 rfl)) (notFace_of_selects (args := #[]) (mvT hZ (ww hw 11 rfl))) (mvT hZ (ww hw 11 rfl)) (mvT hZ (ww hw 10 rfl)) (by decide) (backOf (W := 0) (rm2_10 l Z a0 hw [] a_TRUE a_UNKNOWN a_FALSE h0 n0 O0 HE' ) hZ (ww hw 12 rfl) (ww hw 6 rfl) (by decide) (by decide)) qc440a qc440c (g := (mkF m 28 Ls436 [(.ref a_UNKNOWN)])) rfl (by rw [hml]; rfl) (Steps.refl _) (argsL := []) (rest := []) (lenOf pd1 rfl) rfl (by show 2 * 0 + _ ≤ _; exact Nat.le_of_eq rfl) (hb hby at_28) (fun _ _ => ⟨rfl, ec438, (by decide : 0 + 0 ≤ _), (by decide : 0 + 0 ≤ _)⟩)
    dsimp only [Pt.U, Pt.locs, Pt.cells, Pt.slots] at Xc440 lc440 yc440 zc440 stc440 hQc440
    subst lc440 yc440 zc440
    obtain ⟨Nqc440, ec440, hAc440⟩ := hQc440
    have Nc440 := Fr.app Nc438 Nqc440
    obtain rfl := hAc440
    have p441 : ∀ t, St p e below Tc440 (mkF m 31 Ls436 [(.ref a_UNKNOWN)]) t → S0 t := fun t k => p439 t (stc440.trans k)
    let Ls442 : Array Slot := #[.val (.int i0), .val (.int i1), .val (.int i2), .val (.ref a_UNKNOWN), .val (.ref a_TRUE), .val (.int (0 : Int32)), .val (.int (1 : Int32)), .unset, .unset]
    have p443 : ∀ t, St p e below Tc440 (mkF m 44 Ls442 [(.int (0 : Int32))]) t → S0 t := fun t k => p441 t (by
      show St p e below Tc440 (mkF m 31 Ls436 [(.ref a_UNKNOWN)]) t
      refine XS.aloadN Xc440.here hx rfl (hb hby at_31) rfl rfl ?_
      show St p e below Tc440 (mkF m 32 Ls436 [(.ref a_UNKNOWN), (.ref a_UNKNOWN)]) t
      refine Jvm.RoadKit.acmp (g := (mkF m 32 Ls436 [(.ref a_UNKNOWN), (.ref a_UNKNOWN)])) Xc440 hx rfl rfl rfl (pc0 := 32) (pc' := 35) (same := true) rfl (hb hby at_32) rfl (decide_eq_true rfl) (by decide) (by decide) ?_
      show St p e below Tc440 (mkF m 35 Ls436 []) t
      refine XT.iconstV Xc440.here hx rfl (1 : Int32) (hb hby at_35) (by decide) ?_
      show St p e below Tc440 (mkF m 36 Ls436 [(.int (1 : Int32))]) t
      refine XS.goto Xc440.here hx rfl (pc0 := 36) (pc' := 40) rfl (hb hby at_36) (by decide) (by decide) ?_
      show St p e below Tc440 (mkF m 40 Ls436 [(.int (1 : Int32))]) t
      refine XS.istore Xc440.here hx rfl (hb hby at_40) rfl (l' := Ls442) rfl ?_
      show St p e below Tc440 (mkF m 42 Ls442 []) t
      refine XS.iload Xc440.here hx rfl (hb hby at_42) rfl ?_
      exact k)
    obtain ⟨_, _, ⟨Tc444, Lc444, kc444, nc444⟩, -, Xc444, ⟨Lcc444, hQc444, lc444, yc444, zc444⟩, stc444⟩ := Jvm.LawKit.callS Xc440 hx (y := M2) hown (mvT hZ (ww hw 18 rfl)) (mvT hZ (ww hw 19 rfl)) (mvT hZ (ww hw 6 rfl)) (mvT hZ (ww hw 20 rfl)) (by decide) (backOf (W := 0) (rm3_3 l Z a0 hw [] a_TRUE a_UNKNOWN a_FALSE h0 n0 O0 HE' ) hZ (ww hw 20 rfl) (ww hw 6 rfl) (by decide) (by decide)) (g := (mkF m 44 Ls442 [(.int (0 : Int32))])) rfl (by rw [hml]; rfl) (argsL := [(.int (0 : Int32))]) (rest := []) (lenOf pd2 rfl) rfl (by show 2 * 0 + _ ≤ _; exact Nat.le_of_eq rfl) (hb hby at_44) (fun _ _ => ⟨rfl, ec440, (by decide : 0 + 0 ≤ _), (by decide : 0 + 0 ≤ _)⟩)
    dsimp only [Pt.U, Pt.locs, Pt.cells, Pt.slots] at Xc444 lc444 yc444 zc444 stc444 hQc444
    subst lc444 yc444 zc444
    obtain ⟨Nqc444, ec444, hAc444⟩ := hQc444
    have Nc444 := Fr.app Nc440 Nqc444
    obtain rfl := hAc444
    have p445 : ∀ t, St p e below Tc444 (mkF m 47 Ls442 [(.ref a_FALSE)]) t → S0 t := fun t k => p443 t (stc444 t k)
    obtain ⟨cqc446, kqc446, qc446a, qc446b, qc446c⟩ := isOf hZ ec444 (Ea_FALSE.ext O0.2)
    obtain ⟨_, _, ⟨Tc446, Lc446, kc446, nc446⟩, -, Xc446, ⟨Lcc446, hQc446, lc446, yc446, zc446⟩, stc446⟩ := Xc444.virtualBack hx (y := M1) (z := M1) hown (mvT hZ (ww hw 8 rfl)) (mvT hZ (ww hw 9 rfl)) (notFace_of_selects (args := #[]) (mvT hZ (ww hw 11 rfl))) (mvT hZ (ww hw 11 rfl)) (mvT hZ (ww hw 10 rfl)) (by decide) (backOf (W := 0) (rm2_2 l Z a0 hw [] a_TRUE a_UNKNOWN a_FALSE h0 n0 O0 HE' ) hZ (ww hw 12 rfl) (ww hw 6 rfl) (by decide) (by decide)) qc446a qc446c (g := (mkF m 47 Ls442 [(.ref a_FALSE)])) rfl (by rw [hml]; rfl) (Steps.refl _) (argsL := []) (rest := []) (lenOf pd1 rfl) rfl (by show 2 * 0 + _ ≤ _; exact Nat.le_of_eq rfl) (hb hby at_47) (fun _ _ => ⟨rfl, ec444, (by decide : 0 + 0 ≤ _), (by decide : 0 + 0 ≤ _)⟩)
    dsimp only [Pt.U, Pt.locs, Pt.cells, Pt.slots] at Xc446 lc446 yc446 zc446 stc446 hQc446
    subst lc446 yc446 zc446
    obtain ⟨Nqc446, ec446, hAc446⟩ := hQc446
    have Nc446 := Fr.app Nc444 Nqc446
    obtain rfl := hAc446
    have p447 : ∀ t, St p e below Tc446 (mkF m 50 Ls442 [(.ref a_TRUE)]) t → S0 t := fun t k => p445 t (stc446.trans k)
    have p448 : ∀ t, St p e below Tc446 (mkF m 60 Ls442 [(.int (1 : Int32)), (.ref a_TRUE)]) t → S0 t := fun t k => p447 t (by
      show St p e below Tc446 (mkF m 50 Ls442 [(.ref a_TRUE)]) t
      refine XS.iload Xc446.here hx rfl (hb hby at_50) rfl ?_
      show St p e below Tc446 (mkF m 52 Ls442 [(.int (0 : Int32)), (.ref a_TRUE)]) t
      refine XS.ifNo Xc446.here hx rfl (hb hby at_52) rfl ((if0 _ _).trans (teq (by decide : (0 : Int32) = (0 : Int32))).2) ?_
      show St p e below Tc446 (mkF m 55 Ls442 [(.ref a_TRUE)]) t
      refine XT.iconstV Xc446.here hx rfl (1 : Int32) (hb hby at_55) (by decide) ?_
      show St p e below Tc446 (mkF m 56 Ls442 [(.int (1 : Int32)), (.ref a_TRUE)]) t
      refine XS.goto Xc446.here hx rfl (pc0 := 56) (pc' := 60) rfl (hb hby at_56) (by decide) (by decide) ?_
      exact k)
    obtain ⟨_, _, ⟨Tc449, Lc449, kc449, nc449⟩, -, Xc449, ⟨Lcc449, hQc449, lc449, yc449, zc449⟩, stc449⟩ := Jvm.LawKit.callS Xc446 hx (y := M2) hown (mvT hZ (ww hw 18 rfl)) (mvT hZ (ww hw 19 rfl)) (mvT hZ (ww hw 6 rfl)) (mvT hZ (ww hw 20 rfl)) (by decide) (backOf (W := 1) (rm3_4 l Z a0 hw [] a_TRUE a_UNKNOWN a_FALSE h0 n0 O0 HE' ) hZ (ww hw 20 rfl) (ww hw 6 rfl) (by decide) (by decide)) (g := (mkF m 60 Ls442 [(.int (1 : Int32)), (.ref a_TRUE)])) rfl (by rw [hml]; rfl) (argsL := [(.int (1 : Int32))]) (rest := [(.ref a_TRUE)]) (lenOf pd2 rfl) rfl (by show 2 * 0 + _ ≤ _; exact Nat.le_of_eq rfl) (hb hby at_60) (fun _ _ => ⟨rfl, ec446, (by decide : 0 + 0 ≤ _), (by decide : 0 + 0 ≤ _)⟩)
    dsimp only [Pt.U, Pt.locs, Pt.cells, Pt.slots] at Xc449 lc449 yc449 zc449 stc449 hQc449
    subst lc449 yc449 zc449
    obtain ⟨Nqc449, ec449, hAc449⟩ := hQc449
    have Nc449 := Fr.app Nc446 Nqc449
    obtain rfl := hAc449
    have p450 : ∀ t, St p e below Tc449 (mkF m 63 Ls442 [(.ref a_TRUE), (.ref a_TRUE)]) t → S0 t := fun t k => p448 t (stc449 t k)
    let Ls451 : Array Slot := #[.val (.int i0), .val (.int i1), .val (.int i2), .val (.ref a_UNKNOWN), .val (.ref a_TRUE), .val (.int (0 : Int32)), .val (.int (1 : Int32)), .val (.int (1 : Int32)), .unset]
    have p452 : ∀ t, St p e below Tc449 (mkF m 76 Ls451 [(.ref a_TRUE), (.ref a_UNKNOWN)]) t → S0 t := fun t k => p450 t (by
      show St p e below Tc449 (mkF m 63 Ls442 [(.ref a_TRUE), (.ref a_TRUE)]) t
      refine Jvm.RoadKit.acmp (g := (mkF m 63 Ls442 [(.ref a_TRUE), (.ref a_TRUE)])) Xc449 hx rfl rfl rfl (pc0 := 63) (pc' := 66) (same := true) rfl (hb hby at_63) rfl (decide_eq_true rfl) (by decide) (by decide) ?_
      show St p e below Tc449 (mkF m 66 Ls442 []) t
      refine XT.iconstV Xc449.here hx rfl (1 : Int32) (hb hby at_66) (by decide) ?_
      show St p e below Tc449 (mkF m 67 Ls442 [(.int (1 : Int32))]) t
      refine XS.goto Xc449.here hx rfl (pc0 := 67) (pc' := 71) rfl (hb hby at_67) (by decide) (by decide) ?_
      show St p e below Tc449 (mkF m 71 Ls442 [(.int (1 : Int32))]) t
      refine XS.istore Xc449.here hx rfl (hb hby at_71) rfl (l' := Ls451) rfl ?_
      show St p e below Tc449 (mkF m 73 Ls451 []) t
      refine XS.aloadN Xc449.here hx rfl (hb hby at_73) rfl rfl ?_
      show St p e below Tc449 (mkF m 74 Ls451 [(.ref a_UNKNOWN)]) t
      refine XS.aload Xc449.here hx rfl (hb hby at_74) rfl rfl ?_
      exact k)
    obtain ⟨cqc453, kqc453, qc453a, qc453b, qc453c⟩ := isOf hZ ec449 (Ea_UNKNOWN.ext O0.2)
    obtain ⟨_, _, ⟨Tc453, Lc453, kc453, nc453⟩, -, Xc453, ⟨Lcc453, hQc453, lc453, yc453, zc453⟩, stc453⟩ := Xc449.virtualBack hx (y := M3) (z := M3) hown (mvT hZ (ww hw 21 rfl)) (mvT hZ (ww hw 22 rfl)) (notFace_of_selects (args := #[]) (mvT hZ (ww hw 24 rfl))) (mvT hZ (ww hw 24 rfl)) (mvT hZ (ww hw 23 rfl)) (by decide) (backOf (W := 0) (rm4_18 l Z a0 hw [] a_TRUE a_UNKNOWN a_FALSE h0 n0 O0 HE' ) hZ (ww hw 25 rfl) (ww hw 6 rfl) (by decide) (by decide)) qc453a qc453c (g := (mkF m 76 Ls451 [(.ref a_TRUE), (.ref a_UNKNOWN)])) rfl (by rw [hml]; rfl) (Steps.refl _) (argsL := [(.ref a_TRUE)]) (rest := []) (lenOf pd3 rfl) rfl (by show 2 * 0 + _ ≤ _; exact Nat.le_of_eq rfl) (hb hby at_76) (fun _ _ => ⟨rfl, ec449, (by decide : 0 + 0 ≤ _), (by decide : 0 + 0 ≤ _)⟩)
    dsimp only [Pt.U, Pt.locs, Pt.cells, Pt.slots] at Xc453 lc453 yc453 zc453 stc453 hQc453
    subst lc453 yc453 zc453
    obtain ⟨Nqc453, ec453, hAc453⟩ := hQc453
    have Nc453 := Fr.app Nc449 Nqc453
    obtain rfl := hAc453
    have p454 : ∀ t, St p e below Tc453 (mkF m 79 Ls451 [(.ref a_UNKNOWN)]) t → S0 t := fun t k => p452 t (stc453.trans k)
    obtain ⟨cqc455, kqc455, qc455a, qc455b, qc455c⟩ := isOf hZ ec453 (Ea_UNKNOWN.ext O0.2)
    obtain ⟨_, _, ⟨Tc455, Lc455, kc455, nc455⟩, -, Xc455, ⟨Lcc455, hQc455, lc455, yc455, zc455⟩, stc455⟩ := Xc453.virtualBack hx (y := M1) (z := M1) hown (mvT hZ (ww hw 8 rfl)) (mvT hZ (ww hw 9 rfl)) (notFace_of_selects (args := #[]) (mvT hZ (ww hw 11 rfl))) (mvT hZ (ww hw 11 rfl)) (mvT hZ (ww hw 10 rfl)) (by decide) (backOf (W := 0) (rm2_10 l Z a0 hw [] a_TRUE a_UNKNOWN a_FALSE h0 n0 O0 HE' ) hZ (ww hw 12 rfl) (ww hw 6 rfl) (by decide) (by decide)) qc455a qc455c (g := (mkF m 79 Ls451 [(.ref a_UNKNOWN)])) rfl (by rw [hml]; rfl) (Steps.refl _) (argsL := []) (rest := []) (lenOf pd1 rfl) rfl (by show 2 * 0 + _ ≤ _; exact Nat.le_of_eq rfl) (hb hby at_79) (fun _ _ => ⟨rfl, ec453, (by decide : 0 + 0 ≤ _), (by decide : 0 + 0 ≤ _)⟩)
    dsimp only [Pt.U, Pt.locs, Pt.cells, Pt.slots] at Xc455 lc455 yc455 zc455 stc455 hQc455
    subst lc455 yc455 zc455
    obtain ⟨Nqc455, ec455, hAc455⟩ := hQc455
    have Nc455 := Fr.app Nc453 Nqc455
    obtain rfl := hAc455
    have p456 : ∀ t, St p e below Tc455 (mkF m 82 Ls451 [(.ref a_UNKNOWN)]) t → S0 t := fun t k => p454 t (stc455.trans k)
    have p457 : ∀ t, St p e below Tc455 (mkF m 83 Ls451 [(.ref a_UNKNOWN), (.ref a_UNKNOWN)]) t → S0 t := fun t k => p456 t (by
      show St p e below Tc455 (mkF m 82 Ls451 [(.ref a_UNKNOWN)]) t
      refine XS.aloadN Xc455.here hx rfl (hb hby at_82) rfl rfl ?_
      exact k)
    obtain ⟨cqc458, kqc458, qc458a, qc458b, qc458c⟩ := isOf hZ ec455 (Ea_UNKNOWN.ext O0.2)
    obtain ⟨_, _, ⟨Tc458, Lc458, kc458, nc458⟩, -, Xc458, ⟨Lcc458, hQc458, lc458, yc458, zc458⟩, stc458⟩ := Xc455.virtualBack hx (y := M1) (z := M1) hown (mvT hZ (ww hw 8 rfl)) (mvT hZ (ww hw 9 rfl)) (notFace_of_selects (args := #[]) (mvT hZ (ww hw 11 rfl))) (mvT hZ (ww hw 11 rfl)) (mvT hZ (ww hw 10 rfl)) (by decide) (backOf (W := 1) (rm2_10 l Z a0 hw [] a_TRUE a_UNKNOWN a_FALSE h0 n0 O0 HE' ) hZ (ww hw 12 rfl) (ww hw 6 rfl) (by decide) (by decide)) qc458a qc458c (g := (mkF m 83 Ls451 [(.ref a_UNKNOWN), (.ref a_UNKNOWN)])) rfl (by rw [hml]; rfl) (Steps.refl _) (argsL := []) (rest := [(.ref a_UNKNOWN)]) (lenOf pd1 rfl) rfl (by show 2 * 0 + _ ≤ _; exact Nat.le_of_eq rfl) (hb hby at_83) (fun _ _ => ⟨rfl, ec455, (by decide : 0 + 0 ≤ _), (by decide : 0 + 0 ≤ _)⟩)
    dsimp only [Pt.U, Pt.locs, Pt.cells, Pt.slots] at Xc458 lc458 yc458 zc458 stc458 hQc458
    subst lc458 yc458 zc458
    obtain ⟨Nqc458, ec458, hAc458⟩ := hQc458
    have Nc458 := Fr.app Nc455 Nqc458
    obtain rfl := hAc458
    have p459 : ∀ t, St p e below Tc458 (mkF m 86 Ls451 [(.ref a_UNKNOWN), (.ref a_UNKNOWN)]) t → S0 t := fun t k => p457 t (stc458.trans k)
    have p460 : ∀ t, St p e below Tc458 (mkF m 88 Ls451 [(.ref a_TRUE), (.ref a_UNKNOWN), (.ref a_UNKNOWN)]) t → S0 t := fun t k => p459 t (by
      show St p e below Tc458 (mkF m 86 Ls451 [(.ref a_UNKNOWN), (.ref a_UNKNOWN)]) t
      refine XS.aload Xc458.here hx rfl (hb hby at_86) rfl rfl ?_
      exact k)
    obtain ⟨cqc461, kqc461, qc461a, qc461b, qc461c⟩ := isOf hZ ec458 (Ea_TRUE.ext O0.2)
    obtain ⟨_, _, ⟨Tc461, Lc461, kc461, nc461⟩, -, Xc461, ⟨Lcc461, hQc461, lc461, yc461, zc461⟩, stc461⟩ := Xc458.virtualBack hx (y := M1) (z := M1) hown (mvT hZ (ww hw 8 rfl)) (mvT hZ (ww hw 9 rfl)) (notFace_of_selects (args := #[]) (mvT hZ (ww hw 11 rfl))) (mvT hZ (ww hw 11 rfl)) (mvT hZ (ww hw 10 rfl)) (by decide) (backOf (W := 2) (rm2_1 l Z a0 hw [] a_TRUE a_UNKNOWN a_FALSE h0 n0 O0 HE' ) hZ (ww hw 12 rfl) (ww hw 6 rfl) (by decide) (by decide)) qc461a qc461c (g := (mkF m 88 Ls451 [(.ref a_TRUE), (.ref a_UNKNOWN), (.ref a_UNKNOWN)])) rfl (by rw [hml]; rfl) (Steps.refl _) (argsL := []) (rest := [(.ref a_UNKNOWN), (.ref a_UNKNOWN)]) (lenOf pd1 rfl) rfl (by show 2 * 0 + _ ≤ _; exact Nat.le_of_eq rfl) (hb hby at_88) (fun _ _ => ⟨rfl, ec458, (by decide : 0 + 0 ≤ _), (by decide : 0 + 0 ≤ _)⟩)
    dsimp only [Pt.U, Pt.locs, Pt.cells, Pt.slots] at Xc461 lc461 yc461 zc461 stc461 hQc461
    subst lc461 yc461 zc461
    obtain ⟨Nqc461, ec461, hAc461⟩ := hQc461
    have Nc461 := Fr.app Nc458 Nqc461
    obtain rfl := hAc461
    have p462 : ∀ t, St p e below Tc461 (mkF m 91 Ls451 [(.ref a_FALSE), (.ref a_UNKNOWN), (.ref a_UNKNOWN)]) t → S0 t := fun t k => p460 t (stc461.trans k)
    obtain ⟨cqc463, kqc463, qc463a, qc463b, qc463c⟩ := isOf hZ ec461 (Ea_UNKNOWN.ext O0.2)
    obtain ⟨_, _, ⟨Tc463, Lc463, kc463, nc463⟩, -, Xc463, ⟨Lcc463, hQc463, lc463, yc463, zc463⟩, stc463⟩ := Xc461.virtualBack hx (y := M4) (z := M4) hown (mvT hZ (ww hw 26 rfl)) (mvT hZ (ww hw 27 rfl)) (notFace_of_selects (args := #[]) (mvT hZ (ww hw 29 rfl))) (mvT hZ (ww hw 29 rfl)) (mvT hZ (ww hw 28 rfl)) (by decide) (backOf (W := 1) (rm5_19 l Z a0 hw [] a_TRUE a_UNKNOWN a_FALSE h0 n0 O0 HE' ) hZ (ww hw 30 rfl) (ww hw 6 rfl) (by decide) (by decide)) qc463a qc463c (g := (mkF m 91 Ls451 [(.ref a_FALSE), (.ref a_UNKNOWN), (.ref a_UNKNOWN)])) rfl (by rw [hml]; rfl) (Steps.refl _) (argsL := [(.ref a_FALSE)]) (rest := [(.ref a_UNKNOWN)]) (lenOf pd3 rfl) rfl (by show 2 * 0 + _ ≤ _; exact Nat.le_of_eq rfl) (hb hby at_91) (fun _ _ => ⟨rfl, ec461, (by decide : 0 + 0 ≤ _), (by decide : 0 + 0 ≤ _)⟩)
    dsimp only [Pt.U, Pt.locs, Pt.cells, Pt.slots] at Xc463 lc463 yc463 zc463 stc463 hQc463
    subst lc463 yc463 zc463
    obtain ⟨Nqc463, ec463, hAc463⟩ := hQc463
    have Nc463 := Fr.app Nc461 Nqc463
    obtain rfl := hAc463
    have p464 : ∀ t, St p e below Tc463 (mkF m 94 Ls451 [(.ref a_UNKNOWN), (.ref a_UNKNOWN)]) t → S0 t := fun t k => p462 t (stc463.trans k)
    let Ls465 : Array Slot := #[.val (.int i0), .val (.int i1), .val (.int i2), .val (.ref a_UNKNOWN), .val (.ref a_TRUE), .val (.int (0 : Int32)), .val (.int (1 : Int32)), .val (.int (1 : Int32)), .val (.int (1 : Int32))]
    have p466 : ∀ t, St p e below Tc463 (mkF m 124 Ls465 [(.int (1 : Int32))]) t → S0 t := fun t k => p464 t (by
      show St p e below Tc463 (mkF m 94 Ls451 [(.ref a_UNKNOWN), (.ref a_UNKNOWN)]) t
      refine Jvm.RoadKit.acmp (g := (mkF m 94 Ls451 [(.ref a_UNKNOWN), (.ref a_UNKNOWN)])) Xc463 hx rfl rfl rfl (pc0 := 94) (pc' := 97) (same := true) rfl (hb hby at_94) rfl (decide_eq_true rfl) (by decide) (by decide) ?_
      show St p e below Tc463 (mkF m 97 Ls451 []) t
      refine XT.iconstV Xc463.here hx rfl (1 : Int32) (hb hby at_97) (by decide) ?_
      show St p e below Tc463 (mkF m 98 Ls451 [(.int (1 : Int32))]) t
      refine XS.goto Xc463.here hx rfl (pc0 := 98) (pc' := 102) rfl (hb hby at_98) (by decide) (by decide) ?_
      show St p e below Tc463 (mkF m 102 Ls451 [(.int (1 : Int32))]) t
      refine XS.istore Xc463.here hx rfl (hb hby at_102) rfl (l' := Ls465) rfl ?_
      show St p e below Tc463 (mkF m 104 Ls465 []) t
      refine XS.iload Xc463.here hx rfl (hb hby at_104) rfl ?_
      show St p e below Tc463 (mkF m 106 Ls465 [(.int (1 : Int32))]) t
      refine XS.ifNo Xc463.here hx rfl (hb hby at_106) rfl ((if0 _ _).trans (feq (by decide : ¬ ((1 : Int32) = (0 : Int32)))).1) ?_
      show St p e below Tc463 (mkF m 109 Ls465 []) t
      refine XS.iload Xc463.here hx rfl (hb hby at_109) rfl ?_
      show St p e below Tc463 (mkF m 111 Ls465 [(.int (1 : Int32))]) t
      refine XS.ifNo Xc463.here hx rfl (hb hby at_111) rfl ((if0 _ _).trans (feq (by decide : ¬ ((1 : Int32) = (0 : Int32)))).1) ?_
      show St p e below Tc463 (mkF m 114 Ls465 []) t
      refine XS.iload Xc463.here hx rfl (hb hby at_114) rfl ?_
      show St p e below Tc463 (mkF m 116 Ls465 [(.int (1 : Int32))]) t
      refine XS.ifNo Xc463.here hx rfl (hb hby at_116) rfl ((if0 _ _).trans (feq (by decide : ¬ ((1 : Int32) = (0 : Int32)))).1) ?_
      show St p e below Tc463 (mkF m 119 Ls465 []) t
      refine XT.iconstV Xc463.here hx rfl (1 : Int32) (hb hby at_119) (by decide) ?_
      show St p e below Tc463 (mkF m 120 Ls465 [(.int (1 : Int32))]) t
      refine XS.goto Xc463.here hx rfl (pc0 := 120) (pc' := 124) rfl (hb hby at_120) (by decide) (by decide) ?_
      exact k)
    obtain ⟨fs, hr, hrun, hended, hW, hsame⟩ := Xc463.leave (v := some (.int (1 : Int32))) (fun h => by rw [Bd.returns] at h; cases h)
    refine ⟨_, _, p466 _ ?_, hrun, hended, _, _, rfl, ?_, ⟨_, rfl⟩, hW, hsame.mono (by decide) (by decide)⟩
    · exact retOut Xc463 hx Bd.returns rfl (Or.inl ⟨rfl, by simp, _, rfl⟩) (hb hby at_124) hr
    · exact ⟨rfl, Nc463⟩
   ·
    let Ls467 : Array Slot := #[.val (.int i0), .val (.int i1), .val (.int i2), .val (.ref a_UNKNOWN), .val (.ref a_TRUE), .val (.int (1 : Int32)), .unset, .unset, .unset]
    have p468 : ∀ t, St p e below Tc426 (mkF m 25 Ls467 [(.ref a_UNKNOWN)]) t → S0 t := fun t k => p434 t (by
      show St p e below Tc426 (mkF m 14 Ls433 [(.int (i2 &&& (1 : Int32)))]) t
      refine XS.ifNo Xc426.here hx rfl (hb hby at_14) rfl ((if0 _ _).trans (feq g435).1) ?_
      show St p e below Tc426 (mkF m 17 Ls433 []) t
      refine XT.iconstV Xc426.here hx rfl (1 : Int32) (hb hby at_17) (by decide) ?_
      show St p e below Tc426 (mkF m 18 Ls433 [(.int (1 : Int32))]) t
      refine XS.goto Xc426.here hx rfl (pc0 := 18) (pc' := 22) rfl (hb hby at_18) (by decide) (by decide) ?_
      show St p e below Tc426 (mkF m 22 Ls433 [(.int (1 : Int32))]) t
      refine XS.istore Xc426.here hx rfl (hb hby at_22) rfl (l' := Ls467) rfl ?_
      show St p e below Tc426 (mkF m 24 Ls467 []) t
      refine XS.aloadN Xc426.here hx rfl (hb hby at_24) rfl rfl ?_
      exact k)
    obtain ⟨cqc469, kqc469, qc469a, qc469b, qc469c⟩ := isOf hZ ec426 (Ea_UNKNOWN.ext O0.2)
    obtain ⟨_, _, ⟨Tc469, Lc469, kc469, nc469⟩, -, Xc469, ⟨Lcc469, hQc469, lc469, yc469, zc469⟩, stc469⟩ := Xc426.virtualBack hx (y := M1) (z := M1) hown (mvT hZ (ww hw 8 rfl)) (mvT hZ (ww hw 9 rfl)) (notFace_of_selects (args := #[]) (mvT hZ (ww hw 11 rfl))) (mvT hZ (ww hw 11 rfl)) (mvT hZ (ww hw 10 rfl)) (by decide) (backOf (W := 0) (rm2_10 l Z a0 hw [] a_TRUE a_UNKNOWN a_FALSE h0 n0 O0 HE' ) hZ (ww hw 12 rfl) (ww hw 6 rfl) (by decide) (by decide)) qc469a qc469c (g := (mkF m 25 Ls467 [(.ref a_UNKNOWN)])) rfl (by rw [hml]; rfl) (Steps.refl _) (argsL := []) (rest := []) (lenOf pd1 rfl) rfl (by show 2 * 0 + _ ≤ _; exact Nat.le_of_eq rfl) (hb hby at_25) (fun _ _ => ⟨rfl, ec426, (by decide : 0 + 0 ≤ _), (by decide : 0 + 0 ≤ _)⟩)
    dsimp only [Pt.U, Pt.locs, Pt.cells, Pt.slots] at Xc469 lc469 yc469 zc469 stc469 hQc469
    subst lc469 yc469 zc469
    obtain ⟨Nqc469, ec469, hAc469⟩ := hQc469
    have Nc469 := Fr.app Nc426 Nqc469
    obtain rfl := hAc469
    have p470 : ∀ t, St p e below Tc469 (mkF m 28 Ls467 [(.ref a_UNKNOWN)]) t → S0 t := fun t k => p468 t (stc469.trans k)
    obtain ⟨cqc471, kqc471, qc471a, qc471b, qc471c⟩ := isOf hZ ec469 (Ea_UNKNOWN.ext O0.2)
    obtain ⟨_, _, ⟨Tc471, Lc471, kc471, nc471⟩, -, Xc471, ⟨Lcc471, hQc471, lc471, yc471, zc471⟩, stc471⟩ := Xc469.virtualBack hx (y := M1) (z := M1) hown (mvT hZ (ww hw 8 rfl)) (mvT hZ (ww hw 9 rfl)) (notFace_of_selects (args := #[]) (mvT hZ (ww hw 11 rfl))) (mvT hZ (ww hw 11 rfl)) (mvT hZ (ww hw 10 rfl)) (by decide) (backOf (W := 0) (rm2_10 l Z a0 hw [] a_TRUE a_UNKNOWN a_FALSE h0 n0 O0 HE' ) hZ (ww hw 12 rfl) (ww hw 6 rfl) (by decide) (by decide)) qc471a qc471c (g := (mkF m 28 Ls467 [(.ref a_UNKNOWN)])) rfl (by rw [hml]; rfl) (Steps.refl _) (argsL := []) (rest := []) (lenOf pd1 rfl) rfl (by show 2 * 0 + _ ≤ _; exact Nat.le_of_eq rfl) (hb hby at_28) (fun _ _ => ⟨rfl, ec469, (by decide : 0 + 0 ≤ _), (by decide : 0 + 0 ≤ _)⟩)
    dsimp only [Pt.U, Pt.locs, Pt.cells, Pt.slots] at Xc471 lc471 yc471 zc471 stc471 hQc471
    subst lc471 yc471 zc471
    obtain ⟨Nqc471, ec471, hAc471⟩ := hQc471
    have Nc471 := Fr.app Nc469 Nqc471
    obtain rfl := hAc471
    have p472 : ∀ t, St p e below Tc471 (mkF m 31 Ls467 [(.ref a_UNKNOWN)]) t → S0 t := fun t k => p470 t (stc471.trans k)
    let Ls473 : Array Slot := #[.val (.int i0), .val (.int i1), .val (.int i2), .val (.ref a_UNKNOWN), .val (.ref a_TRUE), .val (.int (1 : Int32)), .val (.int (1 : Int32)), .unset, .unset]
    have p474 : ∀ t, St p e below Tc471 (mkF m 44 Ls473 [(.int (1 : Int32))]) t → S0 t := fun t k => p472 t (by
      show St p e below Tc471 (mkF m 31 Ls467 [(.ref a_UNKNOWN)]) t
      refine XS.aloadN Xc471.here hx rfl (hb hby at_31) rfl rfl ?_
      show St p e below Tc471 (mkF m 32 Ls467 [(.ref a_UNKNOWN), (.ref a_UNKNOWN)]) t
      refine Jvm.RoadKit.acmp (g := (mkF m 32 Ls467 [(.ref a_UNKNOWN), (.ref a_UNKNOWN)])) Xc471 hx rfl rfl rfl (pc0 := 32) (pc' := 35) (same := true) rfl (hb hby at_32) rfl (decide_eq_true rfl) (by decide) (by decide) ?_
      show St p e below Tc471 (mkF m 35 Ls467 []) t
      refine XT.iconstV Xc471.here hx rfl (1 : Int32) (hb hby at_35) (by decide) ?_
      show St p e below Tc471 (mkF m 36 Ls467 [(.int (1 : Int32))]) t
      refine XS.goto Xc471.here hx rfl (pc0 := 36) (pc' := 40) rfl (hb hby at_36) (by decide) (by decide) ?_
      show St p e below Tc471 (mkF m 40 Ls467 [(.int (1 : Int32))]) t
      refine XS.istore Xc471.here hx rfl (hb hby at_40) rfl (l' := Ls473) rfl ?_
      show St p e below Tc471 (mkF m 42 Ls473 []) t
      refine XS.iload Xc471.here hx rfl (hb hby at_42) rfl ?_
      exact k)
    obtain ⟨_, _, ⟨Tc475, Lc475, kc475, nc475⟩, -, Xc475, ⟨Lcc475, hQc475, lc475, yc475, zc475⟩, stc475⟩ := Jvm.LawKit.callS Xc471 hx (y := M2) hown (mvT hZ (ww hw 18 rfl)) (mvT hZ (ww hw 19 rfl)) (mvT hZ (ww hw 6 rfl)) (mvT hZ (ww hw 20 rfl)) (by decide) (backOf (W := 0) (rm3_4 l Z a0 hw [] a_TRUE a_UNKNOWN a_FALSE h0 n0 O0 HE' ) hZ (ww hw 20 rfl) (ww hw 6 rfl) (by decide) (by decide)) (g := (mkF m 44 Ls473 [(.int (1 : Int32))])) rfl (by rw [hml]; rfl) (argsL := [(.int (1 : Int32))]) (rest := []) (lenOf pd2 rfl) rfl (by show 2 * 0 + _ ≤ _; exact Nat.le_of_eq rfl) (hb hby at_44) (fun _ _ => ⟨rfl, ec471, (by decide : 0 + 0 ≤ _), (by decide : 0 + 0 ≤ _)⟩)
    dsimp only [Pt.U, Pt.locs, Pt.cells, Pt.slots] at Xc475 lc475 yc475 zc475 stc475 hQc475
    subst lc475 yc475 zc475
    obtain ⟨Nqc475, ec475, hAc475⟩ := hQc475
    have Nc475 := Fr.app Nc471 Nqc475
    obtain rfl := hAc475
    have p476 : ∀ t, St p e below Tc475 (mkF m 47 Ls473 [(.ref a_TRUE)]) t → S0 t := fun t k => p474 t (stc475 t k)
    obtain ⟨cqc477, kqc477, qc477a, qc477b, qc477c⟩ := isOf hZ ec475 (Ea_TRUE.ext O0.2)
    obtain ⟨_, _, ⟨Tc477, Lc477, kc477, nc477⟩, -, Xc477, ⟨Lcc477, hQc477, lc477, yc477, zc477⟩, stc477⟩ := Xc475.virtualBack hx (y := M1) (z := M1) hown (mvT hZ (ww hw 8 rfl)) (mvT hZ (ww hw 9 rfl)) (notFace_of_selects (args := #[]) (mvT hZ (ww hw 11 rfl))) (mvT hZ (ww hw 11 rfl)) (mvT hZ (ww hw 10 rfl)) (by decide) (backOf (W := 0) (rm2_1 l Z a0 hw [] a_TRUE a_UNKNOWN a_FALSE h0 n0 O0 HE' ) hZ (ww hw 12 rfl) (ww hw 6 rfl) (by decide) (by decide)) qc477a qc477c (g := (mkF m 47 Ls473 [(.ref a_TRUE)])) rfl (by rw [hml]; rfl) (Steps.refl _) (argsL := []) (rest := []) (lenOf pd1 rfl) rfl (by show 2 * 0 + _ ≤ _; exact Nat.le_of_eq rfl) (hb hby at_47) (fun _ _ => ⟨rfl, ec475, (by decide : 0 + 0 ≤ _), (by decide : 0 + 0 ≤ _)⟩)
    dsimp only [Pt.U, Pt.locs, Pt.cells, Pt.slots] at Xc477 lc477 yc477 zc477 stc477 hQc477
    subst lc477 yc477 zc477
    obtain ⟨Nqc477, ec477, hAc477⟩ := hQc477
    have Nc477 := Fr.app Nc475 Nqc477
    obtain rfl := hAc477
    have p478 : ∀ t, St p e below Tc477 (mkF m 50 Ls473 [(.ref a_FALSE)]) t → S0 t := fun t k => p476 t (stc477.trans k)
    have p479 : ∀ t, St p e below Tc477 (mkF m 60 Ls473 [(.int (0 : Int32)), (.ref a_FALSE)]) t → S0 t := fun t k => p478 t (by
      show St p e below Tc477 (mkF m 50 Ls473 [(.ref a_FALSE)]) t
      refine XS.iload Xc477.here hx rfl (hb hby at_50) rfl ?_
      show St p e below Tc477 (mkF m 52 Ls473 [(.int (1 : Int32)), (.ref a_FALSE)]) t
      refine XS.ifYes Xc477.here hx rfl (pc0 := 52) (pc' := 59) rfl (hb hby at_52) rfl ((if0 _ _).trans (feq (by decide : ¬ ((1 : Int32) = (0 : Int32)))).2) (by decide) (by decide) ?_
      show St p e below Tc477 (mkF m 59 Ls473 [(.ref a_FALSE)]) t
      refine XT.iconstV Xc477.here hx rfl (0 : Int32) (hb hby at_59) (by decide) ?_
      exact k)
    obtain ⟨_, _, ⟨Tc480, Lc480, kc480, nc480⟩, -, Xc480, ⟨Lcc480, hQc480, lc480, yc480, zc480⟩, stc480⟩ := Jvm.LawKit.callS Xc477 hx (y := M2) hown (mvT hZ (ww hw 18 rfl)) (mvT hZ (ww hw 19 rfl)) (mvT hZ (ww hw 6 rfl)) (mvT hZ (ww hw 20 rfl)) (by decide) (backOf (W := 1) (rm3_3 l Z a0 hw [] a_TRUE a_UNKNOWN a_FALSE h0 n0 O0 HE' ) hZ (ww hw 20 rfl) (ww hw 6 rfl) (by decide) (by decide)) (g := (mkF m 60 Ls473 [(.int (0 : Int32)), (.ref a_FALSE)])) rfl (by rw [hml]; rfl) (argsL := [(.int (0 : Int32))]) (rest := [(.ref a_FALSE)]) (lenOf pd2 rfl) rfl (by show 2 * 0 + _ ≤ _; exact Nat.le_of_eq rfl) (hb hby at_60) (fun _ _ => ⟨rfl, ec477, (by decide : 0 + 0 ≤ _), (by decide : 0 + 0 ≤ _)⟩)
    dsimp only [Pt.U, Pt.locs, Pt.cells, Pt.slots] at Xc480 lc480 yc480 zc480 stc480 hQc480
    subst lc480 yc480 zc480
    obtain ⟨Nqc480, ec480, hAc480⟩ := hQc480
    have Nc480 := Fr.app Nc477 Nqc480
    obtain rfl := hAc480
    have p481 : ∀ t, St p e below Tc480 (mkF m 63 Ls473 [(.ref a_FALSE), (.ref a_FALSE)]) t → S0 t := fun t k => p479 t (stc480 t k)
    let Ls482 : Array Slot := #[.val (.int i0), .val (.int i1), .val (.int i2), .val (.ref a_UNKNOWN), .val (.ref a_TRUE), .val (.int (1 : Int32)), .val (.int (1 : Int32)), .val (.int (1 : Int32)), .unset]
    have p483 : ∀ t, St p e below Tc480 (mkF m 76 Ls482 [(.ref a_TRUE), (.ref a_UNKNOWN)]) t → S0 t := fun t k => p481 t (by
      show St p e below Tc480 (mkF m 63 Ls473 [(.ref a_FALSE), (.ref a_FALSE)]) t
      refine Jvm.RoadKit.acmp (g := (mkF m 63 Ls473 [(.ref a_FALSE), (.ref a_FALSE)])) Xc480 hx rfl rfl rfl (pc0 := 63) (pc' := 66) (same := true) rfl (hb hby at_63) rfl (decide_eq_true rfl) (by decide) (by decide) ?_
      show St p e below Tc480 (mkF m 66 Ls473 []) t
      refine XT.iconstV Xc480.here hx rfl (1 : Int32) (hb hby at_66) (by decide) ?_
      show St p e below Tc480 (mkF m 67 Ls473 [(.int (1 : Int32))]) t
      refine XS.goto Xc480.here hx rfl (pc0 := 67) (pc' := 71) rfl (hb hby at_67) (by decide) (by decide) ?_
      show St p e below Tc480 (mkF m 71 Ls473 [(.int (1 : Int32))]) t
      refine XS.istore Xc480.here hx rfl (hb hby at_71) rfl (l' := Ls482) rfl ?_
      show St p e below Tc480 (mkF m 73 Ls482 []) t
      refine XS.aloadN Xc480.here hx rfl (hb hby at_73) rfl rfl ?_
      show St p e below Tc480 (mkF m 74 Ls482 [(.ref a_UNKNOWN)]) t
      refine XS.aload Xc480.here hx rfl (hb hby at_74) rfl rfl ?_
      exact k)
    obtain ⟨cqc484, kqc484, qc484a, qc484b, qc484c⟩ := isOf hZ ec480 (Ea_UNKNOWN.ext O0.2)
    obtain ⟨_, _, ⟨Tc484, Lc484, kc484, nc484⟩, -, Xc484, ⟨Lcc484, hQc484, lc484, yc484, zc484⟩, stc484⟩ := Xc480.virtualBack hx (y := M3) (z := M3) hown (mvT hZ (ww hw 21 rfl)) (mvT hZ (ww hw 22 rfl)) (notFace_of_selects (args := #[]) (mvT hZ (ww hw 24 rfl))) (mvT hZ (ww hw 24 rfl)) (mvT hZ (ww hw 23 rfl)) (by decide) (backOf (W := 0) (rm4_18 l Z a0 hw [] a_TRUE a_UNKNOWN a_FALSE h0 n0 O0 HE' ) hZ (ww hw 25 rfl) (ww hw 6 rfl) (by decide) (by decide)) qc484a qc484c (g := (mkF m 76 Ls482 [(.ref a_TRUE), (.ref a_UNKNOWN)])) rfl (by rw [hml]; rfl) (Steps.refl _) (argsL := [(.ref a_TRUE)]) (rest := []) (lenOf pd3 rfl) rfl (by show 2 * 0 + _ ≤ _; exact Nat.le_of_eq rfl) (hb hby at_76) (fun _ _ => ⟨rfl, ec480, (by decide : 0 + 0 ≤ _), (by decide : 0 + 0 ≤ _)⟩)
    dsimp only [Pt.U, Pt.locs, Pt.cells, Pt.slots] at Xc484 lc484 yc484 zc484 stc484 hQc484
    subst lc484 yc484 zc484
    obtain ⟨Nqc484, ec484, hAc484⟩ := hQc484
    have Nc484 := Fr.app Nc480 Nqc484
    obtain rfl := hAc484
    have p485 : ∀ t, St p e below Tc484 (mkF m 79 Ls482 [(.ref a_UNKNOWN)]) t → S0 t := fun t k => p483 t (stc484.trans k)
    obtain ⟨cqc486, kqc486, qc486a, qc486b, qc486c⟩ := isOf hZ ec484 (Ea_UNKNOWN.ext O0.2)
    obtain ⟨_, _, ⟨Tc486, Lc486, kc486, nc486⟩, -, Xc486, ⟨Lcc486, hQc486, lc486, yc486, zc486⟩, stc486⟩ := Xc484.virtualBack hx (y := M1) (z := M1) hown (mvT hZ (ww hw 8 rfl)) (mvT hZ (ww hw 9 rfl)) (notFace_of_selects (args := #[]) (mvT hZ (ww hw 11 rfl))) (mvT hZ (ww hw 11 rfl)) (mvT hZ (ww hw 10 rfl)) (by decide) (backOf (W := 0) (rm2_10 l Z a0 hw [] a_TRUE a_UNKNOWN a_FALSE h0 n0 O0 HE' ) hZ (ww hw 12 rfl) (ww hw 6 rfl) (by decide) (by decide)) qc486a qc486c (g := (mkF m 79 Ls482 [(.ref a_UNKNOWN)])) rfl (by rw [hml]; rfl) (Steps.refl _) (argsL := []) (rest := []) (lenOf pd1 rfl) rfl (by show 2 * 0 + _ ≤ _; exact Nat.le_of_eq rfl) (hb hby at_79) (fun _ _ => ⟨rfl, ec484, (by decide : 0 + 0 ≤ _), (by decide : 0 + 0 ≤ _)⟩)
    dsimp only [Pt.U, Pt.locs, Pt.cells, Pt.slots] at Xc486 lc486 yc486 zc486 stc486 hQc486
    subst lc486 yc486 zc486
    obtain ⟨Nqc486, ec486, hAc486⟩ := hQc486
    have Nc486 := Fr.app Nc484 Nqc486
    obtain rfl := hAc486
    have p487 : ∀ t, St p e below Tc486 (mkF m 82 Ls482 [(.ref a_UNKNOWN)]) t → S0 t := fun t k => p485 t (stc486.trans k)
    have p488 : ∀ t, St p e below Tc486 (mkF m 83 Ls482 [(.ref a_UNKNOWN), (.ref a_UNKNOWN)]) t → S0 t := fun t k => p487 t (by
      show St p e below Tc486 (mkF m 82 Ls482 [(.ref a_UNKNOWN)]) t
      refine XS.aloadN Xc486.here hx rfl (hb hby at_82) rfl rfl ?_
      exact k)
    obtain ⟨cqc489, kqc489, qc489a, qc489b, qc489c⟩ := isOf hZ ec486 (Ea_UNKNOWN.ext O0.2)
    obtain ⟨_, _, ⟨Tc489, Lc489, kc489, nc489⟩, -, Xc489, ⟨Lcc489, hQc489, lc489, yc489, zc489⟩, stc489⟩ := Xc486.virtualBack hx (y := M1) (z := M1) hown (mvT hZ (ww hw 8 rfl)) (mvT hZ (ww hw 9 rfl)) (notFace_of_selects (args := #[]) (mvT hZ (ww hw 11 rfl))) (mvT hZ (ww hw 11 rfl)) (mvT hZ (ww hw 10 rfl)) (by decide) (backOf (W := 1) (rm2_10 l Z a0 hw [] a_TRUE a_UNKNOWN a_FALSE h0 n0 O0 HE' ) hZ (ww hw 12 rfl) (ww hw 6 rfl) (by decide) (by decide)) qc489a qc489c (g := (mkF m 83 Ls482 [(.ref a_UNKNOWN), (.ref a_UNKNOWN)])) rfl (by rw [hml]; rfl) (Steps.refl _) (argsL := []) (rest := [(.ref a_UNKNOWN)]) (lenOf pd1 rfl) rfl (by show 2 * 0 + _ ≤ _; exact Nat.le_of_eq rfl) (hb hby at_83) (fun _ _ => ⟨rfl, ec486, (by decide : 0 + 0 ≤ _), (by decide : 0 + 0 ≤ _)⟩)
    dsimp only [Pt.U, Pt.locs, Pt.cells, Pt.slots] at Xc489 lc489 yc489 zc489 stc489 hQc489
    subst lc489 yc489 zc489
    obtain ⟨Nqc489, ec489, hAc489⟩ := hQc489
    have Nc489 := Fr.app Nc486 Nqc489
    obtain rfl := hAc489
    have p490 : ∀ t, St p e below Tc489 (mkF m 86 Ls482 [(.ref a_UNKNOWN), (.ref a_UNKNOWN)]) t → S0 t := fun t k => p488 t (stc489.trans k)
    have p491 : ∀ t, St p e below Tc489 (mkF m 88 Ls482 [(.ref a_TRUE), (.ref a_UNKNOWN), (.ref a_UNKNOWN)]) t → S0 t := fun t k => p490 t (by
      show St p e below Tc489 (mkF m 86 Ls482 [(.ref a_UNKNOWN), (.ref a_UNKNOWN)]) t
      refine XS.aload Xc489.here hx rfl (hb hby at_86) rfl rfl ?_
      exact k)
    obtain ⟨cqc492, kqc492, qc492a, qc492b, qc492c⟩ := isOf hZ ec489 (Ea_TRUE.ext O0.2)
    obtain ⟨_, _, ⟨Tc492, Lc492, kc492, nc492⟩, -, Xc492, ⟨Lcc492, hQc492, lc492, yc492, zc492⟩, stc492⟩ := Xc489.virtualBack hx (y := M1) (z := M1) hown (mvT hZ (ww hw 8 rfl)) (mvT hZ (ww hw 9 rfl)) (notFace_of_selects (args := #[]) (mvT hZ (ww hw 11 rfl))) (mvT hZ (ww hw 11 rfl)) (mvT hZ (ww hw 10 rfl)) (by decide) (backOf (W := 2) (rm2_1 l Z a0 hw [] a_TRUE a_UNKNOWN a_FALSE h0 n0 O0 HE' ) hZ (ww hw 12 rfl) (ww hw 6 rfl) (by decide) (by decide)) qc492a qc492c (g := (mkF m 88 Ls482 [(.ref a_TRUE), (.ref a_UNKNOWN), (.ref a_UNKNOWN)])) rfl (by rw [hml]; rfl) (Steps.refl _) (argsL := []) (rest := [(.ref a_UNKNOWN), (.ref a_UNKNOWN)]) (lenOf pd1 rfl) rfl (by show 2 * 0 + _ ≤ _; exact Nat.le_of_eq rfl) (hb hby at_88) (fun _ _ => ⟨rfl, ec489, (by decide : 0 + 0 ≤ _), (by decide : 0 + 0 ≤ _)⟩)
    dsimp only [Pt.U, Pt.locs, Pt.cells, Pt.slots] at Xc492 lc492 yc492 zc492 stc492 hQc492
    subst lc492 yc492 zc492
    obtain ⟨Nqc492, ec492, hAc492⟩ := hQc492
    have Nc492 := Fr.app Nc489 Nqc492
    obtain rfl := hAc492
    have p493 : ∀ t, St p e below Tc492 (mkF m 91 Ls482 [(.ref a_FALSE), (.ref a_UNKNOWN), (.ref a_UNKNOWN)]) t → S0 t := fun t k => p491 t (stc492.trans k)
    obtain ⟨cqc494, kqc494, qc494a, qc494b, qc494c⟩ := isOf hZ ec492 (Ea_UNKNOWN.ext O0.2)
    obtain ⟨_, _, ⟨Tc494, Lc494, kc494, nc494⟩, -, Xc494, ⟨Lcc494, hQc494, lc494, yc494, zc494⟩, stc494⟩ := Xc492.virtualBack hx (y := M4) (z := M4) hown (mvT hZ (ww hw 26 rfl)) (mvT hZ (ww hw 27 rfl)) (notFace_of_selects (args := #[]) (mvT hZ (ww hw 29 rfl))) (mvT hZ (ww hw 29 rfl)) (mvT hZ (ww hw 28 rfl)) (by decide) (backOf (W := 1) (rm5_19 l Z a0 hw [] a_TRUE a_UNKNOWN a_FALSE h0 n0 O0 HE' ) hZ (ww hw 30 rfl) (ww hw 6 rfl) (by decide) (by decide)) qc494a qc494c (g := (mkF m 91 Ls482 [(.ref a_FALSE), (.ref a_UNKNOWN), (.ref a_UNKNOWN)])) rfl (by rw [hml]; rfl) (Steps.refl _) (argsL := [(.ref a_FALSE)]) (rest := [(.ref a_UNKNOWN)]) (lenOf pd3 rfl) rfl (by show 2 * 0 + _ ≤ _; exact Nat.le_of_eq rfl) (hb hby at_91) (fun _ _ => ⟨rfl, ec492, (by decide : 0 + 0 ≤ _), (by decide : 0 + 0 ≤ _)⟩)
    dsimp only [Pt.U, Pt.locs, Pt.cells, Pt.slots] at Xc494 lc494 yc494 zc494 stc494 hQc494
    subst lc494 yc494 zc494
    obtain ⟨Nqc494, ec494, hAc494⟩ := hQc494
    have Nc494 := Fr.app Nc492 Nqc494
    obtain rfl := hAc494
    have p495 : ∀ t, St p e below Tc494 (mkF m 94 Ls482 [(.ref a_UNKNOWN), (.ref a_UNKNOWN)]) t → S0 t := fun t k => p493 t (stc494.trans k)
    let Ls496 : Array Slot := #[.val (.int i0), .val (.int i1), .val (.int i2), .val (.ref a_UNKNOWN), .val (.ref a_TRUE), .val (.int (1 : Int32)), .val (.int (1 : Int32)), .val (.int (1 : Int32)), .val (.int (1 : Int32))]
    have p497 : ∀ t, St p e below Tc494 (mkF m 124 Ls496 [(.int (1 : Int32))]) t → S0 t := fun t k => p495 t (by
      show St p e below Tc494 (mkF m 94 Ls482 [(.ref a_UNKNOWN), (.ref a_UNKNOWN)]) t
      refine Jvm.RoadKit.acmp (g := (mkF m 94 Ls482 [(.ref a_UNKNOWN), (.ref a_UNKNOWN)])) Xc494 hx rfl rfl rfl (pc0 := 94) (pc' := 97) (same := true) rfl (hb hby at_94) rfl (decide_eq_true rfl) (by decide) (by decide) ?_
      show St p e below Tc494 (mkF m 97 Ls482 []) t
      refine XT.iconstV Xc494.here hx rfl (1 : Int32) (hb hby at_97) (by decide) ?_
      show St p e below Tc494 (mkF m 98 Ls482 [(.int (1 : Int32))]) t
      refine XS.goto Xc494.here hx rfl (pc0 := 98) (pc' := 102) rfl (hb hby at_98) (by decide) (by decide) ?_
      show St p e below Tc494 (mkF m 102 Ls482 [(.int (1 : Int32))]) t
      refine XS.istore Xc494.here hx rfl (hb hby at_102) rfl (l' := Ls496) rfl ?_
      show St p e below Tc494 (mkF m 104 Ls496 []) t
      refine XS.iload Xc494.here hx rfl (hb hby at_104) rfl ?_
      show St p e below Tc494 (mkF m 106 Ls496 [(.int (1 : Int32))]) t
      refine XS.ifNo Xc494.here hx rfl (hb hby at_106) rfl ((if0 _ _).trans (feq (by decide : ¬ ((1 : Int32) = (0 : Int32)))).1) ?_
      show St p e below Tc494 (mkF m 109 Ls496 []) t
      refine XS.iload Xc494.here hx rfl (hb hby at_109) rfl ?_
      show St p e below Tc494 (mkF m 111 Ls496 [(.int (1 : Int32))]) t
      refine XS.ifNo Xc494.here hx rfl (hb hby at_111) rfl ((if0 _ _).trans (feq (by decide : ¬ ((1 : Int32) = (0 : Int32)))).1) ?_
      show St p e below Tc494 (mkF m 114 Ls496 []) t
      refine XS.iload Xc494.here hx rfl (hb hby at_114) rfl ?_
      show St p e below Tc494 (mkF m 116 Ls496 [(.int (1 : Int32))]) t
      refine XS.ifNo Xc494.here hx rfl (hb hby at_116) rfl ((if0 _ _).trans (feq (by decide : ¬ ((1 : Int32) = (0 : Int32)))).1) ?_
      show St p e below Tc494 (mkF m 119 Ls496 []) t
      refine XT.iconstV Xc494.here hx rfl (1 : Int32) (hb hby at_119) (by decide) ?_
      show St p e below Tc494 (mkF m 120 Ls496 [(.int (1 : Int32))]) t
      refine XS.goto Xc494.here hx rfl (pc0 := 120) (pc' := 124) rfl (hb hby at_120) (by decide) (by decide) ?_
      exact k)
    obtain ⟨fs, hr, hrun, hended, hW, hsame⟩ := Xc494.leave (v := some (.int (1 : Int32))) (fun h => by rw [Bd.returns] at h; cases h)
    refine ⟨_, _, p497 _ ?_, hrun, hended, _, _, rfl, ?_, ⟨_, rfl⟩, hW, hsame.mono (by decide) (by decide)⟩
    · exact retOut Xc494 hx Bd.returns rfl (Or.inl ⟨rfl, by simp, _, rfl⟩) (hb hby at_124) hr
    · exact ⟨rfl, Nc494⟩
  ·
   have p498 : ∀ t, St p e below Tc426 (mkF m 9 Ls424 [(.ref a_FALSE)]) t → S0 t := fun t k => p425 t (stc426 t k)
   let Ls499 : Array Slot := #[.val (.int i0), .val (.int i1), .val (.int i2), .val (.ref a_UNKNOWN), .val (.ref a_FALSE), .unset, .unset, .unset, .unset]
   have p500 : ∀ t, St p e below Tc426 (mkF m 14 Ls499 [(.int (i2 &&& (1 : Int32)))]) t → S0 t := fun t k => p498 t (by
     show St p e below Tc426 (mkF m 9 Ls424 [(.ref a_FALSE)]) t
     refine XS.astore Xc426.here hx rfl (hb hby at_9) rfl rfl (l' := Ls499) rfl ?_
     show St p e below Tc426 (mkF m 11 Ls499 []) t
     refine XS.iloadN Xc426.here hx rfl (hb hby at_11) rfl ?_
     show St p e below Tc426 (mkF m 12 Ls499 [(.int i2)]) t
     refine XT.iconstV Xc426.here hx rfl (1 : Int32) (hb hby at_12) (by decide) ?_
     show St p e below Tc426 (mkF m 13 Ls499 [(.int (1 : Int32)), (.int i2)]) t
     refine XS.iand Xc426.here hx rfl (hb hby at_13) rfl ?_
     exact k)
   by_cases g501 : (i2 &&& (1 : Int32)) = (0 : Int32)
   ·
    let Ls502 : Array Slot := #[.val (.int i0), .val (.int i1), .val (.int i2), .val (.ref a_UNKNOWN), .val (.ref a_FALSE), .val (.int (0 : Int32)), .unset, .unset, .unset]
    have p503 : ∀ t, St p e below Tc426 (mkF m 25 Ls502 [(.ref a_UNKNOWN)]) t → S0 t := fun t k => p500 t (by
      show St p e below Tc426 (mkF m 14 Ls499 [(.int (i2 &&& (1 : Int32)))]) t
      refine XS.ifYes Xc426.here hx rfl (pc0 := 14) (pc' := 21) rfl (hb hby at_14) rfl ((if0 _ _).trans (teq g501).1) (by decide) (by decide) ?_
      show St p e below Tc426 (mkF m 21 Ls499 []) t
      refine XT.iconstV Xc426.here hx rfl (0 : Int32) (hb hby at_21) (by decide) ?_
      show St p e below Tc426 (mkF m 22 Ls499 [(.int (0 : Int32))]) t
      refine XS.istore Xc426.here hx rfl (hb hby at_22) rfl (l' := Ls502) rfl ?_
      show St p e below Tc426 (mkF m 24 Ls502 []) t
      refine XS.aloadN Xc426.here hx rfl (hb hby at_24) rfl rfl ?_
      exact k)
    obtain ⟨cqc504, kqc504, qc504a, qc504b, qc504c⟩ := isOf hZ ec426 (Ea_UNKNOWN.ext O0.2)
    obtain ⟨_, _, ⟨Tc504, Lc504, kc504, nc504⟩, -, Xc504, ⟨Lcc504, hQc504, lc504, yc504, zc504⟩, stc504⟩ := Xc426.virtualBack hx (y := M1) (z := M1) hown (mvT hZ (ww hw 8 rfl)) (mvT hZ (ww hw 9 rfl)) (notFace_of_selects (args := #[]) (mvT hZ (ww hw 11 rfl))) (mvT hZ (ww hw 11 rfl)) (mvT hZ (ww hw 10 rfl)) (by decide) (backOf (W := 0) (rm2_10 l Z a0 hw [] a_TRUE a_UNKNOWN a_FALSE h0 n0 O0 HE' ) hZ (ww hw 12 rfl) (ww hw 6 rfl) (by decide) (by decide)) qc504a qc504c (g := (mkF m 25 Ls502 [(.ref a_UNKNOWN)])) rfl (by rw [hml]; rfl) (Steps.refl _) (argsL := []) (rest := []) (lenOf pd1 rfl) rfl (by show 2 * 0 + _ ≤ _; exact Nat.le_of_eq rfl) (hb hby at_25) (fun _ _ => ⟨rfl, ec426, (by decide : 0 + 0 ≤ _), (by decide : 0 + 0 ≤ _)⟩)
    dsimp only [Pt.U, Pt.locs, Pt.cells, Pt.slots] at Xc504 lc504 yc504 zc504 stc504 hQc504
    subst lc504 yc504 zc504
    obtain ⟨Nqc504, ec504, hAc504⟩ := hQc504
    have Nc504 := Fr.app Nc426 Nqc504
    obtain rfl := hAc504
    have p505 : ∀ t, St p e below Tc504 (mkF m 28 Ls502 [(.ref a_UNKNOWN)]) t → S0 t := fun t k => p503 t (stc504.trans k)
    obtain ⟨cqc506, kqc506, qc506a, qc506b, qc506c⟩ := isOf hZ ec504 (Ea_UNKNOWN.ext O0.2)
    obtain ⟨_, _, ⟨Tc506, Lc506, kc506, nc506⟩, -, Xc506, ⟨Lcc506, hQc506, lc506, yc506, zc506⟩, stc506⟩ := Xc504.virtualBack hx (y := M1) (z := M1) hown (mvT hZ (ww hw 8 rfl)) (mvT hZ (ww hw 9 rfl)) (notFace_of_selects (args := #[]) (mvT hZ (ww hw 11 rfl))) (mvT hZ (ww hw 11 rfl)) (mvT hZ (ww hw 10 rfl)) (by decide) (backOf (W := 0) (rm2_10 l Z a0 hw [] a_TRUE a_UNKNOWN a_FALSE h0 n0 O0 HE' ) hZ (ww hw 12 rfl) (ww hw 6 rfl) (by decide) (by decide)) qc506a qc506c (g := (mkF m 28 Ls502 [(.ref a_UNKNOWN)])) rfl (by rw [hml]; rfl) (Steps.refl _) (argsL := []) (rest := []) (lenOf pd1 rfl) rfl (by show 2 * 0 + _ ≤ _; exact Nat.le_of_eq rfl) (hb hby at_28) (fun _ _ => ⟨rfl, ec504, (by decide : 0 + 0 ≤ _), (by decide : 0 + 0 ≤ _)⟩)
    dsimp only [Pt.U, Pt.locs, Pt.cells, Pt.slots] at Xc506 lc506 yc506 zc506 stc506 hQc506
    subst lc506 yc506 zc506
    obtain ⟨Nqc506, ec506, hAc506⟩ := hQc506
    have Nc506 := Fr.app Nc504 Nqc506
    obtain rfl := hAc506
    have p507 : ∀ t, St p e below Tc506 (mkF m 31 Ls502 [(.ref a_UNKNOWN)]) t → S0 t := fun t k => p505 t (stc506.trans k)
    let Ls508 : Array Slot := #[.val (.int i0), .val (.int i1), .val (.int i2), .val (.ref a_UNKNOWN), .val (.ref a_FALSE), .val (.int (0 : Int32)), .val (.int (1 : Int32)), .unset, .unset]
    have p509 : ∀ t, St p e below Tc506 (mkF m 44 Ls508 [(.int (0 : Int32))]) t → S0 t := fun t k => p507 t (by
      show St p e below Tc506 (mkF m 31 Ls502 [(.ref a_UNKNOWN)]) t
      refine XS.aloadN Xc506.here hx rfl (hb hby at_31) rfl rfl ?_
      show St p e below Tc506 (mkF m 32 Ls502 [(.ref a_UNKNOWN), (.ref a_UNKNOWN)]) t
      refine Jvm.RoadKit.acmp (g := (mkF m 32 Ls502 [(.ref a_UNKNOWN), (.ref a_UNKNOWN)])) Xc506 hx rfl rfl rfl (pc0 := 32) (pc' := 35) (same := true) rfl (hb hby at_32) rfl (decide_eq_true rfl) (by decide) (by decide) ?_
      show St p e below Tc506 (mkF m 35 Ls502 []) t
      refine XT.iconstV Xc506.here hx rfl (1 : Int32) (hb hby at_35) (by decide) ?_
      show St p e below Tc506 (mkF m 36 Ls502 [(.int (1 : Int32))]) t
      refine XS.goto Xc506.here hx rfl (pc0 := 36) (pc' := 40) rfl (hb hby at_36) (by decide) (by decide) ?_
      show St p e below Tc506 (mkF m 40 Ls502 [(.int (1 : Int32))]) t
      refine XS.istore Xc506.here hx rfl (hb hby at_40) rfl (l' := Ls508) rfl ?_
      show St p e below Tc506 (mkF m 42 Ls508 []) t
      refine XS.iload Xc506.here hx rfl (hb hby at_42) rfl ?_
      exact k)
    obtain ⟨_, _, ⟨Tc510, Lc510, kc510, nc510⟩, -, Xc510, ⟨Lcc510, hQc510, lc510, yc510, zc510⟩, stc510⟩ := Jvm.LawKit.callS Xc506 hx (y := M2) hown (mvT hZ (ww hw 18 rfl)) (mvT hZ (ww hw 19 rfl)) (mvT hZ (ww hw 6 rfl)) (mvT hZ (ww hw 20 rfl)) (by decide) (backOf (W := 0) (rm3_3 l Z a0 hw [] a_TRUE a_UNKNOWN a_FALSE h0 n0 O0 HE' ) hZ (ww hw 20 rfl) (ww hw 6 rfl) (by decide) (by decide)) (g := (mkF m 44 Ls508 [(.int (0 : Int32))])) rfl (by rw [hml]; rfl) (argsL := [(.int (0 : Int32))]) (rest := []) (lenOf pd2 rfl) rfl (by show 2 * 0 + _ ≤ _; exact Nat.le_of_eq rfl) (hb hby at_44) (fun _ _ => ⟨rfl, ec506, (by decide : 0 + 0 ≤ _), (by decide : 0 + 0 ≤ _)⟩)
    dsimp only [Pt.U, Pt.locs, Pt.cells, Pt.slots] at Xc510 lc510 yc510 zc510 stc510 hQc510
    subst lc510 yc510 zc510
    obtain ⟨Nqc510, ec510, hAc510⟩ := hQc510
    have Nc510 := Fr.app Nc506 Nqc510
    obtain rfl := hAc510
    have p511 : ∀ t, St p e below Tc510 (mkF m 47 Ls508 [(.ref a_FALSE)]) t → S0 t := fun t k => p509 t (stc510 t k)
    obtain ⟨cqc512, kqc512, qc512a, qc512b, qc512c⟩ := isOf hZ ec510 (Ea_FALSE.ext O0.2)
    obtain ⟨_, _, ⟨Tc512, Lc512, kc512, nc512⟩, -, Xc512, ⟨Lcc512, hQc512, lc512, yc512, zc512⟩, stc512⟩ := Xc510.virtualBack hx (y := M1) (z := M1) hown (mvT hZ (ww hw 8 rfl)) (mvT hZ (ww hw 9 rfl)) (notFace_of_selects (args := #[]) (mvT hZ (ww hw 11 rfl))) (mvT hZ (ww hw 11 rfl)) (mvT hZ (ww hw 10 rfl)) (by decide) (backOf (W := 0) (rm2_2 l Z a0 hw [] a_TRUE a_UNKNOWN a_FALSE h0 n0 O0 HE' ) hZ (ww hw 12 rfl) (ww hw 6 rfl) (by decide) (by decide)) qc512a qc512c (g := (mkF m 47 Ls508 [(.ref a_FALSE)])) rfl (by rw [hml]; rfl) (Steps.refl _) (argsL := []) (rest := []) (lenOf pd1 rfl) rfl (by show 2 * 0 + _ ≤ _; exact Nat.le_of_eq rfl) (hb hby at_47) (fun _ _ => ⟨rfl, ec510, (by decide : 0 + 0 ≤ _), (by decide : 0 + 0 ≤ _)⟩)
    dsimp only [Pt.U, Pt.locs, Pt.cells, Pt.slots] at Xc512 lc512 yc512 zc512 stc512 hQc512
    subst lc512 yc512 zc512
    obtain ⟨Nqc512, ec512, hAc512⟩ := hQc512
    have Nc512 := Fr.app Nc510 Nqc512
    obtain rfl := hAc512
    have p513 : ∀ t, St p e below Tc512 (mkF m 50 Ls508 [(.ref a_TRUE)]) t → S0 t := fun t k => p511 t (stc512.trans k)
    have p514 : ∀ t, St p e below Tc512 (mkF m 60 Ls508 [(.int (1 : Int32)), (.ref a_TRUE)]) t → S0 t := fun t k => p513 t (by
      show St p e below Tc512 (mkF m 50 Ls508 [(.ref a_TRUE)]) t
      refine XS.iload Xc512.here hx rfl (hb hby at_50) rfl ?_
      show St p e below Tc512 (mkF m 52 Ls508 [(.int (0 : Int32)), (.ref a_TRUE)]) t
      refine XS.ifNo Xc512.here hx rfl (hb hby at_52) rfl ((if0 _ _).trans (teq (by decide : (0 : Int32) = (0 : Int32))).2) ?_
      show St p e below Tc512 (mkF m 55 Ls508 [(.ref a_TRUE)]) t
      refine XT.iconstV Xc512.here hx rfl (1 : Int32) (hb hby at_55) (by decide) ?_
      show St p e below Tc512 (mkF m 56 Ls508 [(.int (1 : Int32)), (.ref a_TRUE)]) t
      refine XS.goto Xc512.here hx rfl (pc0 := 56) (pc' := 60) rfl (hb hby at_56) (by decide) (by decide) ?_
      exact k)
    obtain ⟨_, _, ⟨Tc515, Lc515, kc515, nc515⟩, -, Xc515, ⟨Lcc515, hQc515, lc515, yc515, zc515⟩, stc515⟩ := Jvm.LawKit.callS Xc512 hx (y := M2) hown (mvT hZ (ww hw 18 rfl)) (mvT hZ (ww hw 19 rfl)) (mvT hZ (ww hw 6 rfl)) (mvT hZ (ww hw 20 rfl)) (by decide) (backOf (W := 1) (rm3_4 l Z a0 hw [] a_TRUE a_UNKNOWN a_FALSE h0 n0 O0 HE' ) hZ (ww hw 20 rfl) (ww hw 6 rfl) (by decide) (by decide)) (g := (mkF m 60 Ls508 [(.int (1 : Int32)), (.ref a_TRUE)])) rfl (by rw [hml]; rfl) (argsL := [(.int (1 : Int32))]) (rest := [(.ref a_TRUE)]) (lenOf pd2 rfl) rfl (by show 2 * 0 + _ ≤ _; exact Nat.le_of_eq rfl) (hb hby at_60) (fun _ _ => ⟨rfl, ec512, (by decide : 0 + 0 ≤ _), (by decide : 0 + 0 ≤ _)⟩)
    dsimp only [Pt.U, Pt.locs, Pt.cells, Pt.slots] at Xc515 lc515 yc515 zc515 stc515 hQc515
    subst lc515 yc515 zc515
    obtain ⟨Nqc515, ec515, hAc515⟩ := hQc515
    have Nc515 := Fr.app Nc512 Nqc515
    obtain rfl := hAc515
    have p516 : ∀ t, St p e below Tc515 (mkF m 63 Ls508 [(.ref a_TRUE), (.ref a_TRUE)]) t → S0 t := fun t k => p514 t (stc515 t k)
    let Ls517 : Array Slot := #[.val (.int i0), .val (.int i1), .val (.int i2), .val (.ref a_UNKNOWN), .val (.ref a_FALSE), .val (.int (0 : Int32)), .val (.int (1 : Int32)), .val (.int (1 : Int32)), .unset]
    have p518 : ∀ t, St p e below Tc515 (mkF m 76 Ls517 [(.ref a_FALSE), (.ref a_UNKNOWN)]) t → S0 t := fun t k => p516 t (by
      show St p e below Tc515 (mkF m 63 Ls508 [(.ref a_TRUE), (.ref a_TRUE)]) t
      refine Jvm.RoadKit.acmp (g := (mkF m 63 Ls508 [(.ref a_TRUE), (.ref a_TRUE)])) Xc515 hx rfl rfl rfl (pc0 := 63) (pc' := 66) (same := true) rfl (hb hby at_63) rfl (decide_eq_true rfl) (by decide) (by decide) ?_
      show St p e below Tc515 (mkF m 66 Ls508 []) t
      refine XT.iconstV Xc515.here hx rfl (1 : Int32) (hb hby at_66) (by decide) ?_
      show St p e below Tc515 (mkF m 67 Ls508 [(.int (1 : Int32))]) t
      refine XS.goto Xc515.here hx rfl (pc0 := 67) (pc' := 71) rfl (hb hby at_67) (by decide) (by decide) ?_
      show St p e below Tc515 (mkF m 71 Ls508 [(.int (1 : Int32))]) t
      refine XS.istore Xc515.here hx rfl (hb hby at_71) rfl (l' := Ls517) rfl ?_
      show St p e below Tc515 (mkF m 73 Ls517 []) t
      refine XS.aloadN Xc515.here hx rfl (hb hby at_73) rfl rfl ?_
      show St p e below Tc515 (mkF m 74 Ls517 [(.ref a_UNKNOWN)]) t
      refine XS.aload Xc515.here hx rfl (hb hby at_74) rfl rfl ?_
      exact k)
    obtain ⟨cqc519, kqc519, qc519a, qc519b, qc519c⟩ := isOf hZ ec515 (Ea_UNKNOWN.ext O0.2)
    obtain ⟨_, _, ⟨Tc519, Lc519, kc519, nc519⟩, -, Xc519, ⟨Lcc519, hQc519, lc519, yc519, zc519⟩, stc519⟩ := Xc515.virtualBack hx (y := M3) (z := M3) hown (mvT hZ (ww hw 21 rfl)) (mvT hZ (ww hw 22 rfl)) (notFace_of_selects (args := #[]) (mvT hZ (ww hw 24 rfl))) (mvT hZ (ww hw 24 rfl)) (mvT hZ (ww hw 23 rfl)) (by decide) (backOf (W := 0) (rm4_20 l Z a0 hw [] a_TRUE a_UNKNOWN a_FALSE h0 n0 O0 HE' ) hZ (ww hw 25 rfl) (ww hw 6 rfl) (by decide) (by decide)) qc519a qc519c (g := (mkF m 76 Ls517 [(.ref a_FALSE), (.ref a_UNKNOWN)])) rfl (by rw [hml]; rfl) (Steps.refl _) (argsL := [(.ref a_FALSE)]) (rest := []) (lenOf pd3 rfl) rfl (by show 2 * 0 + _ ≤ _; exact Nat.le_of_eq rfl) (hb hby at_76) (fun _ _ => ⟨rfl, ec515, (by decide : 0 + 0 ≤ _), (by decide : 0 + 0 ≤ _)⟩)
    dsimp only [Pt.U, Pt.locs, Pt.cells, Pt.slots] at Xc519 lc519 yc519 zc519 stc519 hQc519
    subst lc519 yc519 zc519
    obtain ⟨Nqc519, ec519, hAc519⟩ := hQc519
    have Nc519 := Fr.app Nc515 Nqc519
    obtain rfl := hAc519
    have p520 : ∀ t, St p e below Tc519 (mkF m 79 Ls517 [(.ref a_FALSE)]) t → S0 t := fun t k => p518 t (stc519.trans k)
    obtain ⟨cqc521, kqc521, qc521a, qc521b, qc521c⟩ := isOf hZ ec519 (Ea_FALSE.ext O0.2)
    obtain ⟨_, _, ⟨Tc521, Lc521, kc521, nc521⟩, -, Xc521, ⟨Lcc521, hQc521, lc521, yc521, zc521⟩, stc521⟩ := Xc519.virtualBack hx (y := M1) (z := M1) hown (mvT hZ (ww hw 8 rfl)) (mvT hZ (ww hw 9 rfl)) (notFace_of_selects (args := #[]) (mvT hZ (ww hw 11 rfl))) (mvT hZ (ww hw 11 rfl)) (mvT hZ (ww hw 10 rfl)) (by decide) (backOf (W := 0) (rm2_2 l Z a0 hw [] a_TRUE a_UNKNOWN a_FALSE h0 n0 O0 HE' ) hZ (ww hw 12 rfl) (ww hw 6 rfl) (by decide) (by decide)) qc521a qc521c (g := (mkF m 79 Ls517 [(.ref a_FALSE)])) rfl (by rw [hml]; rfl) (Steps.refl _) (argsL := []) (rest := []) (lenOf pd1 rfl) rfl (by show 2 * 0 + _ ≤ _; exact Nat.le_of_eq rfl) (hb hby at_79) (fun _ _ => ⟨rfl, ec519, (by decide : 0 + 0 ≤ _), (by decide : 0 + 0 ≤ _)⟩)
    dsimp only [Pt.U, Pt.locs, Pt.cells, Pt.slots] at Xc521 lc521 yc521 zc521 stc521 hQc521
    subst lc521 yc521 zc521
    obtain ⟨Nqc521, ec521, hAc521⟩ := hQc521
    have Nc521 := Fr.app Nc519 Nqc521
    obtain rfl := hAc521
    have p522 : ∀ t, St p e below Tc521 (mkF m 82 Ls517 [(.ref a_TRUE)]) t → S0 t := fun t k => p520 t (stc521.trans k)
    have p523 : ∀ t, St p e below Tc521 (mkF m 83 Ls517 [(.ref a_UNKNOWN), (.ref a_TRUE)]) t → S0 t := fun t k => p522 t (by
      show St p e below Tc521 (mkF m 82 Ls517 [(.ref a_TRUE)]) t
      refine XS.aloadN Xc521.here hx rfl (hb hby at_82) rfl rfl ?_
      exact k)
    obtain ⟨cqc524, kqc524, qc524a, qc524b, qc524c⟩ := isOf hZ ec521 (Ea_UNKNOWN.ext O0.2)
    obtain ⟨_, _, ⟨Tc524, Lc524, kc524, nc524⟩, -, Xc524, ⟨Lcc524, hQc524, lc524, yc524, zc524⟩, stc524⟩ := Xc521.virtualBack hx (y := M1) (z := M1) hown (mvT hZ (ww hw 8 rfl)) (mvT hZ (ww hw 9 rfl)) (notFace_of_selects (args := #[]) (mvT hZ (ww hw 11 rfl))) (mvT hZ (ww hw 11 rfl)) (mvT hZ (ww hw 10 rfl)) (by decide) (backOf (W := 1) (rm2_10 l Z a0 hw [] a_TRUE a_UNKNOWN a_FALSE h0 n0 O0 HE' ) hZ (ww hw 12 rfl) (ww hw 6 rfl) (by decide) (by decide)) qc524a qc524c (g := (mkF m 83 Ls517 [(.ref a_UNKNOWN), (.ref a_TRUE)])) rfl (by rw [hml]; rfl) (Steps.refl _) (argsL := []) (rest := [(.ref a_TRUE)]) (lenOf pd1 rfl) rfl (by show 2 * 0 + _ ≤ _; exact Nat.le_of_eq rfl) (hb hby at_83) (fun _ _ => ⟨rfl, ec521, (by decide : 0 + 0 ≤ _), (by decide : 0 + 0 ≤ _)⟩)
    dsimp only [Pt.U, Pt.locs, Pt.cells, Pt.slots] at Xc524 lc524 yc524 zc524 stc524 hQc524
    subst lc524 yc524 zc524
    obtain ⟨Nqc524, ec524, hAc524⟩ := hQc524
    have Nc524 := Fr.app Nc521 Nqc524
    obtain rfl := hAc524
    have p525 : ∀ t, St p e below Tc524 (mkF m 86 Ls517 [(.ref a_UNKNOWN), (.ref a_TRUE)]) t → S0 t := fun t k => p523 t (stc524.trans k)
    have p526 : ∀ t, St p e below Tc524 (mkF m 88 Ls517 [(.ref a_FALSE), (.ref a_UNKNOWN), (.ref a_TRUE)]) t → S0 t := fun t k => p525 t (by
      show St p e below Tc524 (mkF m 86 Ls517 [(.ref a_UNKNOWN), (.ref a_TRUE)]) t
      refine XS.aload Xc524.here hx rfl (hb hby at_86) rfl rfl ?_
      exact k)
    obtain ⟨cqc527, kqc527, qc527a, qc527b, qc527c⟩ := isOf hZ ec524 (Ea_FALSE.ext O0.2)
    obtain ⟨_, _, ⟨Tc527, Lc527, kc527, nc527⟩, -, Xc527, ⟨Lcc527, hQc527, lc527, yc527, zc527⟩, stc527⟩ := Xc524.virtualBack hx (y := M1) (z := M1) hown (mvT hZ (ww hw 8 rfl)) (mvT hZ (ww hw 9 rfl)) (notFace_of_selects (args := #[]) (mvT hZ (ww hw 11 rfl))) (mvT hZ (ww hw 11 rfl)) (mvT hZ (ww hw 10 rfl)) (by decide) (backOf (W := 2) (rm2_2 l Z a0 hw [] a_TRUE a_UNKNOWN a_FALSE h0 n0 O0 HE' ) hZ (ww hw 12 rfl) (ww hw 6 rfl) (by decide) (by decide)) qc527a qc527c (g := (mkF m 88 Ls517 [(.ref a_FALSE), (.ref a_UNKNOWN), (.ref a_TRUE)])) rfl (by rw [hml]; rfl) (Steps.refl _) (argsL := []) (rest := [(.ref a_UNKNOWN), (.ref a_TRUE)]) (lenOf pd1 rfl) rfl (by show 2 * 0 + _ ≤ _; exact Nat.le_of_eq rfl) (hb hby at_88) (fun _ _ => ⟨rfl, ec524, (by decide : 0 + 0 ≤ _), (by decide : 0 + 0 ≤ _)⟩)
    dsimp only [Pt.U, Pt.locs, Pt.cells, Pt.slots] at Xc527 lc527 yc527 zc527 stc527 hQc527
    subst lc527 yc527 zc527
    obtain ⟨Nqc527, ec527, hAc527⟩ := hQc527
    have Nc527 := Fr.app Nc524 Nqc527
    obtain rfl := hAc527
    have p528 : ∀ t, St p e below Tc527 (mkF m 91 Ls517 [(.ref a_TRUE), (.ref a_UNKNOWN), (.ref a_TRUE)]) t → S0 t := fun t k => p526 t (stc527.trans k)
    obtain ⟨cqc529, kqc529, qc529a, qc529b, qc529c⟩ := isOf hZ ec527 (Ea_UNKNOWN.ext O0.2)
    obtain ⟨_, _, ⟨Tc529, Lc529, kc529, nc529⟩, -, Xc529, ⟨Lcc529, hQc529, lc529, yc529, zc529⟩, stc529⟩ := Xc527.virtualBack hx (y := M4) (z := M4) hown (mvT hZ (ww hw 26 rfl)) (mvT hZ (ww hw 27 rfl)) (notFace_of_selects (args := #[]) (mvT hZ (ww hw 29 rfl))) (mvT hZ (ww hw 29 rfl)) (mvT hZ (ww hw 28 rfl)) (by decide) (backOf (W := 1) (rm5_21 l Z a0 hw [] a_TRUE a_UNKNOWN a_FALSE h0 n0 O0 HE' ) hZ (ww hw 30 rfl) (ww hw 6 rfl) (by decide) (by decide)) qc529a qc529c (g := (mkF m 91 Ls517 [(.ref a_TRUE), (.ref a_UNKNOWN), (.ref a_TRUE)])) rfl (by rw [hml]; rfl) (Steps.refl _) (argsL := [(.ref a_TRUE)]) (rest := [(.ref a_TRUE)]) (lenOf pd3 rfl) rfl (by show 2 * 0 + _ ≤ _; exact Nat.le_of_eq rfl) (hb hby at_91) (fun _ _ => ⟨rfl, ec527, (by decide : 0 + 0 ≤ _), (by decide : 0 + 0 ≤ _)⟩)
    dsimp only [Pt.U, Pt.locs, Pt.cells, Pt.slots] at Xc529 lc529 yc529 zc529 stc529 hQc529
    subst lc529 yc529 zc529
    obtain ⟨Nqc529, ec529, hAc529⟩ := hQc529
    have Nc529 := Fr.app Nc527 Nqc529
    obtain rfl := hAc529
    have p530 : ∀ t, St p e below Tc529 (mkF m 94 Ls517 [(.ref a_TRUE), (.ref a_TRUE)]) t → S0 t := fun t k => p528 t (stc529.trans k)
    let Ls531 : Array Slot := #[.val (.int i0), .val (.int i1), .val (.int i2), .val (.ref a_UNKNOWN), .val (.ref a_FALSE), .val (.int (0 : Int32)), .val (.int (1 : Int32)), .val (.int (1 : Int32)), .val (.int (1 : Int32))]
    have p532 : ∀ t, St p e below Tc529 (mkF m 124 Ls531 [(.int (1 : Int32))]) t → S0 t := fun t k => p530 t (by
      show St p e below Tc529 (mkF m 94 Ls517 [(.ref a_TRUE), (.ref a_TRUE)]) t
      refine Jvm.RoadKit.acmp (g := (mkF m 94 Ls517 [(.ref a_TRUE), (.ref a_TRUE)])) Xc529 hx rfl rfl rfl (pc0 := 94) (pc' := 97) (same := true) rfl (hb hby at_94) rfl (decide_eq_true rfl) (by decide) (by decide) ?_
      show St p e below Tc529 (mkF m 97 Ls517 []) t
      refine XT.iconstV Xc529.here hx rfl (1 : Int32) (hb hby at_97) (by decide) ?_
      show St p e below Tc529 (mkF m 98 Ls517 [(.int (1 : Int32))]) t
      refine XS.goto Xc529.here hx rfl (pc0 := 98) (pc' := 102) rfl (hb hby at_98) (by decide) (by decide) ?_
      show St p e below Tc529 (mkF m 102 Ls517 [(.int (1 : Int32))]) t
      refine XS.istore Xc529.here hx rfl (hb hby at_102) rfl (l' := Ls531) rfl ?_
      show St p e below Tc529 (mkF m 104 Ls531 []) t
      refine XS.iload Xc529.here hx rfl (hb hby at_104) rfl ?_
      show St p e below Tc529 (mkF m 106 Ls531 [(.int (1 : Int32))]) t
      refine XS.ifNo Xc529.here hx rfl (hb hby at_106) rfl ((if0 _ _).trans (feq (by decide : ¬ ((1 : Int32) = (0 : Int32)))).1) ?_
      show St p e below Tc529 (mkF m 109 Ls531 []) t
      refine XS.iload Xc529.here hx rfl (hb hby at_109) rfl ?_
      show St p e below Tc529 (mkF m 111 Ls531 [(.int (1 : Int32))]) t
      refine XS.ifNo Xc529.here hx rfl (hb hby at_111) rfl ((if0 _ _).trans (feq (by decide : ¬ ((1 : Int32) = (0 : Int32)))).1) ?_
      show St p e below Tc529 (mkF m 114 Ls531 []) t
      refine XS.iload Xc529.here hx rfl (hb hby at_114) rfl ?_
      show St p e below Tc529 (mkF m 116 Ls531 [(.int (1 : Int32))]) t
      refine XS.ifNo Xc529.here hx rfl (hb hby at_116) rfl ((if0 _ _).trans (feq (by decide : ¬ ((1 : Int32) = (0 : Int32)))).1) ?_
      show St p e below Tc529 (mkF m 119 Ls531 []) t
      refine XT.iconstV Xc529.here hx rfl (1 : Int32) (hb hby at_119) (by decide) ?_
      show St p e below Tc529 (mkF m 120 Ls531 [(.int (1 : Int32))]) t
      refine XS.goto Xc529.here hx rfl (pc0 := 120) (pc' := 124) rfl (hb hby at_120) (by decide) (by decide) ?_
      exact k)
    obtain ⟨fs, hr, hrun, hended, hW, hsame⟩ := Xc529.leave (v := some (.int (1 : Int32))) (fun h => by rw [Bd.returns] at h; cases h)
    refine ⟨_, _, p532 _ ?_, hrun, hended, _, _, rfl, ?_, ⟨_, rfl⟩, hW, hsame.mono (by decide) (by decide)⟩
    · exact retOut Xc529 hx Bd.returns rfl (Or.inl ⟨rfl, by simp, _, rfl⟩) (hb hby at_124) hr
    · exact ⟨rfl, Nc529⟩
   ·
    let Ls533 : Array Slot := #[.val (.int i0), .val (.int i1), .val (.int i2), .val (.ref a_UNKNOWN), .val (.ref a_FALSE), .val (.int (1 : Int32)), .unset, .unset, .unset]
    have p534 : ∀ t, St p e below Tc426 (mkF m 25 Ls533 [(.ref a_UNKNOWN)]) t → S0 t := fun t k => p500 t (by
      show St p e below Tc426 (mkF m 14 Ls499 [(.int (i2 &&& (1 : Int32)))]) t
      refine XS.ifNo Xc426.here hx rfl (hb hby at_14) rfl ((if0 _ _).trans (feq g501).1) ?_
      show St p e below Tc426 (mkF m 17 Ls499 []) t
      refine XT.iconstV Xc426.here hx rfl (1 : Int32) (hb hby at_17) (by decide) ?_
      show St p e below Tc426 (mkF m 18 Ls499 [(.int (1 : Int32))]) t
      refine XS.goto Xc426.here hx rfl (pc0 := 18) (pc' := 22) rfl (hb hby at_18) (by decide) (by decide) ?_
      show St p e below Tc426 (mkF m 22 Ls499 [(.int (1 : Int32))]) t
      refine XS.istore Xc426.here hx rfl (hb hby at_22) rfl (l' := Ls533) rfl ?_
      show St p e below Tc426 (mkF m 24 Ls533 []) t
      refine XS.aloadN Xc426.here hx rfl (hb hby at_24) rfl rfl ?_
      exact k)
    obtain ⟨cqc535, kqc535, qc535a, qc535b, qc535c⟩ := isOf hZ ec426 (Ea_UNKNOWN.ext O0.2)
    obtain ⟨_, _, ⟨Tc535, Lc535, kc535, nc535⟩, -, Xc535, ⟨Lcc535, hQc535, lc535, yc535, zc535⟩, stc535⟩ := Xc426.virtualBack hx (y := M1) (z := M1) hown (mvT hZ (ww hw 8 rfl)) (mvT hZ (ww hw 9 rfl)) (notFace_of_selects (args := #[]) (mvT hZ (ww hw 11 rfl))) (mvT hZ (ww hw 11 rfl)) (mvT hZ (ww hw 10 rfl)) (by decide) (backOf (W := 0) (rm2_10 l Z a0 hw [] a_TRUE a_UNKNOWN a_FALSE h0 n0 O0 HE' ) hZ (ww hw 12 rfl) (ww hw 6 rfl) (by decide) (by decide)) qc535a qc535c (g := (mkF m 25 Ls533 [(.ref a_UNKNOWN)])) rfl (by rw [hml]; rfl) (Steps.refl _) (argsL := []) (rest := []) (lenOf pd1 rfl) rfl (by show 2 * 0 + _ ≤ _; exact Nat.le_of_eq rfl) (hb hby at_25) (fun _ _ => ⟨rfl, ec426, (by decide : 0 + 0 ≤ _), (by decide : 0 + 0 ≤ _)⟩)
    dsimp only [Pt.U, Pt.locs, Pt.cells, Pt.slots] at Xc535 lc535 yc535 zc535 stc535 hQc535
    subst lc535 yc535 zc535
    obtain ⟨Nqc535, ec535, hAc535⟩ := hQc535
    have Nc535 := Fr.app Nc426 Nqc535
    obtain rfl := hAc535
    have p536 : ∀ t, St p e below Tc535 (mkF m 28 Ls533 [(.ref a_UNKNOWN)]) t → S0 t := fun t k => p534 t (stc535.trans k)
    obtain ⟨cqc537, kqc537, qc537a, qc537b, qc537c⟩ := isOf hZ ec535 (Ea_UNKNOWN.ext O0.2)
    obtain ⟨_, _, ⟨Tc537, Lc537, kc537, nc537⟩, -, Xc537, ⟨Lcc537, hQc537, lc537, yc537, zc537⟩, stc537⟩ := Xc535.virtualBack hx (y := M1) (z := M1) hown (mvT hZ (ww hw 8 rfl)) (mvT hZ (ww hw 9 rfl)) (notFace_of_selects (args := #[]) (mvT hZ (ww hw 11 rfl))) (mvT hZ (ww hw 11 rfl)) (mvT hZ (ww hw 10 rfl)) (by decide) (backOf (W := 0) (rm2_10 l Z a0 hw [] a_TRUE a_UNKNOWN a_FALSE h0 n0 O0 HE' ) hZ (ww hw 12 rfl) (ww hw 6 rfl) (by decide) (by decide)) qc537a qc537c (g := (mkF m 28 Ls533 [(.ref a_UNKNOWN)])) rfl (by rw [hml]; rfl) (Steps.refl _) (argsL := []) (rest := []) (lenOf pd1 rfl) rfl (by show 2 * 0 + _ ≤ _; exact Nat.le_of_eq rfl) (hb hby at_28) (fun _ _ => ⟨rfl, ec535, (by decide : 0 + 0 ≤ _), (by decide : 0 + 0 ≤ _)⟩)
    dsimp only [Pt.U, Pt.locs, Pt.cells, Pt.slots] at Xc537 lc537 yc537 zc537 stc537 hQc537
    subst lc537 yc537 zc537
    obtain ⟨Nqc537, ec537, hAc537⟩ := hQc537
    have Nc537 := Fr.app Nc535 Nqc537
    obtain rfl := hAc537
    have p538 : ∀ t, St p e below Tc537 (mkF m 31 Ls533 [(.ref a_UNKNOWN)]) t → S0 t := fun t k => p536 t (stc537.trans k)
    let Ls539 : Array Slot := #[.val (.int i0), .val (.int i1), .val (.int i2), .val (.ref a_UNKNOWN), .val (.ref a_FALSE), .val (.int (1 : Int32)), .val (.int (1 : Int32)), .unset, .unset]
    have p540 : ∀ t, St p e below Tc537 (mkF m 44 Ls539 [(.int (1 : Int32))]) t → S0 t := fun t k => p538 t (by
      show St p e below Tc537 (mkF m 31 Ls533 [(.ref a_UNKNOWN)]) t
      refine XS.aloadN Xc537.here hx rfl (hb hby at_31) rfl rfl ?_
      show St p e below Tc537 (mkF m 32 Ls533 [(.ref a_UNKNOWN), (.ref a_UNKNOWN)]) t
      refine Jvm.RoadKit.acmp (g := (mkF m 32 Ls533 [(.ref a_UNKNOWN), (.ref a_UNKNOWN)])) Xc537 hx rfl rfl rfl (pc0 := 32) (pc' := 35) (same := true) rfl (hb hby at_32) rfl (decide_eq_true rfl) (by decide) (by decide) ?_
      show St p e below Tc537 (mkF m 35 Ls533 []) t
      refine XT.iconstV Xc537.here hx rfl (1 : Int32) (hb hby at_35) (by decide) ?_
      show St p e below Tc537 (mkF m 36 Ls533 [(.int (1 : Int32))]) t
      refine XS.goto Xc537.here hx rfl (pc0 := 36) (pc' := 40) rfl (hb hby at_36) (by decide) (by decide) ?_
      show St p e below Tc537 (mkF m 40 Ls533 [(.int (1 : Int32))]) t
      refine XS.istore Xc537.here hx rfl (hb hby at_40) rfl (l' := Ls539) rfl ?_
      show St p e below Tc537 (mkF m 42 Ls539 []) t
      refine XS.iload Xc537.here hx rfl (hb hby at_42) rfl ?_
      exact k)
    obtain ⟨_, _, ⟨Tc541, Lc541, kc541, nc541⟩, -, Xc541, ⟨Lcc541, hQc541, lc541, yc541, zc541⟩, stc541⟩ := Jvm.LawKit.callS Xc537 hx (y := M2) hown (mvT hZ (ww hw 18 rfl)) (mvT hZ (ww hw 19 rfl)) (mvT hZ (ww hw 6 rfl)) (mvT hZ (ww hw 20 rfl)) (by decide) (backOf (W := 0) (rm3_4 l Z a0 hw [] a_TRUE a_UNKNOWN a_FALSE h0 n0 O0 HE' ) hZ (ww hw 20 rfl) (ww hw 6 rfl) (by decide) (by decide)) (g := (mkF m 44 Ls539 [(.int (1 : Int32))])) rfl (by rw [hml]; rfl) (argsL := [(.int (1 : Int32))]) (rest := []) (lenOf pd2 rfl) rfl (by show 2 * 0 + _ ≤ _; exact Nat.le_of_eq rfl) (hb hby at_44) (fun _ _ => ⟨rfl, ec537, (by decide : 0 + 0 ≤ _), (by decide : 0 + 0 ≤ _)⟩)
    dsimp only [Pt.U, Pt.locs, Pt.cells, Pt.slots] at Xc541 lc541 yc541 zc541 stc541 hQc541
    subst lc541 yc541 zc541
    obtain ⟨Nqc541, ec541, hAc541⟩ := hQc541
    have Nc541 := Fr.app Nc537 Nqc541
    obtain rfl := hAc541
    have p542 : ∀ t, St p e below Tc541 (mkF m 47 Ls539 [(.ref a_TRUE)]) t → S0 t := fun t k => p540 t (stc541 t k)
    obtain ⟨cqc543, kqc543, qc543a, qc543b, qc543c⟩ := isOf hZ ec541 (Ea_TRUE.ext O0.2)
    obtain ⟨_, _, ⟨Tc543, Lc543, kc543, nc543⟩, -, Xc543, ⟨Lcc543, hQc543, lc543, yc543, zc543⟩, stc543⟩ := Xc541.virtualBack hx (y := M1) (z := M1) hown (mvT hZ (ww hw 8 rfl)) (mvT hZ (ww hw 9 rfl)) (notFace_of_selects (args := #[]) (mvT hZ (ww hw 11 rfl))) (mvT hZ (ww hw 11 rfl)) (mvT hZ (ww hw 10 rfl)) (by decide) (backOf (W := 0) (rm2_1 l Z a0 hw [] a_TRUE a_UNKNOWN a_FALSE h0 n0 O0 HE' ) hZ (ww hw 12 rfl) (ww hw 6 rfl) (by decide) (by decide)) qc543a qc543c (g := (mkF m 47 Ls539 [(.ref a_TRUE)])) rfl (by rw [hml]; rfl) (Steps.refl _) (argsL := []) (rest := []) (lenOf pd1 rfl) rfl (by show 2 * 0 + _ ≤ _; exact Nat.le_of_eq rfl) (hb hby at_47) (fun _ _ => ⟨rfl, ec541, (by decide : 0 + 0 ≤ _), (by decide : 0 + 0 ≤ _)⟩)
    dsimp only [Pt.U, Pt.locs, Pt.cells, Pt.slots] at Xc543 lc543 yc543 zc543 stc543 hQc543
    subst lc543 yc543 zc543
    obtain ⟨Nqc543, ec543, hAc543⟩ := hQc543
    have Nc543 := Fr.app Nc541 Nqc543
    obtain rfl := hAc543
    have p544 : ∀ t, St p e below Tc543 (mkF m 50 Ls539 [(.ref a_FALSE)]) t → S0 t := fun t k => p542 t (stc543.trans k)
    have p545 : ∀ t, St p e below Tc543 (mkF m 60 Ls539 [(.int (0 : Int32)), (.ref a_FALSE)]) t → S0 t := fun t k => p544 t (by
      show St p e below Tc543 (mkF m 50 Ls539 [(.ref a_FALSE)]) t
      refine XS.iload Xc543.here hx rfl (hb hby at_50) rfl ?_
      show St p e below Tc543 (mkF m 52 Ls539 [(.int (1 : Int32)), (.ref a_FALSE)]) t
      refine XS.ifYes Xc543.here hx rfl (pc0 := 52) (pc' := 59) rfl (hb hby at_52) rfl ((if0 _ _).trans (feq (by decide : ¬ ((1 : Int32) = (0 : Int32)))).2) (by decide) (by decide) ?_
      show St p e below Tc543 (mkF m 59 Ls539 [(.ref a_FALSE)]) t
      refine XT.iconstV Xc543.here hx rfl (0 : Int32) (hb hby at_59) (by decide) ?_
      exact k)
    obtain ⟨_, _, ⟨Tc546, Lc546, kc546, nc546⟩, -, Xc546, ⟨Lcc546, hQc546, lc546, yc546, zc546⟩, stc546⟩ := Jvm.LawKit.callS Xc543 hx (y := M2) hown (mvT hZ (ww hw 18 rfl)) (mvT hZ (ww hw 19 rfl)) (mvT hZ (ww hw 6 rfl)) (mvT hZ (ww hw 20 rfl)) (by decide) (backOf (W := 1) (rm3_3 l Z a0 hw [] a_TRUE a_UNKNOWN a_FALSE h0 n0 O0 HE' ) hZ (ww hw 20 rfl) (ww hw 6 rfl) (by decide) (by decide)) (g := (mkF m 60 Ls539 [(.int (0 : Int32)), (.ref a_FALSE)])) rfl (by rw [hml]; rfl) (argsL := [(.int (0 : Int32))]) (rest := [(.ref a_FALSE)]) (lenOf pd2 rfl) rfl (by show 2 * 0 + _ ≤ _; exact Nat.le_of_eq rfl) (hb hby at_60) (fun _ _ => ⟨rfl, ec543, (by decide : 0 + 0 ≤ _), (by decide : 0 + 0 ≤ _)⟩)
    dsimp only [Pt.U, Pt.locs, Pt.cells, Pt.slots] at Xc546 lc546 yc546 zc546 stc546 hQc546
    subst lc546 yc546 zc546
    obtain ⟨Nqc546, ec546, hAc546⟩ := hQc546
    have Nc546 := Fr.app Nc543 Nqc546
    obtain rfl := hAc546
    have p547 : ∀ t, St p e below Tc546 (mkF m 63 Ls539 [(.ref a_FALSE), (.ref a_FALSE)]) t → S0 t := fun t k => p545 t (stc546 t k)
    let Ls548 : Array Slot := #[.val (.int i0), .val (.int i1), .val (.int i2), .val (.ref a_UNKNOWN), .val (.ref a_FALSE), .val (.int (1 : Int32)), .val (.int (1 : Int32)), .val (.int (1 : Int32)), .unset]
    have p549 : ∀ t, St p e below Tc546 (mkF m 76 Ls548 [(.ref a_FALSE), (.ref a_UNKNOWN)]) t → S0 t := fun t k => p547 t (by
      show St p e below Tc546 (mkF m 63 Ls539 [(.ref a_FALSE), (.ref a_FALSE)]) t
      refine Jvm.RoadKit.acmp (g := (mkF m 63 Ls539 [(.ref a_FALSE), (.ref a_FALSE)])) Xc546 hx rfl rfl rfl (pc0 := 63) (pc' := 66) (same := true) rfl (hb hby at_63) rfl (decide_eq_true rfl) (by decide) (by decide) ?_
      show St p e below Tc546 (mkF m 66 Ls539 []) t
      refine XT.iconstV Xc546.here hx rfl (1 : Int32) (hb hby at_66) (by decide) ?_
      show St p e below Tc546 (mkF m 67 Ls539 [(.int (1 : Int32))]) t
      refine XS.goto Xc546.here hx rfl (pc0 := 67) (pc' := 71) rfl (hb hby at_67) (by decide) (by decide) ?_
      show St p e below Tc546 (mkF m 71 Ls539 [(.int (1 : Int32))]) t
      refine XS.istore Xc546.here hx rfl (hb hby at_71) rfl (l' := Ls548) rfl ?_
      show St p e below Tc546 (mkF m 73 Ls548 []) t
      refine XS.aloadN Xc546.here hx rfl (hb hby at_73) rfl rfl ?_
      show St p e below Tc546 (mkF m 74 Ls548 [(.ref a_UNKNOWN)]) t
      refine XS.aload Xc546.here hx rfl (hb hby at_74) rfl rfl ?_
      exact k)
    obtain ⟨cqc550, kqc550, qc550a, qc550b, qc550c⟩ := isOf hZ ec546 (Ea_UNKNOWN.ext O0.2)
    obtain ⟨_, _, ⟨Tc550, Lc550, kc550, nc550⟩, -, Xc550, ⟨Lcc550, hQc550, lc550, yc550, zc550⟩, stc550⟩ := Xc546.virtualBack hx (y := M3) (z := M3) hown (mvT hZ (ww hw 21 rfl)) (mvT hZ (ww hw 22 rfl)) (notFace_of_selects (args := #[]) (mvT hZ (ww hw 24 rfl))) (mvT hZ (ww hw 24 rfl)) (mvT hZ (ww hw 23 rfl)) (by decide) (backOf (W := 0) (rm4_20 l Z a0 hw [] a_TRUE a_UNKNOWN a_FALSE h0 n0 O0 HE' ) hZ (ww hw 25 rfl) (ww hw 6 rfl) (by decide) (by decide)) qc550a qc550c (g := (mkF m 76 Ls548 [(.ref a_FALSE), (.ref a_UNKNOWN)])) rfl (by rw [hml]; rfl) (Steps.refl _) (argsL := [(.ref a_FALSE)]) (rest := []) (lenOf pd3 rfl) rfl (by show 2 * 0 + _ ≤ _; exact Nat.le_of_eq rfl) (hb hby at_76) (fun _ _ => ⟨rfl, ec546, (by decide : 0 + 0 ≤ _), (by decide : 0 + 0 ≤ _)⟩)
    dsimp only [Pt.U, Pt.locs, Pt.cells, Pt.slots] at Xc550 lc550 yc550 zc550 stc550 hQc550
    subst lc550 yc550 zc550
    obtain ⟨Nqc550, ec550, hAc550⟩ := hQc550
    have Nc550 := Fr.app Nc546 Nqc550
    obtain rfl := hAc550
    have p551 : ∀ t, St p e below Tc550 (mkF m 79 Ls548 [(.ref a_FALSE)]) t → S0 t := fun t k => p549 t (stc550.trans k)
    obtain ⟨cqc552, kqc552, qc552a, qc552b, qc552c⟩ := isOf hZ ec550 (Ea_FALSE.ext O0.2)
    obtain ⟨_, _, ⟨Tc552, Lc552, kc552, nc552⟩, -, Xc552, ⟨Lcc552, hQc552, lc552, yc552, zc552⟩, stc552⟩ := Xc550.virtualBack hx (y := M1) (z := M1) hown (mvT hZ (ww hw 8 rfl)) (mvT hZ (ww hw 9 rfl)) (notFace_of_selects (args := #[]) (mvT hZ (ww hw 11 rfl))) (mvT hZ (ww hw 11 rfl)) (mvT hZ (ww hw 10 rfl)) (by decide) (backOf (W := 0) (rm2_2 l Z a0 hw [] a_TRUE a_UNKNOWN a_FALSE h0 n0 O0 HE' ) hZ (ww hw 12 rfl) (ww hw 6 rfl) (by decide) (by decide)) qc552a qc552c (g := (mkF m 79 Ls548 [(.ref a_FALSE)])) rfl (by rw [hml]; rfl) (Steps.refl _) (argsL := []) (rest := []) (lenOf pd1 rfl) rfl (by show 2 * 0 + _ ≤ _; exact Nat.le_of_eq rfl) (hb hby at_79) (fun _ _ => ⟨rfl, ec550, (by decide : 0 + 0 ≤ _), (by decide : 0 + 0 ≤ _)⟩)
    dsimp only [Pt.U, Pt.locs, Pt.cells, Pt.slots] at Xc552 lc552 yc552 zc552 stc552 hQc552
    subst lc552 yc552 zc552
    obtain ⟨Nqc552, ec552, hAc552⟩ := hQc552
    have Nc552 := Fr.app Nc550 Nqc552
    obtain rfl := hAc552
    have p553 : ∀ t, St p e below Tc552 (mkF m 82 Ls548 [(.ref a_TRUE)]) t → S0 t := fun t k => p551 t (stc552.trans k)
    have p554 : ∀ t, St p e below Tc552 (mkF m 83 Ls548 [(.ref a_UNKNOWN), (.ref a_TRUE)]) t → S0 t := fun t k => p553 t (by
      show St p e below Tc552 (mkF m 82 Ls548 [(.ref a_TRUE)]) t
      refine XS.aloadN Xc552.here hx rfl (hb hby at_82) rfl rfl ?_
      exact k)
    obtain ⟨cqc555, kqc555, qc555a, qc555b, qc555c⟩ := isOf hZ ec552 (Ea_UNKNOWN.ext O0.2)
    obtain ⟨_, _, ⟨Tc555, Lc555, kc555, nc555⟩, -, Xc555, ⟨Lcc555, hQc555, lc555, yc555, zc555⟩, stc555⟩ := Xc552.virtualBack hx (y := M1) (z := M1) hown (mvT hZ (ww hw 8 rfl)) (mvT hZ (ww hw 9 rfl)) (notFace_of_selects (args := #[]) (mvT hZ (ww hw 11 rfl))) (mvT hZ (ww hw 11 rfl)) (mvT hZ (ww hw 10 rfl)) (by decide) (backOf (W := 1) (rm2_10 l Z a0 hw [] a_TRUE a_UNKNOWN a_FALSE h0 n0 O0 HE' ) hZ (ww hw 12 rfl) (ww hw 6 rfl) (by decide) (by decide)) qc555a qc555c (g := (mkF m 83 Ls548 [(.ref a_UNKNOWN), (.ref a_TRUE)])) rfl (by rw [hml]; rfl) (Steps.refl _) (argsL := []) (rest := [(.ref a_TRUE)]) (lenOf pd1 rfl) rfl (by show 2 * 0 + _ ≤ _; exact Nat.le_of_eq rfl) (hb hby at_83) (fun _ _ => ⟨rfl, ec552, (by decide : 0 + 0 ≤ _), (by decide : 0 + 0 ≤ _)⟩)
    dsimp only [Pt.U, Pt.locs, Pt.cells, Pt.slots] at Xc555 lc555 yc555 zc555 stc555 hQc555
    subst lc555 yc555 zc555
    obtain ⟨Nqc555, ec555, hAc555⟩ := hQc555
    have Nc555 := Fr.app Nc552 Nqc555
    obtain rfl := hAc555
    have p556 : ∀ t, St p e below Tc555 (mkF m 86 Ls548 [(.ref a_UNKNOWN), (.ref a_TRUE)]) t → S0 t := fun t k => p554 t (stc555.trans k)
    have p557 : ∀ t, St p e below Tc555 (mkF m 88 Ls548 [(.ref a_FALSE), (.ref a_UNKNOWN), (.ref a_TRUE)]) t → S0 t := fun t k => p556 t (by
      show St p e below Tc555 (mkF m 86 Ls548 [(.ref a_UNKNOWN), (.ref a_TRUE)]) t
      refine XS.aload Xc555.here hx rfl (hb hby at_86) rfl rfl ?_
      exact k)
    obtain ⟨cqc558, kqc558, qc558a, qc558b, qc558c⟩ := isOf hZ ec555 (Ea_FALSE.ext O0.2)
    obtain ⟨_, _, ⟨Tc558, Lc558, kc558, nc558⟩, -, Xc558, ⟨Lcc558, hQc558, lc558, yc558, zc558⟩, stc558⟩ := Xc555.virtualBack hx (y := M1) (z := M1) hown (mvT hZ (ww hw 8 rfl)) (mvT hZ (ww hw 9 rfl)) (notFace_of_selects (args := #[]) (mvT hZ (ww hw 11 rfl))) (mvT hZ (ww hw 11 rfl)) (mvT hZ (ww hw 10 rfl)) (by decide) (backOf (W := 2) (rm2_2 l Z a0 hw [] a_TRUE a_UNKNOWN a_FALSE h0 n0 O0 HE' ) hZ (ww hw 12 rfl) (ww hw 6 rfl) (by decide) (by decide)) qc558a qc558c (g := (mkF m 88 Ls548 [(.ref a_FALSE), (.ref a_UNKNOWN), (.ref a_TRUE)])) rfl (by rw [hml]; rfl) (Steps.refl _) (argsL := []) (rest := [(.ref a_UNKNOWN), (.ref a_TRUE)]) (lenOf pd1 rfl) rfl (by show 2 * 0 + _ ≤ _; exact Nat.le_of_eq rfl) (hb hby at_88) (fun _ _ => ⟨rfl, ec555, (by decide : 0 + 0 ≤ _), (by decide : 0 + 0 ≤ _)⟩)
    dsimp only [Pt.U, Pt.locs, Pt.cells, Pt.slots] at Xc558 lc558 yc558 zc558 stc558 hQc558
    subst lc558 yc558 zc558
    obtain ⟨Nqc558, ec558, hAc558⟩ := hQc558
    have Nc558 := Fr.app Nc555 Nqc558
    obtain rfl := hAc558
    have p559 : ∀ t, St p e below Tc558 (mkF m 91 Ls548 [(.ref a_TRUE), (.ref a_UNKNOWN), (.ref a_TRUE)]) t → S0 t := fun t k => p557 t (stc558.trans k)
    obtain ⟨cqc560, kqc560, qc560a, qc560b, qc560c⟩ := isOf hZ ec558 (Ea_UNKNOWN.ext O0.2)
    obtain ⟨_, _, ⟨Tc560, Lc560, kc560, nc560⟩, -, Xc560, ⟨Lcc560, hQc560, lc560, yc560, zc560⟩, stc560⟩ := Xc558.virtualBack hx (y := M4) (z := M4) hown (mvT hZ (ww hw 26 rfl)) (mvT hZ (ww hw 27 rfl)) (notFace_of_selects (args := #[]) (mvT hZ (ww hw 29 rfl))) (mvT hZ (ww hw 29 rfl)) (mvT hZ (ww hw 28 rfl)) (by decide) (backOf (W := 1) (rm5_21 l Z a0 hw [] a_TRUE a_UNKNOWN a_FALSE h0 n0 O0 HE' ) hZ (ww hw 30 rfl) (ww hw 6 rfl) (by decide) (by decide)) qc560a qc560c (g := (mkF m 91 Ls548 [(.ref a_TRUE), (.ref a_UNKNOWN), (.ref a_TRUE)])) rfl (by rw [hml]; rfl) (Steps.refl _) (argsL := [(.ref a_TRUE)]) (rest := [(.ref a_TRUE)]) (lenOf pd3 rfl) rfl (by show 2 * 0 + _ ≤ _; exact Nat.le_of_eq rfl) (hb hby at_91) (fun _ _ => ⟨rfl, ec558, (by decide : 0 + 0 ≤ _), (by decide : 0 + 0 ≤ _)⟩)
    dsimp only [Pt.U, Pt.locs, Pt.cells, Pt.slots] at Xc560 lc560 yc560 zc560 stc560 hQc560
    subst lc560 yc560 zc560
    obtain ⟨Nqc560, ec560, hAc560⟩ := hQc560
    have Nc560 := Fr.app Nc558 Nqc560
    obtain rfl := hAc560
    have p561 : ∀ t, St p e below Tc560 (mkF m 94 Ls548 [(.ref a_TRUE), (.ref a_TRUE)]) t → S0 t := fun t k => p559 t (stc560.trans k)
    let Ls562 : Array Slot := #[.val (.int i0), .val (.int i1), .val (.int i2), .val (.ref a_UNKNOWN), .val (.ref a_FALSE), .val (.int (1 : Int32)), .val (.int (1 : Int32)), .val (.int (1 : Int32)), .val (.int (1 : Int32))]
    have p563 : ∀ t, St p e below Tc560 (mkF m 124 Ls562 [(.int (1 : Int32))]) t → S0 t := fun t k => p561 t (by
      show St p e below Tc560 (mkF m 94 Ls548 [(.ref a_TRUE), (.ref a_TRUE)]) t
      refine Jvm.RoadKit.acmp (g := (mkF m 94 Ls548 [(.ref a_TRUE), (.ref a_TRUE)])) Xc560 hx rfl rfl rfl (pc0 := 94) (pc' := 97) (same := true) rfl (hb hby at_94) rfl (decide_eq_true rfl) (by decide) (by decide) ?_
      show St p e below Tc560 (mkF m 97 Ls548 []) t
      refine XT.iconstV Xc560.here hx rfl (1 : Int32) (hb hby at_97) (by decide) ?_
      show St p e below Tc560 (mkF m 98 Ls548 [(.int (1 : Int32))]) t
      refine XS.goto Xc560.here hx rfl (pc0 := 98) (pc' := 102) rfl (hb hby at_98) (by decide) (by decide) ?_
      show St p e below Tc560 (mkF m 102 Ls548 [(.int (1 : Int32))]) t
      refine XS.istore Xc560.here hx rfl (hb hby at_102) rfl (l' := Ls562) rfl ?_
      show St p e below Tc560 (mkF m 104 Ls562 []) t
      refine XS.iload Xc560.here hx rfl (hb hby at_104) rfl ?_
      show St p e below Tc560 (mkF m 106 Ls562 [(.int (1 : Int32))]) t
      refine XS.ifNo Xc560.here hx rfl (hb hby at_106) rfl ((if0 _ _).trans (feq (by decide : ¬ ((1 : Int32) = (0 : Int32)))).1) ?_
      show St p e below Tc560 (mkF m 109 Ls562 []) t
      refine XS.iload Xc560.here hx rfl (hb hby at_109) rfl ?_
      show St p e below Tc560 (mkF m 111 Ls562 [(.int (1 : Int32))]) t
      refine XS.ifNo Xc560.here hx rfl (hb hby at_111) rfl ((if0 _ _).trans (feq (by decide : ¬ ((1 : Int32) = (0 : Int32)))).1) ?_
      show St p e below Tc560 (mkF m 114 Ls562 []) t
      refine XS.iload Xc560.here hx rfl (hb hby at_114) rfl ?_
      show St p e below Tc560 (mkF m 116 Ls562 [(.int (1 : Int32))]) t
      refine XS.ifNo Xc560.here hx rfl (hb hby at_116) rfl ((if0 _ _).trans (feq (by decide : ¬ ((1 : Int32) = (0 : Int32)))).1) ?_
      show St p e below Tc560 (mkF m 119 Ls562 []) t
      refine XT.iconstV Xc560.here hx rfl (1 : Int32) (hb hby at_119) (by decide) ?_
      show St p e below Tc560 (mkF m 120 Ls562 [(.int (1 : Int32))]) t
      refine XS.goto Xc560.here hx rfl (pc0 := 120) (pc' := 124) rfl (hb hby at_120) (by decide) (by decide) ?_
      exact k)
    obtain ⟨fs, hr, hrun, hended, hW, hsame⟩ := Xc560.leave (v := some (.int (1 : Int32))) (fun h => by rw [Bd.returns] at h; cases h)
    refine ⟨_, _, p563 _ ?_, hrun, hended, _, _, rfl, ?_, ⟨_, rfl⟩, hW, hsame.mono (by decide) (by decide)⟩
    · exact retOut Xc560 hx Bd.returns rfl (Or.inl ⟨rfl, by simp, _, rfl⟩) (hb hby at_124) hr
    · exact ⟨rfl, Nc560⟩
  ·
   have p564 : ∀ t, St p e below Tc426 (mkF m 9 Ls424 [(.ref a_UNKNOWN)]) t → S0 t := fun t k => p425 t (stc426 t k)
   let Ls565 : Array Slot := #[.val (.int i0), .val (.int i1), .val (.int i2), .val (.ref a_UNKNOWN), .val (.ref a_UNKNOWN), .unset, .unset, .unset, .unset]
   have p566 : ∀ t, St p e below Tc426 (mkF m 14 Ls565 [(.int (i2 &&& (1 : Int32)))]) t → S0 t := fun t k => p564 t (by
     show St p e below Tc426 (mkF m 9 Ls424 [(.ref a_UNKNOWN)]) t
     refine XS.astore Xc426.here hx rfl (hb hby at_9) rfl rfl (l' := Ls565) rfl ?_
     show St p e below Tc426 (mkF m 11 Ls565 []) t
     refine XS.iloadN Xc426.here hx rfl (hb hby at_11) rfl ?_
     show St p e below Tc426 (mkF m 12 Ls565 [(.int i2)]) t
     refine XT.iconstV Xc426.here hx rfl (1 : Int32) (hb hby at_12) (by decide) ?_
     show St p e below Tc426 (mkF m 13 Ls565 [(.int (1 : Int32)), (.int i2)]) t
     refine XS.iand Xc426.here hx rfl (hb hby at_13) rfl ?_
     exact k)
   by_cases g567 : (i2 &&& (1 : Int32)) = (0 : Int32)
   ·
    let Ls568 : Array Slot := #[.val (.int i0), .val (.int i1), .val (.int i2), .val (.ref a_UNKNOWN), .val (.ref a_UNKNOWN), .val (.int (0 : Int32)), .unset, .unset, .unset]
    have p569 : ∀ t, St p e below Tc426 (mkF m 25 Ls568 [(.ref a_UNKNOWN)]) t → S0 t := fun t k => p566 t (by
      show St p e below Tc426 (mkF m 14 Ls565 [(.int (i2 &&& (1 : Int32)))]) t
      refine XS.ifYes Xc426.here hx rfl (pc0 := 14) (pc' := 21) rfl (hb hby at_14) rfl ((if0 _ _).trans (teq g567).1) (by decide) (by decide) ?_
      show St p e below Tc426 (mkF m 21 Ls565 []) t
      refine XT.iconstV Xc426.here hx rfl (0 : Int32) (hb hby at_21) (by decide) ?_
      show St p e below Tc426 (mkF m 22 Ls565 [(.int (0 : Int32))]) t
      refine XS.istore Xc426.here hx rfl (hb hby at_22) rfl (l' := Ls568) rfl ?_
      show St p e below Tc426 (mkF m 24 Ls568 []) t
      refine XS.aloadN Xc426.here hx rfl (hb hby at_24) rfl rfl ?_
      exact k)
    obtain ⟨cqc570, kqc570, qc570a, qc570b, qc570c⟩ := isOf hZ ec426 (Ea_UNKNOWN.ext O0.2)
    obtain ⟨_, _, ⟨Tc570, Lc570, kc570, nc570⟩, -, Xc570, ⟨Lcc570, hQc570, lc570, yc570, zc570⟩, stc570⟩ := Xc426.virtualBack hx (y := M1) (z := M1) hown (mvT hZ (ww hw 8 rfl)) (mvT hZ (ww hw 9 rfl)) (notFace_of_selects (args := #[]) (mvT hZ (ww hw 11 rfl))) (mvT hZ (ww hw 11 rfl)) (mvT hZ (ww hw 10 rfl)) (by decide) (backOf (W := 0) (rm2_10 l Z a0 hw [] a_TRUE a_UNKNOWN a_FALSE h0 n0 O0 HE' ) hZ (ww hw 12 rfl) (ww hw 6 rfl) (by decide) (by decide)) qc570a qc570c (g := (mkF m 25 Ls568 [(.ref a_UNKNOWN)])) rfl (by rw [hml]; rfl) (Steps.refl _) (argsL := []) (rest := []) (lenOf pd1 rfl) rfl (by show 2 * 0 + _ ≤ _; exact Nat.le_of_eq rfl) (hb hby at_25) (fun _ _ => ⟨rfl, ec426, (by decide : 0 + 0 ≤ _), (by decide : 0 + 0 ≤ _)⟩)
    dsimp only [Pt.U, Pt.locs, Pt.cells, Pt.slots] at Xc570 lc570 yc570 zc570 stc570 hQc570
    subst lc570 yc570 zc570
    obtain ⟨Nqc570, ec570, hAc570⟩ := hQc570
    have Nc570 := Fr.app Nc426 Nqc570
    obtain rfl := hAc570
    have p571 : ∀ t, St p e below Tc570 (mkF m 28 Ls568 [(.ref a_UNKNOWN)]) t → S0 t := fun t k => p569 t (stc570.trans k)
    obtain ⟨cqc572, kqc572, qc572a, qc572b, qc572c⟩ := isOf hZ ec570 (Ea_UNKNOWN.ext O0.2)
    obtain ⟨_, _, ⟨Tc572, Lc572, kc572, nc572⟩, -, Xc572, ⟨Lcc572, hQc572, lc572, yc572, zc572⟩, stc572⟩ := Xc570.virtualBack hx (y := M1) (z := M1) hown (mvT hZ (ww hw 8 rfl)) (mvT hZ (ww hw 9 rfl)) (notFace_of_selects (args := #[]) (mvT hZ (ww hw 11 rfl))) (mvT hZ (ww hw 11 rfl)) (mvT hZ (ww hw 10 rfl)) (by decide) (backOf (W := 0) (rm2_10 l Z a0 hw [] a_TRUE a_UNKNOWN a_FALSE h0 n0 O0 HE' ) hZ (ww hw 12 rfl) (ww hw 6 rfl) (by decide) (by decide)) qc572a qc572c (g := (mkF m 28 Ls568 [(.ref a_UNKNOWN)])) rfl (by rw [hml]; rfl) (Steps.refl _) (argsL := []) (rest := []) (lenOf pd1 rfl) rfl (by show 2 * 0 + _ ≤ _; exact Nat.le_of_eq rfl) (hb hby at_28) (fun _ _ => ⟨rfl, ec570, (by decide : 0 + 0 ≤ _), (by decide : 0 + 0 ≤ _)⟩)
    dsimp only [Pt.U, Pt.locs, Pt.cells, Pt.slots] at Xc572 lc572 yc572 zc572 stc572 hQc572
    subst lc572 yc572 zc572
    obtain ⟨Nqc572, ec572, hAc572⟩ := hQc572
    have Nc572 := Fr.app Nc570 Nqc572
    obtain rfl := hAc572
    have p573 : ∀ t, St p e below Tc572 (mkF m 31 Ls568 [(.ref a_UNKNOWN)]) t → S0 t := fun t k => p571 t (stc572.trans k)
    let Ls574 : Array Slot := #[.val (.int i0), .val (.int i1), .val (.int i2), .val (.ref a_UNKNOWN), .val (.ref a_UNKNOWN), .val (.int (0 : Int32)), .val (.int (1 : Int32)), .unset, .unset]
    have p575 : ∀ t, St p e below Tc572 (mkF m 44 Ls574 [(.int (0 : Int32))]) t → S0 t := fun t k => p573 t (by
      show St p e below Tc572 (mkF m 31 Ls568 [(.ref a_UNKNOWN)]) t
      refine XS.aloadN Xc572.here hx rfl (hb hby at_31) rfl rfl ?_
      show St p e below Tc572 (mkF m 32 Ls568 [(.ref a_UNKNOWN), (.ref a_UNKNOWN)]) t
      refine Jvm.RoadKit.acmp (g := (mkF m 32 Ls568 [(.ref a_UNKNOWN), (.ref a_UNKNOWN)])) Xc572 hx rfl rfl rfl (pc0 := 32) (pc' := 35) (same := true) rfl (hb hby at_32) rfl (decide_eq_true rfl) (by decide) (by decide) ?_
      show St p e below Tc572 (mkF m 35 Ls568 []) t
      refine XT.iconstV Xc572.here hx rfl (1 : Int32) (hb hby at_35) (by decide) ?_
      show St p e below Tc572 (mkF m 36 Ls568 [(.int (1 : Int32))]) t
      refine XS.goto Xc572.here hx rfl (pc0 := 36) (pc' := 40) rfl (hb hby at_36) (by decide) (by decide) ?_
      show St p e below Tc572 (mkF m 40 Ls568 [(.int (1 : Int32))]) t
      refine XS.istore Xc572.here hx rfl (hb hby at_40) rfl (l' := Ls574) rfl ?_
      show St p e below Tc572 (mkF m 42 Ls574 []) t
      refine XS.iload Xc572.here hx rfl (hb hby at_42) rfl ?_
      exact k)
    obtain ⟨_, _, ⟨Tc576, Lc576, kc576, nc576⟩, -, Xc576, ⟨Lcc576, hQc576, lc576, yc576, zc576⟩, stc576⟩ := Jvm.LawKit.callS Xc572 hx (y := M2) hown (mvT hZ (ww hw 18 rfl)) (mvT hZ (ww hw 19 rfl)) (mvT hZ (ww hw 6 rfl)) (mvT hZ (ww hw 20 rfl)) (by decide) (backOf (W := 0) (rm3_3 l Z a0 hw [] a_TRUE a_UNKNOWN a_FALSE h0 n0 O0 HE' ) hZ (ww hw 20 rfl) (ww hw 6 rfl) (by decide) (by decide)) (g := (mkF m 44 Ls574 [(.int (0 : Int32))])) rfl (by rw [hml]; rfl) (argsL := [(.int (0 : Int32))]) (rest := []) (lenOf pd2 rfl) rfl (by show 2 * 0 + _ ≤ _; exact Nat.le_of_eq rfl) (hb hby at_44) (fun _ _ => ⟨rfl, ec572, (by decide : 0 + 0 ≤ _), (by decide : 0 + 0 ≤ _)⟩)
    dsimp only [Pt.U, Pt.locs, Pt.cells, Pt.slots] at Xc576 lc576 yc576 zc576 stc576 hQc576
    subst lc576 yc576 zc576
    obtain ⟨Nqc576, ec576, hAc576⟩ := hQc576
    have Nc576 := Fr.app Nc572 Nqc576
    obtain rfl := hAc576
    have p577 : ∀ t, St p e below Tc576 (mkF m 47 Ls574 [(.ref a_FALSE)]) t → S0 t := fun t k => p575 t (stc576 t k)
    obtain ⟨cqc578, kqc578, qc578a, qc578b, qc578c⟩ := isOf hZ ec576 (Ea_FALSE.ext O0.2)
    obtain ⟨_, _, ⟨Tc578, Lc578, kc578, nc578⟩, -, Xc578, ⟨Lcc578, hQc578, lc578, yc578, zc578⟩, stc578⟩ := Xc576.virtualBack hx (y := M1) (z := M1) hown (mvT hZ (ww hw 8 rfl)) (mvT hZ (ww hw 9 rfl)) (notFace_of_selects (args := #[]) (mvT hZ (ww hw 11 rfl))) (mvT hZ (ww hw 11 rfl)) (mvT hZ (ww hw 10 rfl)) (by decide) (backOf (W := 0) (rm2_2 l Z a0 hw [] a_TRUE a_UNKNOWN a_FALSE h0 n0 O0 HE' ) hZ (ww hw 12 rfl) (ww hw 6 rfl) (by decide) (by decide)) qc578a qc578c (g := (mkF m 47 Ls574 [(.ref a_FALSE)])) rfl (by rw [hml]; rfl) (Steps.refl _) (argsL := []) (rest := []) (lenOf pd1 rfl) rfl (by show 2 * 0 + _ ≤ _; exact Nat.le_of_eq rfl) (hb hby at_47) (fun _ _ => ⟨rfl, ec576, (by decide : 0 + 0 ≤ _), (by decide : 0 + 0 ≤ _)⟩)
    dsimp only [Pt.U, Pt.locs, Pt.cells, Pt.slots] at Xc578 lc578 yc578 zc578 stc578 hQc578
    subst lc578 yc578 zc578
    obtain ⟨Nqc578, ec578, hAc578⟩ := hQc578
    have Nc578 := Fr.app Nc576 Nqc578
    obtain rfl := hAc578
    have p579 : ∀ t, St p e below Tc578 (mkF m 50 Ls574 [(.ref a_TRUE)]) t → S0 t := fun t k => p577 t (stc578.trans k)
    have p580 : ∀ t, St p e below Tc578 (mkF m 60 Ls574 [(.int (1 : Int32)), (.ref a_TRUE)]) t → S0 t := fun t k => p579 t (by
      show St p e below Tc578 (mkF m 50 Ls574 [(.ref a_TRUE)]) t
      refine XS.iload Xc578.here hx rfl (hb hby at_50) rfl ?_
      show St p e below Tc578 (mkF m 52 Ls574 [(.int (0 : Int32)), (.ref a_TRUE)]) t
      refine XS.ifNo Xc578.here hx rfl (hb hby at_52) rfl ((if0 _ _).trans (teq (by decide : (0 : Int32) = (0 : Int32))).2) ?_
      show St p e below Tc578 (mkF m 55 Ls574 [(.ref a_TRUE)]) t
      refine XT.iconstV Xc578.here hx rfl (1 : Int32) (hb hby at_55) (by decide) ?_
      show St p e below Tc578 (mkF m 56 Ls574 [(.int (1 : Int32)), (.ref a_TRUE)]) t
      refine XS.goto Xc578.here hx rfl (pc0 := 56) (pc' := 60) rfl (hb hby at_56) (by decide) (by decide) ?_
      exact k)
    obtain ⟨_, _, ⟨Tc581, Lc581, kc581, nc581⟩, -, Xc581, ⟨Lcc581, hQc581, lc581, yc581, zc581⟩, stc581⟩ := Jvm.LawKit.callS Xc578 hx (y := M2) hown (mvT hZ (ww hw 18 rfl)) (mvT hZ (ww hw 19 rfl)) (mvT hZ (ww hw 6 rfl)) (mvT hZ (ww hw 20 rfl)) (by decide) (backOf (W := 1) (rm3_4 l Z a0 hw [] a_TRUE a_UNKNOWN a_FALSE h0 n0 O0 HE' ) hZ (ww hw 20 rfl) (ww hw 6 rfl) (by decide) (by decide)) (g := (mkF m 60 Ls574 [(.int (1 : Int32)), (.ref a_TRUE)])) rfl (by rw [hml]; rfl) (argsL := [(.int (1 : Int32))]) (rest := [(.ref a_TRUE)]) (lenOf pd2 rfl) rfl (by show 2 * 0 + _ ≤ _; exact Nat.le_of_eq rfl) (hb hby at_60) (fun _ _ => ⟨rfl, ec578, (by decide : 0 + 0 ≤ _), (by decide : 0 + 0 ≤ _)⟩)
    dsimp only [Pt.U, Pt.locs, Pt.cells, Pt.slots] at Xc581 lc581 yc581 zc581 stc581 hQc581
    subst lc581 yc581 zc581
    obtain ⟨Nqc581, ec581, hAc581⟩ := hQc581
    have Nc581 := Fr.app Nc578 Nqc581
    obtain rfl := hAc581
    have p582 : ∀ t, St p e below Tc581 (mkF m 63 Ls574 [(.ref a_TRUE), (.ref a_TRUE)]) t → S0 t := fun t k => p580 t (stc581 t k)
    let Ls583 : Array Slot := #[.val (.int i0), .val (.int i1), .val (.int i2), .val (.ref a_UNKNOWN), .val (.ref a_UNKNOWN), .val (.int (0 : Int32)), .val (.int (1 : Int32)), .val (.int (1 : Int32)), .unset]
    have p584 : ∀ t, St p e below Tc581 (mkF m 76 Ls583 [(.ref a_UNKNOWN), (.ref a_UNKNOWN)]) t → S0 t := fun t k => p582 t (by
      show St p e below Tc581 (mkF m 63 Ls574 [(.ref a_TRUE), (.ref a_TRUE)]) t
      refine Jvm.RoadKit.acmp (g := (mkF m 63 Ls574 [(.ref a_TRUE), (.ref a_TRUE)])) Xc581 hx rfl rfl rfl (pc0 := 63) (pc' := 66) (same := true) rfl (hb hby at_63) rfl (decide_eq_true rfl) (by decide) (by decide) ?_
      show St p e below Tc581 (mkF m 66 Ls574 []) t
      refine XT.iconstV Xc581.here hx rfl (1 : Int32) (hb hby at_66) (by decide) ?_
      show St p e below Tc581 (mkF m 67 Ls574 [(.int (1 : Int32))]) t
      refine XS.goto Xc581.here hx rfl (pc0 := 67) (pc' := 71) rfl (hb hby at_67) (by decide) (by decide) ?_
      show St p e below Tc581 (mkF m 71 Ls574 [(.int (1 : Int32))]) t
      refine XS.istore Xc581.here hx rfl (hb hby at_71) rfl (l' := Ls583) rfl ?_
      show St p e below Tc581 (mkF m 73 Ls583 []) t
      refine XS.aloadN Xc581.here hx rfl (hb hby at_73) rfl rfl ?_
      show St p e below Tc581 (mkF m 74 Ls583 [(.ref a_UNKNOWN)]) t
      refine XS.aload Xc581.here hx rfl (hb hby at_74) rfl rfl ?_
      exact k)
    obtain ⟨cqc585, kqc585, qc585a, qc585b, qc585c⟩ := isOf hZ ec581 (Ea_UNKNOWN.ext O0.2)
    obtain ⟨_, _, ⟨Tc585, Lc585, kc585, nc585⟩, -, Xc585, ⟨Lcc585, hQc585, lc585, yc585, zc585⟩, stc585⟩ := Xc581.virtualBack hx (y := M3) (z := M3) hown (mvT hZ (ww hw 21 rfl)) (mvT hZ (ww hw 22 rfl)) (notFace_of_selects (args := #[]) (mvT hZ (ww hw 24 rfl))) (mvT hZ (ww hw 24 rfl)) (mvT hZ (ww hw 23 rfl)) (by decide) (backOf (W := 0) (rm4_22 l Z a0 hw [] a_TRUE a_UNKNOWN a_FALSE h0 n0 O0 HE' ) hZ (ww hw 25 rfl) (ww hw 6 rfl) (by decide) (by decide)) qc585a qc585c (g := (mkF m 76 Ls583 [(.ref a_UNKNOWN), (.ref a_UNKNOWN)])) rfl (by rw [hml]; rfl) (Steps.refl _) (argsL := [(.ref a_UNKNOWN)]) (rest := []) (lenOf pd3 rfl) rfl (by show 2 * 0 + _ ≤ _; exact Nat.le_of_eq rfl) (hb hby at_76) (fun _ _ => ⟨rfl, ec581, (by decide : 0 + 0 ≤ _), (by decide : 0 + 0 ≤ _)⟩)
    dsimp only [Pt.U, Pt.locs, Pt.cells, Pt.slots] at Xc585 lc585 yc585 zc585 stc585 hQc585
    subst lc585 yc585 zc585
    obtain ⟨Nqc585, ec585, hAc585⟩ := hQc585
    have Nc585 := Fr.app Nc581 Nqc585
    obtain rfl := hAc585
    have p586 : ∀ t, St p e below Tc585 (mkF m 79 Ls583 [(.ref a_UNKNOWN)]) t → S0 t := fun t k => p584 t (stc585.trans k)
    obtain ⟨cqc587, kqc587, qc587a, qc587b, qc587c⟩ := isOf hZ ec585 (Ea_UNKNOWN.ext O0.2)
    obtain ⟨_, _, ⟨Tc587, Lc587, kc587, nc587⟩, -, Xc587, ⟨Lcc587, hQc587, lc587, yc587, zc587⟩, stc587⟩ := Xc585.virtualBack hx (y := M1) (z := M1) hown (mvT hZ (ww hw 8 rfl)) (mvT hZ (ww hw 9 rfl)) (notFace_of_selects (args := #[]) (mvT hZ (ww hw 11 rfl))) (mvT hZ (ww hw 11 rfl)) (mvT hZ (ww hw 10 rfl)) (by decide) (backOf (W := 0) (rm2_10 l Z a0 hw [] a_TRUE a_UNKNOWN a_FALSE h0 n0 O0 HE' ) hZ (ww hw 12 rfl) (ww hw 6 rfl) (by decide) (by decide)) qc587a qc587c (g := (mkF m 79 Ls583 [(.ref a_UNKNOWN)])) rfl (by rw [hml]; rfl) (Steps.refl _) (argsL := []) (rest := []) (lenOf pd1 rfl) rfl (by show 2 * 0 + _ ≤ _; exact Nat.le_of_eq rfl) (hb hby at_79) (fun _ _ => ⟨rfl, ec585, (by decide : 0 + 0 ≤ _), (by decide : 0 + 0 ≤ _)⟩)
    dsimp only [Pt.U, Pt.locs, Pt.cells, Pt.slots] at Xc587 lc587 yc587 zc587 stc587 hQc587
    subst lc587 yc587 zc587
    obtain ⟨Nqc587, ec587, hAc587⟩ := hQc587
    have Nc587 := Fr.app Nc585 Nqc587
    obtain rfl := hAc587
    have p588 : ∀ t, St p e below Tc587 (mkF m 82 Ls583 [(.ref a_UNKNOWN)]) t → S0 t := fun t k => p586 t (stc587.trans k)
    have p589 : ∀ t, St p e below Tc587 (mkF m 83 Ls583 [(.ref a_UNKNOWN), (.ref a_UNKNOWN)]) t → S0 t := fun t k => p588 t (by
      show St p e below Tc587 (mkF m 82 Ls583 [(.ref a_UNKNOWN)]) t
      refine XS.aloadN Xc587.here hx rfl (hb hby at_82) rfl rfl ?_
      exact k)
    obtain ⟨cqc590, kqc590, qc590a, qc590b, qc590c⟩ := isOf hZ ec587 (Ea_UNKNOWN.ext O0.2)
    obtain ⟨_, _, ⟨Tc590, Lc590, kc590, nc590⟩, -, Xc590, ⟨Lcc590, hQc590, lc590, yc590, zc590⟩, stc590⟩ := Xc587.virtualBack hx (y := M1) (z := M1) hown (mvT hZ (ww hw 8 rfl)) (mvT hZ (ww hw 9 rfl)) (notFace_of_selects (args := #[]) (mvT hZ (ww hw 11 rfl))) (mvT hZ (ww hw 11 rfl)) (mvT hZ (ww hw 10 rfl)) (by decide) (backOf (W := 1) (rm2_10 l Z a0 hw [] a_TRUE a_UNKNOWN a_FALSE h0 n0 O0 HE' ) hZ (ww hw 12 rfl) (ww hw 6 rfl) (by decide) (by decide)) qc590a qc590c (g := (mkF m 83 Ls583 [(.ref a_UNKNOWN), (.ref a_UNKNOWN)])) rfl (by rw [hml]; rfl) (Steps.refl _) (argsL := []) (rest := [(.ref a_UNKNOWN)]) (lenOf pd1 rfl) rfl (by show 2 * 0 + _ ≤ _; exact Nat.le_of_eq rfl) (hb hby at_83) (fun _ _ => ⟨rfl, ec587, (by decide : 0 + 0 ≤ _), (by decide : 0 + 0 ≤ _)⟩)
    dsimp only [Pt.U, Pt.locs, Pt.cells, Pt.slots] at Xc590 lc590 yc590 zc590 stc590 hQc590
    subst lc590 yc590 zc590
    obtain ⟨Nqc590, ec590, hAc590⟩ := hQc590
    have Nc590 := Fr.app Nc587 Nqc590
    obtain rfl := hAc590
    have p591 : ∀ t, St p e below Tc590 (mkF m 86 Ls583 [(.ref a_UNKNOWN), (.ref a_UNKNOWN)]) t → S0 t := fun t k => p589 t (stc590.trans k)
    have p592 : ∀ t, St p e below Tc590 (mkF m 88 Ls583 [(.ref a_UNKNOWN), (.ref a_UNKNOWN), (.ref a_UNKNOWN)]) t → S0 t := fun t k => p591 t (by
      show St p e below Tc590 (mkF m 86 Ls583 [(.ref a_UNKNOWN), (.ref a_UNKNOWN)]) t
      refine XS.aload Xc590.here hx rfl (hb hby at_86) rfl rfl ?_
      exact k)
    obtain ⟨cqc593, kqc593, qc593a, qc593b, qc593c⟩ := isOf hZ ec590 (Ea_UNKNOWN.ext O0.2)
    obtain ⟨_, _, ⟨Tc593, Lc593, kc593, nc593⟩, -, Xc593, ⟨Lcc593, hQc593, lc593, yc593, zc593⟩, stc593⟩ := Xc590.virtualBack hx (y := M1) (z := M1) hown (mvT hZ (ww hw 8 rfl)) (mvT hZ (ww hw 9 rfl)) (notFace_of_selects (args := #[]) (mvT hZ (ww hw 11 rfl))) (mvT hZ (ww hw 11 rfl)) (mvT hZ (ww hw 10 rfl)) (by decide) (backOf (W := 2) (rm2_10 l Z a0 hw [] a_TRUE a_UNKNOWN a_FALSE h0 n0 O0 HE' ) hZ (ww hw 12 rfl) (ww hw 6 rfl) (by decide) (by decide)) qc593a qc593c (g := (mkF m 88 Ls583 [(.ref a_UNKNOWN), (.ref a_UNKNOWN), (.ref a_UNKNOWN)])) rfl (by rw [hml]; rfl) (Steps.refl _) (argsL := []) (rest := [(.ref a_UNKNOWN), (.ref a_UNKNOWN)]) (lenOf pd1 rfl) rfl (by show 2 * 0 + _ ≤ _; exact Nat.le_of_eq rfl) (hb hby at_88) (fun _ _ => ⟨rfl, ec590, (by decide : 0 + 0 ≤ _), (by decide : 0 + 0 ≤ _)⟩)
    dsimp only [Pt.U, Pt.locs, Pt.cells, Pt.slots] at Xc593 lc593 yc593 zc593 stc593 hQc593
    subst lc593 yc593 zc593
    obtain ⟨Nqc593, ec593, hAc593⟩ := hQc593
    have Nc593 := Fr.app Nc590 Nqc593
    obtain rfl := hAc593
    have p594 : ∀ t, St p e below Tc593 (mkF m 91 Ls583 [(.ref a_UNKNOWN), (.ref a_UNKNOWN), (.ref a_UNKNOWN)]) t → S0 t := fun t k => p592 t (stc593.trans k)
    obtain ⟨cqc595, kqc595, qc595a, qc595b, qc595c⟩ := isOf hZ ec593 (Ea_UNKNOWN.ext O0.2)
    obtain ⟨_, _, ⟨Tc595, Lc595, kc595, nc595⟩, -, Xc595, ⟨Lcc595, hQc595, lc595, yc595, zc595⟩, stc595⟩ := Xc593.virtualBack hx (y := M4) (z := M4) hown (mvT hZ (ww hw 26 rfl)) (mvT hZ (ww hw 27 rfl)) (notFace_of_selects (args := #[]) (mvT hZ (ww hw 29 rfl))) (mvT hZ (ww hw 29 rfl)) (mvT hZ (ww hw 28 rfl)) (by decide) (backOf (W := 1) (rm5_23 l Z a0 hw [] a_TRUE a_UNKNOWN a_FALSE h0 n0 O0 HE' ) hZ (ww hw 30 rfl) (ww hw 6 rfl) (by decide) (by decide)) qc595a qc595c (g := (mkF m 91 Ls583 [(.ref a_UNKNOWN), (.ref a_UNKNOWN), (.ref a_UNKNOWN)])) rfl (by rw [hml]; rfl) (Steps.refl _) (argsL := [(.ref a_UNKNOWN)]) (rest := [(.ref a_UNKNOWN)]) (lenOf pd3 rfl) rfl (by show 2 * 0 + _ ≤ _; exact Nat.le_of_eq rfl) (hb hby at_91) (fun _ _ => ⟨rfl, ec593, (by decide : 0 + 0 ≤ _), (by decide : 0 + 0 ≤ _)⟩)
    dsimp only [Pt.U, Pt.locs, Pt.cells, Pt.slots] at Xc595 lc595 yc595 zc595 stc595 hQc595
    subst lc595 yc595 zc595
    obtain ⟨Nqc595, ec595, hAc595⟩ := hQc595
    have Nc595 := Fr.app Nc593 Nqc595
    obtain rfl := hAc595
    have p596 : ∀ t, St p e below Tc595 (mkF m 94 Ls583 [(.ref a_UNKNOWN), (.ref a_UNKNOWN)]) t → S0 t := fun t k => p594 t (stc595.trans k)
    let Ls597 : Array Slot := #[.val (.int i0), .val (.int i1), .val (.int i2), .val (.ref a_UNKNOWN), .val (.ref a_UNKNOWN), .val (.int (0 : Int32)), .val (.int (1 : Int32)), .val (.int (1 : Int32)), .val (.int (1 : Int32))]
    have p598 : ∀ t, St p e below Tc595 (mkF m 124 Ls597 [(.int (1 : Int32))]) t → S0 t := fun t k => p596 t (by
      show St p e below Tc595 (mkF m 94 Ls583 [(.ref a_UNKNOWN), (.ref a_UNKNOWN)]) t
      refine Jvm.RoadKit.acmp (g := (mkF m 94 Ls583 [(.ref a_UNKNOWN), (.ref a_UNKNOWN)])) Xc595 hx rfl rfl rfl (pc0 := 94) (pc' := 97) (same := true) rfl (hb hby at_94) rfl (decide_eq_true rfl) (by decide) (by decide) ?_
      show St p e below Tc595 (mkF m 97 Ls583 []) t
      refine XT.iconstV Xc595.here hx rfl (1 : Int32) (hb hby at_97) (by decide) ?_
      show St p e below Tc595 (mkF m 98 Ls583 [(.int (1 : Int32))]) t
      refine XS.goto Xc595.here hx rfl (pc0 := 98) (pc' := 102) rfl (hb hby at_98) (by decide) (by decide) ?_
      show St p e below Tc595 (mkF m 102 Ls583 [(.int (1 : Int32))]) t
      refine XS.istore Xc595.here hx rfl (hb hby at_102) rfl (l' := Ls597) rfl ?_
      show St p e below Tc595 (mkF m 104 Ls597 []) t
      refine XS.iload Xc595.here hx rfl (hb hby at_104) rfl ?_
      show St p e below Tc595 (mkF m 106 Ls597 [(.int (1 : Int32))]) t
      refine XS.ifNo Xc595.here hx rfl (hb hby at_106) rfl ((if0 _ _).trans (feq (by decide : ¬ ((1 : Int32) = (0 : Int32)))).1) ?_
      show St p e below Tc595 (mkF m 109 Ls597 []) t
      refine XS.iload Xc595.here hx rfl (hb hby at_109) rfl ?_
      show St p e below Tc595 (mkF m 111 Ls597 [(.int (1 : Int32))]) t
      refine XS.ifNo Xc595.here hx rfl (hb hby at_111) rfl ((if0 _ _).trans (feq (by decide : ¬ ((1 : Int32) = (0 : Int32)))).1) ?_
      show St p e below Tc595 (mkF m 114 Ls597 []) t
      refine XS.iload Xc595.here hx rfl (hb hby at_114) rfl ?_
      show St p e below Tc595 (mkF m 116 Ls597 [(.int (1 : Int32))]) t
      refine XS.ifNo Xc595.here hx rfl (hb hby at_116) rfl ((if0 _ _).trans (feq (by decide : ¬ ((1 : Int32) = (0 : Int32)))).1) ?_
      show St p e below Tc595 (mkF m 119 Ls597 []) t
      refine XT.iconstV Xc595.here hx rfl (1 : Int32) (hb hby at_119) (by decide) ?_
      show St p e below Tc595 (mkF m 120 Ls597 [(.int (1 : Int32))]) t
      refine XS.goto Xc595.here hx rfl (pc0 := 120) (pc' := 124) rfl (hb hby at_120) (by decide) (by decide) ?_
      exact k)
    obtain ⟨fs, hr, hrun, hended, hW, hsame⟩ := Xc595.leave (v := some (.int (1 : Int32))) (fun h => by rw [Bd.returns] at h; cases h)
    refine ⟨_, _, p598 _ ?_, hrun, hended, _, _, rfl, ?_, ⟨_, rfl⟩, hW, hsame.mono (by decide) (by decide)⟩
    · exact retOut Xc595 hx Bd.returns rfl (Or.inl ⟨rfl, by simp, _, rfl⟩) (hb hby at_124) hr
    · exact ⟨rfl, Nc595⟩
   ·
    let Ls599 : Array Slot := #[.val (.int i0), .val (.int i1), .val (.int i2), .val (.ref a_UNKNOWN), .val (.ref a_UNKNOWN), .val (.int (1 : Int32)), .unset, .unset, .unset]
    have p600 : ∀ t, St p e below Tc426 (mkF m 25 Ls599 [(.ref a_UNKNOWN)]) t → S0 t := fun t k => p566 t (by
      show St p e below Tc426 (mkF m 14 Ls565 [(.int (i2 &&& (1 : Int32)))]) t
      refine XS.ifNo Xc426.here hx rfl (hb hby at_14) rfl ((if0 _ _).trans (feq g567).1) ?_
      show St p e below Tc426 (mkF m 17 Ls565 []) t
      refine XT.iconstV Xc426.here hx rfl (1 : Int32) (hb hby at_17) (by decide) ?_
      show St p e below Tc426 (mkF m 18 Ls565 [(.int (1 : Int32))]) t
      refine XS.goto Xc426.here hx rfl (pc0 := 18) (pc' := 22) rfl (hb hby at_18) (by decide) (by decide) ?_
      show St p e below Tc426 (mkF m 22 Ls565 [(.int (1 : Int32))]) t
      refine XS.istore Xc426.here hx rfl (hb hby at_22) rfl (l' := Ls599) rfl ?_
      show St p e below Tc426 (mkF m 24 Ls599 []) t
      refine XS.aloadN Xc426.here hx rfl (hb hby at_24) rfl rfl ?_
      exact k)
    obtain ⟨cqc601, kqc601, qc601a, qc601b, qc601c⟩ := isOf hZ ec426 (Ea_UNKNOWN.ext O0.2)
    obtain ⟨_, _, ⟨Tc601, Lc601, kc601, nc601⟩, -, Xc601, ⟨Lcc601, hQc601, lc601, yc601, zc601⟩, stc601⟩ := Xc426.virtualBack hx (y := M1) (z := M1) hown (mvT hZ (ww hw 8 rfl)) (mvT hZ (ww hw 9 rfl)) (notFace_of_selects (args := #[]) (mvT hZ (ww hw 11 rfl))) (mvT hZ (ww hw 11 rfl)) (mvT hZ (ww hw 10 rfl)) (by decide) (backOf (W := 0) (rm2_10 l Z a0 hw [] a_TRUE a_UNKNOWN a_FALSE h0 n0 O0 HE' ) hZ (ww hw 12 rfl) (ww hw 6 rfl) (by decide) (by decide)) qc601a qc601c (g := (mkF m 25 Ls599 [(.ref a_UNKNOWN)])) rfl (by rw [hml]; rfl) (Steps.refl _) (argsL := []) (rest := []) (lenOf pd1 rfl) rfl (by show 2 * 0 + _ ≤ _; exact Nat.le_of_eq rfl) (hb hby at_25) (fun _ _ => ⟨rfl, ec426, (by decide : 0 + 0 ≤ _), (by decide : 0 + 0 ≤ _)⟩)
    dsimp only [Pt.U, Pt.locs, Pt.cells, Pt.slots] at Xc601 lc601 yc601 zc601 stc601 hQc601
    subst lc601 yc601 zc601
    obtain ⟨Nqc601, ec601, hAc601⟩ := hQc601
    have Nc601 := Fr.app Nc426 Nqc601
    obtain rfl := hAc601
    have p602 : ∀ t, St p e below Tc601 (mkF m 28 Ls599 [(.ref a_UNKNOWN)]) t → S0 t := fun t k => p600 t (stc601.trans k)
    obtain ⟨cqc603, kqc603, qc603a, qc603b, qc603c⟩ := isOf hZ ec601 (Ea_UNKNOWN.ext O0.2)
    obtain ⟨_, _, ⟨Tc603, Lc603, kc603, nc603⟩, -, Xc603, ⟨Lcc603, hQc603, lc603, yc603, zc603⟩, stc603⟩ := Xc601.virtualBack hx (y := M1) (z := M1) hown (mvT hZ (ww hw 8 rfl)) (mvT hZ (ww hw 9 rfl)) (notFace_of_selects (args := #[]) (mvT hZ (ww hw 11 rfl))) (mvT hZ (ww hw 11 rfl)) (mvT hZ (ww hw 10 rfl)) (by decide) (backOf (W := 0) (rm2_10 l Z a0 hw [] a_TRUE a_UNKNOWN a_FALSE h0 n0 O0 HE' ) hZ (ww hw 12 rfl) (ww hw 6 rfl) (by decide) (by decide)) qc603a qc603c (g := (mkF m 28 Ls599 [(.ref a_UNKNOWN)])) rfl (by rw [hml]; rfl) (Steps.refl _) (argsL := []) (rest := []) (lenOf pd1 rfl) rfl (by show 2 * 0 + _ ≤ _; exact Nat.le_of_eq rfl) (hb hby at_28) (fun _ _ => ⟨rfl, ec601, (by decide : 0 + 0 ≤ _), (by decide : 0 + 0 ≤ _)⟩)
    dsimp only [Pt.U, Pt.locs, Pt.cells, Pt.slots] at Xc603 lc603 yc603 zc603 stc603 hQc603
    subst lc603 yc603 zc603
    obtain ⟨Nqc603, ec603, hAc603⟩ := hQc603
    have Nc603 := Fr.app Nc601 Nqc603
    obtain rfl := hAc603
    have p604 : ∀ t, St p e below Tc603 (mkF m 31 Ls599 [(.ref a_UNKNOWN)]) t → S0 t := fun t k => p602 t (stc603.trans k)
    let Ls605 : Array Slot := #[.val (.int i0), .val (.int i1), .val (.int i2), .val (.ref a_UNKNOWN), .val (.ref a_UNKNOWN), .val (.int (1 : Int32)), .val (.int (1 : Int32)), .unset, .unset]
    have p606 : ∀ t, St p e below Tc603 (mkF m 44 Ls605 [(.int (1 : Int32))]) t → S0 t := fun t k => p604 t (by
      show St p e below Tc603 (mkF m 31 Ls599 [(.ref a_UNKNOWN)]) t
      refine XS.aloadN Xc603.here hx rfl (hb hby at_31) rfl rfl ?_
      show St p e below Tc603 (mkF m 32 Ls599 [(.ref a_UNKNOWN), (.ref a_UNKNOWN)]) t
      refine Jvm.RoadKit.acmp (g := (mkF m 32 Ls599 [(.ref a_UNKNOWN), (.ref a_UNKNOWN)])) Xc603 hx rfl rfl rfl (pc0 := 32) (pc' := 35) (same := true) rfl (hb hby at_32) rfl (decide_eq_true rfl) (by decide) (by decide) ?_
      show St p e below Tc603 (mkF m 35 Ls599 []) t
      refine XT.iconstV Xc603.here hx rfl (1 : Int32) (hb hby at_35) (by decide) ?_
      show St p e below Tc603 (mkF m 36 Ls599 [(.int (1 : Int32))]) t
      refine XS.goto Xc603.here hx rfl (pc0 := 36) (pc' := 40) rfl (hb hby at_36) (by decide) (by decide) ?_
      show St p e below Tc603 (mkF m 40 Ls599 [(.int (1 : Int32))]) t
      refine XS.istore Xc603.here hx rfl (hb hby at_40) rfl (l' := Ls605) rfl ?_
      show St p e below Tc603 (mkF m 42 Ls605 []) t
      refine XS.iload Xc603.here hx rfl (hb hby at_42) rfl ?_
      exact k)
    obtain ⟨_, _, ⟨Tc607, Lc607, kc607, nc607⟩, -, Xc607, ⟨Lcc607, hQc607, lc607, yc607, zc607⟩, stc607⟩ := Jvm.LawKit.callS Xc603 hx (y := M2) hown (mvT hZ (ww hw 18 rfl)) (mvT hZ (ww hw 19 rfl)) (mvT hZ (ww hw 6 rfl)) (mvT hZ (ww hw 20 rfl)) (by decide) (backOf (W := 0) (rm3_4 l Z a0 hw [] a_TRUE a_UNKNOWN a_FALSE h0 n0 O0 HE' ) hZ (ww hw 20 rfl) (ww hw 6 rfl) (by decide) (by decide)) (g := (mkF m 44 Ls605 [(.int (1 : Int32))])) rfl (by rw [hml]; rfl) (argsL := [(.int (1 : Int32))]) (rest := []) (lenOf pd2 rfl) rfl (by show 2 * 0 + _ ≤ _; exact Nat.le_of_eq rfl) (hb hby at_44) (fun _ _ => ⟨rfl, ec603, (by decide : 0 + 0 ≤ _), (by decide : 0 + 0 ≤ _)⟩)
    dsimp only [Pt.U, Pt.locs, Pt.cells, Pt.slots] at Xc607 lc607 yc607 zc607 stc607 hQc607
    subst lc607 yc607 zc607
    obtain ⟨Nqc607, ec607, hAc607⟩ := hQc607
    have Nc607 := Fr.app Nc603 Nqc607
    obtain rfl := hAc607
    have p608 : ∀ t, St p e below Tc607 (mkF m 47 Ls605 [(.ref a_TRUE)]) t → S0 t := fun t k => p606 t (stc607 t k)
    obtain ⟨cqc609, kqc609, qc609a, qc609b, qc609c⟩ := isOf hZ ec607 (Ea_TRUE.ext O0.2)
    obtain ⟨_, _, ⟨Tc609, Lc609, kc609, nc609⟩, -, Xc609, ⟨Lcc609, hQc609, lc609, yc609, zc609⟩, stc609⟩ := Xc607.virtualBack hx (y := M1) (z := M1) hown (mvT hZ (ww hw 8 rfl)) (mvT hZ (ww hw 9 rfl)) (notFace_of_selects (args := #[]) (mvT hZ (ww hw 11 rfl))) (mvT hZ (ww hw 11 rfl)) (mvT hZ (ww hw 10 rfl)) (by decide) (backOf (W := 0) (rm2_1 l Z a0 hw [] a_TRUE a_UNKNOWN a_FALSE h0 n0 O0 HE' ) hZ (ww hw 12 rfl) (ww hw 6 rfl) (by decide) (by decide)) qc609a qc609c (g := (mkF m 47 Ls605 [(.ref a_TRUE)])) rfl (by rw [hml]; rfl) (Steps.refl _) (argsL := []) (rest := []) (lenOf pd1 rfl) rfl (by show 2 * 0 + _ ≤ _; exact Nat.le_of_eq rfl) (hb hby at_47) (fun _ _ => ⟨rfl, ec607, (by decide : 0 + 0 ≤ _), (by decide : 0 + 0 ≤ _)⟩)
    dsimp only [Pt.U, Pt.locs, Pt.cells, Pt.slots] at Xc609 lc609 yc609 zc609 stc609 hQc609
    subst lc609 yc609 zc609
    obtain ⟨Nqc609, ec609, hAc609⟩ := hQc609
    have Nc609 := Fr.app Nc607 Nqc609
    obtain rfl := hAc609
    have p610 : ∀ t, St p e below Tc609 (mkF m 50 Ls605 [(.ref a_FALSE)]) t → S0 t := fun t k => p608 t (stc609.trans k)
    have p611 : ∀ t, St p e below Tc609 (mkF m 60 Ls605 [(.int (0 : Int32)), (.ref a_FALSE)]) t → S0 t := fun t k => p610 t (by
      show St p e below Tc609 (mkF m 50 Ls605 [(.ref a_FALSE)]) t
      refine XS.iload Xc609.here hx rfl (hb hby at_50) rfl ?_
      show St p e below Tc609 (mkF m 52 Ls605 [(.int (1 : Int32)), (.ref a_FALSE)]) t
      refine XS.ifYes Xc609.here hx rfl (pc0 := 52) (pc' := 59) rfl (hb hby at_52) rfl ((if0 _ _).trans (feq (by decide : ¬ ((1 : Int32) = (0 : Int32)))).2) (by decide) (by decide) ?_
      show St p e below Tc609 (mkF m 59 Ls605 [(.ref a_FALSE)]) t
      refine XT.iconstV Xc609.here hx rfl (0 : Int32) (hb hby at_59) (by decide) ?_
      exact k)
    obtain ⟨_, _, ⟨Tc612, Lc612, kc612, nc612⟩, -, Xc612, ⟨Lcc612, hQc612, lc612, yc612, zc612⟩, stc612⟩ := Jvm.LawKit.callS Xc609 hx (y := M2) hown (mvT hZ (ww hw 18 rfl)) (mvT hZ (ww hw 19 rfl)) (mvT hZ (ww hw 6 rfl)) (mvT hZ (ww hw 20 rfl)) (by decide) (backOf (W := 1) (rm3_3 l Z a0 hw [] a_TRUE a_UNKNOWN a_FALSE h0 n0 O0 HE' ) hZ (ww hw 20 rfl) (ww hw 6 rfl) (by decide) (by decide)) (g := (mkF m 60 Ls605 [(.int (0 : Int32)), (.ref a_FALSE)])) rfl (by rw [hml]; rfl) (argsL := [(.int (0 : Int32))]) (rest := [(.ref a_FALSE)]) (lenOf pd2 rfl) rfl (by show 2 * 0 + _ ≤ _; exact Nat.le_of_eq rfl) (hb hby at_60) (fun _ _ => ⟨rfl, ec609, (by decide : 0 + 0 ≤ _), (by decide : 0 + 0 ≤ _)⟩)
    dsimp only [Pt.U, Pt.locs, Pt.cells, Pt.slots] at Xc612 lc612 yc612 zc612 stc612 hQc612
    subst lc612 yc612 zc612
    obtain ⟨Nqc612, ec612, hAc612⟩ := hQc612
    have Nc612 := Fr.app Nc609 Nqc612
    obtain rfl := hAc612
    have p613 : ∀ t, St p e below Tc612 (mkF m 63 Ls605 [(.ref a_FALSE), (.ref a_FALSE)]) t → S0 t := fun t k => p611 t (stc612 t k)
    let Ls614 : Array Slot := #[.val (.int i0), .val (.int i1), .val (.int i2), .val (.ref a_UNKNOWN), .val (.ref a_UNKNOWN), .val (.int (1 : Int32)), .val (.int (1 : Int32)), .val (.int (1 : Int32)), .unset]
    have p615 : ∀ t, St p e below Tc612 (mkF m 76 Ls614 [(.ref a_UNKNOWN), (.ref a_UNKNOWN)]) t → S0 t := fun t k => p613 t (by
      show St p e below Tc612 (mkF m 63 Ls605 [(.ref a_FALSE), (.ref a_FALSE)]) t
      refine Jvm.RoadKit.acmp (g := (mkF m 63 Ls605 [(.ref a_FALSE), (.ref a_FALSE)])) Xc612 hx rfl rfl rfl (pc0 := 63) (pc' := 66) (same := true) rfl (hb hby at_63) rfl (decide_eq_true rfl) (by decide) (by decide) ?_
      show St p e below Tc612 (mkF m 66 Ls605 []) t
      refine XT.iconstV Xc612.here hx rfl (1 : Int32) (hb hby at_66) (by decide) ?_
      show St p e below Tc612 (mkF m 67 Ls605 [(.int (1 : Int32))]) t
      refine XS.goto Xc612.here hx rfl (pc0 := 67) (pc' := 71) rfl (hb hby at_67) (by decide) (by decide) ?_
      show St p e below Tc612 (mkF m 71 Ls605 [(.int (1 : Int32))]) t
      refine XS.istore Xc612.here hx rfl (hb hby at_71) rfl (l' := Ls614) rfl ?_
      show St p e below Tc612 (mkF m 73 Ls614 []) t
      refine XS.aloadN Xc612.here hx rfl (hb hby at_73) rfl rfl ?_
      show St p e below Tc612 (mkF m 74 Ls614 [(.ref a_UNKNOWN)]) t
      refine XS.aload Xc612.here hx rfl (hb hby at_74) rfl rfl ?_
      exact k)
    obtain ⟨cqc616, kqc616, qc616a, qc616b, qc616c⟩ := isOf hZ ec612 (Ea_UNKNOWN.ext O0.2)
    obtain ⟨_, _, ⟨Tc616, Lc616, kc616, nc616⟩, -, Xc616, ⟨Lcc616, hQc616, lc616, yc616, zc616⟩, stc616⟩ := Xc612.virtualBack hx (y := M3) (z := M3) hown (mvT hZ (ww hw 21 rfl)) (mvT hZ (ww hw 22 rfl)) (notFace_of_selects (args := #[]) (mvT hZ (ww hw 24 rfl))) (mvT hZ (ww hw 24 rfl)) (mvT hZ (ww hw 23 rfl)) (by decide) (backOf (W := 0) (rm4_22 l Z a0 hw [] a_TRUE a_UNKNOWN a_FALSE h0 n0 O0 HE' ) hZ (ww hw 25 rfl) (ww hw 6 rfl) (by decide) (by decide)) qc616a qc616c (g := (mkF m 76 Ls614 [(.ref a_UNKNOWN), (.ref a_UNKNOWN)])) rfl (by rw [hml]; rfl) (Steps.refl _) (argsL := [(.ref a_UNKNOWN)]) (rest := []) (lenOf pd3 rfl) rfl (by show 2 * 0 + _ ≤ _; exact Nat.le_of_eq rfl) (hb hby at_76) (fun _ _ => ⟨rfl, ec612, (by decide : 0 + 0 ≤ _), (by decide : 0 + 0 ≤ _)⟩)
    dsimp only [Pt.U, Pt.locs, Pt.cells, Pt.slots] at Xc616 lc616 yc616 zc616 stc616 hQc616
    subst lc616 yc616 zc616
    obtain ⟨Nqc616, ec616, hAc616⟩ := hQc616
    have Nc616 := Fr.app Nc612 Nqc616
    obtain rfl := hAc616
    have p617 : ∀ t, St p e below Tc616 (mkF m 79 Ls614 [(.ref a_UNKNOWN)]) t → S0 t := fun t k => p615 t (stc616.trans k)
    obtain ⟨cqc618, kqc618, qc618a, qc618b, qc618c⟩ := isOf hZ ec616 (Ea_UNKNOWN.ext O0.2)
    obtain ⟨_, _, ⟨Tc618, Lc618, kc618, nc618⟩, -, Xc618, ⟨Lcc618, hQc618, lc618, yc618, zc618⟩, stc618⟩ := Xc616.virtualBack hx (y := M1) (z := M1) hown (mvT hZ (ww hw 8 rfl)) (mvT hZ (ww hw 9 rfl)) (notFace_of_selects (args := #[]) (mvT hZ (ww hw 11 rfl))) (mvT hZ (ww hw 11 rfl)) (mvT hZ (ww hw 10 rfl)) (by decide) (backOf (W := 0) (rm2_10 l Z a0 hw [] a_TRUE a_UNKNOWN a_FALSE h0 n0 O0 HE' ) hZ (ww hw 12 rfl) (ww hw 6 rfl) (by decide) (by decide)) qc618a qc618c (g := (mkF m 79 Ls614 [(.ref a_UNKNOWN)])) rfl (by rw [hml]; rfl) (Steps.refl _) (argsL := []) (rest := []) (lenOf pd1 rfl) rfl (by show 2 * 0 + _ ≤ _; exact Nat.le_of_eq rfl) (hb hby at_79) (fun _ _ => ⟨rfl, ec616, (by decide : 0 + 0 ≤ _), (by decide : 0 + 0 ≤ _)⟩)
    dsimp only [Pt.U, Pt.locs, Pt.cells, Pt.slots] at Xc618 lc618 yc618 zc618 stc618 hQc618
    subst lc618 yc618 zc618
    obtain ⟨Nqc618, ec618, hAc618⟩ := hQc618
    have Nc618 := Fr.app Nc616 Nqc618
    obtain rfl := hAc618
    have p619 : ∀ t, St p e below Tc618 (mkF m 82 Ls614 [(.ref a_UNKNOWN)]) t → S0 t := fun t k => p617 t (stc618.trans k)
    have p620 : ∀ t, St p e below Tc618 (mkF m 83 Ls614 [(.ref a_UNKNOWN), (.ref a_UNKNOWN)]) t → S0 t := fun t k => p619 t (by
      show St p e below Tc618 (mkF m 82 Ls614 [(.ref a_UNKNOWN)]) t
      refine XS.aloadN Xc618.here hx rfl (hb hby at_82) rfl rfl ?_
      exact k)
    obtain ⟨cqc621, kqc621, qc621a, qc621b, qc621c⟩ := isOf hZ ec618 (Ea_UNKNOWN.ext O0.2)
    obtain ⟨_, _, ⟨Tc621, Lc621, kc621, nc621⟩, -, Xc621, ⟨Lcc621, hQc621, lc621, yc621, zc621⟩, stc621⟩ := Xc618.virtualBack hx (y := M1) (z := M1) hown (mvT hZ (ww hw 8 rfl)) (mvT hZ (ww hw 9 rfl)) (notFace_of_selects (args := #[]) (mvT hZ (ww hw 11 rfl))) (mvT hZ (ww hw 11 rfl)) (mvT hZ (ww hw 10 rfl)) (by decide) (backOf (W := 1) (rm2_10 l Z a0 hw [] a_TRUE a_UNKNOWN a_FALSE h0 n0 O0 HE' ) hZ (ww hw 12 rfl) (ww hw 6 rfl) (by decide) (by decide)) qc621a qc621c (g := (mkF m 83 Ls614 [(.ref a_UNKNOWN), (.ref a_UNKNOWN)])) rfl (by rw [hml]; rfl) (Steps.refl _) (argsL := []) (rest := [(.ref a_UNKNOWN)]) (lenOf pd1 rfl) rfl (by show 2 * 0 + _ ≤ _; exact Nat.le_of_eq rfl) (hb hby at_83) (fun _ _ => ⟨rfl, ec618, (by decide : 0 + 0 ≤ _), (by decide : 0 + 0 ≤ _)⟩)
    dsimp only [Pt.U, Pt.locs, Pt.cells, Pt.slots] at Xc621 lc621 yc621 zc621 stc621 hQc621
    subst lc621 yc621 zc621
    obtain ⟨Nqc621, ec621, hAc621⟩ := hQc621
    have Nc621 := Fr.app Nc618 Nqc621
    obtain rfl := hAc621
    have p622 : ∀ t, St p e below Tc621 (mkF m 86 Ls614 [(.ref a_UNKNOWN), (.ref a_UNKNOWN)]) t → S0 t := fun t k => p620 t (stc621.trans k)
    have p623 : ∀ t, St p e below Tc621 (mkF m 88 Ls614 [(.ref a_UNKNOWN), (.ref a_UNKNOWN), (.ref a_UNKNOWN)]) t → S0 t := fun t k => p622 t (by
      show St p e below Tc621 (mkF m 86 Ls614 [(.ref a_UNKNOWN), (.ref a_UNKNOWN)]) t
      refine XS.aload Xc621.here hx rfl (hb hby at_86) rfl rfl ?_
      exact k)
    obtain ⟨cqc624, kqc624, qc624a, qc624b, qc624c⟩ := isOf hZ ec621 (Ea_UNKNOWN.ext O0.2)
    obtain ⟨_, _, ⟨Tc624, Lc624, kc624, nc624⟩, -, Xc624, ⟨Lcc624, hQc624, lc624, yc624, zc624⟩, stc624⟩ := Xc621.virtualBack hx (y := M1) (z := M1) hown (mvT hZ (ww hw 8 rfl)) (mvT hZ (ww hw 9 rfl)) (notFace_of_selects (args := #[]) (mvT hZ (ww hw 11 rfl))) (mvT hZ (ww hw 11 rfl)) (mvT hZ (ww hw 10 rfl)) (by decide) (backOf (W := 2) (rm2_10 l Z a0 hw [] a_TRUE a_UNKNOWN a_FALSE h0 n0 O0 HE' ) hZ (ww hw 12 rfl) (ww hw 6 rfl) (by decide) (by decide)) qc624a qc624c (g := (mkF m 88 Ls614 [(.ref a_UNKNOWN), (.ref a_UNKNOWN), (.ref a_UNKNOWN)])) rfl (by rw [hml]; rfl) (Steps.refl _) (argsL := []) (rest := [(.ref a_UNKNOWN), (.ref a_UNKNOWN)]) (lenOf pd1 rfl) rfl (by show 2 * 0 + _ ≤ _; exact Nat.le_of_eq rfl) (hb hby at_88) (fun _ _ => ⟨rfl, ec621, (by decide : 0 + 0 ≤ _), (by decide : 0 + 0 ≤ _)⟩)
    dsimp only [Pt.U, Pt.locs, Pt.cells, Pt.slots] at Xc624 lc624 yc624 zc624 stc624 hQc624
    subst lc624 yc624 zc624
    obtain ⟨Nqc624, ec624, hAc624⟩ := hQc624
    have Nc624 := Fr.app Nc621 Nqc624
    obtain rfl := hAc624
    have p625 : ∀ t, St p e below Tc624 (mkF m 91 Ls614 [(.ref a_UNKNOWN), (.ref a_UNKNOWN), (.ref a_UNKNOWN)]) t → S0 t := fun t k => p623 t (stc624.trans k)
    obtain ⟨cqc626, kqc626, qc626a, qc626b, qc626c⟩ := isOf hZ ec624 (Ea_UNKNOWN.ext O0.2)
    obtain ⟨_, _, ⟨Tc626, Lc626, kc626, nc626⟩, -, Xc626, ⟨Lcc626, hQc626, lc626, yc626, zc626⟩, stc626⟩ := Xc624.virtualBack hx (y := M4) (z := M4) hown (mvT hZ (ww hw 26 rfl)) (mvT hZ (ww hw 27 rfl)) (notFace_of_selects (args := #[]) (mvT hZ (ww hw 29 rfl))) (mvT hZ (ww hw 29 rfl)) (mvT hZ (ww hw 28 rfl)) (by decide) (backOf (W := 1) (rm5_23 l Z a0 hw [] a_TRUE a_UNKNOWN a_FALSE h0 n0 O0 HE' ) hZ (ww hw 30 rfl) (ww hw 6 rfl) (by decide) (by decide)) qc626a qc626c (g := (mkF m 91 Ls614 [(.ref a_UNKNOWN), (.ref a_UNKNOWN), (.ref a_UNKNOWN)])) rfl (by rw [hml]; rfl) (Steps.refl _) (argsL := [(.ref a_UNKNOWN)]) (rest := [(.ref a_UNKNOWN)]) (lenOf pd3 rfl) rfl (by show 2 * 0 + _ ≤ _; exact Nat.le_of_eq rfl) (hb hby at_91) (fun _ _ => ⟨rfl, ec624, (by decide : 0 + 0 ≤ _), (by decide : 0 + 0 ≤ _)⟩)
    dsimp only [Pt.U, Pt.locs, Pt.cells, Pt.slots] at Xc626 lc626 yc626 zc626 stc626 hQc626
    subst lc626 yc626 zc626
    obtain ⟨Nqc626, ec626, hAc626⟩ := hQc626
    have Nc626 := Fr.app Nc624 Nqc626
    obtain rfl := hAc626
    have p627 : ∀ t, St p e below Tc626 (mkF m 94 Ls614 [(.ref a_UNKNOWN), (.ref a_UNKNOWN)]) t → S0 t := fun t k => p625 t (stc626.trans k)
    let Ls628 : Array Slot := #[.val (.int i0), .val (.int i1), .val (.int i2), .val (.ref a_UNKNOWN), .val (.ref a_UNKNOWN), .val (.int (1 : Int32)), .val (.int (1 : Int32)), .val (.int (1 : Int32)), .val (.int (1 : Int32))]
    have p629 : ∀ t, St p e below Tc626 (mkF m 124 Ls628 [(.int (1 : Int32))]) t → S0 t := fun t k => p627 t (by
      show St p e below Tc626 (mkF m 94 Ls614 [(.ref a_UNKNOWN), (.ref a_UNKNOWN)]) t
      refine Jvm.RoadKit.acmp (g := (mkF m 94 Ls614 [(.ref a_UNKNOWN), (.ref a_UNKNOWN)])) Xc626 hx rfl rfl rfl (pc0 := 94) (pc' := 97) (same := true) rfl (hb hby at_94) rfl (decide_eq_true rfl) (by decide) (by decide) ?_
      show St p e below Tc626 (mkF m 97 Ls614 []) t
      refine XT.iconstV Xc626.here hx rfl (1 : Int32) (hb hby at_97) (by decide) ?_
      show St p e below Tc626 (mkF m 98 Ls614 [(.int (1 : Int32))]) t
      refine XS.goto Xc626.here hx rfl (pc0 := 98) (pc' := 102) rfl (hb hby at_98) (by decide) (by decide) ?_
      show St p e below Tc626 (mkF m 102 Ls614 [(.int (1 : Int32))]) t
      refine XS.istore Xc626.here hx rfl (hb hby at_102) rfl (l' := Ls628) rfl ?_
      show St p e below Tc626 (mkF m 104 Ls628 []) t
      refine XS.iload Xc626.here hx rfl (hb hby at_104) rfl ?_
      show St p e below Tc626 (mkF m 106 Ls628 [(.int (1 : Int32))]) t
      refine XS.ifNo Xc626.here hx rfl (hb hby at_106) rfl ((if0 _ _).trans (feq (by decide : ¬ ((1 : Int32) = (0 : Int32)))).1) ?_
      show St p e below Tc626 (mkF m 109 Ls628 []) t
      refine XS.iload Xc626.here hx rfl (hb hby at_109) rfl ?_
      show St p e below Tc626 (mkF m 111 Ls628 [(.int (1 : Int32))]) t
      refine XS.ifNo Xc626.here hx rfl (hb hby at_111) rfl ((if0 _ _).trans (feq (by decide : ¬ ((1 : Int32) = (0 : Int32)))).1) ?_
      show St p e below Tc626 (mkF m 114 Ls628 []) t
      refine XS.iload Xc626.here hx rfl (hb hby at_114) rfl ?_
      show St p e below Tc626 (mkF m 116 Ls628 [(.int (1 : Int32))]) t
      refine XS.ifNo Xc626.here hx rfl (hb hby at_116) rfl ((if0 _ _).trans (feq (by decide : ¬ ((1 : Int32) = (0 : Int32)))).1) ?_
      show St p e below Tc626 (mkF m 119 Ls628 []) t
      refine XT.iconstV Xc626.here hx rfl (1 : Int32) (hb hby at_119) (by decide) ?_
      show St p e below Tc626 (mkF m 120 Ls628 [(.int (1 : Int32))]) t
      refine XS.goto Xc626.here hx rfl (pc0 := 120) (pc' := 124) rfl (hb hby at_120) (by decide) (by decide) ?_
      exact k)
    obtain ⟨fs, hr, hrun, hended, hW, hsame⟩ := Xc626.leave (v := some (.int (1 : Int32))) (fun h => by rw [Bd.returns] at h; cases h)
    refine ⟨_, _, p629 _ ?_, hrun, hended, _, _, rfl, ?_, ⟨_, rfl⟩, hW, hsame.mono (by decide) (by decide)⟩
    · exact retOut Xc626 hx Bd.returns rfl (Or.inl ⟨rfl, by simp, _, rfl⟩) (hb hby at_124) hr
    · exact ⟨rfl, Nc626⟩
set_option maxRecDepth 65536 in
set_option maxHeartbeats 40000000 in
theorem comes_1 {Post : Tables → Env → Array Value → State → Outcome → State → Prop} (hpost : ∀ tb e args s v u, (limb_1_1.after args s (.returned v) u = true ∧ limb_1_2.after args s (.returned v) u = true ∧ True) → FrameEnd s (.returned v) u (Jvm.fieldLocs frame_1_writes args s ++ Jvm.arrayLocs frame_1_arrays args s ++ Jvm.staticLocs frame_1_statics s) 0 0 → Post tb e args s (.returned v) u) :
    ArmFor flags0 classFile x code maxLocals ret World_1 tables_1 room_1 Calls_1 rest_1 Pre_1 Post := by
  intro l hfl _ _ p e ha hc hk s m args below hf hA hF happ hP
  obtain ⟨hcalls, hrest, hpre⟩ := hP
  obtain ⟨-, -, -, hnamed, -, -, -, hat⟩ := (Spec.applies_iff hf).mp happ
  obtain ⟨hg, hn⟩ := and_e (Cond.before_iff.mp (show (Jvm.Cond.and given_1 narrow_1).before args s = true from hpre))
  obtain ⟨hj1a, hj1b⟩ := and_e hg
  obtain ⟨hj2a, hj2b⟩ := and_e hj1b
  obtain ⟨hj3a, hj3b⟩ := and_e hj2b
  obtain ⟨w0, w1, w2, rfl⟩ : ∃ w0 w1 w2 : Value, args = #[w0, w1, w2] := by
    have hs : args.size = 3 := by simpa [Cond.value, given_1] using hj1a
    obtain ⟨L⟩ := args
    match L, hs with
    | [w0, w1, w2], _ => exact ⟨w0, w1, w2, rfl⟩
  have hw := fun d (hd : d ∈ tables_1) => atoms_spec (ws := Jvm.Cond.code x code maxLocals ret :: tables_1) hat d (List.mem_cons_of_mem _ hd)
  have hfit : Fit s := fun {y c} hc i hi => by
    obtain ⟨ha, rfl⟩ := Array.getElem?_eq_some_iff.mp hc
    have q := List.all_eq_true.mp ((Array.all_eq_true_iff_forall_mem.mp hF) _ (Array.getElem_mem ha)) i (List.mem_range.mpr hi)
    simpa [Array.getElem?_eq_getElem hi] using q
  obtain ⟨i0, ei0⟩ := is_v hj2a
  obtain rfl : w0 = (.int i0) := Option.some.inj ei0
  obtain ⟨i1, ei1⟩ := is_v hj3a
  obtain rfl : w1 = (.int i1) := Option.some.inj ei1
  obtain ⟨i2, ei2⟩ := is_v hj3b
  obtain rfl : w2 = (.int i2) := Option.some.inj ei2
  obtain ⟨hj4a, hj4b⟩ := and_e hn
  obtain ⟨hj5a, hj5b⟩ := and_e hj4b
  obtain ⟨hj6a, hj6b⟩ := and_e hj5b
  obtain ⟨hj7a, hj7b⟩ := and_e hj6b
  obtain ⟨hj8a, hj8b⟩ := and_e hj7b
  have hn0 := hj4a
  have hn1 := hj5a
  have hn2 := hj6a
  have hn3 := hj7a
  have hn4 := hj8a
  have hn5 := hj8b
  obtain ⟨a_TRUE, eva_TRUE⟩ := exa_v hn0
  obtain ⟨a_UNKNOWN, eva_UNKNOWN⟩ := exa_v hn1
  obtain ⟨a_FALSE, eva_FALSE⟩ := exa_v hn4
  obtain ⟨n, o, h1, h2, h3, _, L, rfl, ⟨rfl, N⟩, hq⟩ := rm0 l s _ hw tables_1 a_TRUE a_UNKNOWN a_FALSE i0 i1 i2 s.heap s.heap.size (Old.start s) ⟨(Sta.start eva_TRUE (Or.inr ⟨(ww hw 6 rfl), (ww hw 7 rfl)⟩)), (Exa.start eva_TRUE hn0), (Sta.start eva_UNKNOWN (Or.inr ⟨(ww hw 6 rfl), (ww hw 14 rfl)⟩)), (Exa.start eva_UNKNOWN hn1), (Fld.start ((fld_at eva_TRUE).symm.trans (own_eqI hn2))), (Fld.start ((fld_at eva_UNKNOWN).symm.trans (own_eqI hn3))), (Sta.start eva_FALSE (Or.inr ⟨(ww hw 6 rfl), (ww hw 17 rfl)⟩)), (Exa.start eva_FALSE hn4), (Fld.start ((fld_at eva_FALSE).symm.trans (own_eqI hn5)))⟩ p e ha hc hk s m _ below hf ((Spec.applies_iff_loose hf).mp happ).1 ⟨rfl, State.Warmed39.refl s, rfl⟩ trivial
  refine ⟨n, _, h1, h2, h3, hpost _ _ _ _ _ _ ⟨Cond.after_iff.mpr rfl, Cond.after_iff.mpr (eq_i res_at (Term.int_eval (1)) rfl), trivial⟩ ⟨hq.1, hq.2.1, (hq.2.2.sift fun y hy => Or.inr (N y hy)).mono (by decide) (by decide)⟩⟩
theorem main_1_1 : Claimed_1_1 := comes_1 fun _ _ _ _ _ _ h hF => ⟨h.1, hF⟩
theorem main_1_2 : Claimed_1_2 := comes_1 fun _ _ _ _ _ _ h hF => ⟨h.2.1, hF⟩
end Jvm.Pilot.@@N@@
namespace Jvm.Pilot.@@N@@
open Jvm Jvm.ClassFile Sem Op Lib Jvm.Free Jvm.Stand Jvm.Pilot.@@N@@.Jvm.D
/-! MADE BY PROGRAM (witnessworld.py) out of the Statement's table words and the real class files: 12 classes; the members and pool entries that the words name. The judged class is class 1, her method 2. -/
namespace start1
open Jvm.ClassFile
def u (s : String) : CpInfo := .utf8 (stringToUtf16 s)
/-- a pool by its gaps: so many unusable entries, then the entry; so many at the end -/
def gap : Nat → List CpInfo → List CpInfo
  | 0, r => r
  | n + 1, r => .unusable :: gap n r
def poolList (es : List (Nat × CpInfo)) (last : Nat) : List CpInfo := es.foldr (fun e r => gap e.1 (e.2 :: r)) (gap last [])
def pool (es : List (Nat × CpInfo)) (last : Nat) : Array CpInfo := ⟨poolList es last⟩
def fileOf (pool : Array CpInfo) (this : Nat) (attrs : Array Attribute := #[]) (ms : Array MethodInfo := #[]) (fl : Nat := 33) (sup : Nat := 0) (ifs : Array Nat := #[]) (fds : Array FieldInfo := #[]) : ClassFile where
  minorVersion := 0
  majorVersion := 65
  constantPool := pool
  accessFlags := fl
  thisClass := this
  superClass := sup
  interfaces := ifs
  fields := fds
  methods := ms
  attributes := attrs
def plain (name : String) (sup : Option ClassId) : Class where
  name := name
  kind := .ordinary
  loader := none
  accessFlags := 33
  super := sup
  interfaces := #[]
  cf := none
  fields := #[]
  methods := #[]
  instanceTypes := #[]
  staticTypes := #[]
  resolved := #[]
  callSites := []
  init := .initialized
  statics := none
  mirror := none

def pool0 : Array CpInfo := pool [(5, u "<init>"), (0, u "()V"), (1, .class_ 10), (1, u "java/lang/Object")] 113

def k0m0 : Method := { name := "<init>", desc := "()V", sig := { parameters := [], returnType := none }, accessFlags := 1, code := none }
/-- java/lang/Object -/
def k0 : Class := { plain "java/lang/Object" none with
  accessFlags := 33
  interfaces := #[]
  cf := some (fileOf pool0 8 #[] #[{ accessFlags := 1, nameIndex := 5, descriptorIndex := 6, attributes := #[] }] 33 0 #[] #[])
  fields := #[]
  methods := #[k0m0]
  instanceTypes := #[]
  staticTypes := #[]
  resolved := Array.replicate 124 none
  statics := none }

def pool1 : Array CpInfo := pool [(2, .class_ 4), (1, u "java/lang/Object"), (0, u "<init>"), (0, u "()V"), (0, .integer 2147483647), (0, .fieldref 9 10), (0, .class_ 11), (0, .nameAndType 12 13), (0, u "com/example/herald4/herald4/filter/Truth"), (0, u "TRUE"), (0, u "Lcom/example/herald4/herald4/filter/Truth;"), (0, .fieldref 9 15), (0, .nameAndType 16 13), (0, u "FALSE"), (0, .fieldref 9 18), (0, .nameAndType 19 13), (0, u "UNKNOWN"), (0, .methodref 21 22), (0, .class_ 23), (0, .nameAndType 24 25), (0, u "com/example/herald4/herald4/filter/TruthNotPinLaw"), (0, u "pick"), (0, u "(I)Lcom/example/herald4/herald4/filter/Truth;"), (0, .methodref 9 27), (0, .nameAndType 28 29), (0, u "not"), (0, u "()Lcom/example/herald4/herald4/filter/Truth;"), (0, .methodref 9 31), (0, .nameAndType 32 33), (0, u "of"), (0, u "(Z)Lcom/example/herald4/herald4/filter/Truth;"), (0, .methodref 9 35), (0, .nameAndType 36 37), (0, u "and"), (0, u "(Lcom/example/herald4/herald4/filter/Truth;)Lcom/example/herald4/herald4/filter/Truth;"), (0, .methodref 9 39), (0, .nameAndType 40 37), (0, u "or"), (3, u "law"), (0, u "(III)Z")] 2

def k1m0 : Method := { name := "<init>", desc := "()V", sig := { parameters := [], returnType := none }, accessFlags := 1, code := none }
def k1c1 : Code := { maxStack := 2, maxLocals := 2, code := method_2_code, exceptionTable := #[], attributes := #[] }
def k1m1 : Method := { name := "pick", desc := "(I)Lcom/example/herald4/herald4/filter/Truth;", sig := { parameters := [.int], returnType := some (.object "com/example/herald4/herald4/filter/Truth") }, accessFlags := 10, code := some k1c1 }
def k1c2 : Code := { maxStack := 3, maxLocals := 9, code := code, exceptionTable := #[], attributes := #[] }
def k1m2 : Method := { name := "law", desc := "(III)Z", sig := { parameters := [.int, .int, .int], returnType := some .boolean }, accessFlags := 9, code := some k1c2 }
/-- com/example/herald4/herald4/filter/TruthNotPinLaw -/
def k1 : Class := { plain "com/example/herald4/herald4/filter/TruthNotPinLaw" (some 0) with
  accessFlags := 49
  interfaces := #[]
  cf := some (fileOf pool1 21 #[] #[{ accessFlags := 1, nameIndex := 5, descriptorIndex := 6, attributes := #[] }, { accessFlags := 10, nameIndex := 24, descriptorIndex := 25, attributes := #[] }, { accessFlags := 9, nameIndex := 44, descriptorIndex := 45, attributes := #[] }] 49 2 #[] #[])
  fields := #[]
  methods := #[k1m0, k1m1, k1m2]
  instanceTypes := #[]
  staticTypes := #[]
  resolved := Array.replicate 48 none
  statics := none }

def pool2 : Array CpInfo := pool [(1, .class_ 2), (0, u "java/lang/constant/Constable"), (0, .class_ 4), (0, u "java/lang/Object")] 6

/-- java/lang/constant/Constable -/
def k2 : Class := { plain "java/lang/constant/Constable" (some 0) with
  accessFlags := 1537
  interfaces := #[]
  cf := some (fileOf pool2 1 #[] #[] 1537 3 #[] #[])
  fields := #[]
  methods := #[]
  instanceTypes := #[]
  staticTypes := #[]
  resolved := Array.replicate 11 none
  statics := none }

def pool3 : Array CpInfo := pool [(1, .class_ 2), (0, u "java/lang/Comparable"), (0, .class_ 4), (0, u "java/lang/Object")] 7

/-- java/lang/Comparable -/
def k3 : Class := { plain "java/lang/Comparable" (some 0) with
  accessFlags := 1537
  interfaces := #[]
  cf := some (fileOf pool3 1 #[] #[] 1537 3 #[] #[])
  fields := #[]
  methods := #[]
  instanceTypes := #[]
  staticTypes := #[]
  resolved := Array.replicate 12 none
  statics := none }

def pool4 : Array CpInfo := pool [(1, .class_ 2), (0, u "java/io/Serializable"), (0, .class_ 4), (0, u "java/lang/Object")] 2

/-- java/io/Serializable -/
def k4 : Class := { plain "java/io/Serializable" (some 0) with
  accessFlags := 1537
  interfaces := #[]
  cf := some (fileOf pool4 1 #[] #[] 1537 3 #[] #[])
  fields := #[]
  methods := #[]
  instanceTypes := #[]
  staticTypes := #[]
  resolved := Array.replicate 7 none
  statics := none }

def pool5 : Array CpInfo := pool [(2, .class_ 4), (1, u "java/lang/Enum"), (0, u "name"), (0, u "Ljava/lang/String;"), (2, u "ordinal"), (0, u "I"), (1, .class_ 14), (1, u "java/lang/Object"), (4, u "hash"), (86, .class_ 108), (1, u "java/lang/Enum$EnumDesc"), (2, .class_ 112), (0, u "java/lang/constant/Constable"), (0, .class_ 114), (0, u "java/lang/Comparable"), (0, .class_ 116), (0, u "java/io/Serializable")] 87

/-- java/lang/Enum -/
def k5 : Class := { plain "java/lang/Enum" (some 0) with
  accessFlags := 1057
  interfaces := #[2, 3, 4]
  cf := some (fileOf pool5 2 #[.nestMembers #[106]] #[] 1057 12 #[111, 113, 115] #[{ accessFlags := 18, nameIndex := 5, descriptorIndex := 6, attributes := #[] }, { accessFlags := 18, nameIndex := 9, descriptorIndex := 10, attributes := #[] }, { accessFlags := 2, nameIndex := 19, descriptorIndex := 10, attributes := #[] }])
  fields := #[{ name := "name", type := (.object "java/lang/String"), accessFlags := 18, slot := 0, constantValue := 0 }, { name := "ordinal", type := .int, accessFlags := 18, slot := 1, constantValue := 0 }, { name := "hash", type := .int, accessFlags := 2, slot := 2, constantValue := 0 }]
  methods := #[]
  instanceTypes := #[(.object "java/lang/String"), .int, .int]
  staticTypes := #[]
  resolved := Array.replicate 204 none
  statics := none }

def pool6 : Array CpInfo := pool [(1, .class_ 2), (0, u "com/example/herald4/herald4/filter/Truth"), (0, .fieldref 1 4), (0, .nameAndType 5 6), (0, u "TRUE"), (0, u "Lcom/example/herald4/herald4/filter/Truth;"), (0, .fieldref 1 8), (0, .nameAndType 9 6), (0, u "FALSE"), (0, .fieldref 1 11), (0, .nameAndType 12 6), (0, u "UNKNOWN"), (2, u "$VALUES"), (0, u "[Lcom/example/herald4/herald4/filter/Truth;"), (6, .class_ 25), (1, u "java/lang/Enum"), (21, u "of"), (0, u "(Z)Lcom/example/herald4/herald4/filter/Truth;"), (1, u "not"), (0, u "()Lcom/example/herald4/herald4/filter/Truth;"), (0, u "and"), (0, u "(Lcom/example/herald4/herald4/filter/Truth;)Lcom/example/herald4/herald4/filter/Truth;"), (0, u "or")] 4

def k6c0 : Code := { maxStack := 1, maxLocals := 1, code := prog_32_method_4_code, exceptionTable := #[], attributes := #[] }
def k6m0 : Method := { name := "of", desc := "(Z)Lcom/example/herald4/herald4/filter/Truth;", sig := { parameters := [.boolean], returnType := some (.object "com/example/herald4/herald4/filter/Truth") }, accessFlags := 8, code := some k6c0 }
def k6c1 : Code := { maxStack := 2, maxLocals := 2, code := prog_32_method_5_code, exceptionTable := #[], attributes := #[] }
def k6m1 : Method := { name := "not", desc := "()Lcom/example/herald4/herald4/filter/Truth;", sig := { parameters := [], returnType := some (.object "com/example/herald4/herald4/filter/Truth") }, accessFlags := 0, code := some k6c1 }
def k6c2 : Code := { maxStack := 2, maxLocals := 3, code := prog_32_method_6_code, exceptionTable := #[], attributes := #[] }
def k6m2 : Method := { name := "and", desc := "(Lcom/example/herald4/herald4/filter/Truth;)Lcom/example/herald4/herald4/filter/Truth;", sig := { parameters := [(.object "com/example/herald4/herald4/filter/Truth")], returnType := some (.object "com/example/herald4/herald4/filter/Truth") }, accessFlags := 0, code := some k6c2 }
def k6c3 : Code := { maxStack := 2, maxLocals := 3, code := prog_32_method_7_code, exceptionTable := #[], attributes := #[] }
def k6m3 : Method := { name := "or", desc := "(Lcom/example/herald4/herald4/filter/Truth;)Lcom/example/herald4/herald4/filter/Truth;", sig := { parameters := [(.object "com/example/herald4/herald4/filter/Truth")], returnType := some (.object "com/example/herald4/herald4/filter/Truth") }, accessFlags := 0, code := some k6c3 }
/-- com/example/herald4/herald4/filter/Truth -/
def k6 : Class := { plain "com/example/herald4/herald4/filter/Truth" (some 5) with
  accessFlags := 16432
  interfaces := #[]
  cf := some (fileOf pool6 1 #[] #[{ accessFlags := 8, nameIndex := 47, descriptorIndex := 48, attributes := #[] }, { accessFlags := 0, nameIndex := 50, descriptorIndex := 51, attributes := #[] }, { accessFlags := 0, nameIndex := 52, descriptorIndex := 53, attributes := #[] }, { accessFlags := 0, nameIndex := 54, descriptorIndex := 53, attributes := #[] }] 16432 23 #[] #[{ accessFlags := 16409, nameIndex := 5, descriptorIndex := 6, attributes := #[] }, { accessFlags := 16409, nameIndex := 9, descriptorIndex := 6, attributes := #[] }, { accessFlags := 16409, nameIndex := 12, descriptorIndex := 6, attributes := #[] }, { accessFlags := 4122, nameIndex := 15, descriptorIndex := 16, attributes := #[] }])
  fields := #[{ name := "TRUE", type := (.object "com/example/herald4/herald4/filter/Truth"), accessFlags := 16409, slot := 0, constantValue := 0 }, { name := "FALSE", type := (.object "com/example/herald4/herald4/filter/Truth"), accessFlags := 16409, slot := 1, constantValue := 0 }, { name := "UNKNOWN", type := (.object "com/example/herald4/herald4/filter/Truth"), accessFlags := 16409, slot := 2, constantValue := 0 }, { name := "$VALUES", type := (.array (.object "com/example/herald4/herald4/filter/Truth")), accessFlags := 4122, slot := 3, constantValue := 0 }]
  methods := #[k6m0, k6m1, k6m2, k6m3]
  instanceTypes := #[(.object "java/lang/String"), .int, .int]
  staticTypes := #[(.object "com/example/herald4/herald4/filter/Truth"), (.object "com/example/herald4/herald4/filter/Truth"), (.object "com/example/herald4/herald4/filter/Truth"), (.array (.object "com/example/herald4/herald4/filter/Truth"))]
  resolved := Array.replicate 59 none
  statics := some 0 }

def pool7 : Array CpInfo := pool [(1, u "java/lang/Cloneable"), (0, .class_ 1), (0, u "java/lang/Object"), (0, .class_ 3)] 3

/-- java/lang/Cloneable -/
def k7 : Class := { plain "java/lang/Cloneable" (some 0) with
  accessFlags := 1537
  interfaces := #[]
  cf := some (fileOf pool7 2 #[] #[] 1537 4 #[] #[])
  fields := #[]
  methods := #[]
  instanceTypes := #[]
  staticTypes := #[]
  resolved := Array.replicate 8 none
  statics := none }

/-- the primitive byte -/
def k8 : Class := { plain "byte" none with kind := .primitive 'B', accessFlags := 0x411 }
/-- [B -/
def k9 : Class := { plain "[B" (some 0) with kind := .array 8 .byte, interfaces := #[7, 4], accessFlags := 1041 }

/-- the primitive int -/
def k10 : Class := { plain "int" none with kind := .primitive 'I', accessFlags := 0x411 }
/-- [I -/
def k11 : Class := { plain "[I" (some 0) with kind := .array 10 .int, interfaces := #[7, 4], accessFlags := 1041 }

def heap : Heap := #[{ cls := 6, slots := #[.ref 1, .ref 3, .ref 2, .null], vm := .statics 6 },
  { cls := 6, slots := #[.null, .int 0, .int 0], vm := .none },
  { cls := 6, slots := #[.null, .int 2, .int 0], vm := .none },
  { cls := 6, slots := #[.null, .int 1, .int 0], vm := .none }]
def classes : Array Class := #[k0, k1, k2, k3, k4, k5, k6, k7, k8, k9, k10, k11]
def interned : List (Array UInt16 × Addr) := []
def slotsUsed : Nat := 13
def theMethod : MethodId := ⟨1, 2⟩
def args0 : Array Value := #[.int 5, .int 6, .int 7]
def aboutOver (below : List Frame) : State where
  vm := { classes := classes, interned := interned.toArray }
  heap := heap
  slotsUsed := slotsUsed
  threads := #[{ frames := .invoking theMethod args0 :: below }]
def below0 : List Frame := [.native { method := ⟨0, 0⟩, args := #[] }]
def about1 : State := aboutOver below0
def p0 : Program := .bare "" "" ""
def e0 : Env := launch0.env 0 0 0
theorem w_frames : about1.frames = Frame.invoking theMethod args0 :: below0 := rfl
set_option maxRecDepth 65536 in
theorem w_args : argsFit about1.vm theMethod args0 = true := by decide +kernel
set_option maxRecDepth 65536 in
theorem w_heap : heapFits about1 = true := by decide +kernel
set_option maxRecDepth 65536 in
theorem w_runnable : about1.curStatus? = some .runnable := by decide +kernel
set_option maxRecDepth 65536 in
theorem w_alone : about1.alone = true := by decide +kernel
set_option maxRecDepth 65536 in
theorem w_named : about1.methodNamed? x = some theMethod := by decide +kernel
set_option maxRecDepth 65536 in
theorem w_hears : about1.hears theMethod below0 = true := by decide +kernel
set_option maxRecDepth 65536 in
theorem w_ripe : about1.ripe theMethod args0 below0 = true := by decide +kernel
theorem w_running : about1.status = .running := rfl
set_option maxRecDepth 65536 in
theorem w_room : about1.hasRoom e0.platform room_1 = true :=
  launch0.hasRoom_least _ room_1 (by decide +kernel) (by decide +kernel) (by decide +kernel) (by decide +kernel) (by decide +kernel) (by decide +kernel)
theorem allAtoms_all (ts : List Jvm.Cond) (a : Array Jvm.Value) (st : Jvm.State) : (allAtoms ts).before a st = ts.all (fun c => c.before a st) := by
  induction ts with
  | nil => rfl
  | cons c t ih =>
    show (Jvm.Cond.and c (allAtoms t)).before a st = _
    rw [Jvm.Cond.before_and, ih, List.all_cons]
def words1 : List Jvm.Cond := Jvm.Cond.code x code maxLocals ret :: tables_1
/-- a 'code' word, met by the world's own term for the bytes: nothing is compared byte by byte -/
theorem code_word {y : MethodName} {bytes : ByteArray} {mx : Nat} {rt : Option FieldType} {a : Array Value} {s : State} {m : MethodId} {meth : Method} {c : Code} (h1 : s.methodNamed? y = some m) (h2 : s.vm.method? m = some meth) (h3 : meth.code = some c) (h4 : c.code = bytes)
    (h5 : (c.maxLocals == mx && c.exceptionTable.isEmpty && decide (c.maxStack ≤ mostOperands) && decide (meth.sig.returnType = rt) && !meth.locks && decide (parseMethodDescriptor y.desc = some meth.sig)) = true) : (Jvm.Cond.code y bytes mx rt).before a s = true := by
  simp only [Bool.and_eq_true, beq_iff_eq, Bool.not_eq_true', decide_eq_true_eq] at h5
  obtain ⟨⟨⟨⟨⟨g1, g2⟩, g3⟩, g4⟩, g5⟩, g6⟩ := h5
  simp [Cond.before, Cond.holds, Cond.value, h1, h2, h3, h4, g1, g2, g3, g4, g5, g6]
def isCode : Jvm.Cond → Bool
  | .code _ _ _ _ => true
  | _ => false
theorem all_split {L : List Jvm.Cond} {P : Jvm.Cond → Bool} (h1 : L.all (fun c => isCode c || P c) = true) (h2 : ∀ c ∈ L.filter isCode, P c = true) : L.all P = true := by
  refine List.all_eq_true.mpr fun c hc => ?_
  have h := List.all_eq_true.mp h1 c hc
  rcases Bool.eq_false_or_eq_true (isCode c) with hi | hi
  · exact h2 c (List.mem_filter.mpr ⟨hc, hi⟩)
  · simpa [hi] using h
set_option maxRecDepth 65536 in
theorem w_c0 : (Jvm.Cond.code x code maxLocals ret).before args0 about1 = true := code_word (m := ⟨1, 2⟩) (meth := k1m2) (c := k1c2) (by decide +kernel) rfl rfl rfl (by decide +kernel)
set_option maxRecDepth 65536 in
theorem w_c1 : (Jvm.Cond.code ({ cls := "com/example/herald4/herald4/filter/TruthNotPinLaw", name := "pick", desc := "(I)Lcom/example/herald4/herald4/filter/Truth;" } : Jvm.MethodName) method_2_code (2 : Nat) (Option.some (Jvm.ClassFile.FieldType.object "com/example/herald4/herald4/filter/Truth"))).before args0 about1 = true := code_word (m := ⟨1, 1⟩) (meth := k1m1) (c := k1c1) (by decide +kernel) rfl rfl rfl (by decide +kernel)
set_option maxRecDepth 65536 in
theorem w_c2 : (Jvm.Cond.code ({ cls := "com/example/herald4/herald4/filter/Truth", name := "not", desc := "()Lcom/example/herald4/herald4/filter/Truth;" } : Jvm.MethodName) prog_32_method_5_code (2 : Nat) (Option.some (Jvm.ClassFile.FieldType.object "com/example/herald4/herald4/filter/Truth"))).before args0 about1 = true := code_word (m := ⟨6, 1⟩) (meth := k6m1) (c := k6c1) (by decide +kernel) rfl rfl rfl (by decide +kernel)
set_option maxRecDepth 65536 in
theorem w_c3 : (Jvm.Cond.code ({ cls := "com/example/herald4/herald4/filter/Truth", name := "of", desc := "(Z)Lcom/example/herald4/herald4/filter/Truth;" } : Jvm.MethodName) prog_32_method_4_code (1 : Nat) (Option.some (Jvm.ClassFile.FieldType.object "com/example/herald4/herald4/filter/Truth"))).before args0 about1 = true := code_word (m := ⟨6, 0⟩) (meth := k6m0) (c := k6c0) (by decide +kernel) rfl rfl rfl (by decide +kernel)
set_option maxRecDepth 65536 in
theorem w_c4 : (Jvm.Cond.code ({ cls := "com/example/herald4/herald4/filter/Truth", name := "and", desc := "(Lcom/example/herald4/herald4/filter/Truth;)Lcom/example/herald4/herald4/filter/Truth;" } : Jvm.MethodName) prog_32_method_6_code (3 : Nat) (Option.some (Jvm.ClassFile.FieldType.object "com/example/herald4/herald4/filter/Truth"))).before args0 about1 = true := code_word (m := ⟨6, 2⟩) (meth := k6m2) (c := k6c2) (by decide +kernel) rfl rfl rfl (by decide +kernel)
set_option maxRecDepth 65536 in
theorem w_c5 : (Jvm.Cond.code ({ cls := "com/example/herald4/herald4/filter/Truth", name := "or", desc := "(Lcom/example/herald4/herald4/filter/Truth;)Lcom/example/herald4/herald4/filter/Truth;" } : Jvm.MethodName) prog_32_method_7_code (3 : Nat) (Option.some (Jvm.ClassFile.FieldType.object "com/example/herald4/herald4/filter/Truth"))).before args0 about1 = true := code_word (m := ⟨6, 3⟩) (meth := k6m3) (c := k6c3) (by decide +kernel) rfl rfl rfl (by decide +kernel)
def codes1 : List Jvm.Cond := [Jvm.Cond.code x code maxLocals ret, Jvm.Cond.code ({ cls := "com/example/herald4/herald4/filter/TruthNotPinLaw", name := "pick", desc := "(I)Lcom/example/herald4/herald4/filter/Truth;" } : Jvm.MethodName) method_2_code (2 : Nat) (Option.some (Jvm.ClassFile.FieldType.object "com/example/herald4/herald4/filter/Truth")), Jvm.Cond.code ({ cls := "com/example/herald4/herald4/filter/Truth", name := "not", desc := "()Lcom/example/herald4/herald4/filter/Truth;" } : Jvm.MethodName) prog_32_method_5_code (2 : Nat) (Option.some (Jvm.ClassFile.FieldType.object "com/example/herald4/herald4/filter/Truth")), Jvm.Cond.code ({ cls := "com/example/herald4/herald4/filter/Truth", name := "of", desc := "(Z)Lcom/example/herald4/herald4/filter/Truth;" } : Jvm.MethodName) prog_32_method_4_code (1 : Nat) (Option.some (Jvm.ClassFile.FieldType.object "com/example/herald4/herald4/filter/Truth")), Jvm.Cond.code ({ cls := "com/example/herald4/herald4/filter/Truth", name := "and", desc := "(Lcom/example/herald4/herald4/filter/Truth;)Lcom/example/herald4/herald4/filter/Truth;" } : Jvm.MethodName) prog_32_method_6_code (3 : Nat) (Option.some (Jvm.ClassFile.FieldType.object "com/example/herald4/herald4/filter/Truth")), Jvm.Cond.code ({ cls := "com/example/herald4/herald4/filter/Truth", name := "or", desc := "(Lcom/example/herald4/herald4/filter/Truth;)Lcom/example/herald4/herald4/filter/Truth;" } : Jvm.MethodName) prog_32_method_7_code (3 : Nat) (Option.some (Jvm.ClassFile.FieldType.object "com/example/herald4/herald4/filter/Truth"))]
set_option maxRecDepth 65536 in
theorem codes_eq : words1.filter isCode = codes1 := rfl
theorem w_codes : ∀ c ∈ words1.filter isCode, c.before args0 about1 = true := by
  rw [codes_eq]
  intro c hc
  simp only [codes1, List.mem_cons, List.not_mem_nil, or_false] at hc
  rcases hc with rfl | rfl | rfl | rfl | rfl | rfl
  · exact w_c0
  · exact w_c1
  · exact w_c2
  · exact w_c3
  · exact w_c4
  · exact w_c5
set_option maxRecDepth 65536 in
theorem w_t1 : (words1.take 24).all (fun c => isCode c || c.before args0 about1) = true := by decide +kernel
set_option maxRecDepth 65536 in
theorem w_t2 : (words1.drop 24).all (fun c => isCode c || c.before args0 about1) = true := by decide +kernel
theorem w_tables : (allAtoms (Jvm.Cond.code x code maxLocals ret :: tables_1)).before args0 about1 = true := by
  rw [allAtoms_all]
  show words1.all (fun c => c.before args0 about1) = true
  refine all_split ?_ w_codes
  rw [← List.take_append_drop 24 words1, List.all_append, w_t1, w_t2]
  rfl
set_option maxRecDepth 65536 in
theorem w_case : (Jvm.Cond.and given_1 narrow_1).before args0 about1 = true := by decide +kernel
theorem w_applies : (headSpec (Jvm.Cond.code x code maxLocals ret :: tables_1) room_1).applies x e0.platform about1 = true :=
  (Spec.applies_iff w_frames).mpr ⟨w_running, w_runnable, w_alone, w_named, w_hears, w_ripe, w_room, w_tables⟩
theorem atStart : AtStart classFile x code maxLocals ret World_1 tables_1 room_1 Calls_1 rest_1 Pre_1 launch0 p0 e0 about1 theMethod args0 below0 :=
  ⟨lists_1, trivial, launch0.admits_env _ _ _, launch0.least_env, fairChoices_fair.cas, fairChoices_fair.clock, w_frames, w_args, w_heap, w_applies, trivial, trivial, w_case⟩
end start1
theorem witness_1 : WitnessClaimed_1 := ⟨start1.p0, start1.e0, start1.about1, start1.theMethod, start1.args0, start1.below0, start1.atStart⟩
end Jvm.Pilot.@@N@@
