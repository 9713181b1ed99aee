import JvmDerived
import JvmDerived.Pilot.@@N@@Statement
import JvmDerived.Pilot.@@N@@Code
set_option linter.unusedVariables false
set_option linter.unusedSimpArgs false
namespace Jvm.Pilot.@@N@@
open Jvm Jvm.ClassFile Sem Op Lib Jvm.Free Jvm.Stand Jvm.LawKit Jvm.RoadKit Bundle Jvm.Pilot.@@N@@.Jvm.D
abbrev St (p : Program) (e : Env) (below : List Frame) (T : State) (g : JFrame) (t : State) : Prop := Steps p.tables e below (T.setTop g) t
theorem ww {Z : State} {a0 : Array Value} (hw : ∀ d ∈ tables_1, d.before a0 Z = true) {d : Jvm.Cond} (i : Nat) (h : tables_1[i]? = some d) : d.before a0 Z = true := hw _ (List.mem_of_getElem? h)
theorem ltI {a b : Int32} (h : a < b) : a.toInt < b.toInt := Int32.lt_iff_toInt_lt.mp h
theorem nltI {a b : Int32} (h : ¬ a < b) : ¬ a.toInt < b.toInt := mt Int32.lt_iff_toInt_lt.mpr h
theorem eqI {a b : Int32} (h : a = b) : a.toInt = b.toInt := congrArg Int32.toInt h
theorem neI {a b : Int32} (h : ¬ a = b) : ¬ a.toInt = b.toInt := mt Int32.toInt_inj.mp h
theorem ltJ {a b : Int64} (h : a < b) : a.toInt < b.toInt := Int64.lt_iff_toInt_lt.mp h
theorem nltJ {a b : Int64} (h : ¬ a < b) : ¬ a.toInt < b.toInt := mt Int64.lt_iff_toInt_lt.mpr h
theorem eqJ {a b : Int64} (h : a = b) : a.toInt = b.toInt := congrArg Int64.toInt h
theorem neJ {a b : Int64} (h : ¬ a = b) : ¬ a.toInt = b.toInt := mt Int64.toInt_inj.mp h
theorem own_eqI {args : Array Value} {s : State} {t : Term} {k : Int32} (h : (Jvm.Cond.eq t (.int k)).value args s none s [] = some true) : t.eval args s none [] s = some (.int k) := by
  obtain ⟨x, y, ex, ey, k1, k2⟩ := cmp_v (Or.inl h)
  obtain rfl : y = .int k := Option.some.inj (ey.symm.trans (Term.int_eval k))
  obtain ⟨z, rfl⟩ := k2
  rw [ex, gotT (Cond.eq_ints ex ey) h]
theorem own_eqJ {args : Array Value} {s : State} {t : Term} {k : Int64} (h : (Jvm.Cond.eq t (.long k)).value args s none s [] = some true) : t.eval args s none [] s = some (.long k) := by
  obtain ⟨x, y, ex, ey, k1, k2⟩ := cmp_v (Or.inl h)
  obtain rfl : y = .long k := Option.some.inj (ey.symm.trans (long_at k))
  obtain ⟨z, rfl⟩ := k2
  rw [ex, gotT (eq_L ex ey) h]
theorem own_eqR {args : Array Value} {s : State} {t u : Term} {b : Addr} (h : (Jvm.Cond.eq t u).value args s none s [] = some true) (hu : u.eval args s none [] s = some (.ref b)) : t.eval args s none [] s = some (.ref b) := by
  obtain ⟨x, y, ex, ey, k1, k2⟩ := cmp_v (Or.inl h)
  obtain rfl : y = .ref b := Option.some.inj (ey.symm.trans hu)
  have hx : x.isRef = true := k2.2
  rw [ex, gotT (eq_R ex ey hx rfl) h]
theorem own_len {args : Array Value} {s : State} {t : Term} {a : Addr} {cl : Cell} {ty : FieldType} {k : Int32} (ev : t.eval args s none [] s = some (.ref a)) (A : Arr s s.heap a cl ty) (h : (Term.length t).eval args s none [] s = some (.int k)) : cl.slots.size < 2 ^ 31 ∧ cl.slots.size.toInt32 = k := by
  have ha := A.fin (Vm.Alike.refl _)
  by_cases hl : cl.slots.size < 2 ^ 31
  · exact ⟨hl, Value.int.inj (Option.some.inj ((len_f ev ha hl).symm.trans h))⟩
  · exfalso; simp [Term.eval, ev, ha, hl] at h
theorem own_sel {Z : State} {a0 : Array Value} {y : MethodName} {n : Nat} (wi : (Jvm.Cond.instantiable y.cls n).before a0 Z = true) (wp : (Jvm.Cond.privateMethod y).before a0 Z = true) (wm : (Jvm.Cond.instanceMethod y).before a0 Z = true) (hy : y.cls ≠ "java/lang/invoke/MethodHandle" ∧ y.cls ≠ "java/lang/invoke/VarHandle") : (Jvm.Cond.selects y.cls y y).before a0 Z = true := by
  obtain ⟨c, k, h1, h2, h3, h4, -⟩ := Cond.instantiable_spec wi
  exact selects_self_of_private h1 h2 (by simp only [Bool.or_eq_false_iff] at h4; exact h4.1) (Cond.privateMethod_at wp) wm hy
def own_nz (x : Int64) : Int32 := if x = 0 then 0 else 1
theorem own_c_nz (x : Int64) : (x.toInt = 0 → (own_nz x).toInt = 0) ∧ (x.toInt ≠ 0 → (own_nz x).toInt = 1) := by
  unfold own_nz
  by_cases h : x = 0
  · subst h; exact ⟨fun _ => by decide, fun q => absurd (by decide) q⟩
  · rw [if_neg h]; exact ⟨fun q => absurd (Int64.toInt_inj.mp (q.trans (by decide : (0 : Int) = (0 : Int64).toInt))) h, fun _ => by decide⟩
theorem own_old_le {Z : State} {n0 : Nat} {h : Heap} (O : Old Z n0 h) : n0 ≤ h.size := O.1 ▸ O.2.1
abbrev M0 : MethodName := ⟨"com/example/bouncr/bouncr/analysis/AnswerNotPinLaw", "pick", "(I)Lcom/example/bouncr/bouncr/analysis/Answer;"⟩
abbrev M1 : MethodName := ⟨"com/example/bouncr/bouncr/analysis/Answer", "not", "()Lcom/example/bouncr/bouncr/analysis/Answer;"⟩
abbrev M2 : MethodName := ⟨"com/example/bouncr/bouncr/analysis/Answer", "of", "(Z)Lcom/example/bouncr/bouncr/analysis/Answer;"⟩

def Env1 (Z : State) (a_YES : Addr) (a_NO : Addr) (a_UNKNOWN : Addr) : Prop := Sta Z Z.heap "com/example/bouncr/bouncr/analysis/Answer" "YES" "Lcom/example/bouncr/bouncr/analysis/Answer;" (.ref a_YES) ∧
  Exa Z Z.heap a_YES "com/example/bouncr/bouncr/analysis/Answer" ∧
  Sta Z Z.heap "com/example/bouncr/bouncr/analysis/Answer" "NO" "Lcom/example/bouncr/bouncr/analysis/Answer;" (.ref a_NO) ∧
  Exa Z Z.heap a_NO "com/example/bouncr/bouncr/analysis/Answer" ∧
  Fld Z Z.heap a_NO "java/lang/Enum" "ordinal" "I" (.int (1 : Int32)) ∧
  Fld Z Z.heap a_YES "java/lang/Enum" "ordinal" "I" (.int (0 : Int32)) ∧
  Sta Z Z.heap "com/example/bouncr/bouncr/analysis/Answer" "UNKNOWN" "Lcom/example/bouncr/bouncr/analysis/Answer;" (.ref a_UNKNOWN) ∧
  Exa Z Z.heap a_UNKNOWN "com/example/bouncr/bouncr/analysis/Answer" ∧
  Fld Z Z.heap a_UNKNOWN "java/lang/Enum" "ordinal" "I" (.int (2 : Int32))
theorem ef0 (m : MethodId) (x0 : Int32) (x1 : Int32) : entryFrame m #[(.int x0), (.int x1)] maxLocals = mkF m 0 #[.val (.int x0), .val (.int x1), .unset, .unset, .unset, .unset, .unset, .unset] [] := by first | (simp [entryFrame, mkF, argsToLocals, Value.category, maxLocals]; done) | rfl
theorem pn0 : plainName "com/example/bouncr/bouncr/analysis/AnswerNotPinLaw" = true := by first | (simp [plainName, overriddenIn]; done) | decide +kernel
theorem ef1 (m : MethodId) (x0 : Int32) : entryFrame m #[(.int x0)] 2 = mkF m 0 #[.val (.int x0), .unset] [] := by first | (simp [entryFrame, mkF, argsToLocals, Value.category]; done) | rfl
theorem d1_0 : decode method_2_code 0 = .ok (.iload_n 0, 1) := by decide +kernel
theorem d1_1 : decode method_2_code 1 = .ok (.ldc 7, 2) := by decide +kernel
theorem d1_3 : decode method_2_code 3 = .ok (.iand, 1) := by decide +kernel
theorem d1_4 : decode method_2_code 4 = .ok (.iconst 3, 1) := by decide +kernel
theorem d1_5 : decode method_2_code 5 = .ok (.irem, 1) := by decide +kernel
theorem d1_6 : decode method_2_code 6 = .ok (.istore_n 1, 1) := by decide +kernel
theorem d1_7 : decode method_2_code 7 = .ok (.iload_n 1, 1) := by decide +kernel
theorem d1_8 : decode method_2_code 8 = .ok (.ifCond .ne 7, 3) := by decide +kernel
theorem d1_11 : decode method_2_code 11 = .ok (.getstatic 8, 3) := by decide +kernel
theorem d1_14 : decode method_2_code 14 = .ok (.areturn, 1) := by decide +kernel
theorem d1_15 : decode method_2_code 15 = .ok (.iload_n 1, 1) := by decide +kernel
theorem d1_16 : decode method_2_code 16 = .ok (.iconst 1, 1) := by decide +kernel
theorem d1_17 : decode method_2_code 17 = .ok (.if_icmp .ne 7, 3) := by decide +kernel
theorem d1_20 : decode method_2_code 20 = .ok (.getstatic 14, 3) := by decide +kernel
theorem d1_23 : decode method_2_code 23 = .ok (.areturn, 1) := by decide +kernel
theorem d1_24 : decode method_2_code 24 = .ok (.getstatic 17, 3) := by decide +kernel
theorem d1_27 : decode method_2_code 27 = .ok (.areturn, 1) := by decide +kernel
def Q1_0 (Z : State) (a_YES : Addr) (a_NO : Addr) (a_UNKNOWN : Addr) (i0 : Int32) (h0 : Heap) (n0 : Nat) (v : Option Value) (h : Heap) (L : List Loc) : Prop := Fr n0 L ∧ h = h0 ∧ ((v = some (.ref a_YES) ∧ ((i0 &&& (2147483647 : Int32)) % (3 : Int32)) = (0 : Int32)) ∨ (v = some (.ref a_NO) ∧ ¬ (((i0 &&& (2147483647 : Int32)) % (3 : Int32)) = (0 : Int32)) ∧ ((i0 &&& (2147483647 : Int32)) % (3 : Int32)) = (1 : Int32)) ∨ (v = some (.ref a_UNKNOWN) ∧ ¬ (((i0 &&& (2147483647 : Int32)) % (3 : Int32)) = (0 : Int32)) ∧ ¬ (((i0 &&& (2147483647 : Int32)) % (3 : Int32)) = (1 : Int32))))
set_option maxRecDepth 65536 in
set_option maxHeartbeats 40000000 in
theorem rm1_0 (l : Launch) (Z : State) (a0 : Array Value) (hw : ∀ d ∈ tables_1, d.before a0 Z = true) (ws : List Jvm.Cond) (a_YES : Addr) (a_NO : Addr) (a_UNKNOWN : Addr) (i0 : Int32) (h0 : Heap) (n0 : Nat) (O0 : Old Z n0 h0) (HE : Env1 Z a_YES a_NO a_UNKNOWN)  :
    MetFree l M0 (head1 (Jvm.Cond.code M0 method_2_code 2 (some (.object "com/example/bouncr/bouncr/analysis/Answer")) :: ws) ({ frames := 0, cells := 0, slots := 0, locals := 0 } : Room)) (fun a U => a = #[(.int i0)] ∧ Z.Warmed39 U.vm ∧ U.heap = h0) (fun _ _ _ _ _ => True) (fun _ U o U' => ∃ v L, o = .returned v ∧ Q1_0 Z a_YES a_NO a_UNKNOWN i0 h0 n0 v U'.heap L ∧ FrameEnd U o U' L ({ frames := 0, cells := 0, slots := 0, locals := 0 } : Room).cells ({ frames := 0, cells := 0, slots := 0, locals := 0 } : Room).slots) := by
 refine MetFree.of_bodySF (plainFor_of_name pn0) hisR ?_
 intro p e s m args below meth c s₁ Bd hml0 hP hK
 obtain ⟨rfl, hZ, hh⟩ := hP
 have hx := Bd.exec
 have hby := Bd.bytes
 have hml : c.maxLocals = 2 := hml0
 have hown : s.vm.findClass "com/example/bouncr/bouncr/analysis/AnswerNotPinLaw" = some m.cls := findClass_of_methodNamed Bd.named
 have hnm := (name_of_methodNamed Bd.named Bd.method).1
 have X0 : Stand p l e ({ frames := 0, cells := 0, slots := 0, locals := 0 } : Room) s m #[(.int i0)] below meth c s₁ [] 0 0 := Stand.of_body Bd
 have e0 : s₁.heap = h0 := by rw [← hh, Bd.state]; rfl
 have N0 := Fr.nil n0
 let S0 : State → Prop := fun t => Steps p.tables e below (s₁.setTop (entryFrame m #[(.int i0)] 2)) t
 have p0 : ∀ t, St p e below s₁ (mkF m 0 #[.val (.int i0), .unset] []) t → S0 t := fun t k => castTop (ef1 m i0) k
 have HE' := HE
 obtain ⟨Sa_YES, Ea_YES, Sa_NO, Ea_NO, Fa_NO_ordinal, Fa_YES_ordinal, Sa_UNKNOWN, Ea_UNKNOWN, Fa_UNKNOWN_ordinal⟩ := HE
 let Ls1 : Array Slot := #[.val (.int i0), .val (.int ((i0 &&& (2147483647 : Int32)) % (3 : Int32)))]
 have p2 : ∀ t, St p e below s₁ (mkF m 8 Ls1 [(.int ((i0 &&& (2147483647 : Int32)) % (3 : Int32)))]) t → S0 t := fun t k => p0 t (by
   show St p e below s₁ (mkF m 0 #[.val (.int i0), .unset] []) t
   refine XS.iloadN X0.here hx rfl (hb hby d1_0) rfl ?_
   show St p e below s₁ (mkF m 1 #[.val (.int i0), .unset] [(.int i0)]) t
   refine X0.ldcI hx hown (mvT hZ (ww hw 4 rfl)) rfl (hb hby d1_1) ?_
   show St p e below s₁ (mkF m 3 #[.val (.int i0), .unset] [(.int (2147483647 : Int32)), (.int i0)]) t
   refine XS.iand X0.here hx rfl (hb hby d1_3) rfl ?_
   show St p e below s₁ (mkF m 4 #[.val (.int i0), .unset] [(.int (i0 &&& (2147483647 : Int32)))]) t
   refine XT.iconstV X0.here hx rfl (3 : Int32) (hb hby d1_4) (by decide) ?_
   show St p e below s₁ (mkF m 5 #[.val (.int i0), .unset] [(.int (3 : Int32)), (.int (i0 &&& (2147483647 : Int32)))]) t
   refine iremM X0 hx rfl (hb hby d1_5) rfl (by decide : ¬ ((3 : Int32) = (0 : Int32))) ?_
   show St p e below s₁ (mkF m 6 #[.val (.int i0), .unset] [(.int ((i0 &&& (2147483647 : Int32)) % (3 : Int32)))]) t
   refine XS.istoreN X0.here hx rfl (hb hby d1_6) rfl (l' := Ls1) rfl ?_
   show St p e below s₁ (mkF m 7 Ls1 []) t
   refine XS.iloadN X0.here hx rfl (hb hby d1_7) rfl ?_
   exact k)
 by_cases g3 : ((i0 &&& (2147483647 : Int32)) % (3 : Int32)) = (0 : Int32)
 ·
  have p4 : ∀ t, St p e below s₁ (mkF m 11 Ls1 []) t → S0 t := fun t k => p2 t (by
    show St p e below s₁ (mkF m 8 Ls1 [(.int ((i0 &&& (2147483647 : Int32)) % (3 : Int32)))]) t
    refine XS.ifNo X0.here hx rfl (hb hby d1_8) rfl ((if0 _ _).trans (teq g3).2) ?_
    exact k)
  obtain ⟨T5, X5, e5, st5⟩ := getS2 X0 hx hZ hown (host := "") (Or.inl (ww hw 5 rfl)) Via.refl e0 (Sa_YES.ext O0.2) (g := (mkF m 11 Ls1 [])) rfl (hb hby d1_11)
  have p6 : ∀ t, St p e below T5 (mkF m 14 Ls1 [(.ref a_YES)]) t → S0 t := fun t k => p4 t (st5 t k)
  obtain ⟨fs, hr, hrun, hended, hW, hsame⟩ := X5.leave (v := some (.ref a_YES)) (fun h => by rw [Bd.returns] at h; cases h)
  refine ⟨_, _, p6 _ ?_, hrun, hended, _, _, rfl, ?_, ⟨_, rfl⟩, hW, hsame.mono (by decide) (by decide)⟩
  · exact retOut X5 hx Bd.returns rfl (Or.inr (Or.inr (Or.inr (Or.inr ⟨rfl, rfl, rfl⟩)))) (hb hby d1_14) hr
  · show Q1_0 Z a_YES a_NO a_UNKNOWN i0 h0 n0 _ T5.heap _
    exact ⟨N0, e5, (Or.inl ⟨rfl, g3⟩)⟩
 ·
  have p7 : ∀ t, St p e below s₁ (mkF m 17 Ls1 [(.int (1 : Int32)), (.int ((i0 &&& (2147483647 : Int32)) % (3 : Int32)))]) t → S0 t := fun t k => p2 t (by
    show St p e below s₁ (mkF m 8 Ls1 [(.int ((i0 &&& (2147483647 : Int32)) % (3 : Int32)))]) t
    refine XS.ifYes X0.here hx rfl (pc0 := 8) (pc' := 15) rfl (hb hby d1_8) rfl ((if0 _ _).trans (feq g3).2) (by decide) (by decide) ?_
    show St p e below s₁ (mkF m 15 Ls1 []) t
    refine XS.iloadN X0.here hx rfl (hb hby d1_15) rfl ?_
    show St p e below s₁ (mkF m 16 Ls1 [(.int ((i0 &&& (2147483647 : Int32)) % (3 : Int32)))]) t
    refine XT.iconstV X0.here hx rfl (1 : Int32) (hb hby d1_16) (by decide) ?_
    exact k)
  by_cases g8 : ((i0 &&& (2147483647 : Int32)) % (3 : Int32)) = (1 : Int32)
  ·
   have p9 : ∀ t, St p e below s₁ (mkF m 20 Ls1 []) t → S0 t := fun t k => p7 t (by
     show St p e below s₁ (mkF m 17 Ls1 [(.int (1 : Int32)), (.int ((i0 &&& (2147483647 : Int32)) % (3 : Int32)))]) t
     refine XS.icmpNo X0.here hx rfl (hb hby d1_17) rfl (teq g8).2 ?_
     exact k)
   obtain ⟨T10, X10, e10, st10⟩ := getS2 X0 hx hZ hown (host := "") (Or.inl (ww hw 22 rfl)) Via.refl e0 (Sa_NO.ext O0.2) (g := (mkF m 20 Ls1 [])) rfl (hb hby d1_20)
   have p11 : ∀ t, St p e below T10 (mkF m 23 Ls1 [(.ref a_NO)]) t → S0 t := fun t k => p9 t (st10 t k)
   obtain ⟨fs, hr, hrun, hended, hW, hsame⟩ := X10.leave (v := some (.ref a_NO)) (fun h => by rw [Bd.returns] at h; cases h)
   refine ⟨_, _, p11 _ ?_, hrun, hended, _, _, rfl, ?_, ⟨_, rfl⟩, hW, hsame.mono (by decide) (by decide)⟩
   · exact retOut X10 hx Bd.returns rfl (Or.inr (Or.inr (Or.inr (Or.inr ⟨rfl, rfl, rfl⟩)))) (hb hby d1_23) hr
   · show Q1_0 Z a_YES a_NO a_UNKNOWN i0 h0 n0 _ T10.heap _
     exact ⟨N0, e10, (Or.inr (Or.inl ⟨rfl, g3, g8⟩))⟩
  ·
   have p12 : ∀ t, St p e below s₁ (mkF m 24 Ls1 []) t → S0 t := fun t k => p7 t (by
     show St p e below s₁ (mkF m 17 Ls1 [(.int (1 : Int32)), (.int ((i0 &&& (2147483647 : Int32)) % (3 : Int32)))]) t
     refine XS.icmpYes X0.here hx rfl (pc0 := 17) (pc' := 24) rfl (hb hby d1_17) rfl (feq g8).2 (by decide) (by decide) ?_
     exact k)
   obtain ⟨T13, X13, e13, st13⟩ := getS2 X0 hx hZ hown (host := "") (Or.inl (ww hw 19 rfl)) Via.refl e0 (Sa_UNKNOWN.ext O0.2) (g := (mkF m 24 Ls1 [])) rfl (hb hby d1_24)
   have p14 : ∀ t, St p e below T13 (mkF m 27 Ls1 [(.ref a_UNKNOWN)]) t → S0 t := fun t k => p12 t (st13 t k)
   obtain ⟨fs, hr, hrun, hended, hW, hsame⟩ := X13.leave (v := some (.ref a_UNKNOWN)) (fun h => by rw [Bd.returns] at h; cases h)
   refine ⟨_, _, p14 _ ?_, hrun, hended, _, _, rfl, ?_, ⟨_, rfl⟩, hW, hsame.mono (by decide) (by decide)⟩
   · exact retOut X13 hx Bd.returns rfl (Or.inr (Or.inr (Or.inr (Or.inr ⟨rfl, rfl, rfl⟩)))) (hb hby d1_27) hr
   · show Q1_0 Z a_YES a_NO a_UNKNOWN i0 h0 n0 _ T13.heap _
     exact ⟨N0, e13, (Or.inr (Or.inr (⟨rfl, g3, g8⟩)))⟩
theorem pd0 : parseMethodDescriptor "(I)Lcom/example/bouncr/bouncr/analysis/Answer;" = some ⟨[.int], some (.object "com/example/bouncr/bouncr/analysis/Answer")⟩ := by decide +kernel
theorem ef2 (m : MethodId) (x0 : Addr) : entryFrame m #[(.ref x0)] 2 = mkF m 0 #[.val (.ref x0), .unset] [] := by first | (simp [entryFrame, mkF, argsToLocals, Value.category]; done) | rfl
theorem pn1 : plainName "com/example/bouncr/bouncr/analysis/Answer" = true := by first | (simp [plainName, overriddenIn]; done) | decide +kernel
theorem d2_0 : decode prog_2_method_4_code 0 = .ok (.aload_n 0, 1) := by decide +kernel
theorem d2_1 : decode prog_2_method_4_code 1 = .ok (.getstatic 3, 3) := by decide +kernel
theorem d2_4 : decode prog_2_method_4_code 4 = .ok (.if_acmp .ne 10, 3) := by decide +kernel
theorem d2_7 : decode prog_2_method_4_code 7 = .ok (.getstatic 7, 3) := by decide +kernel
theorem d2_10 : decode prog_2_method_4_code 10 = .ok (.astore_n 1, 1) := by decide +kernel
theorem d2_11 : decode prog_2_method_4_code 11 = .ok (.goto 21, 3) := by decide +kernel
theorem d2_32 : decode prog_2_method_4_code 32 = .ok (.aload_n 1, 1) := by decide +kernel
theorem d2_33 : decode prog_2_method_4_code 33 = .ok (.areturn, 1) := by decide +kernel
def Q2_1 (Z : State) (a_YES : Addr) (a_NO : Addr) (a_UNKNOWN : Addr) (h0 : Heap) (n0 : Nat) (v : Option Value) (h : Heap) (L : List Loc) : Prop := Fr n0 L ∧ h = h0 ∧ ((v = some (.ref a_NO)))
set_option maxRecDepth 65536 in
set_option maxHeartbeats 40000000 in
theorem rm2_1 (l : Launch) (Z : State) (a0 : Array Value) (hw : ∀ d ∈ tables_1, d.before a0 Z = true) (ws : List Jvm.Cond) (a_YES : Addr) (a_NO : Addr) (a_UNKNOWN : Addr) (h0 : Heap) (n0 : Nat) (O0 : Old Z n0 h0) (HE : Env1 Z a_YES a_NO a_UNKNOWN)  :
    MetFree l M1 (head1 (Jvm.Cond.code M1 prog_2_method_4_code 2 (some (.object "com/example/bouncr/bouncr/analysis/Answer")) :: ws) ({ frames := 0, cells := 0, slots := 0, locals := 0 } : Room)) (fun a U => a = #[(.ref a_YES)] ∧ Z.Warmed39 U.vm ∧ U.heap = h0) (fun _ _ _ _ _ => True) (fun _ U o U' => ∃ v L, o = .returned v ∧ Q2_1 Z a_YES a_NO a_UNKNOWN h0 n0 v U'.heap L ∧ FrameEnd U o U' L ({ frames := 0, cells := 0, slots := 0, locals := 0 } : Room).cells ({ frames := 0, cells := 0, slots := 0, locals := 0 } : Room).slots) := by
 refine MetFree.of_bodySF (plainFor_of_name pn1) hisR ?_
 intro p e s m args below meth c s₁ Bd hml0 hP hK
 obtain ⟨rfl, hZ, hh⟩ := hP
 have hx := Bd.exec
 have hby := Bd.bytes
 have hml : c.maxLocals = 2 := hml0
 have hown : s.vm.findClass "com/example/bouncr/bouncr/analysis/Answer" = some m.cls := findClass_of_methodNamed Bd.named
 have hnm := (name_of_methodNamed Bd.named Bd.method).1
 have X0 : Stand p l e ({ frames := 0, cells := 0, slots := 0, locals := 0 } : Room) s m #[(.ref a_YES)] below meth c s₁ [] 0 0 := Stand.of_body Bd
 have e0 : s₁.heap = h0 := by rw [← hh, Bd.state]; rfl
 have N0 := Fr.nil n0
 let S0 : State → Prop := fun t => Steps p.tables e below (s₁.setTop (entryFrame m #[(.ref a_YES)] 2)) t
 have p0 : ∀ t, St p e below s₁ (mkF m 0 #[.val (.ref a_YES), .unset] []) t → S0 t := fun t k => castTop (ef2 m a_YES) k
 have HE' := HE
 obtain ⟨Sa_YES, Ea_YES, Sa_NO, Ea_NO, Fa_NO_ordinal, Fa_YES_ordinal, Sa_UNKNOWN, Ea_UNKNOWN, Fa_UNKNOWN_ordinal⟩ := HE
 have p1 : ∀ t, St p e below s₁ (mkF m 1 #[.val (.ref a_YES), .unset] [(.ref a_YES)]) t → S0 t := fun t k => p0 t (by
   show St p e below s₁ (mkF m 0 #[.val (.ref a_YES), .unset] []) t
   refine XS.aloadN X0.here hx rfl (hb hby d2_0) rfl rfl ?_
   exact k)
 obtain ⟨T2, X2, e2, st2⟩ := getS2 X0 hx hZ hown (host := "") (Or.inl (ww hw 13 rfl)) Via.refl e0 (Sa_YES.ext O0.2) (g := (mkF m 1 #[.val (.ref a_YES), .unset] [(.ref a_YES)])) rfl (hb hby d2_1)
 have p3 : ∀ t, St p e below T2 (mkF m 4 #[.val (.ref a_YES), .unset] [(.ref a_YES), (.ref a_YES)]) t → S0 t := fun t k => p1 t (st2 t k)
 have p4 : ∀ t, St p e below T2 (mkF m 7 #[.val (.ref a_YES), .unset] []) t → S0 t := fun t k => p3 t (by
   show St p e below T2 (mkF m 4 #[.val (.ref a_YES), .unset] [(.ref a_YES), (.ref a_YES)]) t
   refine Jvm.RoadKit.acmp (g := (mkF m 4 #[.val (.ref a_YES), .unset] [(.ref a_YES), (.ref a_YES)])) X2 hx rfl rfl rfl (pc0 := 4) (pc' := 7) (same := true) rfl (hb hby d2_4) rfl (decide_eq_true rfl) (by decide) (by decide) ?_
   exact k)
 obtain ⟨T5, X5, e5, st5⟩ := getS2 X2 hx hZ hown (host := "") (Or.inl (ww hw 14 rfl)) Via.refl e2 (Sa_NO.ext O0.2) (g := (mkF m 7 #[.val (.ref a_YES), .unset] [])) rfl (hb hby d2_7)
 have p6 : ∀ t, St p e below T5 (mkF m 10 #[.val (.ref a_YES), .unset] [(.ref a_NO)]) t → S0 t := fun t k => p4 t (st5 t k)
 have p7 : ∀ t, St p e below T5 (mkF m 33 #[.val (.ref a_YES), .val (.ref a_NO)] [(.ref a_NO)]) t → S0 t := fun t k => p6 t (by
   show St p e below T5 (mkF m 10 #[.val (.ref a_YES), .unset] [(.ref a_NO)]) t
   refine XS.astoreN X5.here hx rfl (hb hby d2_10) rfl rfl (l' := #[.val (.ref a_YES), .val (.ref a_NO)]) rfl ?_
   show St p e below T5 (mkF m 11 #[.val (.ref a_YES), .val (.ref a_NO)] []) t
   refine XS.goto X5.here hx rfl (pc0 := 11) (pc' := 32) rfl (hb hby d2_11) (by decide) (by decide) ?_
   show St p e below T5 (mkF m 32 #[.val (.ref a_YES), .val (.ref a_NO)] []) t
   refine XS.aloadN X5.here hx rfl (hb hby d2_32) rfl rfl ?_
   exact k)
 obtain ⟨fs, hr, hrun, hended, hW, hsame⟩ := X5.leave (v := some (.ref a_NO)) (fun h => by rw [Bd.returns] at h; cases h)
 refine ⟨_, _, p7 _ ?_, hrun, hended, _, _, rfl, ?_, ⟨_, rfl⟩, hW, hsame.mono (by decide) (by decide)⟩
 · exact retOut X5 hx Bd.returns rfl (Or.inr (Or.inr (Or.inr (Or.inr ⟨rfl, rfl, rfl⟩)))) (hb hby d2_33) hr
 · show Q2_1 Z a_YES a_NO a_UNKNOWN h0 n0 _ T5.heap _
   exact ⟨N0, e5, rfl⟩
theorem pd1 : parseMethodDescriptor "()Lcom/example/bouncr/bouncr/analysis/Answer;" = some ⟨[], some (.object "com/example/bouncr/bouncr/analysis/Answer")⟩ := by decide +kernel
theorem d2_14 : decode prog_2_method_4_code 14 = .ok (.aload_n 0, 1) := by decide +kernel
theorem d2_15 : decode prog_2_method_4_code 15 = .ok (.getstatic 7, 3) := by decide +kernel
theorem d2_18 : decode prog_2_method_4_code 18 = .ok (.if_acmp .ne 10, 3) := by decide +kernel
theorem d2_21 : decode prog_2_method_4_code 21 = .ok (.getstatic 3, 3) := by decide +kernel
theorem d2_24 : decode prog_2_method_4_code 24 = .ok (.astore_n 1, 1) := by decide +kernel
theorem d2_25 : decode prog_2_method_4_code 25 = .ok (.goto 7, 3) := by decide +kernel
def Q2_2 (Z : State) (a_YES : Addr) (a_NO : Addr) (a_UNKNOWN : Addr) (h0 : Heap) (n0 : Nat) (v : Option Value) (h : Heap) (L : List Loc) : Prop := Fr n0 L ∧ h = h0 ∧ ((v = some (.ref a_YES)))
set_option maxRecDepth 65536 in
set_option maxHeartbeats 40000000 in
theorem rm2_2 (l : Launch) (Z : State) (a0 : Array Value) (hw : ∀ d ∈ tables_1, d.before a0 Z = true) (ws : List Jvm.Cond) (a_YES : Addr) (a_NO : Addr) (a_UNKNOWN : Addr) (h0 : Heap) (n0 : Nat) (O0 : Old Z n0 h0) (HE : Env1 Z a_YES a_NO a_UNKNOWN)  :
    MetFree l M1 (head1 (Jvm.Cond.code M1 prog_2_method_4_code 2 (some (.object "com/example/bouncr/bouncr/analysis/Answer")) :: ws) ({ frames := 0, cells := 0, slots := 0, locals := 0 } : Room)) (fun a U => a = #[(.ref a_NO)] ∧ Z.Warmed39 U.vm ∧ U.heap = h0) (fun _ _ _ _ _ => True) (fun _ U o U' => ∃ v L, o = .returned v ∧ Q2_2 Z a_YES a_NO a_UNKNOWN h0 n0 v U'.heap L ∧ FrameEnd U o U' L ({ frames := 0, cells := 0, slots := 0, locals := 0 } : Room).cells ({ frames := 0, cells := 0, slots := 0, locals := 0 } : Room).slots) := by
 refine MetFree.of_bodySF (plainFor_of_name pn1) hisR ?_
 intro p e s m args below meth c s₁ Bd hml0 hP hK
 obtain ⟨rfl, hZ, hh⟩ := hP
 have hx := Bd.exec
 have hby := Bd.bytes
 have hml : c.maxLocals = 2 := hml0
 have hown : s.vm.findClass "com/example/bouncr/bouncr/analysis/Answer" = some m.cls := findClass_of_methodNamed Bd.named
 have hnm := (name_of_methodNamed Bd.named Bd.method).1
 have X0 : Stand p l e ({ frames := 0, cells := 0, slots := 0, locals := 0 } : Room) s m #[(.ref a_NO)] below meth c s₁ [] 0 0 := Stand.of_body Bd
 have e0 : s₁.heap = h0 := by rw [← hh, Bd.state]; rfl
 have N0 := Fr.nil n0
 let S0 : State → Prop := fun t => Steps p.tables e below (s₁.setTop (entryFrame m #[(.ref a_NO)] 2)) t
 have p0 : ∀ t, St p e below s₁ (mkF m 0 #[.val (.ref a_NO), .unset] []) t → S0 t := fun t k => castTop (ef2 m a_NO) k
 have HE' := HE
 obtain ⟨Sa_YES, Ea_YES, Sa_NO, Ea_NO, Fa_NO_ordinal, Fa_YES_ordinal, Sa_UNKNOWN, Ea_UNKNOWN, Fa_UNKNOWN_ordinal⟩ := HE
 have p1 : ∀ t, St p e below s₁ (mkF m 1 #[.val (.ref a_NO), .unset] [(.ref a_NO)]) t → S0 t := fun t k => p0 t (by
   show St p e below s₁ (mkF m 0 #[.val (.ref a_NO), .unset] []) t
   refine XS.aloadN X0.here hx rfl (hb hby d2_0) rfl rfl ?_
   exact k)
 obtain ⟨T2, X2, e2, st2⟩ := getS2 X0 hx hZ hown (host := "") (Or.inl (ww hw 13 rfl)) Via.refl e0 (Sa_YES.ext O0.2) (g := (mkF m 1 #[.val (.ref a_NO), .unset] [(.ref a_NO)])) rfl (hb hby d2_1)
 have p3 : ∀ t, St p e below T2 (mkF m 4 #[.val (.ref a_NO), .unset] [(.ref a_YES), (.ref a_NO)]) t → S0 t := fun t k => p1 t (st2 t k)
 have p4 : ∀ t, St p e below T2 (mkF m 15 #[.val (.ref a_NO), .unset] [(.ref a_NO)]) t → S0 t := fun t k => p3 t (by
   show St p e below T2 (mkF m 4 #[.val (.ref a_NO), .unset] [(.ref a_YES), (.ref a_NO)]) t
   refine Jvm.RoadKit.acmp (g := (mkF m 4 #[.val (.ref a_NO), .unset] [(.ref a_YES), (.ref a_NO)])) X2 hx rfl rfl rfl (pc0 := 4) (pc' := 14) (same := false) rfl (hb hby d2_4) rfl (decide_eq_false fun q => (Fld.ne Fa_NO_ordinal Fa_YES_ordinal (fun q => absurd (Value.int.inj q) (by decide))) (Value.ref.inj q)) (by decide) (by decide) ?_
   show St p e below T2 (mkF m 14 #[.val (.ref a_NO), .unset] []) t
   refine XS.aloadN X2.here hx rfl (hb hby d2_14) rfl rfl ?_
   exact k)
 obtain ⟨T5, X5, e5, st5⟩ := getS2 X2 hx hZ hown (host := "") (Or.inl (ww hw 14 rfl)) Via.refl e2 (Sa_NO.ext O0.2) (g := (mkF m 15 #[.val (.ref a_NO), .unset] [(.ref a_NO)])) rfl (hb hby d2_15)
 have p6 : ∀ t, St p e below T5 (mkF m 18 #[.val (.ref a_NO), .unset] [(.ref a_NO), (.ref a_NO)]) t → S0 t := fun t k => p4 t (st5 t k)
 have p7 : ∀ t, St p e below T5 (mkF m 21 #[.val (.ref a_NO), .unset] []) t → S0 t := fun t k => p6 t (by
   show St p e below T5 (mkF m 18 #[.val (.ref a_NO), .unset] [(.ref a_NO), (.ref a_NO)]) t
   refine Jvm.RoadKit.acmp (g := (mkF m 18 #[.val (.ref a_NO), .unset] [(.ref a_NO), (.ref a_NO)])) X5 hx rfl rfl rfl (pc0 := 18) (pc' := 21) (same := true) rfl (hb hby d2_18) rfl (decide_eq_true rfl) (by decide) (by decide) ?_
   exact k)
 obtain ⟨T8, X8, e8, st8⟩ := getS2 X5 hx hZ hown (host := "") (Or.inl (ww hw 13 rfl)) Via.refl e5 (Sa_YES.ext O0.2) (g := (mkF m 21 #[.val (.ref a_NO), .unset] [])) rfl (hb hby d2_21)
 have p9 : ∀ t, St p e below T8 (mkF m 24 #[.val (.ref a_NO), .unset] [(.ref a_YES)]) t → S0 t := fun t k => p7 t (st8 t k)
 have p10 : ∀ t, St p e below T8 (mkF m 33 #[.val (.ref a_NO), .val (.ref a_YES)] [(.ref a_YES)]) t → S0 t := fun t k => p9 t (by
   show St p e below T8 (mkF m 24 #[.val (.ref a_NO), .unset] [(.ref a_YES)]) t
   refine XS.astoreN X8.here hx rfl (hb hby d2_24) rfl rfl (l' := #[.val (.ref a_NO), .val (.ref a_YES)]) rfl ?_
   show St p e below T8 (mkF m 25 #[.val (.ref a_NO), .val (.ref a_YES)] []) t
   refine XS.goto X8.here hx rfl (pc0 := 25) (pc' := 32) rfl (hb hby d2_25) (by decide) (by decide) ?_
   show St p e below T8 (mkF m 32 #[.val (.ref a_NO), .val (.ref a_YES)] []) t
   refine XS.aloadN X8.here hx rfl (hb hby d2_32) rfl rfl ?_
   exact k)
 obtain ⟨fs, hr, hrun, hended, hW, hsame⟩ := X8.leave (v := some (.ref a_YES)) (fun h => by rw [Bd.returns] at h; cases h)
 refine ⟨_, _, p10 _ ?_, hrun, hended, _, _, rfl, ?_, ⟨_, rfl⟩, hW, hsame.mono (by decide) (by decide)⟩
 · exact retOut X8 hx Bd.returns rfl (Or.inr (Or.inr (Or.inr (Or.inr ⟨rfl, rfl, rfl⟩)))) (hb hby d2_33) hr
 · show Q2_2 Z a_YES a_NO a_UNKNOWN h0 n0 _ T8.heap _
   exact ⟨N0, e8, rfl⟩
theorem ef3 (m : MethodId) (x0 : Int32) : entryFrame m #[(.int x0)] 1 = mkF m 0 #[.val (.int x0)] [] := by first | (simp [entryFrame, mkF, argsToLocals, Value.category]; done) | rfl
theorem d3_0 : decode prog_2_method_5_code 0 = .ok (.iload_n 0, 1) := by decide +kernel
theorem d3_1 : decode prog_2_method_5_code 1 = .ok (.ifCond .eq 9, 3) := by decide +kernel
theorem d3_10 : decode prog_2_method_5_code 10 = .ok (.getstatic 7, 3) := by decide +kernel
theorem d3_13 : decode prog_2_method_5_code 13 = .ok (.areturn, 1) := by decide +kernel
def Q3_3 (Z : State) (a_YES : Addr) (a_NO : Addr) (a_UNKNOWN : Addr) (h0 : Heap) (n0 : Nat) (v : Option Value) (h : Heap) (L : List Loc) : Prop := Fr n0 L ∧ h = h0 ∧ ((v = some (.ref a_NO)))
set_option maxRecDepth 65536 in
set_option maxHeartbeats 40000000 in
theorem rm3_3 (l : Launch) (Z : State) (a0 : Array Value) (hw : ∀ d ∈ tables_1, d.before a0 Z = true) (ws : List Jvm.Cond) (a_YES : Addr) (a_NO : Addr) (a_UNKNOWN : Addr) (h0 : Heap) (n0 : Nat) (O0 : Old Z n0 h0) (HE : Env1 Z a_YES a_NO a_UNKNOWN)  :
    MetFree l M2 (head1 (Jvm.Cond.code M2 prog_2_method_5_code 1 (some (.object "com/example/bouncr/bouncr/analysis/Answer")) :: ws) ({ frames := 0, cells := 0, slots := 0, locals := 0 } : Room)) (fun a U => a = #[(.int (0 : Int32))] ∧ Z.Warmed39 U.vm ∧ U.heap = h0) (fun _ _ _ _ _ => True) (fun _ U o U' => ∃ v L, o = .returned v ∧ Q3_3 Z a_YES a_NO a_UNKNOWN h0 n0 v U'.heap L ∧ FrameEnd U o U' L ({ frames := 0, cells := 0, slots := 0, locals := 0 } : Room).cells ({ frames := 0, cells := 0, slots := 0, locals := 0 } : Room).slots) := by
 refine MetFree.of_bodySF (plainFor_of_name pn1) hisR ?_
 intro p e s m args below meth c s₁ Bd hml0 hP hK
 obtain ⟨rfl, hZ, hh⟩ := hP
 have hx := Bd.exec
 have hby := Bd.bytes
 have hml : c.maxLocals = 1 := hml0
 have hown : s.vm.findClass "com/example/bouncr/bouncr/analysis/Answer" = some m.cls := findClass_of_methodNamed Bd.named
 have hnm := (name_of_methodNamed Bd.named Bd.method).1
 have X0 : Stand p l e ({ frames := 0, cells := 0, slots := 0, locals := 0 } : Room) s m #[(.int (0 : Int32))] below meth c s₁ [] 0 0 := Stand.of_body Bd
 have e0 : s₁.heap = h0 := by rw [← hh, Bd.state]; rfl
 have N0 := Fr.nil n0
 let S0 : State → Prop := fun t => Steps p.tables e below (s₁.setTop (entryFrame m #[(.int (0 : Int32))] 1)) t
 have p0 : ∀ t, St p e below s₁ (mkF m 0 #[.val (.int (0 : Int32))] []) t → S0 t := fun t k => castTop (ef3 m (0 : Int32)) k
 have HE' := HE
 obtain ⟨Sa_YES, Ea_YES, Sa_NO, Ea_NO, Fa_NO_ordinal, Fa_YES_ordinal, Sa_UNKNOWN, Ea_UNKNOWN, Fa_UNKNOWN_ordinal⟩ := HE
 have p1 : ∀ t, St p e below s₁ (mkF m 10 #[.val (.int (0 : Int32))] []) t → S0 t := fun t k => p0 t (by
   show St p e below s₁ (mkF m 0 #[.val (.int (0 : Int32))] []) t
   refine XS.iloadN X0.here hx rfl (hb hby d3_0) rfl ?_
   show St p e below s₁ (mkF m 1 #[.val (.int (0 : Int32))] [(.int (0 : Int32))]) t
   refine XS.ifYes X0.here hx rfl (pc0 := 1) (pc' := 10) rfl (hb hby d3_1) rfl ((if0 _ _).trans (teq (by decide : (0 : Int32) = (0 : Int32))).1) (by decide) (by decide) ?_
   exact k)
 obtain ⟨T2, X2, e2, st2⟩ := getS2 X0 hx hZ hown (host := "") (Or.inl (ww hw 14 rfl)) Via.refl e0 (Sa_NO.ext O0.2) (g := (mkF m 10 #[.val (.int (0 : Int32))] [])) rfl (hb hby d3_10)
 have p3 : ∀ t, St p e below T2 (mkF m 13 #[.val (.int (0 : Int32))] [(.ref a_NO)]) t → S0 t := fun t k => p1 t (st2 t k)
 obtain ⟨fs, hr, hrun, hended, hW, hsame⟩ := X2.leave (v := some (.ref a_NO)) (fun h => by rw [Bd.returns] at h; cases h)
 refine ⟨_, _, p3 _ ?_, hrun, hended, _, _, rfl, ?_, ⟨_, rfl⟩, hW, hsame.mono (by decide) (by decide)⟩
 · exact retOut X2 hx Bd.returns rfl (Or.inr (Or.inr (Or.inr (Or.inr ⟨rfl, rfl, rfl⟩)))) (hb hby d3_13) hr
 · show Q3_3 Z a_YES a_NO a_UNKNOWN h0 n0 _ T2.heap _
   exact ⟨N0, e2, rfl⟩
theorem pd2 : parseMethodDescriptor "(Z)Lcom/example/bouncr/bouncr/analysis/Answer;" = some ⟨[.boolean], some (.object "com/example/bouncr/bouncr/analysis/Answer")⟩ := by decide +kernel
theorem d3_4 : decode prog_2_method_5_code 4 = .ok (.getstatic 3, 3) := by decide +kernel
theorem d3_7 : decode prog_2_method_5_code 7 = .ok (.goto 6, 3) := by decide +kernel
def Q3_4 (Z : State) (a_YES : Addr) (a_NO : Addr) (a_UNKNOWN : Addr) (h0 : Heap) (n0 : Nat) (v : Option Value) (h : Heap) (L : List Loc) : Prop := Fr n0 L ∧ h = h0 ∧ ((v = some (.ref a_YES)))
set_option maxRecDepth 65536 in
set_option maxHeartbeats 40000000 in
theorem rm3_4 (l : Launch) (Z : State) (a0 : Array Value) (hw : ∀ d ∈ tables_1, d.before a0 Z = true) (ws : List Jvm.Cond) (a_YES : Addr) (a_NO : Addr) (a_UNKNOWN : Addr) (h0 : Heap) (n0 : Nat) (O0 : Old Z n0 h0) (HE : Env1 Z a_YES a_NO a_UNKNOWN)  :
    MetFree l M2 (head1 (Jvm.Cond.code M2 prog_2_method_5_code 1 (some (.object "com/example/bouncr/bouncr/analysis/Answer")) :: ws) ({ frames := 0, cells := 0, slots := 0, locals := 0 } : Room)) (fun a U => a = #[(.int (1 : Int32))] ∧ Z.Warmed39 U.vm ∧ U.heap = h0) (fun _ _ _ _ _ => True) (fun _ U o U' => ∃ v L, o = .returned v ∧ Q3_4 Z a_YES a_NO a_UNKNOWN h0 n0 v U'.heap L ∧ FrameEnd U o U' L ({ frames := 0, cells := 0, slots := 0, locals := 0 } : Room).cells ({ frames := 0, cells := 0, slots := 0, locals := 0 } : Room).slots) := by
 refine MetFree.of_bodySF (plainFor_of_name pn1) hisR ?_
 intro p e s m args below meth c s₁ Bd hml0 hP hK
 obtain ⟨rfl, hZ, hh⟩ := hP
 have hx := Bd.exec
 have hby := Bd.bytes
 have hml : c.maxLocals = 1 := hml0
 have hown : s.vm.findClass "com/example/bouncr/bouncr/analysis/Answer" = some m.cls := findClass_of_methodNamed Bd.named
 have hnm := (name_of_methodNamed Bd.named Bd.method).1
 have X0 : Stand p l e ({ frames := 0, cells := 0, slots := 0, locals := 0 } : Room) s m #[(.int (1 : Int32))] below meth c s₁ [] 0 0 := Stand.of_body Bd
 have e0 : s₁.heap = h0 := by rw [← hh, Bd.state]; rfl
 have N0 := Fr.nil n0
 let S0 : State → Prop := fun t => Steps p.tables e below (s₁.setTop (entryFrame m #[(.int (1 : Int32))] 1)) t
 have p0 : ∀ t, St p e below s₁ (mkF m 0 #[.val (.int (1 : Int32))] []) t → S0 t := fun t k => castTop (ef3 m (1 : Int32)) k
 have HE' := HE
 obtain ⟨Sa_YES, Ea_YES, Sa_NO, Ea_NO, Fa_NO_ordinal, Fa_YES_ordinal, Sa_UNKNOWN, Ea_UNKNOWN, Fa_UNKNOWN_ordinal⟩ := HE
 have p1 : ∀ t, St p e below s₁ (mkF m 4 #[.val (.int (1 : Int32))] []) t → S0 t := fun t k => p0 t (by
   show St p e below s₁ (mkF m 0 #[.val (.int (1 : Int32))] []) t
   refine XS.iloadN X0.here hx rfl (hb hby d3_0) rfl ?_
   show St p e below s₁ (mkF m 1 #[.val (.int (1 : Int32))] [(.int (1 : Int32))]) t
   refine XS.ifNo X0.here hx rfl (hb hby d3_1) rfl ((if0 _ _).trans (feq (by decide : ¬ ((1 : Int32) = (0 : Int32)))).1) ?_
   exact k)
 obtain ⟨T2, X2, e2, st2⟩ := getS2 X0 hx hZ hown (host := "") (Or.inl (ww hw 13 rfl)) Via.refl e0 (Sa_YES.ext O0.2) (g := (mkF m 4 #[.val (.int (1 : Int32))] [])) rfl (hb hby d3_4)
 have p3 : ∀ t, St p e below T2 (mkF m 7 #[.val (.int (1 : Int32))] [(.ref a_YES)]) t → S0 t := fun t k => p1 t (st2 t k)
 have p4 : ∀ t, St p e below T2 (mkF m 13 #[.val (.int (1 : Int32))] [(.ref a_YES)]) t → S0 t := fun t k => p3 t (by
   show St p e below T2 (mkF m 7 #[.val (.int (1 : Int32))] [(.ref a_YES)]) t
   refine XS.goto X2.here hx rfl (pc0 := 7) (pc' := 13) rfl (hb hby d3_7) (by decide) (by decide) ?_
   exact k)
 obtain ⟨fs, hr, hrun, hended, hW, hsame⟩ := X2.leave (v := some (.ref a_YES)) (fun h => by rw [Bd.returns] at h; cases h)
 refine ⟨_, _, p4 _ ?_, hrun, hended, _, _, rfl, ?_, ⟨_, rfl⟩, hW, hsame.mono (by decide) (by decide)⟩
 · exact retOut X2 hx Bd.returns rfl (Or.inr (Or.inr (Or.inr (Or.inr ⟨rfl, rfl, rfl⟩)))) (hb hby d3_13) hr
 · show Q3_4 Z a_YES a_NO a_UNKNOWN h0 n0 _ T2.heap _
   exact ⟨N0, e2, rfl⟩
theorem d2_28 : decode prog_2_method_4_code 28 = .ok (.getstatic 10, 3) := by decide +kernel
theorem d2_31 : decode prog_2_method_4_code 31 = .ok (.astore_n 1, 1) := by decide +kernel
def Q2_5 (Z : State) (a_YES : Addr) (a_NO : Addr) (a_UNKNOWN : Addr) (h0 : Heap) (n0 : Nat) (v : Option Value) (h : Heap) (L : List Loc) : Prop := Fr n0 L ∧ h = h0 ∧ ((v = some (.ref a_UNKNOWN)))
set_option maxRecDepth 65536 in
set_option maxHeartbeats 40000000 in
theorem rm2_5 (l : Launch) (Z : State) (a0 : Array Value) (hw : ∀ d ∈ tables_1, d.before a0 Z = true) (ws : List Jvm.Cond) (a_YES : Addr) (a_NO : Addr) (a_UNKNOWN : Addr) (h0 : Heap) (n0 : Nat) (O0 : Old Z n0 h0) (HE : Env1 Z a_YES a_NO a_UNKNOWN)  :
    MetFree l M1 (head1 (Jvm.Cond.code M1 prog_2_method_4_code 2 (some (.object "com/example/bouncr/bouncr/analysis/Answer")) :: ws) ({ frames := 0, cells := 0, slots := 0, locals := 0 } : Room)) (fun a U => a = #[(.ref a_UNKNOWN)] ∧ Z.Warmed39 U.vm ∧ U.heap = h0) (fun _ _ _ _ _ => True) (fun _ U o U' => ∃ v L, o = .returned v ∧ Q2_5 Z a_YES a_NO a_UNKNOWN h0 n0 v U'.heap L ∧ FrameEnd U o U' L ({ frames := 0, cells := 0, slots := 0, locals := 0 } : Room).cells ({ frames := 0, cells := 0, slots := 0, locals := 0 } : Room).slots) := by
 refine MetFree.of_bodySF (plainFor_of_name pn1) hisR ?_
 intro p e s m args below meth c s₁ Bd hml0 hP hK
 obtain ⟨rfl, hZ, hh⟩ := hP
 have hx := Bd.exec
 have hby := Bd.bytes
 have hml : c.maxLocals = 2 := hml0
 have hown : s.vm.findClass "com/example/bouncr/bouncr/analysis/Answer" = some m.cls := findClass_of_methodNamed Bd.named
 have hnm := (name_of_methodNamed Bd.named Bd.method).1
 have X0 : Stand p l e ({ frames := 0, cells := 0, slots := 0, locals := 0 } : Room) s m #[(.ref a_UNKNOWN)] below meth c s₁ [] 0 0 := Stand.of_body Bd
 have e0 : s₁.heap = h0 := by rw [← hh, Bd.state]; rfl
 have N0 := Fr.nil n0
 let S0 : State → Prop := fun t => Steps p.tables e below (s₁.setTop (entryFrame m #[(.ref a_UNKNOWN)] 2)) t
 have p0 : ∀ t, St p e below s₁ (mkF m 0 #[.val (.ref a_UNKNOWN), .unset] []) t → S0 t := fun t k => castTop (ef2 m a_UNKNOWN) k
 have HE' := HE
 obtain ⟨Sa_YES, Ea_YES, Sa_NO, Ea_NO, Fa_NO_ordinal, Fa_YES_ordinal, Sa_UNKNOWN, Ea_UNKNOWN, Fa_UNKNOWN_ordinal⟩ := HE
 have p1 : ∀ t, St p e below s₁ (mkF m 1 #[.val (.ref a_UNKNOWN), .unset] [(.ref a_UNKNOWN)]) t → S0 t := fun t k => p0 t (by
   show St p e below s₁ (mkF m 0 #[.val (.ref a_UNKNOWN), .unset] []) t
   refine XS.aloadN X0.here hx rfl (hb hby d2_0) rfl rfl ?_
   exact k)
 obtain ⟨T2, X2, e2, st2⟩ := getS2 X0 hx hZ hown (host := "") (Or.inl (ww hw 13 rfl)) Via.refl e0 (Sa_YES.ext O0.2) (g := (mkF m 1 #[.val (.ref a_UNKNOWN), .unset] [(.ref a_UNKNOWN)])) rfl (hb hby d2_1)
 have p3 : ∀ t, St p e below T2 (mkF m 4 #[.val (.ref a_UNKNOWN), .unset] [(.ref a_YES), (.ref a_UNKNOWN)]) t → S0 t := fun t k => p1 t (st2 t k)
 have p4 : ∀ t, St p e below T2 (mkF m 15 #[.val (.ref a_UNKNOWN), .unset] [(.ref a_UNKNOWN)]) t → S0 t := fun t k => p3 t (by
   show St p e below T2 (mkF m 4 #[.val (.ref a_UNKNOWN), .unset] [(.ref a_YES), (.ref a_UNKNOWN)]) t
   refine Jvm.RoadKit.acmp (g := (mkF m 4 #[.val (.ref a_UNKNOWN), .unset] [(.ref a_YES), (.ref a_UNKNOWN)])) X2 hx rfl rfl rfl (pc0 := 4) (pc' := 14) (same := false) rfl (hb hby d2_4) rfl (decide_eq_false fun q => (Fld.ne Fa_UNKNOWN_ordinal Fa_YES_ordinal (fun q => absurd (Value.int.inj q) (by decide))) (Value.ref.inj q)) (by decide) (by decide) ?_
   show St p e below T2 (mkF m 14 #[.val (.ref a_UNKNOWN), .unset] []) t
   refine XS.aloadN X2.here hx rfl (hb hby d2_14) rfl rfl ?_
   exact k)
 obtain ⟨T5, X5, e5, st5⟩ := getS2 X2 hx hZ hown (host := "") (Or.inl (ww hw 14 rfl)) Via.refl e2 (Sa_NO.ext O0.2) (g := (mkF m 15 #[.val (.ref a_UNKNOWN), .unset] [(.ref a_UNKNOWN)])) rfl (hb hby d2_15)
 have p6 : ∀ t, St p e below T5 (mkF m 18 #[.val (.ref a_UNKNOWN), .unset] [(.ref a_NO), (.ref a_UNKNOWN)]) t → S0 t := fun t k => p4 t (st5 t k)
 have p7 : ∀ t, St p e below T5 (mkF m 28 #[.val (.ref a_UNKNOWN), .unset] []) t → S0 t := fun t k => p6 t (by
   show St p e below T5 (mkF m 18 #[.val (.ref a_UNKNOWN), .unset] [(.ref a_NO), (.ref a_UNKNOWN)]) t
   refine Jvm.RoadKit.acmp (g := (mkF m 18 #[.val (.ref a_UNKNOWN), .unset] [(.ref a_NO), (.ref a_UNKNOWN)])) X5 hx rfl rfl rfl (pc0 := 18) (pc' := 28) (same := false) rfl (hb hby d2_18) rfl (decide_eq_false fun q => (Fld.ne Fa_UNKNOWN_ordinal Fa_NO_ordinal (fun q => absurd (Value.int.inj q) (by decide))) (Value.ref.inj q)) (by decide) (by decide) ?_
   exact k)
 obtain ⟨T8, X8, e8, st8⟩ := getS2 X5 hx hZ hown (host := "") (Or.inl (ww hw 21 rfl)) Via.refl e5 (Sa_UNKNOWN.ext O0.2) (g := (mkF m 28 #[.val (.ref a_UNKNOWN), .unset] [])) rfl (hb hby d2_28)
 have p9 : ∀ t, St p e below T8 (mkF m 31 #[.val (.ref a_UNKNOWN), .unset] [(.ref a_UNKNOWN)]) t → S0 t := fun t k => p7 t (st8 t k)
 have p10 : ∀ t, St p e below T8 (mkF m 33 #[.val (.ref a_UNKNOWN), .val (.ref a_UNKNOWN)] [(.ref a_UNKNOWN)]) t → S0 t := fun t k => p9 t (by
   show St p e below T8 (mkF m 31 #[.val (.ref a_UNKNOWN), .unset] [(.ref a_UNKNOWN)]) t
   refine XS.astoreN X8.here hx rfl (hb hby d2_31) rfl rfl (l' := #[.val (.ref a_UNKNOWN), .val (.ref a_UNKNOWN)]) rfl ?_
   show St p e below T8 (mkF m 32 #[.val (.ref a_UNKNOWN), .val (.ref a_UNKNOWN)] []) t
   refine XS.aloadN X8.here hx rfl (hb hby d2_32) rfl rfl ?_
   exact k)
 obtain ⟨fs, hr, hrun, hended, hW, hsame⟩ := X8.leave (v := some (.ref a_UNKNOWN)) (fun h => by rw [Bd.returns] at h; cases h)
 refine ⟨_, _, p10 _ ?_, hrun, hended, _, _, rfl, ?_, ⟨_, rfl⟩, hW, hsame.mono (by decide) (by decide)⟩
 · exact retOut X8 hx Bd.returns rfl (Or.inr (Or.inr (Or.inr (Or.inr ⟨rfl, rfl, rfl⟩)))) (hb hby d2_33) hr
 · show Q2_5 Z a_YES a_NO a_UNKNOWN h0 n0 _ T8.heap _
   exact ⟨N0, e8, rfl⟩
def Q0 (Z : State) (a_YES : Addr) (a_NO : Addr) (a_UNKNOWN : Addr) (i0 : Int32) (i1 : Int32) (h0 : Heap) (n0 : Nat) (v : Option Value) (h : Heap) (L : List Loc) : Prop := v = some (.int 1) ∧ Fr n0 L
set_option maxRecDepth 65536 in
set_option maxHeartbeats 40000000 in
theorem rm0 (l : Launch) (Z : State) (a0 : Array Value) (hw : ∀ d ∈ tables_1, d.before a0 Z = true) (ws : List Jvm.Cond) (a_YES : Addr) (a_NO : Addr) (a_UNKNOWN : Addr) (i0 : Int32) (i1 : Int32) (h0 : Heap) (n0 : Nat) (O0 : Old Z n0 h0) (HE : Env1 Z a_YES a_NO a_UNKNOWN)  :
    MetFree l x (head1 (Jvm.Cond.code x code maxLocals ret :: ws) room_1) (fun a U => a = #[(.int i0), (.int i1)] ∧ Z.Warmed39 U.vm ∧ U.heap = h0) (fun _ _ _ _ _ => True) (fun _ U o U' => ∃ v L, o = .returned v ∧ Q0 Z a_YES a_NO a_UNKNOWN i0 i1 h0 n0 v U'.heap L ∧ FrameEnd U o U' L 0 0) := by
 refine MetFree.of_bodySF (plainFor_of_name pn0) hisR ?_
 intro p e s m args below meth c s₁ Bd hml0 hP hK
 obtain ⟨rfl, hZ, hh⟩ := hP
 have hx := Bd.exec
 have hby := Bd.bytes
 have hml : c.maxLocals = 8 := hml0
 have hown : s.vm.findClass "com/example/bouncr/bouncr/analysis/AnswerNotPinLaw" = some m.cls := findClass_of_methodNamed Bd.named
 have hnm := (name_of_methodNamed Bd.named Bd.method).1
 have X0 : Stand p l e room_1 s m #[(.int i0), (.int i1)] below meth c s₁ [] 0 0 := Stand.of_body Bd
 have e0 : s₁.heap = h0 := by rw [← hh, Bd.state]; rfl
 have N0 := Fr.nil n0
 let S0 : State → Prop := fun t => Steps p.tables e below (s₁.setTop (entryFrame m #[(.int i0), (.int i1)] maxLocals)) t
 let Ls1 : Array Slot := #[.val (.int i0), .val (.int i1), .unset, .unset, .unset, .unset, .unset, .unset]
 have p0 : ∀ t, St p e below s₁ (mkF m 0 Ls1 []) t → S0 t := fun t k => castTop (ef0 m i0 i1) k
 have HE' := HE
 obtain ⟨Sa_YES, Ea_YES, Sa_NO, Ea_NO, Fa_NO_ordinal, Fa_YES_ordinal, Sa_UNKNOWN, Ea_UNKNOWN, Fa_UNKNOWN_ordinal⟩ := HE
 have p2 : ∀ t, St p e below s₁ (mkF m 1 Ls1 [(.int i0)]) t → S0 t := fun t k => p0 t (by
   show St p e below s₁ (mkF m 0 Ls1 []) t
   refine XS.iloadN X0.here hx rfl (hb hby at_0) rfl ?_
   exact k)
 obtain ⟨_, _, ⟨Tc3, Lc3, kc3, nc3⟩, -, Xc3, ⟨Lcc3, hQc3, lc3, yc3, zc3⟩, stc3⟩ := Jvm.LawKit.callS X0 hx (y := M0) hown (mvT hZ (ww hw 0 rfl)) (mvT hZ (ww hw 1 rfl)) (mvT hZ (ww hw 2 rfl)) (mvT hZ (ww hw 3 rfl)) (by decide) (backOf (W := 0) (rm1_0 l Z a0 hw [] a_YES a_NO a_UNKNOWN i0 h0 n0 O0 HE' ) hZ (ww hw 3 rfl) (ww hw 2 rfl) (by decide) (by decide)) (g := (mkF m 1 Ls1 [(.int i0)])) rfl (by rw [hml]; rfl) (argsL := [(.int i0)]) (rest := []) (lenOf pd0 rfl) rfl (by show 2 * 0 + _ ≤ _; exact Nat.le_of_eq rfl) (hb hby at_1) (fun _ _ => ⟨rfl, e0, (by decide : 0 + 0 ≤ _), (by decide : 0 + 0 ≤ _)⟩)
 dsimp only [Pt.U, Pt.locs, Pt.cells, Pt.slots] at Xc3 lc3 yc3 zc3 stc3 hQc3
 subst lc3 yc3 zc3
 obtain ⟨Nqc3, ec3, hAc3⟩ := hQc3
 have Nc3 := Fr.app N0 Nqc3
 rcases hAc3 with ⟨rfl, g4⟩ | ⟨rfl, g5, g6⟩ | ⟨rfl, g7, g8⟩
 ·
  have p9 : ∀ t, St p e below Tc3 (mkF m 4 Ls1 [(.ref a_YES)]) t → S0 t := fun t k => p2 t (stc3 t k)
  let Ls10 : Array Slot := #[.val (.int i0), .val (.int i1), .val (.ref a_YES), .unset, .unset, .unset, .unset, .unset]
  have p11 : ∀ t, St p e below Tc3 (mkF m 8 Ls10 [(.int (i1 &&& (1 : Int32)))]) t → S0 t := fun t k => p9 t (by
    show St p e below Tc3 (mkF m 4 Ls1 [(.ref a_YES)]) t
    refine XS.astoreN Xc3.here hx rfl (hb hby at_4) rfl rfl (l' := Ls10) rfl ?_
    show St p e below Tc3 (mkF m 5 Ls10 []) t
    refine XS.iloadN Xc3.here hx rfl (hb hby at_5) rfl ?_
    show St p e below Tc3 (mkF m 6 Ls10 [(.int i1)]) t
    refine XT.iconstV Xc3.here hx rfl (1 : Int32) (hb hby at_6) (by decide) ?_
    show St p e below Tc3 (mkF m 7 Ls10 [(.int (1 : Int32)), (.int i1)]) t
    refine XS.iand Xc3.here hx rfl (hb hby at_7) rfl ?_
    exact k)
  by_cases g12 : (i1 &&& (1 : Int32)) = (0 : Int32)
  ·
   let Ls13 : Array Slot := #[.val (.int i0), .val (.int i1), .val (.ref a_YES), .val (.int (0 : Int32)), .unset, .unset, .unset, .unset]
   have p14 : ∀ t, St p e below Tc3 (mkF m 18 Ls13 [(.ref a_YES)]) t → S0 t := fun t k => p11 t (by
     show St p e below Tc3 (mkF m 8 Ls10 [(.int (i1 &&& (1 : Int32)))]) t
     refine XS.ifYes Xc3.here hx rfl (pc0 := 8) (pc' := 15) rfl (hb hby at_8) rfl ((if0 _ _).trans (teq g12).1) (by decide) (by decide) ?_
     show St p e below Tc3 (mkF m 15 Ls10 []) t
     refine XT.iconstV Xc3.here hx rfl (0 : Int32) (hb hby at_15) (by decide) ?_
     show St p e below Tc3 (mkF m 16 Ls10 [(.int (0 : Int32))]) t
     refine XS.istoreN Xc3.here hx rfl (hb hby at_16) rfl (l' := Ls13) rfl ?_
     show St p e below Tc3 (mkF m 17 Ls13 []) t
     refine XS.aloadN Xc3.here hx rfl (hb hby at_17) rfl rfl ?_
     exact k)
   obtain ⟨cqc15, kqc15, qc15a, qc15b, qc15c⟩ := isOf hZ ec3 (Ea_YES.ext O0.2)
   obtain ⟨_, _, ⟨Tc15, Lc15, kc15, nc15⟩, -, Xc15, ⟨Lcc15, hQc15, lc15, yc15, zc15⟩, stc15⟩ := Xc3.virtualBack hx (y := M1) (z := M1) hown (mvT hZ (ww hw 8 rfl)) (mvT hZ (ww hw 9 rfl)) (notFace_of_selects (args := #[]) (mvT hZ (ww hw 11 rfl))) (mvT hZ (ww hw 11 rfl)) (mvT hZ (ww hw 10 rfl)) (by decide) (backOf (W := 0) (rm2_1 l Z a0 hw [] a_YES a_NO a_UNKNOWN h0 n0 O0 HE' ) hZ (ww hw 12 rfl) (ww hw 6 rfl) (by decide) (by decide)) qc15a qc15c (g := (mkF m 18 Ls13 [(.ref a_YES)])) rfl (by rw [hml]; rfl) (Steps.refl _) (argsL := []) (rest := []) (lenOf pd1 rfl) rfl (by show 2 * 0 + _ ≤ _; exact Nat.le_of_eq rfl) (hb hby at_18) (fun _ _ => ⟨rfl, ec3, (by decide : 0 + 0 ≤ _), (by decide : 0 + 0 ≤ _)⟩)
   dsimp only [Pt.U, Pt.locs, Pt.cells, Pt.slots] at Xc15 lc15 yc15 zc15 stc15 hQc15
   subst lc15 yc15 zc15
   obtain ⟨Nqc15, ec15, hAc15⟩ := hQc15
   have Nc15 := Fr.app Nc3 Nqc15
   obtain rfl := hAc15
   have p16 : ∀ t, St p e below Tc15 (mkF m 21 Ls13 [(.ref a_NO)]) t → S0 t := fun t k => p14 t (stc15.trans k)
   let Ls17 : Array Slot := #[.val (.int i0), .val (.int i1), .val (.ref a_YES), .val (.int (0 : Int32)), .val (.ref a_NO), .unset, .unset, .unset]
   have p18 : ∀ t, St p e below Tc15 (mkF m 25 Ls17 [(.ref a_NO)]) t → S0 t := fun t k => p16 t (by
     show St p e below Tc15 (mkF m 21 Ls13 [(.ref a_NO)]) t
     refine XS.astore Xc15.here hx rfl (hb hby at_21) rfl rfl (l' := Ls17) rfl ?_
     show St p e below Tc15 (mkF m 23 Ls17 []) t
     refine XS.aload Xc15.here hx rfl (hb hby at_23) rfl rfl ?_
     exact k)
   obtain ⟨cqc19, kqc19, qc19a, qc19b, qc19c⟩ := isOf hZ ec15 (Ea_NO.ext O0.2)
   obtain ⟨_, _, ⟨Tc19, Lc19, kc19, nc19⟩, -, Xc19, ⟨Lcc19, hQc19, lc19, yc19, zc19⟩, stc19⟩ := Xc15.virtualBack hx (y := M1) (z := M1) hown (mvT hZ (ww hw 8 rfl)) (mvT hZ (ww hw 9 rfl)) (notFace_of_selects (args := #[]) (mvT hZ (ww hw 11 rfl))) (mvT hZ (ww hw 11 rfl)) (mvT hZ (ww hw 10 rfl)) (by decide) (backOf (W := 0) (rm2_2 l Z a0 hw [] a_YES a_NO a_UNKNOWN h0 n0 O0 HE' ) hZ (ww hw 12 rfl) (ww hw 6 rfl) (by decide) (by decide)) qc19a qc19c (g := (mkF m 25 Ls17 [(.ref a_NO)])) rfl (by rw [hml]; rfl) (Steps.refl _) (argsL := []) (rest := []) (lenOf pd1 rfl) rfl (by show 2 * 0 + _ ≤ _; exact Nat.le_of_eq rfl) (hb hby at_25) (fun _ _ => ⟨rfl, ec15, (by decide : 0 + 0 ≤ _), (by decide : 0 + 0 ≤ _)⟩)
   dsimp only [Pt.U, Pt.locs, Pt.cells, Pt.slots] at Xc19 lc19 yc19 zc19 stc19 hQc19
   subst lc19 yc19 zc19
   obtain ⟨Nqc19, ec19, hAc19⟩ := hQc19
   have Nc19 := Fr.app Nc15 Nqc19
   obtain rfl := hAc19
   have p20 : ∀ t, St p e below Tc19 (mkF m 28 Ls17 [(.ref a_YES)]) t → S0 t := fun t k => p18 t (stc19.trans k)
   let Ls21 : Array Slot := #[.val (.int i0), .val (.int i1), .val (.ref a_YES), .val (.int (0 : Int32)), .val (.ref a_NO), .val (.int (1 : Int32)), .unset, .unset]
   have p22 : ∀ t, St p e below Tc19 (mkF m 40 Ls21 [(.int (0 : Int32))]) t → S0 t := fun t k => p20 t (by
     show St p e below Tc19 (mkF m 28 Ls17 [(.ref a_YES)]) t
     refine XS.aloadN Xc19.here hx rfl (hb hby at_28) rfl rfl ?_
     show St p e below Tc19 (mkF m 29 Ls17 [(.ref a_YES), (.ref a_YES)]) t
     refine Jvm.RoadKit.acmp (g := (mkF m 29 Ls17 [(.ref a_YES), (.ref a_YES)])) Xc19 hx rfl rfl rfl (pc0 := 29) (pc' := 32) (same := true) rfl (hb hby at_29) rfl (decide_eq_true rfl) (by decide) (by decide) ?_
     show St p e below Tc19 (mkF m 32 Ls17 []) t
     refine XT.iconstV Xc19.here hx rfl (1 : Int32) (hb hby at_32) (by decide) ?_
     show St p e below Tc19 (mkF m 33 Ls17 [(.int (1 : Int32))]) t
     refine XS.goto Xc19.here hx rfl (pc0 := 33) (pc' := 37) rfl (hb hby at_33) (by decide) (by decide) ?_
     show St p e below Tc19 (mkF m 37 Ls17 [(.int (1 : Int32))]) t
     refine XS.istore Xc19.here hx rfl (hb hby at_37) rfl (l' := Ls21) rfl ?_
     show St p e below Tc19 (mkF m 39 Ls21 []) t
     refine XS.iloadN Xc19.here hx rfl (hb hby at_39) rfl ?_
     exact k)
   obtain ⟨_, _, ⟨Tc23, Lc23, kc23, nc23⟩, -, Xc23, ⟨Lcc23, hQc23, lc23, yc23, zc23⟩, stc23⟩ := Jvm.LawKit.callS Xc19 hx (y := M2) hown (mvT hZ (ww hw 16 rfl)) (mvT hZ (ww hw 17 rfl)) (mvT hZ (ww hw 6 rfl)) (mvT hZ (ww hw 18 rfl)) (by decide) (backOf (W := 0) (rm3_3 l Z a0 hw [] a_YES a_NO a_UNKNOWN h0 n0 O0 HE' ) hZ (ww hw 18 rfl) (ww hw 6 rfl) (by decide) (by decide)) (g := (mkF m 40 Ls21 [(.int (0 : Int32))])) rfl (by rw [hml]; rfl) (argsL := [(.int (0 : Int32))]) (rest := []) (lenOf pd2 rfl) rfl (by show 2 * 0 + _ ≤ _; exact Nat.le_of_eq rfl) (hb hby at_40) (fun _ _ => ⟨rfl, ec19, (by decide : 0 + 0 ≤ _), (by decide : 0 + 0 ≤ _)⟩)
   dsimp only [Pt.U, Pt.locs, Pt.cells, Pt.slots] at Xc23 lc23 yc23 zc23 stc23 hQc23
   subst lc23 yc23 zc23
   obtain ⟨Nqc23, ec23, hAc23⟩ := hQc23
   have Nc23 := Fr.app Nc19 Nqc23
   obtain rfl := hAc23
   have p24 : ∀ t, St p e below Tc23 (mkF m 43 Ls21 [(.ref a_NO)]) t → S0 t := fun t k => p22 t (stc23 t k)
   obtain ⟨cqc25, kqc25, qc25a, qc25b, qc25c⟩ := isOf hZ ec23 (Ea_NO.ext O0.2)
   obtain ⟨_, _, ⟨Tc25, Lc25, kc25, nc25⟩, -, Xc25, ⟨Lcc25, hQc25, lc25, yc25, zc25⟩, stc25⟩ := Xc23.virtualBack hx (y := M1) (z := M1) hown (mvT hZ (ww hw 8 rfl)) (mvT hZ (ww hw 9 rfl)) (notFace_of_selects (args := #[]) (mvT hZ (ww hw 11 rfl))) (mvT hZ (ww hw 11 rfl)) (mvT hZ (ww hw 10 rfl)) (by decide) (backOf (W := 0) (rm2_2 l Z a0 hw [] a_YES a_NO a_UNKNOWN h0 n0 O0 HE' ) hZ (ww hw 12 rfl) (ww hw 6 rfl) (by decide) (by decide)) qc25a qc25c (g := (mkF m 43 Ls21 [(.ref a_NO)])) rfl (by rw [hml]; rfl) (Steps.refl _) (argsL := []) (rest := []) (lenOf pd1 rfl) rfl (by show 2 * 0 + _ ≤ _; exact Nat.le_of_eq rfl) (hb hby at_43) (fun _ _ => ⟨rfl, ec23, (by decide : 0 + 0 ≤ _), (by decide : 0 + 0 ≤ _)⟩)
   dsimp only [Pt.U, Pt.locs, Pt.cells, Pt.slots] at Xc25 lc25 yc25 zc25 stc25 hQc25
   subst lc25 yc25 zc25
   obtain ⟨Nqc25, ec25, hAc25⟩ := hQc25
   have Nc25 := Fr.app Nc23 Nqc25
   obtain rfl := hAc25
   have p26 : ∀ t, St p e below Tc25 (mkF m 46 Ls21 [(.ref a_YES)]) t → S0 t := fun t k => p24 t (stc25.trans k)
   have p27 : ∀ t, St p e below Tc25 (mkF m 55 Ls21 [(.int (1 : Int32)), (.ref a_YES)]) t → S0 t := fun t k => p26 t (by
     show St p e below Tc25 (mkF m 46 Ls21 [(.ref a_YES)]) t
     refine XS.iloadN Xc25.here hx rfl (hb hby at_46) rfl ?_
     show St p e below Tc25 (mkF m 47 Ls21 [(.int (0 : Int32)), (.ref a_YES)]) t
     refine XS.ifNo Xc25.here hx rfl (hb hby at_47) rfl ((if0 _ _).trans (teq (by decide : (0 : Int32) = (0 : Int32))).2) ?_
     show St p e below Tc25 (mkF m 50 Ls21 [(.ref a_YES)]) t
     refine XT.iconstV Xc25.here hx rfl (1 : Int32) (hb hby at_50) (by decide) ?_
     show St p e below Tc25 (mkF m 51 Ls21 [(.int (1 : Int32)), (.ref a_YES)]) t
     refine XS.goto Xc25.here hx rfl (pc0 := 51) (pc' := 55) rfl (hb hby at_51) (by decide) (by decide) ?_
     exact k)
   obtain ⟨_, _, ⟨Tc28, Lc28, kc28, nc28⟩, -, Xc28, ⟨Lcc28, hQc28, lc28, yc28, zc28⟩, stc28⟩ := Jvm.LawKit.callS Xc25 hx (y := M2) hown (mvT hZ (ww hw 16 rfl)) (mvT hZ (ww hw 17 rfl)) (mvT hZ (ww hw 6 rfl)) (mvT hZ (ww hw 18 rfl)) (by decide) (backOf (W := 1) (rm3_4 l Z a0 hw [] a_YES a_NO a_UNKNOWN h0 n0 O0 HE' ) hZ (ww hw 18 rfl) (ww hw 6 rfl) (by decide) (by decide)) (g := (mkF m 55 Ls21 [(.int (1 : Int32)), (.ref a_YES)])) rfl (by rw [hml]; rfl) (argsL := [(.int (1 : Int32))]) (rest := [(.ref a_YES)]) (lenOf pd2 rfl) rfl (by show 2 * 0 + _ ≤ _; exact Nat.le_of_eq rfl) (hb hby at_55) (fun _ _ => ⟨rfl, ec25, (by decide : 0 + 0 ≤ _), (by decide : 0 + 0 ≤ _)⟩)
   dsimp only [Pt.U, Pt.locs, Pt.cells, Pt.slots] at Xc28 lc28 yc28 zc28 stc28 hQc28
   subst lc28 yc28 zc28
   obtain ⟨Nqc28, ec28, hAc28⟩ := hQc28
   have Nc28 := Fr.app Nc25 Nqc28
   obtain rfl := hAc28
   have p29 : ∀ t, St p e below Tc28 (mkF m 58 Ls21 [(.ref a_YES), (.ref a_YES)]) t → S0 t := fun t k => p27 t (stc28 t k)
   let Ls30 : Array Slot := #[.val (.int i0), .val (.int i1), .val (.ref a_YES), .val (.int (0 : Int32)), .val (.ref a_NO), .val (.int (1 : Int32)), .val (.int (1 : Int32)), .unset]
   have p31 : ∀ t, St p e below Tc28 (mkF m 69 Ls30 [(.ref a_YES)]) t → S0 t := fun t k => p29 t (by
     show St p e below Tc28 (mkF m 58 Ls21 [(.ref a_YES), (.ref a_YES)]) t
     refine Jvm.RoadKit.acmp (g := (mkF m 58 Ls21 [(.ref a_YES), (.ref a_YES)])) Xc28 hx rfl rfl rfl (pc0 := 58) (pc' := 61) (same := true) rfl (hb hby at_58) rfl (decide_eq_true rfl) (by decide) (by decide) ?_
     show St p e below Tc28 (mkF m 61 Ls21 []) t
     refine XT.iconstV Xc28.here hx rfl (1 : Int32) (hb hby at_61) (by decide) ?_
     show St p e below Tc28 (mkF m 62 Ls21 [(.int (1 : Int32))]) t
     refine XS.goto Xc28.here hx rfl (pc0 := 62) (pc' := 66) rfl (hb hby at_62) (by decide) (by decide) ?_
     show St p e below Tc28 (mkF m 66 Ls21 [(.int (1 : Int32))]) t
     refine XS.istore Xc28.here hx rfl (hb hby at_66) rfl (l' := Ls30) rfl ?_
     show St p e below Tc28 (mkF m 68 Ls30 []) t
     refine XS.aloadN Xc28.here hx rfl (hb hby at_68) rfl rfl ?_
     exact k)
   obtain ⟨T32, X32, e32, st32⟩ := getS2 Xc28 hx hZ hown (host := "") (Or.inl (ww hw 19 rfl)) Via.refl ec28 (Sa_UNKNOWN.ext O0.2) (g := (mkF m 69 Ls30 [(.ref a_YES)])) rfl (hb hby at_69)
   have p33 : ∀ t, St p e below T32 (mkF m 72 Ls30 [(.ref a_UNKNOWN), (.ref a_YES)]) t → S0 t := fun t k => p31 t (st32 t k)
   have p34 : ∀ t, St p e below T32 (mkF m 82 Ls30 [(.ref a_NO), (.int (0 : Int32))]) t → S0 t := fun t k => p33 t (by
     show St p e below T32 (mkF m 72 Ls30 [(.ref a_UNKNOWN), (.ref a_YES)]) t
     refine Jvm.RoadKit.acmp (g := (mkF m 72 Ls30 [(.ref a_UNKNOWN), (.ref a_YES)])) X32 hx rfl rfl rfl (pc0 := 72) (pc' := 79) (same := false) rfl (hb hby at_72) rfl (decide_eq_false fun q => (Fld.ne Fa_YES_ordinal Fa_UNKNOWN_ordinal (fun q => absurd (Value.int.inj q) (by decide))) (Value.ref.inj q)) (by decide) (by decide) ?_
     show St p e below T32 (mkF m 79 Ls30 []) t
     refine XT.iconstV X32.here hx rfl (0 : Int32) (hb hby at_79) (by decide) ?_
     show St p e below T32 (mkF m 80 Ls30 [(.int (0 : Int32))]) t
     refine XS.aload X32.here hx rfl (hb hby at_80) rfl rfl ?_
     exact k)
   obtain ⟨T35, X35, e35, st35⟩ := getS2 X32 hx hZ hown (host := "") (Or.inl (ww hw 19 rfl)) Via.refl e32 (Sa_UNKNOWN.ext O0.2) (g := (mkF m 82 Ls30 [(.ref a_NO), (.int (0 : Int32))])) rfl (hb hby at_82)
   have p36 : ∀ t, St p e below T35 (mkF m 85 Ls30 [(.ref a_UNKNOWN), (.ref a_NO), (.int (0 : Int32))]) t → S0 t := fun t k => p34 t (st35 t k)
   let Ls37 : Array Slot := #[.val (.int i0), .val (.int i1), .val (.ref a_YES), .val (.int (0 : Int32)), .val (.ref a_NO), .val (.int (1 : Int32)), .val (.int (1 : Int32)), .val (.int (1 : Int32))]
   have p38 : ∀ t, St p e below T35 (mkF m 123 Ls37 [(.int (1 : Int32))]) t → S0 t := fun t k => p36 t (by
     show St p e below T35 (mkF m 85 Ls30 [(.ref a_UNKNOWN), (.ref a_NO), (.int (0 : Int32))]) t
     refine Jvm.RoadKit.acmp (g := (mkF m 85 Ls30 [(.ref a_UNKNOWN), (.ref a_NO), (.int (0 : Int32))])) X35 hx rfl rfl rfl (pc0 := 85) (pc' := 92) (same := false) rfl (hb hby at_85) rfl (decide_eq_false fun q => (Fld.ne Fa_NO_ordinal Fa_UNKNOWN_ordinal (fun q => absurd (Value.int.inj q) (by decide))) (Value.ref.inj q)) (by decide) (by decide) ?_
     show St p e below T35 (mkF m 92 Ls30 [(.int (0 : Int32))]) t
     refine XT.iconstV X35.here hx rfl (0 : Int32) (hb hby at_92) (by decide) ?_
     show St p e below T35 (mkF m 93 Ls30 [(.int (0 : Int32)), (.int (0 : Int32))]) t
     refine XS.icmpNo X35.here hx rfl (hb hby at_93) rfl (teq (by decide : (0 : Int32) = (0 : Int32))).2 ?_
     show St p e below T35 (mkF m 96 Ls30 []) t
     refine XT.iconstV X35.here hx rfl (1 : Int32) (hb hby at_96) (by decide) ?_
     show St p e below T35 (mkF m 97 Ls30 [(.int (1 : Int32))]) t
     refine XS.goto X35.here hx rfl (pc0 := 97) (pc' := 101) rfl (hb hby at_97) (by decide) (by decide) ?_
     show St p e below T35 (mkF m 101 Ls30 [(.int (1 : Int32))]) t
     refine XS.istore X35.here hx rfl (hb hby at_101) rfl (l' := Ls37) rfl ?_
     show St p e below T35 (mkF m 103 Ls37 []) t
     refine XS.iload X35.here hx rfl (hb hby at_103) rfl ?_
     show St p e below T35 (mkF m 105 Ls37 [(.int (1 : Int32))]) t
     refine XS.ifNo X35.here hx rfl (hb hby at_105) rfl ((if0 _ _).trans (feq (by decide : ¬ ((1 : Int32) = (0 : Int32)))).1) ?_
     show St p e below T35 (mkF m 108 Ls37 []) t
     refine XS.iload X35.here hx rfl (hb hby at_108) rfl ?_
     show St p e below T35 (mkF m 110 Ls37 [(.int (1 : Int32))]) t
     refine XS.ifNo X35.here hx rfl (hb hby at_110) rfl ((if0 _ _).trans (feq (by decide : ¬ ((1 : Int32) = (0 : Int32)))).1) ?_
     show St p e below T35 (mkF m 113 Ls37 []) t
     refine XS.iload X35.here hx rfl (hb hby at_113) rfl ?_
     show St p e below T35 (mkF m 115 Ls37 [(.int (1 : Int32))]) t
     refine XS.ifNo X35.here hx rfl (hb hby at_115) rfl ((if0 _ _).trans (feq (by decide : ¬ ((1 : Int32) = (0 : Int32)))).1) ?_
     show St p e below T35 (mkF m 118 Ls37 []) t
     refine XT.iconstV X35.here hx rfl (1 : Int32) (hb hby at_118) (by decide) ?_
     show St p e below T35 (mkF m 119 Ls37 [(.int (1 : Int32))]) t
     refine XS.goto X35.here hx rfl (pc0 := 119) (pc' := 123) rfl (hb hby at_119) (by decide) (by decide) ?_
     exact k)
   obtain ⟨fs, hr, hrun, hended, hW, hsame⟩ := X35.leave (v := some (.int (1 : Int32))) (fun h => by rw [Bd.returns] at h; cases h)
   refine ⟨_, _, p38 _ ?_, hrun, hended, _, _, rfl, ?_, ⟨_, rfl⟩, hW, hsame.mono (by decide) (by decide)⟩
   · exact retOut X35 hx Bd.returns rfl (Or.inl ⟨rfl, by simp, _, rfl⟩) (hb hby at_123) hr
   · exact ⟨rfl, Nc28⟩
  ·
   let Ls39 : Array Slot := #[.val (.int i0), .val (.int i1), .val (.ref a_YES), .val (.int (1 : Int32)), .unset, .unset, .unset, .unset]
   have p40 : ∀ t, St p e below Tc3 (mkF m 18 Ls39 [(.ref a_YES)]) t → S0 t := fun t k => p11 t (by
     show St p e below Tc3 (mkF m 8 Ls10 [(.int (i1 &&& (1 : Int32)))]) t
     refine XS.ifNo Xc3.here hx rfl (hb hby at_8) rfl ((if0 _ _).trans (feq g12).1) ?_
     show St p e below Tc3 (mkF m 11 Ls10 []) t
     refine XT.iconstV Xc3.here hx rfl (1 : Int32) (hb hby at_11) (by decide) ?_
     show St p e below Tc3 (mkF m 12 Ls10 [(.int (1 : Int32))]) t
     refine XS.goto Xc3.here hx rfl (pc0 := 12) (pc' := 16) rfl (hb hby at_12) (by decide) (by decide) ?_
     show St p e below Tc3 (mkF m 16 Ls10 [(.int (1 : Int32))]) t
     refine XS.istoreN Xc3.here hx rfl (hb hby at_16) rfl (l' := Ls39) rfl ?_
     show St p e below Tc3 (mkF m 17 Ls39 []) t
     refine XS.aloadN Xc3.here hx rfl (hb hby at_17) rfl rfl ?_
     exact k)
   obtain ⟨cqc41, kqc41, qc41a, qc41b, qc41c⟩ := isOf hZ ec3 (Ea_YES.ext O0.2)
   obtain ⟨_, _, ⟨Tc41, Lc41, kc41, nc41⟩, -, Xc41, ⟨Lcc41, hQc41, lc41, yc41, zc41⟩, stc41⟩ := Xc3.virtualBack hx (y := M1) (z := M1) hown (mvT hZ (ww hw 8 rfl)) (mvT hZ (ww hw 9 rfl)) (notFace_of_selects (args := #[]) (mvT hZ (ww hw 11 rfl))) (mvT hZ (ww hw 11 rfl)) (mvT hZ (ww hw 10 rfl)) (by decide) (backOf (W := 0) (rm2_1 l Z a0 hw [] a_YES a_NO a_UNKNOWN h0 n0 O0 HE' ) hZ (ww hw 12 rfl) (ww hw 6 rfl) (by decide) (by decide)) qc41a qc41c (g := (mkF m 18 Ls39 [(.ref a_YES)])) rfl (by rw [hml]; rfl) (Steps.refl _) (argsL := []) (rest := []) (lenOf pd1 rfl) rfl (by show 2 * 0 + _ ≤ _; exact Nat.le_of_eq rfl) (hb hby at_18) (fun _ _ => ⟨rfl, ec3, (by decide : 0 + 0 ≤ _), (by decide : 0 + 0 ≤ _)⟩)
   dsimp only [Pt.U, Pt.locs, Pt.cells, Pt.slots] at Xc41 lc41 yc41 zc41 stc41 hQc41
   subst lc41 yc41 zc41
   obtain ⟨Nqc41, ec41, hAc41⟩ := hQc41
   have Nc41 := Fr.app Nc3 Nqc41
   obtain rfl := hAc41
   have p42 : ∀ t, St p e below Tc41 (mkF m 21 Ls39 [(.ref a_NO)]) t → S0 t := fun t k => p40 t (stc41.trans k)
   let Ls43 : Array Slot := #[.val (.int i0), .val (.int i1), .val (.ref a_YES), .val (.int (1 : Int32)), .val (.ref a_NO), .unset, .unset, .unset]
   have p44 : ∀ t, St p e below Tc41 (mkF m 25 Ls43 [(.ref a_NO)]) t → S0 t := fun t k => p42 t (by
     show St p e below Tc41 (mkF m 21 Ls39 [(.ref a_NO)]) t
     refine XS.astore Xc41.here hx rfl (hb hby at_21) rfl rfl (l' := Ls43) rfl ?_
     show St p e below Tc41 (mkF m 23 Ls43 []) t
     refine XS.aload Xc41.here hx rfl (hb hby at_23) rfl rfl ?_
     exact k)
   obtain ⟨cqc45, kqc45, qc45a, qc45b, qc45c⟩ := isOf hZ ec41 (Ea_NO.ext O0.2)
   obtain ⟨_, _, ⟨Tc45, Lc45, kc45, nc45⟩, -, Xc45, ⟨Lcc45, hQc45, lc45, yc45, zc45⟩, stc45⟩ := Xc41.virtualBack hx (y := M1) (z := M1) hown (mvT hZ (ww hw 8 rfl)) (mvT hZ (ww hw 9 rfl)) (notFace_of_selects (args := #[]) (mvT hZ (ww hw 11 rfl))) (mvT hZ (ww hw 11 rfl)) (mvT hZ (ww hw 10 rfl)) (by decide) (backOf (W := 0) (rm2_2 l Z a0 hw [] a_YES a_NO a_UNKNOWN h0 n0 O0 HE' ) hZ (ww hw 12 rfl) (ww hw 6 rfl) (by decide) (by decide)) qc45a qc45c (g := (mkF m 25 Ls43 [(.ref a_NO)])) rfl (by rw [hml]; rfl) (Steps.refl _) (argsL := []) (rest := []) (lenOf pd1 rfl) rfl (by show 2 * 0 + _ ≤ _; exact Nat.le_of_eq rfl) (hb hby at_25) (fun _ _ => ⟨rfl, ec41, (by decide : 0 + 0 ≤ _), (by decide : 0 + 0 ≤ _)⟩)
   dsimp only [Pt.U, Pt.locs, Pt.cells, Pt.slots] at Xc45 lc45 yc45 zc45 stc45 hQc45
   subst lc45 yc45 zc45
   obtain ⟨Nqc45, ec45, hAc45⟩ := hQc45
   have Nc45 := Fr.app Nc41 Nqc45
   obtain rfl := hAc45
   have p46 : ∀ t, St p e below Tc45 (mkF m 28 Ls43 [(.ref a_YES)]) t → S0 t := fun t k => p44 t (stc45.trans k)
   let Ls47 : Array Slot := #[.val (.int i0), .val (.int i1), .val (.ref a_YES), .val (.int (1 : Int32)), .val (.ref a_NO), .val (.int (1 : Int32)), .unset, .unset]
   have p48 : ∀ t, St p e below Tc45 (mkF m 40 Ls47 [(.int (1 : Int32))]) t → S0 t := fun t k => p46 t (by
     show St p e below Tc45 (mkF m 28 Ls43 [(.ref a_YES)]) t
     refine XS.aloadN Xc45.here hx rfl (hb hby at_28) rfl rfl ?_
     show St p e below Tc45 (mkF m 29 Ls43 [(.ref a_YES), (.ref a_YES)]) t
     refine Jvm.RoadKit.acmp (g := (mkF m 29 Ls43 [(.ref a_YES), (.ref a_YES)])) Xc45 hx rfl rfl rfl (pc0 := 29) (pc' := 32) (same := true) rfl (hb hby at_29) rfl (decide_eq_true rfl) (by decide) (by decide) ?_
     show St p e below Tc45 (mkF m 32 Ls43 []) t
     refine XT.iconstV Xc45.here hx rfl (1 : Int32) (hb hby at_32) (by decide) ?_
     show St p e below Tc45 (mkF m 33 Ls43 [(.int (1 : Int32))]) t
     refine XS.goto Xc45.here hx rfl (pc0 := 33) (pc' := 37) rfl (hb hby at_33) (by decide) (by decide) ?_
     show St p e below Tc45 (mkF m 37 Ls43 [(.int (1 : Int32))]) t
     refine XS.istore Xc45.here hx rfl (hb hby at_37) rfl (l' := Ls47) rfl ?_
     show St p e below Tc45 (mkF m 39 Ls47 []) t
     refine XS.iloadN Xc45.here hx rfl (hb hby at_39) rfl ?_
     exact k)
   obtain ⟨_, _, ⟨Tc49, Lc49, kc49, nc49⟩, -, Xc49, ⟨Lcc49, hQc49, lc49, yc49, zc49⟩, stc49⟩ := Jvm.LawKit.callS Xc45 hx (y := M2) hown (mvT hZ (ww hw 16 rfl)) (mvT hZ (ww hw 17 rfl)) (mvT hZ (ww hw 6 rfl)) (mvT hZ (ww hw 18 rfl)) (by decide) (backOf (W := 0) (rm3_4 l Z a0 hw [] a_YES a_NO a_UNKNOWN h0 n0 O0 HE' ) hZ (ww hw 18 rfl) (ww hw 6 rfl) (by decide) (by decide)) (g := (mkF m 40 Ls47 [(.int (1 : Int32))])) rfl (by rw [hml]; rfl) (argsL := [(.int (1 : Int32))]) (rest := []) (lenOf pd2 rfl) rfl (by show 2 * 0 + _ ≤ _; exact Nat.le_of_eq rfl) (hb hby at_40) (fun _ _ => ⟨rfl, ec45, (by decide : 0 + 0 ≤ _), (by decide : 0 + 0 ≤ _)⟩)
   dsimp only [Pt.U, Pt.locs, Pt.cells, Pt.slots] at Xc49 lc49 yc49 zc49 stc49 hQc49
   subst lc49 yc49 zc49
   obtain ⟨Nqc49, ec49, hAc49⟩ := hQc49
   have Nc49 := Fr.app Nc45 Nqc49
   obtain rfl := hAc49
   have p50 : ∀ t, St p e below Tc49 (mkF m 43 Ls47 [(.ref a_YES)]) t → S0 t := fun t k => p48 t (stc49 t k)
   obtain ⟨cqc51, kqc51, qc51a, qc51b, qc51c⟩ := isOf hZ ec49 (Ea_YES.ext O0.2)
   obtain ⟨_, _, ⟨Tc51, Lc51, kc51, nc51⟩, -, Xc51, ⟨Lcc51, hQc51, lc51, yc51, zc51⟩, stc51⟩ := Xc49.virtualBack hx (y := M1) (z := M1) hown (mvT hZ (ww hw 8 rfl)) (mvT hZ (ww hw 9 rfl)) (notFace_of_selects (args := #[]) (mvT hZ (ww hw 11 rfl))) (mvT hZ (ww hw 11 rfl)) (mvT hZ (ww hw 10 rfl)) (by decide) (backOf (W := 0) (rm2_1 l Z a0 hw [] a_YES a_NO a_UNKNOWN h0 n0 O0 HE' ) hZ (ww hw 12 rfl) (ww hw 6 rfl) (by decide) (by decide)) qc51a qc51c (g := (mkF m 43 Ls47 [(.ref a_YES)])) rfl (by rw [hml]; rfl) (Steps.refl _) (argsL := []) (rest := []) (lenOf pd1 rfl) rfl (by show 2 * 0 + _ ≤ _; exact Nat.le_of_eq rfl) (hb hby at_43) (fun _ _ => ⟨rfl, ec49, (by decide : 0 + 0 ≤ _), (by decide : 0 + 0 ≤ _)⟩)
   dsimp only [Pt.U, Pt.locs, Pt.cells, Pt.slots] at Xc51 lc51 yc51 zc51 stc51 hQc51
   subst lc51 yc51 zc51
   obtain ⟨Nqc51, ec51, hAc51⟩ := hQc51
   have Nc51 := Fr.app Nc49 Nqc51
   obtain rfl := hAc51
   have p52 : ∀ t, St p e below Tc51 (mkF m 46 Ls47 [(.ref a_NO)]) t → S0 t := fun t k => p50 t (stc51.trans k)
   have p53 : ∀ t, St p e below Tc51 (mkF m 55 Ls47 [(.int (0 : Int32)), (.ref a_NO)]) t → S0 t := fun t k => p52 t (by
     show St p e below Tc51 (mkF m 46 Ls47 [(.ref a_NO)]) t
     refine XS.iloadN Xc51.here hx rfl (hb hby at_46) rfl ?_
     show St p e below Tc51 (mkF m 47 Ls47 [(.int (1 : Int32)), (.ref a_NO)]) t
     refine XS.ifYes Xc51.here hx rfl (pc0 := 47) (pc' := 54) rfl (hb hby at_47) rfl ((if0 _ _).trans (feq (by decide : ¬ ((1 : Int32) = (0 : Int32)))).2) (by decide) (by decide) ?_
     show St p e below Tc51 (mkF m 54 Ls47 [(.ref a_NO)]) t
     refine XT.iconstV Xc51.here hx rfl (0 : Int32) (hb hby at_54) (by decide) ?_
     exact k)
   obtain ⟨_, _, ⟨Tc54, Lc54, kc54, nc54⟩, -, Xc54, ⟨Lcc54, hQc54, lc54, yc54, zc54⟩, stc54⟩ := Jvm.LawKit.callS Xc51 hx (y := M2) hown (mvT hZ (ww hw 16 rfl)) (mvT hZ (ww hw 17 rfl)) (mvT hZ (ww hw 6 rfl)) (mvT hZ (ww hw 18 rfl)) (by decide) (backOf (W := 1) (rm3_3 l Z a0 hw [] a_YES a_NO a_UNKNOWN h0 n0 O0 HE' ) hZ (ww hw 18 rfl) (ww hw 6 rfl) (by decide) (by decide)) (g := (mkF m 55 Ls47 [(.int (0 : Int32)), (.ref a_NO)])) rfl (by rw [hml]; rfl) (argsL := [(.int (0 : Int32))]) (rest := [(.ref a_NO)]) (lenOf pd2 rfl) rfl (by show 2 * 0 + _ ≤ _; exact Nat.le_of_eq rfl) (hb hby at_55) (fun _ _ => ⟨rfl, ec51, (by decide : 0 + 0 ≤ _), (by decide : 0 + 0 ≤ _)⟩)
   dsimp only [Pt.U, Pt.locs, Pt.cells, Pt.slots] at Xc54 lc54 yc54 zc54 stc54 hQc54
   subst lc54 yc54 zc54
   obtain ⟨Nqc54, ec54, hAc54⟩ := hQc54
   have Nc54 := Fr.app Nc51 Nqc54
   obtain rfl := hAc54
   have p55 : ∀ t, St p e below Tc54 (mkF m 58 Ls47 [(.ref a_NO), (.ref a_NO)]) t → S0 t := fun t k => p53 t (stc54 t k)
   let Ls56 : Array Slot := #[.val (.int i0), .val (.int i1), .val (.ref a_YES), .val (.int (1 : Int32)), .val (.ref a_NO), .val (.int (1 : Int32)), .val (.int (1 : Int32)), .unset]
   have p57 : ∀ t, St p e below Tc54 (mkF m 69 Ls56 [(.ref a_YES)]) t → S0 t := fun t k => p55 t (by
     show St p e below Tc54 (mkF m 58 Ls47 [(.ref a_NO), (.ref a_NO)]) t
     refine Jvm.RoadKit.acmp (g := (mkF m 58 Ls47 [(.ref a_NO), (.ref a_NO)])) Xc54 hx rfl rfl rfl (pc0 := 58) (pc' := 61) (same := true) rfl (hb hby at_58) rfl (decide_eq_true rfl) (by decide) (by decide) ?_
     show St p e below Tc54 (mkF m 61 Ls47 []) t
     refine XT.iconstV Xc54.here hx rfl (1 : Int32) (hb hby at_61) (by decide) ?_
     show St p e below Tc54 (mkF m 62 Ls47 [(.int (1 : Int32))]) t
     refine XS.goto Xc54.here hx rfl (pc0 := 62) (pc' := 66) rfl (hb hby at_62) (by decide) (by decide) ?_
     show St p e below Tc54 (mkF m 66 Ls47 [(.int (1 : Int32))]) t
     refine XS.istore Xc54.here hx rfl (hb hby at_66) rfl (l' := Ls56) rfl ?_
     show St p e below Tc54 (mkF m 68 Ls56 []) t
     refine XS.aloadN Xc54.here hx rfl (hb hby at_68) rfl rfl ?_
     exact k)
   obtain ⟨T58, X58, e58, st58⟩ := getS2 Xc54 hx hZ hown (host := "") (Or.inl (ww hw 19 rfl)) Via.refl ec54 (Sa_UNKNOWN.ext O0.2) (g := (mkF m 69 Ls56 [(.ref a_YES)])) rfl (hb hby at_69)
   have p59 : ∀ t, St p e below T58 (mkF m 72 Ls56 [(.ref a_UNKNOWN), (.ref a_YES)]) t → S0 t := fun t k => p57 t (st58 t k)
   have p60 : ∀ t, St p e below T58 (mkF m 82 Ls56 [(.ref a_NO), (.int (0 : Int32))]) t → S0 t := fun t k => p59 t (by
     show St p e below T58 (mkF m 72 Ls56 [(.ref a_UNKNOWN), (.ref a_YES)]) t
     refine Jvm.RoadKit.acmp (g := (mkF m 72 Ls56 [(.ref a_UNKNOWN), (.ref a_YES)])) X58 hx rfl rfl rfl (pc0 := 72) (pc' := 79) (same := false) rfl (hb hby at_72) rfl (decide_eq_false fun q => (Fld.ne Fa_YES_ordinal Fa_UNKNOWN_ordinal (fun q => absurd (Value.int.inj q) (by decide))) (Value.ref.inj q)) (by decide) (by decide) ?_
     show St p e below T58 (mkF m 79 Ls56 []) t
     refine XT.iconstV X58.here hx rfl (0 : Int32) (hb hby at_79) (by decide) ?_
     show St p e below T58 (mkF m 80 Ls56 [(.int (0 : Int32))]) t
     refine XS.aload X58.here hx rfl (hb hby at_80) rfl rfl ?_
     exact k)
   obtain ⟨T61, X61, e61, st61⟩ := getS2 X58 hx hZ hown (host := "") (Or.inl (ww hw 19 rfl)) Via.refl e58 (Sa_UNKNOWN.ext O0.2) (g := (mkF m 82 Ls56 [(.ref a_NO), (.int (0 : Int32))])) rfl (hb hby at_82)
   have p62 : ∀ t, St p e below T61 (mkF m 85 Ls56 [(.ref a_UNKNOWN), (.ref a_NO), (.int (0 : Int32))]) t → S0 t := fun t k => p60 t (st61 t k)
   let Ls63 : Array Slot := #[.val (.int i0), .val (.int i1), .val (.ref a_YES), .val (.int (1 : Int32)), .val (.ref a_NO), .val (.int (1 : Int32)), .val (.int (1 : Int32)), .val (.int (1 : Int32))]
   have p64 : ∀ t, St p e below T61 (mkF m 123 Ls63 [(.int (1 : Int32))]) t → S0 t := fun t k => p62 t (by
     show St p e below T61 (mkF m 85 Ls56 [(.ref a_UNKNOWN), (.ref a_NO), (.int (0 : Int32))]) t
     refine Jvm.RoadKit.acmp (g := (mkF m 85 Ls56 [(.ref a_UNKNOWN), (.ref a_NO), (.int (0 : Int32))])) X61 hx rfl rfl rfl (pc0 := 85) (pc' := 92) (same := false) rfl (hb hby at_85) rfl (decide_eq_false fun q => (Fld.ne Fa_NO_ordinal Fa_UNKNOWN_ordinal (fun q => absurd (Value.int.inj q) (by decide))) (Value.ref.inj q)) (by decide) (by decide) ?_
     show St p e below T61 (mkF m 92 Ls56 [(.int (0 : Int32))]) t
     refine XT.iconstV X61.here hx rfl (0 : Int32) (hb hby at_92) (by decide) ?_
     show St p e below T61 (mkF m 93 Ls56 [(.int (0 : Int32)), (.int (0 : Int32))]) t
     refine XS.icmpNo X61.here hx rfl (hb hby at_93) rfl (teq (by decide : (0 : Int32) = (0 : Int32))).2 ?_
     show St p e below T61 (mkF m 96 Ls56 []) t
     refine XT.iconstV X61.here hx rfl (1 : Int32) (hb hby at_96) (by decide) ?_
     show St p e below T61 (mkF m 97 Ls56 [(.int (1 : Int32))]) t
     refine XS.goto X61.here hx rfl (pc0 := 97) (pc' := 101) rfl (hb hby at_97) (by decide) (by decide) ?_
     show St p e below T61 (mkF m 101 Ls56 [(.int (1 : Int32))]) t
     refine XS.istore X61.here hx rfl (hb hby at_101) rfl (l' := Ls63) rfl ?_
     show St p e below T61 (mkF m 103 Ls63 []) t
     refine XS.iload X61.here hx rfl (hb hby at_103) rfl ?_
     show St p e below T61 (mkF m 105 Ls63 [(.int (1 : Int32))]) t
     refine XS.ifNo X61.here hx rfl (hb hby at_105) rfl ((if0 _ _).trans (feq (by decide : ¬ ((1 : Int32) = (0 : Int32)))).1) ?_
     show St p e below T61 (mkF m 108 Ls63 []) t
     refine XS.iload X61.here hx rfl (hb hby at_108) rfl ?_
     show St p e below T61 (mkF m 110 Ls63 [(.int (1 : Int32))]) t
     refine XS.ifNo X61.here hx rfl (hb hby at_110) rfl ((if0 _ _).trans (feq (by decide : ¬ ((1 : Int32) = (0 : Int32)))).1) ?_
     show St p e below T61 (mkF m 113 Ls63 []) t
     refine XS.iload X61.here hx rfl (hb hby at_113) rfl ?_
     show St p e below T61 (mkF m 115 Ls63 [(.int (1 : Int32))]) t
     refine XS.ifNo X61.here hx rfl (hb hby at_115) rfl ((if0 _ _).trans (feq (by decide : ¬ ((1 : Int32) = (0 : Int32)))).1) ?_
     show St p e below T61 (mkF m 118 Ls63 []) t
     refine XT.iconstV X61.here hx rfl (1 : Int32) (hb hby at_118) (by decide) ?_
     show St p e below T61 (mkF m 119 Ls63 [(.int (1 : Int32))]) t
     refine XS.goto X61.here hx rfl (pc0 := 119) (pc' := 123) rfl (hb hby at_119) (by decide) (by decide) ?_
     exact k)
   obtain ⟨fs, hr, hrun, hended, hW, hsame⟩ := X61.leave (v := some (.int (1 : Int32))) (fun h => by rw [Bd.returns] at h; cases h)
   refine ⟨_, _, p64 _ ?_, hrun, hended, _, _, rfl, ?_, ⟨_, rfl⟩, hW, hsame.mono (by decide) (by decide)⟩
   · exact retOut X61 hx Bd.returns rfl (Or.inl ⟨rfl, by simp, _, rfl⟩) (hb hby at_123) hr
   · exact ⟨rfl, Nc54⟩
 ·
  have p65 : ∀ t, St p e below Tc3 (mkF m 4 Ls1 [(.ref a_NO)]) t → S0 t := fun t k => p2 t (stc3 t k)
  let Ls66 : Array Slot := #[.val (.int i0), .val (.int i1), .val (.ref a_NO), .unset, .unset, .unset, .unset, .unset]
  have p67 : ∀ t, St p e below Tc3 (mkF m 8 Ls66 [(.int (i1 &&& (1 : Int32)))]) t → S0 t := fun t k => p65 t (by
    show St p e below Tc3 (mkF m 4 Ls1 [(.ref a_NO)]) t
    refine XS.astoreN Xc3.here hx rfl (hb hby at_4) rfl rfl (l' := Ls66) rfl ?_
    show St p e below Tc3 (mkF m 5 Ls66 []) t
    refine XS.iloadN Xc3.here hx rfl (hb hby at_5) rfl ?_
    show St p e below Tc3 (mkF m 6 Ls66 [(.int i1)]) t
    refine XT.iconstV Xc3.here hx rfl (1 : Int32) (hb hby at_6) (by decide) ?_
    show St p e below Tc3 (mkF m 7 Ls66 [(.int (1 : Int32)), (.int i1)]) t
    refine XS.iand Xc3.here hx rfl (hb hby at_7) rfl ?_
    exact k)
  by_cases g68 : (i1 &&& (1 : Int32)) = (0 : Int32)
  ·
   let Ls69 : Array Slot := #[.val (.int i0), .val (.int i1), .val (.ref a_NO), .val (.int (0 : Int32)), .unset, .unset, .unset, .unset]
   have p70 : ∀ t, St p e below Tc3 (mkF m 18 Ls69 [(.ref a_NO)]) t → S0 t := fun t k => p67 t (by
     show St p e below Tc3 (mkF m 8 Ls66 [(.int (i1 &&& (1 : Int32)))]) t
     refine XS.ifYes Xc3.here hx rfl (pc0 := 8) (pc' := 15) rfl (hb hby at_8) rfl ((if0 _ _).trans (teq g68).1) (by decide) (by decide) ?_
     show St p e below Tc3 (mkF m 15 Ls66 []) t
     refine XT.iconstV Xc3.here hx rfl (0 : Int32) (hb hby at_15) (by decide) ?_
     show St p e below Tc3 (mkF m 16 Ls66 [(.int (0 : Int32))]) t
     refine XS.istoreN Xc3.here hx rfl (hb hby at_16) rfl (l' := Ls69) rfl ?_
     show St p e below Tc3 (mkF m 17 Ls69 []) t
     refine XS.aloadN Xc3.here hx rfl (hb hby at_17) rfl rfl ?_
     exact k)
   obtain ⟨cqc71, kqc71, qc71a, qc71b, qc71c⟩ := isOf hZ ec3 (Ea_NO.ext O0.2)
   obtain ⟨_, _, ⟨Tc71, Lc71, kc71, nc71⟩, -, Xc71, ⟨Lcc71, hQc71, lc71, yc71, zc71⟩, stc71⟩ := Xc3.virtualBack hx (y := M1) (z := M1) hown (mvT hZ (ww hw 8 rfl)) (mvT hZ (ww hw 9 rfl)) (notFace_of_selects (args := #[]) (mvT hZ (ww hw 11 rfl))) (mvT hZ (ww hw 11 rfl)) (mvT hZ (ww hw 10 rfl)) (by decide) (backOf (W := 0) (rm2_2 l Z a0 hw [] a_YES a_NO a_UNKNOWN h0 n0 O0 HE' ) hZ (ww hw 12 rfl) (ww hw 6 rfl) (by decide) (by decide)) qc71a qc71c (g := (mkF m 18 Ls69 [(.ref a_NO)])) rfl (by rw [hml]; rfl) (Steps.refl _) (argsL := []) (rest := []) (lenOf pd1 rfl) rfl (by show 2 * 0 + _ ≤ _; exact Nat.le_of_eq rfl) (hb hby at_18) (fun _ _ => ⟨rfl, ec3, (by decide : 0 + 0 ≤ _), (by decide : 0 + 0 ≤ _)⟩)
   dsimp only [Pt.U, Pt.locs, Pt.cells, Pt.slots] at Xc71 lc71 yc71 zc71 stc71 hQc71
   subst lc71 yc71 zc71
   obtain ⟨Nqc71, ec71, hAc71⟩ := hQc71
   have Nc71 := Fr.app Nc3 Nqc71
   obtain rfl := hAc71
   have p72 : ∀ t, St p e below Tc71 (mkF m 21 Ls69 [(.ref a_YES)]) t → S0 t := fun t k => p70 t (stc71.trans k)
   let Ls73 : Array Slot := #[.val (.int i0), .val (.int i1), .val (.ref a_NO), .val (.int (0 : Int32)), .val (.ref a_YES), .unset, .unset, .unset]
   have p74 : ∀ t, St p e below Tc71 (mkF m 25 Ls73 [(.ref a_YES)]) t → S0 t := fun t k => p72 t (by
     show St p e below Tc71 (mkF m 21 Ls69 [(.ref a_YES)]) t
     refine XS.astore Xc71.here hx rfl (hb hby at_21) rfl rfl (l' := Ls73) rfl ?_
     show St p e below Tc71 (mkF m 23 Ls73 []) t
     refine XS.aload Xc71.here hx rfl (hb hby at_23) rfl rfl ?_
     exact k)
   obtain ⟨cqc75, kqc75, qc75a, qc75b, qc75c⟩ := isOf hZ ec71 (Ea_YES.ext O0.2)
   obtain ⟨_, _, ⟨Tc75, Lc75, kc75, nc75⟩, -, Xc75, ⟨Lcc75, hQc75, lc75, yc75, zc75⟩, stc75⟩ := Xc71.virtualBack hx (y := M1) (z := M1) hown (mvT hZ (ww hw 8 rfl)) (mvT hZ (ww hw 9 rfl)) (notFace_of_selects (args := #[]) (mvT hZ (ww hw 11 rfl))) (mvT hZ (ww hw 11 rfl)) (mvT hZ (ww hw 10 rfl)) (by decide) (backOf (W := 0) (rm2_1 l Z a0 hw [] a_YES a_NO a_UNKNOWN h0 n0 O0 HE' ) hZ (ww hw 12 rfl) (ww hw 6 rfl) (by decide) (by decide)) qc75a qc75c (g := (mkF m 25 Ls73 [(.ref a_YES)])) rfl (by rw [hml]; rfl) (Steps.refl _) (argsL := []) (rest := []) (lenOf pd1 rfl) rfl (by show 2 * 0 + _ ≤ _; exact Nat.le_of_eq rfl) (hb hby at_25) (fun _ _ => ⟨rfl, ec71, (by decide : 0 + 0 ≤ _), (by decide : 0 + 0 ≤ _)⟩)
   dsimp only [Pt.U, Pt.locs, Pt.cells, Pt.slots] at Xc75 lc75 yc75 zc75 stc75 hQc75
   subst lc75 yc75 zc75
   obtain ⟨Nqc75, ec75, hAc75⟩ := hQc75
   have Nc75 := Fr.app Nc71 Nqc75
   obtain rfl := hAc75
   have p76 : ∀ t, St p e below Tc75 (mkF m 28 Ls73 [(.ref a_NO)]) t → S0 t := fun t k => p74 t (stc75.trans k)
   let Ls77 : Array Slot := #[.val (.int i0), .val (.int i1), .val (.ref a_NO), .val (.int (0 : Int32)), .val (.ref a_YES), .val (.int (1 : Int32)), .unset, .unset]
   have p78 : ∀ t, St p e below Tc75 (mkF m 40 Ls77 [(.int (0 : Int32))]) t → S0 t := fun t k => p76 t (by
     show St p e below Tc75 (mkF m 28 Ls73 [(.ref a_NO)]) t
     refine XS.aloadN Xc75.here hx rfl (hb hby at_28) rfl rfl ?_
     show St p e below Tc75 (mkF m 29 Ls73 [(.ref a_NO), (.ref a_NO)]) t
     refine Jvm.RoadKit.acmp (g := (mkF m 29 Ls73 [(.ref a_NO), (.ref a_NO)])) Xc75 hx rfl rfl rfl (pc0 := 29) (pc' := 32) (same := true) rfl (hb hby at_29) rfl (decide_eq_true rfl) (by decide) (by decide) ?_
     show St p e below Tc75 (mkF m 32 Ls73 []) t
     refine XT.iconstV Xc75.here hx rfl (1 : Int32) (hb hby at_32) (by decide) ?_
     show St p e below Tc75 (mkF m 33 Ls73 [(.int (1 : Int32))]) t
     refine XS.goto Xc75.here hx rfl (pc0 := 33) (pc' := 37) rfl (hb hby at_33) (by decide) (by decide) ?_
     show St p e below Tc75 (mkF m 37 Ls73 [(.int (1 : Int32))]) t
     refine XS.istore Xc75.here hx rfl (hb hby at_37) rfl (l' := Ls77) rfl ?_
     show St p e below Tc75 (mkF m 39 Ls77 []) t
     refine XS.iloadN Xc75.here hx rfl (hb hby at_39) rfl ?_
     exact k)
   obtain ⟨_, _, ⟨Tc79, Lc79, kc79, nc79⟩, -, Xc79, ⟨Lcc79, hQc79, lc79, yc79, zc79⟩, stc79⟩ := Jvm.LawKit.callS Xc75 hx (y := M2) hown (mvT hZ (ww hw 16 rfl)) (mvT hZ (ww hw 17 rfl)) (mvT hZ (ww hw 6 rfl)) (mvT hZ (ww hw 18 rfl)) (by decide) (backOf (W := 0) (rm3_3 l Z a0 hw [] a_YES a_NO a_UNKNOWN h0 n0 O0 HE' ) hZ (ww hw 18 rfl) (ww hw 6 rfl) (by decide) (by decide)) (g := (mkF m 40 Ls77 [(.int (0 : Int32))])) rfl (by rw [hml]; rfl) (argsL := [(.int (0 : Int32))]) (rest := []) (lenOf pd2 rfl) rfl (by show 2 * 0 + _ ≤ _; exact Nat.le_of_eq rfl) (hb hby at_40) (fun _ _ => ⟨rfl, ec75, (by decide : 0 + 0 ≤ _), (by decide : 0 + 0 ≤ _)⟩)
   dsimp only [Pt.U, Pt.locs, Pt.cells, Pt.slots] at Xc79 lc79 yc79 zc79 stc79 hQc79
   subst lc79 yc79 zc79
   obtain ⟨Nqc79, ec79, hAc79⟩ := hQc79
   have Nc79 := Fr.app Nc75 Nqc79
   obtain rfl := hAc79
   have p80 : ∀ t, St p e below Tc79 (mkF m 43 Ls77 [(.ref a_NO)]) t → S0 t := fun t k => p78 t (stc79 t k)
   obtain ⟨cqc81, kqc81, qc81a, qc81b, qc81c⟩ := isOf hZ ec79 (Ea_NO.ext O0.2)
   obtain ⟨_, _, ⟨Tc81, Lc81, kc81, nc81⟩, -, Xc81, ⟨Lcc81, hQc81, lc81, yc81, zc81⟩, stc81⟩ := Xc79.virtualBack hx (y := M1) (z := M1) hown (mvT hZ (ww hw 8 rfl)) (mvT hZ (ww hw 9 rfl)) (notFace_of_selects (args := #[]) (mvT hZ (ww hw 11 rfl))) (mvT hZ (ww hw 11 rfl)) (mvT hZ (ww hw 10 rfl)) (by decide) (backOf (W := 0) (rm2_2 l Z a0 hw [] a_YES a_NO a_UNKNOWN h0 n0 O0 HE' ) hZ (ww hw 12 rfl) (ww hw 6 rfl) (by decide) (by decide)) qc81a qc81c (g := (mkF m 43 Ls77 [(.ref a_NO)])) rfl (by rw [hml]; rfl) (Steps.refl _) (argsL := []) (rest := []) (lenOf pd1 rfl) rfl (by show 2 * 0 + _ ≤ _; exact Nat.le_of_eq rfl) (hb hby at_43) (fun _ _ => ⟨rfl, ec79, (by decide : 0 + 0 ≤ _), (by decide : 0 + 0 ≤ _)⟩)
   dsimp only [Pt.U, Pt.locs, Pt.cells, Pt.slots] at Xc81 lc81 yc81 zc81 stc81 hQc81
   subst lc81 yc81 zc81
   obtain ⟨Nqc81, ec81, hAc81⟩ := hQc81
   have Nc81 := Fr.app Nc79 Nqc81
   obtain rfl := hAc81
   have p82 : ∀ t, St p e below Tc81 (mkF m 46 Ls77 [(.ref a_YES)]) t → S0 t := fun t k => p80 t (stc81.trans k)
   have p83 : ∀ t, St p e below Tc81 (mkF m 55 Ls77 [(.int (1 : Int32)), (.ref a_YES)]) t → S0 t := fun t k => p82 t (by
     show St p e below Tc81 (mkF m 46 Ls77 [(.ref a_YES)]) t
     refine XS.iloadN Xc81.here hx rfl (hb hby at_46) rfl ?_
     show St p e below Tc81 (mkF m 47 Ls77 [(.int (0 : Int32)), (.ref a_YES)]) t
     refine XS.ifNo Xc81.here hx rfl (hb hby at_47) rfl ((if0 _ _).trans (teq (by decide : (0 : Int32) = (0 : Int32))).2) ?_
     show St p e below Tc81 (mkF m 50 Ls77 [(.ref a_YES)]) t
     refine XT.iconstV Xc81.here hx rfl (1 : Int32) (hb hby at_50) (by decide) ?_
     show St p e below Tc81 (mkF m 51 Ls77 [(.int (1 : Int32)), (.ref a_YES)]) t
     refine XS.goto Xc81.here hx rfl (pc0 := 51) (pc' := 55) rfl (hb hby at_51) (by decide) (by decide) ?_
     exact k)
   obtain ⟨_, _, ⟨Tc84, Lc84, kc84, nc84⟩, -, Xc84, ⟨Lcc84, hQc84, lc84, yc84, zc84⟩, stc84⟩ := Jvm.LawKit.callS Xc81 hx (y := M2) hown (mvT hZ (ww hw 16 rfl)) (mvT hZ (ww hw 17 rfl)) (mvT hZ (ww hw 6 rfl)) (mvT hZ (ww hw 18 rfl)) (by decide) (backOf (W := 1) (rm3_4 l Z a0 hw [] a_YES a_NO a_UNKNOWN h0 n0 O0 HE' ) hZ (ww hw 18 rfl) (ww hw 6 rfl) (by decide) (by decide)) (g := (mkF m 55 Ls77 [(.int (1 : Int32)), (.ref a_YES)])) rfl (by rw [hml]; rfl) (argsL := [(.int (1 : Int32))]) (rest := [(.ref a_YES)]) (lenOf pd2 rfl) rfl (by show 2 * 0 + _ ≤ _; exact Nat.le_of_eq rfl) (hb hby at_55) (fun _ _ => ⟨rfl, ec81, (by decide : 0 + 0 ≤ _), (by decide : 0 + 0 ≤ _)⟩)
   dsimp only [Pt.U, Pt.locs, Pt.cells, Pt.slots] at Xc84 lc84 yc84 zc84 stc84 hQc84
   subst lc84 yc84 zc84
   obtain ⟨Nqc84, ec84, hAc84⟩ := hQc84
   have Nc84 := Fr.app Nc81 Nqc84
   obtain rfl := hAc84
   have p85 : ∀ t, St p e below Tc84 (mkF m 58 Ls77 [(.ref a_YES), (.ref a_YES)]) t → S0 t := fun t k => p83 t (stc84 t k)
   let Ls86 : Array Slot := #[.val (.int i0), .val (.int i1), .val (.ref a_NO), .val (.int (0 : Int32)), .val (.ref a_YES), .val (.int (1 : Int32)), .val (.int (1 : Int32)), .unset]
   have p87 : ∀ t, St p e below Tc84 (mkF m 69 Ls86 [(.ref a_NO)]) t → S0 t := fun t k => p85 t (by
     show St p e below Tc84 (mkF m 58 Ls77 [(.ref a_YES), (.ref a_YES)]) t
     refine Jvm.RoadKit.acmp (g := (mkF m 58 Ls77 [(.ref a_YES), (.ref a_YES)])) Xc84 hx rfl rfl rfl (pc0 := 58) (pc' := 61) (same := true) rfl (hb hby at_58) rfl (decide_eq_true rfl) (by decide) (by decide) ?_
     show St p e below Tc84 (mkF m 61 Ls77 []) t
     refine XT.iconstV Xc84.here hx rfl (1 : Int32) (hb hby at_61) (by decide) ?_
     show St p e below Tc84 (mkF m 62 Ls77 [(.int (1 : Int32))]) t
     refine XS.goto Xc84.here hx rfl (pc0 := 62) (pc' := 66) rfl (hb hby at_62) (by decide) (by decide) ?_
     show St p e below Tc84 (mkF m 66 Ls77 [(.int (1 : Int32))]) t
     refine XS.istore Xc84.here hx rfl (hb hby at_66) rfl (l' := Ls86) rfl ?_
     show St p e below Tc84 (mkF m 68 Ls86 []) t
     refine XS.aloadN Xc84.here hx rfl (hb hby at_68) rfl rfl ?_
     exact k)
   obtain ⟨T88, X88, e88, st88⟩ := getS2 Xc84 hx hZ hown (host := "") (Or.inl (ww hw 19 rfl)) Via.refl ec84 (Sa_UNKNOWN.ext O0.2) (g := (mkF m 69 Ls86 [(.ref a_NO)])) rfl (hb hby at_69)
   have p89 : ∀ t, St p e below T88 (mkF m 72 Ls86 [(.ref a_UNKNOWN), (.ref a_NO)]) t → S0 t := fun t k => p87 t (st88 t k)
   have p90 : ∀ t, St p e below T88 (mkF m 82 Ls86 [(.ref a_YES), (.int (0 : Int32))]) t → S0 t := fun t k => p89 t (by
     show St p e below T88 (mkF m 72 Ls86 [(.ref a_UNKNOWN), (.ref a_NO)]) t
     refine Jvm.RoadKit.acmp (g := (mkF m 72 Ls86 [(.ref a_UNKNOWN), (.ref a_NO)])) X88 hx rfl rfl rfl (pc0 := 72) (pc' := 79) (same := false) rfl (hb hby at_72) rfl (decide_eq_false fun q => (Fld.ne Fa_NO_ordinal Fa_UNKNOWN_ordinal (fun q => absurd (Value.int.inj q) (by decide))) (Value.ref.inj q)) (by decide) (by decide) ?_
     show St p e below T88 (mkF m 79 Ls86 []) t
     refine XT.iconstV X88.here hx rfl (0 : Int32) (hb hby at_79) (by decide) ?_
     show St p e below T88 (mkF m 80 Ls86 [(.int (0 : Int32))]) t
     refine XS.aload X88.here hx rfl (hb hby at_80) rfl rfl ?_
     exact k)
   obtain ⟨T91, X91, e91, st91⟩ := getS2 X88 hx hZ hown (host := "") (Or.inl (ww hw 19 rfl)) Via.refl e88 (Sa_UNKNOWN.ext O0.2) (g := (mkF m 82 Ls86 [(.ref a_YES), (.int (0 : Int32))])) rfl (hb hby at_82)
   have p92 : ∀ t, St p e below T91 (mkF m 85 Ls86 [(.ref a_UNKNOWN), (.ref a_YES), (.int (0 : Int32))]) t → S0 t := fun t k => p90 t (st91 t k)
   let Ls93 : Array Slot := #[.val (.int i0), .val (.int i1), .val (.ref a_NO), .val (.int (0 : Int32)), .val (.ref a_YES), .val (.int (1 : Int32)), .val (.int (1 : Int32)), .val (.int (1 : Int32))]
   have p94 : ∀ t, St p e below T91 (mkF m 123 Ls93 [(.int (1 : Int32))]) t → S0 t := fun t k => p92 t (by
     show St p e below T91 (mkF m 85 Ls86 [(.ref a_UNKNOWN), (.ref a_YES), (.int (0 : Int32))]) t
     refine Jvm.RoadKit.acmp (g := (mkF m 85 Ls86 [(.ref a_UNKNOWN), (.ref a_YES), (.int (0 : Int32))])) X91 hx rfl rfl rfl (pc0 := 85) (pc' := 92) (same := false) rfl (hb hby at_85) rfl (decide_eq_false fun q => (Fld.ne Fa_YES_ordinal Fa_UNKNOWN_ordinal (fun q => absurd (Value.int.inj q) (by decide))) (Value.ref.inj q)) (by decide) (by decide) ?_
     show St p e below T91 (mkF m 92 Ls86 [(.int (0 : Int32))]) t
     refine XT.iconstV X91.here hx rfl (0 : Int32) (hb hby at_92) (by decide) ?_
     show St p e below T91 (mkF m 93 Ls86 [(.int (0 : Int32)), (.int (0 : Int32))]) t
     refine XS.icmpNo X91.here hx rfl (hb hby at_93) rfl (teq (by decide : (0 : Int32) = (0 : Int32))).2 ?_
     show St p e below T91 (mkF m 96 Ls86 []) t
     refine XT.iconstV X91.here hx rfl (1 : Int32) (hb hby at_96) (by decide) ?_
     show St p e below T91 (mkF m 97 Ls86 [(.int (1 : Int32))]) t
     refine XS.goto X91.here hx rfl (pc0 := 97) (pc' := 101) rfl (hb hby at_97) (by decide) (by decide) ?_
     show St p e below T91 (mkF m 101 Ls86 [(.int (1 : Int32))]) t
     refine XS.istore X91.here hx rfl (hb hby at_101) rfl (l' := Ls93) rfl ?_
     show St p e below T91 (mkF m 103 Ls93 []) t
     refine XS.iload X91.here hx rfl (hb hby at_103) rfl ?_
     show St p e below T91 (mkF m 105 Ls93 [(.int (1 : Int32))]) t
     refine XS.ifNo X91.here hx rfl (hb hby at_105) rfl ((if0 _ _).trans (feq (by decide : ¬ ((1 : Int32) = (0 : Int32)))).1) ?_
     show St p e below T91 (mkF m 108 Ls93 []) t
     refine XS.iload X91.here hx rfl (hb hby at_108) rfl ?_
     show St p e below T91 (mkF m 110 Ls93 [(.int (1 : Int32))]) t
     refine XS.ifNo X91.here hx rfl (hb hby at_110) rfl ((if0 _ _).trans (feq (by decide : ¬ ((1 : Int32) = (0 : Int32)))).1) ?_
     show St p e below T91 (mkF m 113 Ls93 []) t
     refine XS.iload X91.here hx rfl (hb hby at_113) rfl ?_
     show St p e below T91 (mkF m 115 Ls93 [(.int (1 : Int32))]) t
     refine XS.ifNo X91.here hx rfl (hb hby at_115) rfl ((if0 _ _).trans (feq (by decide : ¬ ((1 : Int32) = (0 : Int32)))).1) ?_
     show St p e below T91 (mkF m 118 Ls93 []) t
     refine XT.iconstV X91.here hx rfl (1 : Int32) (hb hby at_118) (by decide) ?_
     show St p e below T91 (mkF m 119 Ls93 [(.int (1 : Int32))]) t
     refine XS.goto X91.here hx rfl (pc0 := 119) (pc' := 123) rfl (hb hby at_119) (by decide) (by decide) ?_
     exact k)
   obtain ⟨fs, hr, hrun, hended, hW, hsame⟩ := X91.leave (v := some (.int (1 : Int32))) (fun h => by rw [Bd.returns] at h; cases h)
   refine ⟨_, _, p94 _ ?_, hrun, hended, _, _, rfl, ?_, ⟨_, rfl⟩, hW, hsame.mono (by decide) (by decide)⟩
   · exact retOut X91 hx Bd.returns rfl (Or.inl ⟨rfl, by simp, _, rfl⟩) (hb hby at_123) hr
   · exact ⟨rfl, Nc84⟩
  ·
   let Ls95 : Array Slot := #[.val (.int i0), .val (.int i1), .val (.ref a_NO), .val (.int (1 : Int32)), .unset, .unset, .unset, .unset]
   have p96 : ∀ t, St p e below Tc3 (mkF m 18 Ls95 [(.ref a_NO)]) t → S0 t := fun t k => p67 t (by
     show St p e below Tc3 (mkF m 8 Ls66 [(.int (i1 &&& (1 : Int32)))]) t
     refine XS.ifNo Xc3.here hx rfl (hb hby at_8) rfl ((if0 _ _).trans (feq g68).1) ?_
     show St p e below Tc3 (mkF m 11 Ls66 []) t
     refine XT.iconstV Xc3.here hx rfl (1 : Int32) (hb hby at_11) (by decide) ?_
     show St p e below Tc3 (mkF m 12 Ls66 [(.int (1 : Int32))]) t
     refine XS.goto Xc3.here hx rfl (pc0 := 12) (pc' := 16) rfl (hb hby at_12) (by decide) (by decide) ?_
     show St p e below Tc3 (mkF m 16 Ls66 [(.int (1 : Int32))]) t
     refine XS.istoreN Xc3.here hx rfl (hb hby at_16) rfl (l' := Ls95) rfl ?_
     show St p e below Tc3 (mkF m 17 Ls95 []) t
     refine XS.aloadN Xc3.here hx rfl (hb hby at_17) rfl rfl ?_
     exact k)
   obtain ⟨cqc97, kqc97, qc97a, qc97b, qc97c⟩ := isOf hZ ec3 (Ea_NO.ext O0.2)
   obtain ⟨_, _, ⟨Tc97, Lc97, kc97, nc97⟩, -, Xc97, ⟨Lcc97, hQc97, lc97, yc97, zc97⟩, stc97⟩ := Xc3.virtualBack hx (y := M1) (z := M1) hown (mvT hZ (ww hw 8 rfl)) (mvT hZ (ww hw 9 rfl)) (notFace_of_selects (args := #[]) (mvT hZ (ww hw 11 rfl))) (mvT hZ (ww hw 11 rfl)) (mvT hZ (ww hw 10 rfl)) (by decide) (backOf (W := 0) (rm2_2 l Z a0 hw [] a_YES a_NO a_UNKNOWN h0 n0 O0 HE' ) hZ (ww hw 12 rfl) (ww hw 6 rfl) (by decide) (by decide)) qc97a qc97c (g := (mkF m 18 Ls95 [(.ref a_NO)])) rfl (by rw [hml]; rfl) (Steps.refl _) (argsL := []) (rest := []) (lenOf pd1 rfl) rfl (by show 2 * 0 + _ ≤ _; exact Nat.le_of_eq rfl) (hb hby at_18) (fun _ _ => ⟨rfl, ec3, (by decide : 0 + 0 ≤ _), (by decide : 0 + 0 ≤ _)⟩)
   dsimp only [Pt.U, Pt.locs, Pt.cells, Pt.slots] at Xc97 lc97 yc97 zc97 stc97 hQc97
   subst lc97 yc97 zc97
   obtain ⟨Nqc97, ec97, hAc97⟩ := hQc97
   have Nc97 := Fr.app Nc3 Nqc97
   obtain rfl := hAc97
   have p98 : ∀ t, St p e below Tc97 (mkF m 21 Ls95 [(.ref a_YES)]) t → S0 t := fun t k => p96 t (stc97.trans k)
   let Ls99 : Array Slot := #[.val (.int i0), .val (.int i1), .val (.ref a_NO), .val (.int (1 : Int32)), .val (.ref a_YES), .unset, .unset, .unset]
   have p100 : ∀ t, St p e below Tc97 (mkF m 25 Ls99 [(.ref a_YES)]) t → S0 t := fun t k => p98 t (by
     show St p e below Tc97 (mkF m 21 Ls95 [(.ref a_YES)]) t
     refine XS.astore Xc97.here hx rfl (hb hby at_21) rfl rfl (l' := Ls99) rfl ?_
     show St p e below Tc97 (mkF m 23 Ls99 []) t
     refine XS.aload Xc97.here hx rfl (hb hby at_23) rfl rfl ?_
     exact k)
   obtain ⟨cqc101, kqc101, qc101a, qc101b, qc101c⟩ := isOf hZ ec97 (Ea_YES.ext O0.2)
   obtain ⟨_, _, ⟨Tc101, Lc101, kc101, nc101⟩, -, Xc101, ⟨Lcc101, hQc101, lc101, yc101, zc101⟩, stc101⟩ := Xc97.virtualBack hx (y := M1) (z := M1) hown (mvT hZ (ww hw 8 rfl)) (mvT hZ (ww hw 9 rfl)) (notFace_of_selects (args := #[]) (mvT hZ (ww hw 11 rfl))) (mvT hZ (ww hw 11 rfl)) (mvT hZ (ww hw 10 rfl)) (by decide) (backOf (W := 0) (rm2_1 l Z a0 hw [] a_YES a_NO a_UNKNOWN h0 n0 O0 HE' ) hZ (ww hw 12 rfl) (ww hw 6 rfl) (by decide) (by decide)) qc101a qc101c (g := (mkF m 25 Ls99 [(.ref a_YES)])) rfl (by rw [hml]; rfl) (Steps.refl _) (argsL := []) (rest := []) (lenOf pd1 rfl) rfl (by show 2 * 0 + _ ≤ _; exact Nat.le_of_eq rfl) (hb hby at_25) (fun _ _ => ⟨rfl, ec97, (by decide : 0 + 0 ≤ _), (by decide : 0 + 0 ≤ _)⟩)
   dsimp only [Pt.U, Pt.locs, Pt.cells, Pt.slots] at Xc101 lc101 yc101 zc101 stc101 hQc101
   subst lc101 yc101 zc101
   obtain ⟨Nqc101, ec101, hAc101⟩ := hQc101
   have Nc101 := Fr.app Nc97 Nqc101
   obtain rfl := hAc101
   have p102 : ∀ t, St p e below Tc101 (mkF m 28 Ls99 [(.ref a_NO)]) t → S0 t := fun t k => p100 t (stc101.trans k)
   let Ls103 : Array Slot := #[.val (.int i0), .val (.int i1), .val (.ref a_NO), .val (.int (1 : Int32)), .val (.ref a_YES), .val (.int (1 : Int32)), .unset, .unset]
   have p104 : ∀ t, St p e below Tc101 (mkF m 40 Ls103 [(.int (1 : Int32))]) t → S0 t := fun t k => p102 t (by
     show St p e below Tc101 (mkF m 28 Ls99 [(.ref a_NO)]) t
     refine XS.aloadN Xc101.here hx rfl (hb hby at_28) rfl rfl ?_
     show St p e below Tc101 (mkF m 29 Ls99 [(.ref a_NO), (.ref a_NO)]) t
     refine Jvm.RoadKit.acmp (g := (mkF m 29 Ls99 [(.ref a_NO), (.ref a_NO)])) Xc101 hx rfl rfl rfl (pc0 := 29) (pc' := 32) (same := true) rfl (hb hby at_29) rfl (decide_eq_true rfl) (by decide) (by decide) ?_
     show St p e below Tc101 (mkF m 32 Ls99 []) t
     refine XT.iconstV Xc101.here hx rfl (1 : Int32) (hb hby at_32) (by decide) ?_
     show St p e below Tc101 (mkF m 33 Ls99 [(.int (1 : Int32))]) t
     refine XS.goto Xc101.here hx rfl (pc0 := 33) (pc' := 37) rfl (hb hby at_33) (by decide) (by decide) ?_
     show St p e below Tc101 (mkF m 37 Ls99 [(.int (1 : Int32))]) t
     refine XS.istore Xc101.here hx rfl (hb hby at_37) rfl (l' := Ls103) rfl ?_
     show St p e below Tc101 (mkF m 39 Ls103 []) t
     refine XS.iloadN Xc101.here hx rfl (hb hby at_39) rfl ?_
     exact k)
   obtain ⟨_, _, ⟨Tc105, Lc105, kc105, nc105⟩, -, Xc105, ⟨Lcc105, hQc105, lc105, yc105, zc105⟩, stc105⟩ := Jvm.LawKit.callS Xc101 hx (y := M2) hown (mvT hZ (ww hw 16 rfl)) (mvT hZ (ww hw 17 rfl)) (mvT hZ (ww hw 6 rfl)) (mvT hZ (ww hw 18 rfl)) (by decide) (backOf (W := 0) (rm3_4 l Z a0 hw [] a_YES a_NO a_UNKNOWN h0 n0 O0 HE' ) hZ (ww hw 18 rfl) (ww hw 6 rfl) (by decide) (by decide)) (g := (mkF m 40 Ls103 [(.int (1 : Int32))])) rfl (by rw [hml]; rfl) (argsL := [(.int (1 : Int32))]) (rest := []) (lenOf pd2 rfl) rfl (by show 2 * 0 + _ ≤ _; exact Nat.le_of_eq rfl) (hb hby at_40) (fun _ _ => ⟨rfl, ec101, (by decide : 0 + 0 ≤ _), (by decide : 0 + 0 ≤ _)⟩)
   dsimp only [Pt.U, Pt.locs, Pt.cells, Pt.slots] at Xc105 lc105 yc105 zc105 stc105 hQc105
   subst lc105 yc105 zc105
   obtain ⟨Nqc105, ec105, hAc105⟩ := hQc105
   have Nc105 := Fr.app Nc101 Nqc105
   obtain rfl := hAc105
   have p106 : ∀ t, St p e below Tc105 (mkF m 43 Ls103 [(.ref a_YES)]) t → S0 t := fun t k => p104 t (stc105 t k)
   obtain ⟨cqc107, kqc107, qc107a, qc107b, qc107c⟩ := isOf hZ ec105 (Ea_YES.ext O0.2)
   obtain ⟨_, _, ⟨Tc107, Lc107, kc107, nc107⟩, -, Xc107, ⟨Lcc107, hQc107, lc107, yc107, zc107⟩, stc107⟩ := Xc105.virtualBack hx (y := M1) (z := M1) hown (mvT hZ (ww hw 8 rfl)) (mvT hZ (ww hw 9 rfl)) (notFace_of_selects (args := #[]) (mvT hZ (ww hw 11 rfl))) (mvT hZ (ww hw 11 rfl)) (mvT hZ (ww hw 10 rfl)) (by decide) (backOf (W := 0) (rm2_1 l Z a0 hw [] a_YES a_NO a_UNKNOWN h0 n0 O0 HE' ) hZ (ww hw 12 rfl) (ww hw 6 rfl) (by decide) (by decide)) qc107a qc107c (g := (mkF m 43 Ls103 [(.ref a_YES)])) rfl (by rw [hml]; rfl) (Steps.refl _) (argsL := []) (rest := []) (lenOf pd1 rfl) rfl (by show 2 * 0 + _ ≤ _; exact Nat.le_of_eq rfl) (hb hby at_43) (fun _ _ => ⟨rfl, ec105, (by decide : 0 + 0 ≤ _), (by decide : 0 + 0 ≤ _)⟩)
   dsimp only [Pt.U, Pt.locs, Pt.cells, Pt.slots] at Xc107 lc107 yc107 zc107 stc107 hQc107
   subst lc107 yc107 zc107
   obtain ⟨Nqc107, ec107, hAc107⟩ := hQc107
   have Nc107 := Fr.app Nc105 Nqc107
   obtain rfl := hAc107
   have p108 : ∀ t, St p e below Tc107 (mkF m 46 Ls103 [(.ref a_NO)]) t → S0 t := fun t k => p106 t (stc107.trans k)
   have p109 : ∀ t, St p e below Tc107 (mkF m 55 Ls103 [(.int (0 : Int32)), (.ref a_NO)]) t → S0 t := fun t k => p108 t (by
     show St p e below Tc107 (mkF m 46 Ls103 [(.ref a_NO)]) t
     refine XS.iloadN Xc107.here hx rfl (hb hby at_46) rfl ?_
     show St p e below Tc107 (mkF m 47 Ls103 [(.int (1 : Int32)), (.ref a_NO)]) t
     refine XS.ifYes Xc107.here hx rfl (pc0 := 47) (pc' := 54) rfl (hb hby at_47) rfl ((if0 _ _).trans (feq (by decide : ¬ ((1 : Int32) = (0 : Int32)))).2) (by decide) (by decide) ?_
     show St p e below Tc107 (mkF m 54 Ls103 [(.ref a_NO)]) t
     refine XT.iconstV Xc107.here hx rfl (0 : Int32) (hb hby at_54) (by decide) ?_
     exact k)
   obtain ⟨_, _, ⟨Tc110, Lc110, kc110, nc110⟩, -, Xc110, ⟨Lcc110, hQc110, lc110, yc110, zc110⟩, stc110⟩ := Jvm.LawKit.callS Xc107 hx (y := M2) hown (mvT hZ (ww hw 16 rfl)) (mvT hZ (ww hw 17 rfl)) (mvT hZ (ww hw 6 rfl)) (mvT hZ (ww hw 18 rfl)) (by decide) (backOf (W := 1) (rm3_3 l Z a0 hw [] a_YES a_NO a_UNKNOWN h0 n0 O0 HE' ) hZ (ww hw 18 rfl) (ww hw 6 rfl) (by decide) (by decide)) (g := (mkF m 55 Ls103 [(.int (0 : Int32)), (.ref a_NO)])) rfl (by rw [hml]; rfl) (argsL := [(.int (0 : Int32))]) (rest := [(.ref a_NO)]) (lenOf pd2 rfl) rfl (by show 2 * 0 + _ ≤ _; exact Nat.le_of_eq rfl) (hb hby at_55) (fun _ _ => ⟨rfl, ec107, (by decide : 0 + 0 ≤ _), (by decide : 0 + 0 ≤ _)⟩)
   dsimp only [Pt.U, Pt.locs, Pt.cells, Pt.slots] at Xc110 lc110 yc110 zc110 stc110 hQc110
   subst lc110 yc110 zc110
   obtain ⟨Nqc110, ec110, hAc110⟩ := hQc110
   have Nc110 := Fr.app Nc107 Nqc110
   obtain rfl := hAc110
   have p111 : ∀ t, St p e below Tc110 (mkF m 58 Ls103 [(.ref a_NO), (.ref a_NO)]) t → S0 t := fun t k => p109 t (stc110 t k)
   let Ls112 : Array Slot := #[.val (.int i0), .val (.int i1), .val (.ref a_NO), .val (.int (1 : Int32)), .val (.ref a_YES), .val (.int (1 : Int32)), .val (.int (1 : Int32)), .unset]
   have p113 : ∀ t, St p e below Tc110 (mkF m 69 Ls112 [(.ref a_NO)]) t → S0 t := fun t k => p111 t (by
     show St p e below Tc110 (mkF m 58 Ls103 [(.ref a_NO), (.ref a_NO)]) t
     refine Jvm.RoadKit.acmp (g := (mkF m 58 Ls103 [(.ref a_NO), (.ref a_NO)])) Xc110 hx rfl rfl rfl (pc0 := 58) (pc' := 61) (same := true) rfl (hb hby at_58) rfl (decide_eq_true rfl) (by decide) (by decide) ?_
     show St p e below Tc110 (mkF m 61 Ls103 []) t
     refine XT.iconstV Xc110.here hx rfl (1 : Int32) (hb hby at_61) (by decide) ?_
     show St p e below Tc110 (mkF m 62 Ls103 [(.int (1 : Int32))]) t
     refine XS.goto Xc110.here hx rfl (pc0 := 62) (pc' := 66) rfl (hb hby at_62) (by decide) (by decide) ?_
     show St p e below Tc110 (mkF m 66 Ls103 [(.int (1 : Int32))]) t
     refine XS.istore Xc110.here hx rfl (hb hby at_66) rfl (l' := Ls112) rfl ?_
     show St p e below Tc110 (mkF m 68 Ls112 []) t
     refine XS.aloadN Xc110.here hx rfl (hb hby at_68) rfl rfl ?_
     exact k)
   obtain ⟨T114, X114, e114, st114⟩ := getS2 Xc110 hx hZ hown (host := "") (Or.inl (ww hw 19 rfl)) Via.refl ec110 (Sa_UNKNOWN.ext O0.2) (g := (mkF m 69 Ls112 [(.ref a_NO)])) rfl (hb hby at_69)
   have p115 : ∀ t, St p e below T114 (mkF m 72 Ls112 [(.ref a_UNKNOWN), (.ref a_NO)]) t → S0 t := fun t k => p113 t (st114 t k)
   have p116 : ∀ t, St p e below T114 (mkF m 82 Ls112 [(.ref a_YES), (.int (0 : Int32))]) t → S0 t := fun t k => p115 t (by
     show St p e below T114 (mkF m 72 Ls112 [(.ref a_UNKNOWN), (.ref a_NO)]) t
     refine Jvm.RoadKit.acmp (g := (mkF m 72 Ls112 [(.ref a_UNKNOWN), (.ref a_NO)])) X114 hx rfl rfl rfl (pc0 := 72) (pc' := 79) (same := false) rfl (hb hby at_72) rfl (decide_eq_false fun q => (Fld.ne Fa_NO_ordinal Fa_UNKNOWN_ordinal (fun q => absurd (Value.int.inj q) (by decide))) (Value.ref.inj q)) (by decide) (by decide) ?_
     show St p e below T114 (mkF m 79 Ls112 []) t
     refine XT.iconstV X114.here hx rfl (0 : Int32) (hb hby at_79) (by decide) ?_
     show St p e below T114 (mkF m 80 Ls112 [(.int (0 : Int32))]) t
     refine XS.aload X114.here hx rfl (hb hby at_80) rfl rfl ?_
     exact k)
   obtain ⟨T117, X117, e117, st117⟩ := getS2 X114 hx hZ hown (host := "") (Or.inl (ww hw 19 rfl)) Via.refl e114 (Sa_UNKNOWN.ext O0.2) (g := (mkF m 82 Ls112 [(.ref a_YES), (.int (0 : Int32))])) rfl (hb hby at_82)
   have p118 : ∀ t, St p e below T117 (mkF m 85 Ls112 [(.ref a_UNKNOWN), (.ref a_YES), (.int (0 : Int32))]) t → S0 t := fun t k => p116 t (st117 t k)
   let Ls119 : Array Slot := #[.val (.int i0), .val (.int i1), .val (.ref a_NO), .val (.int (1 : Int32)), .val (.ref a_YES), .val (.int (1 : Int32)), .val (.int (1 : Int32)), .val (.int (1 : Int32))]
   have p120 : ∀ t, St p e below T117 (mkF m 123 Ls119 [(.int (1 : Int32))]) t → S0 t := fun t k => p118 t (by
     show St p e below T117 (mkF m 85 Ls112 [(.ref a_UNKNOWN), (.ref a_YES), (.int (0 : Int32))]) t
     refine Jvm.RoadKit.acmp (g := (mkF m 85 Ls112 [(.ref a_UNKNOWN), (.ref a_YES), (.int (0 : Int32))])) X117 hx rfl rfl rfl (pc0 := 85) (pc' := 92) (same := false) rfl (hb hby at_85) rfl (decide_eq_false fun q => (Fld.ne Fa_YES_ordinal Fa_UNKNOWN_ordinal (fun q => absurd (Value.int.inj q) (by decide))) (Value.ref.inj q)) (by decide) (by decide) ?_
     show St p e below T117 (mkF m 92 Ls112 [(.int (0 : Int32))]) t
     refine XT.iconstV X117.here hx rfl (0 : Int32) (hb hby at_92) (by decide) ?_
     show St p e below T117 (mkF m 93 Ls112 [(.int (0 : Int32)), (.int (0 : Int32))]) t
     refine XS.icmpNo X117.here hx rfl (hb hby at_93) rfl (teq (by decide : (0 : Int32) = (0 : Int32))).2 ?_
     show St p e below T117 (mkF m 96 Ls112 []) t
     refine XT.iconstV X117.here hx rfl (1 : Int32) (hb hby at_96) (by decide) ?_
     show St p e below T117 (mkF m 97 Ls112 [(.int (1 : Int32))]) t
     refine XS.goto X117.here hx rfl (pc0 := 97) (pc' := 101) rfl (hb hby at_97) (by decide) (by decide) ?_
     show St p e below T117 (mkF m 101 Ls112 [(.int (1 : Int32))]) t
     refine XS.istore X117.here hx rfl (hb hby at_101) rfl (l' := Ls119) rfl ?_
     show St p e below T117 (mkF m 103 Ls119 []) t
     refine XS.iload X117.here hx rfl (hb hby at_103) rfl ?_
     show St p e below T117 (mkF m 105 Ls119 [(.int (1 : Int32))]) t
     refine XS.ifNo X117.here hx rfl (hb hby at_105) rfl ((if0 _ _).trans (feq (by decide : ¬ ((1 : Int32) = (0 : Int32)))).1) ?_
     show St p e below T117 (mkF m 108 Ls119 []) t
     refine XS.iload X117.here hx rfl (hb hby at_108) rfl ?_
     show St p e below T117 (mkF m 110 Ls119 [(.int (1 : Int32))]) t
     refine XS.ifNo X117.here hx rfl (hb hby at_110) rfl ((if0 _ _).trans (feq (by decide : ¬ ((1 : Int32) = (0 : Int32)))).1) ?_
     show St p e below T117 (mkF m 113 Ls119 []) t
     refine XS.iload X117.here hx rfl (hb hby at_113) rfl ?_
     show St p e below T117 (mkF m 115 Ls119 [(.int (1 : Int32))]) t
     refine XS.ifNo X117.here hx rfl (hb hby at_115) rfl ((if0 _ _).trans (feq (by decide : ¬ ((1 : Int32) = (0 : Int32)))).1) ?_
     show St p e below T117 (mkF m 118 Ls119 []) t
     refine XT.iconstV X117.here hx rfl (1 : Int32) (hb hby at_118) (by decide) ?_
     show St p e below T117 (mkF m 119 Ls119 [(.int (1 : Int32))]) t
     refine XS.goto X117.here hx rfl (pc0 := 119) (pc' := 123) rfl (hb hby at_119) (by decide) (by decide) ?_
     exact k)
   obtain ⟨fs, hr, hrun, hended, hW, hsame⟩ := X117.leave (v := some (.int (1 : Int32))) (fun h => by rw [Bd.returns] at h; cases h)
   refine ⟨_, _, p120 _ ?_, hrun, hended, _, _, rfl, ?_, ⟨_, rfl⟩, hW, hsame.mono (by decide) (by decide)⟩
   · exact retOut X117 hx Bd.returns rfl (Or.inl ⟨rfl, by simp, _, rfl⟩) (hb hby at_123) hr
   · exact ⟨rfl, Nc110⟩
 ·
  have p121 : ∀ t, St p e below Tc3 (mkF m 4 Ls1 [(.ref a_UNKNOWN)]) t → S0 t := fun t k => p2 t (stc3 t k)
  let Ls122 : Array Slot := #[.val (.int i0), .val (.int i1), .val (.ref a_UNKNOWN), .unset, .unset, .unset, .unset, .unset]
  have p123 : ∀ t, St p e below Tc3 (mkF m 8 Ls122 [(.int (i1 &&& (1 : Int32)))]) t → S0 t := fun t k => p121 t (by
    show St p e below Tc3 (mkF m 4 Ls1 [(.ref a_UNKNOWN)]) t
    refine XS.astoreN Xc3.here hx rfl (hb hby at_4) rfl rfl (l' := Ls122) rfl ?_
    show St p e below Tc3 (mkF m 5 Ls122 []) t
    refine XS.iloadN Xc3.here hx rfl (hb hby at_5) rfl ?_
    show St p e below Tc3 (mkF m 6 Ls122 [(.int i1)]) t
    refine XT.iconstV Xc3.here hx rfl (1 : Int32) (hb hby at_6) (by decide) ?_
    show St p e below Tc3 (mkF m 7 Ls122 [(.int (1 : Int32)), (.int i1)]) t
    refine XS.iand Xc3.here hx rfl (hb hby at_7) rfl ?_
    exact k)
  by_cases g124 : (i1 &&& (1 : Int32)) = (0 : Int32)
  ·
   let Ls125 : Array Slot := #[.val (.int i0), .val (.int i1), .val (.ref a_UNKNOWN), .val (.int (0 : Int32)), .unset, .unset, .unset, .unset]
   have p126 : ∀ t, St p e below Tc3 (mkF m 18 Ls125 [(.ref a_UNKNOWN)]) t → S0 t := fun t k => p123 t (by
     show St p e below Tc3 (mkF m 8 Ls122 [(.int (i1 &&& (1 : Int32)))]) t
     refine XS.ifYes Xc3.here hx rfl (pc0 := 8) (pc' := 15) rfl (hb hby at_8) rfl ((if0 _ _).trans (teq g124).1) (by decide) (by decide) ?_
     show St p e below Tc3 (mkF m 15 Ls122 []) t
     refine XT.iconstV Xc3.here hx rfl (0 : Int32) (hb hby at_15) (by decide) ?_
     show St p e below Tc3 (mkF m 16 Ls122 [(.int (0 : Int32))]) t
     refine XS.istoreN Xc3.here hx rfl (hb hby at_16) rfl (l' := Ls125) rfl ?_
     show St p e below Tc3 (mkF m 17 Ls125 []) t
     refine XS.aloadN Xc3.here hx rfl (hb hby at_17) rfl rfl ?_
     exact k)
   obtain ⟨cqc127, kqc127, qc127a, qc127b, qc127c⟩ := isOf hZ ec3 (Ea_UNKNOWN.ext O0.2)
   obtain ⟨_, _, ⟨Tc127, Lc127, kc127, nc127⟩, -, Xc127, ⟨Lcc127, hQc127, lc127, yc127, zc127⟩, stc127⟩ := Xc3.virtualBack hx (y := M1) (z := M1) hown (mvT hZ (ww hw 8 rfl)) (mvT hZ (ww hw 9 rfl)) (notFace_of_selects (args := #[]) (mvT hZ (ww hw 11 rfl))) (mvT hZ (ww hw 11 rfl)) (mvT hZ (ww hw 10 rfl)) (by decide) (backOf (W := 0) (rm2_5 l Z a0 hw [] a_YES a_NO a_UNKNOWN h0 n0 O0 HE' ) hZ (ww hw 12 rfl) (ww hw 6 rfl) (by decide) (by decide)) qc127a qc127c (g := (mkF m 18 Ls125 [(.ref a_UNKNOWN)])) rfl (by rw [hml]; rfl) (Steps.refl _) (argsL := []) (rest := []) (lenOf pd1 rfl) rfl (by show 2 * 0 + _ ≤ _; exact Nat.le_of_eq rfl) (hb hby at_18) (fun _ _ => ⟨rfl, ec3, (by decide : 0 + 0 ≤ _), (by decide : 0 + 0 ≤ _)⟩)
   dsimp only [Pt.U, Pt.locs, Pt.cells, Pt.slots] at Xc127 lc127 yc127 zc127 stc127 hQc127
   subst lc127 yc127 zc127
   obtain ⟨Nqc127, ec127, hAc127⟩ := hQc127
   have Nc127 := Fr.app Nc3 Nqc127
   obtain rfl := hAc127
   have p128 : ∀ t, St p e below Tc127 (mkF m 21 Ls125 [(.ref a_UNKNOWN)]) t → S0 t := fun t k => p126 t (stc127.trans k)
   let Ls129 : Array Slot := #[.val (.int i0), .val (.int i1), .val (.ref a_UNKNOWN), .val (.int (0 : Int32)), .val (.ref a_UNKNOWN), .unset, .unset, .unset]
   have p130 : ∀ t, St p e below Tc127 (mkF m 25 Ls129 [(.ref a_UNKNOWN)]) t → S0 t := fun t k => p128 t (by
     show St p e below Tc127 (mkF m 21 Ls125 [(.ref a_UNKNOWN)]) t
     refine XS.astore Xc127.here hx rfl (hb hby at_21) rfl rfl (l' := Ls129) rfl ?_
     show St p e below Tc127 (mkF m 23 Ls129 []) t
     refine XS.aload Xc127.here hx rfl (hb hby at_23) rfl rfl ?_
     exact k)
   obtain ⟨cqc131, kqc131, qc131a, qc131b, qc131c⟩ := isOf hZ ec127 (Ea_UNKNOWN.ext O0.2)
   obtain ⟨_, _, ⟨Tc131, Lc131, kc131, nc131⟩, -, Xc131, ⟨Lcc131, hQc131, lc131, yc131, zc131⟩, stc131⟩ := Xc127.virtualBack hx (y := M1) (z := M1) hown (mvT hZ (ww hw 8 rfl)) (mvT hZ (ww hw 9 rfl)) (notFace_of_selects (args := #[]) (mvT hZ (ww hw 11 rfl))) (mvT hZ (ww hw 11 rfl)) (mvT hZ (ww hw 10 rfl)) (by decide) (backOf (W := 0) (rm2_5 l Z a0 hw [] a_YES a_NO a_UNKNOWN h0 n0 O0 HE' ) hZ (ww hw 12 rfl) (ww hw 6 rfl) (by decide) (by decide)) qc131a qc131c (g := (mkF m 25 Ls129 [(.ref a_UNKNOWN)])) rfl (by rw [hml]; rfl) (Steps.refl _) (argsL := []) (rest := []) (lenOf pd1 rfl) rfl (by show 2 * 0 + _ ≤ _; exact Nat.le_of_eq rfl) (hb hby at_25) (fun _ _ => ⟨rfl, ec127, (by decide : 0 + 0 ≤ _), (by decide : 0 + 0 ≤ _)⟩)
   dsimp only [Pt.U, Pt.locs, Pt.cells, Pt.slots] at Xc131 lc131 yc131 zc131 stc131 hQc131
   subst lc131 yc131 zc131
   obtain ⟨Nqc131, ec131, hAc131⟩ := hQc131
   have Nc131 := Fr.app Nc127 Nqc131
   obtain rfl := hAc131
   have p132 : ∀ t, St p e below Tc131 (mkF m 28 Ls129 [(.ref a_UNKNOWN)]) t → S0 t := fun t k => p130 t (stc131.trans k)
   let Ls133 : Array Slot := #[.val (.int i0), .val (.int i1), .val (.ref a_UNKNOWN), .val (.int (0 : Int32)), .val (.ref a_UNKNOWN), .val (.int (1 : Int32)), .unset, .unset]
   have p134 : ∀ t, St p e below Tc131 (mkF m 40 Ls133 [(.int (0 : Int32))]) t → S0 t := fun t k => p132 t (by
     show St p e below Tc131 (mkF m 28 Ls129 [(.ref a_UNKNOWN)]) t
     refine XS.aloadN Xc131.here hx rfl (hb hby at_28) rfl rfl ?_
     show St p e below Tc131 (mkF m 29 Ls129 [(.ref a_UNKNOWN), (.ref a_UNKNOWN)]) t
     refine Jvm.RoadKit.acmp (g := (mkF m 29 Ls129 [(.ref a_UNKNOWN), (.ref a_UNKNOWN)])) Xc131 hx rfl rfl rfl (pc0 := 29) (pc' := 32) (same := true) rfl (hb hby at_29) rfl (decide_eq_true rfl) (by decide) (by decide) ?_
     show St p e below Tc131 (mkF m 32 Ls129 []) t
     refine XT.iconstV Xc131.here hx rfl (1 : Int32) (hb hby at_32) (by decide) ?_
     show St p e below Tc131 (mkF m 33 Ls129 [(.int (1 : Int32))]) t
     refine XS.goto Xc131.here hx rfl (pc0 := 33) (pc' := 37) rfl (hb hby at_33) (by decide) (by decide) ?_
     show St p e below Tc131 (mkF m 37 Ls129 [(.int (1 : Int32))]) t
     refine XS.istore Xc131.here hx rfl (hb hby at_37) rfl (l' := Ls133) rfl ?_
     show St p e below Tc131 (mkF m 39 Ls133 []) t
     refine XS.iloadN Xc131.here hx rfl (hb hby at_39) rfl ?_
     exact k)
   obtain ⟨_, _, ⟨Tc135, Lc135, kc135, nc135⟩, -, Xc135, ⟨Lcc135, hQc135, lc135, yc135, zc135⟩, stc135⟩ := Jvm.LawKit.callS Xc131 hx (y := M2) hown (mvT hZ (ww hw 16 rfl)) (mvT hZ (ww hw 17 rfl)) (mvT hZ (ww hw 6 rfl)) (mvT hZ (ww hw 18 rfl)) (by decide) (backOf (W := 0) (rm3_3 l Z a0 hw [] a_YES a_NO a_UNKNOWN h0 n0 O0 HE' ) hZ (ww hw 18 rfl) (ww hw 6 rfl) (by decide) (by decide)) (g := (mkF m 40 Ls133 [(.int (0 : Int32))])) rfl (by rw [hml]; rfl) (argsL := [(.int (0 : Int32))]) (rest := []) (lenOf pd2 rfl) rfl (by show 2 * 0 + _ ≤ _; exact Nat.le_of_eq rfl) (hb hby at_40) (fun _ _ => ⟨rfl, ec131, (by decide : 0 + 0 ≤ _), (by decide : 0 + 0 ≤ _)⟩)
   dsimp only [Pt.U, Pt.locs, Pt.cells, Pt.slots] at Xc135 lc135 yc135 zc135 stc135 hQc135
   subst lc135 yc135 zc135
   obtain ⟨Nqc135, ec135, hAc135⟩ := hQc135
   have Nc135 := Fr.app Nc131 Nqc135
   obtain rfl := hAc135
   have p136 : ∀ t, St p e below Tc135 (mkF m 43 Ls133 [(.ref a_NO)]) t → S0 t := fun t k => p134 t (stc135 t k)
   obtain ⟨cqc137, kqc137, qc137a, qc137b, qc137c⟩ := isOf hZ ec135 (Ea_NO.ext O0.2)
   obtain ⟨_, _, ⟨Tc137, Lc137, kc137, nc137⟩, -, Xc137, ⟨Lcc137, hQc137, lc137, yc137, zc137⟩, stc137⟩ := Xc135.virtualBack hx (y := M1) (z := M1) hown (mvT hZ (ww hw 8 rfl)) (mvT hZ (ww hw 9 rfl)) (notFace_of_selects (args := #[]) (mvT hZ (ww hw 11 rfl))) (mvT hZ (ww hw 11 rfl)) (mvT hZ (ww hw 10 rfl)) (by decide) (backOf (W := 0) (rm2_2 l Z a0 hw [] a_YES a_NO a_UNKNOWN h0 n0 O0 HE' ) hZ (ww hw 12 rfl) (ww hw 6 rfl) (by decide) (by decide)) qc137a qc137c (g := (mkF m 43 Ls133 [(.ref a_NO)])) rfl (by rw [hml]; rfl) (Steps.refl _) (argsL := []) (rest := []) (lenOf pd1 rfl) rfl (by show 2 * 0 + _ ≤ _; exact Nat.le_of_eq rfl) (hb hby at_43) (fun _ _ => ⟨rfl, ec135, (by decide : 0 + 0 ≤ _), (by decide : 0 + 0 ≤ _)⟩)
   dsimp only [Pt.U, Pt.locs, Pt.cells, Pt.slots] at Xc137 lc137 yc137 zc137 stc137 hQc137
   subst lc137 yc137 zc137
   obtain ⟨Nqc137, ec137, hAc137⟩ := hQc137
   have Nc137 := Fr.app Nc135 Nqc137
   obtain rfl := hAc137
   have p138 : ∀ t, St p e below Tc137 (mkF m 46 Ls133 [(.ref a_YES)]) t → S0 t := fun t k => p136 t (stc137.trans k)
   have p139 : ∀ t, St p e below Tc137 (mkF m 55 Ls133 [(.int (1 : Int32)), (.ref a_YES)]) t → S0 t := fun t k => p138 t (by
     show St p e below Tc137 (mkF m 46 Ls133 [(.ref a_YES)]) t
     refine XS.iloadN Xc137.here hx rfl (hb hby at_46) rfl ?_
     show St p e below Tc137 (mkF m 47 Ls133 [(.int (0 : Int32)), (.ref a_YES)]) t
     refine XS.ifNo Xc137.here hx rfl (hb hby at_47) rfl ((if0 _ _).trans (teq (by decide : (0 : Int32) = (0 : Int32))).2) ?_
     show St p e below Tc137 (mkF m 50 Ls133 [(.ref a_YES)]) t
     refine XT.iconstV Xc137.here hx rfl (1 : Int32) (hb hby at_50) (by decide) ?_
     show St p e below Tc137 (mkF m 51 Ls133 [(.int (1 : Int32)), (.ref a_YES)]) t
     refine XS.goto Xc137.here hx rfl (pc0 := 51) (pc' := 55) rfl (hb hby at_51) (by decide) (by decide) ?_
     exact k)
   obtain ⟨_, _, ⟨Tc140, Lc140, kc140, nc140⟩, -, Xc140, ⟨Lcc140, hQc140, lc140, yc140, zc140⟩, stc140⟩ := Jvm.LawKit.callS Xc137 hx (y := M2) hown (mvT hZ (ww hw 16 rfl)) (mvT hZ (ww hw 17 rfl)) (mvT hZ (ww hw 6 rfl)) (mvT hZ (ww hw 18 rfl)) (by decide) (backOf (W := 1) (rm3_4 l Z a0 hw [] a_YES a_NO a_UNKNOWN h0 n0 O0 HE' ) hZ (ww hw 18 rfl) (ww hw 6 rfl) (by decide) (by decide)) (g := (mkF m 55 Ls133 [(.int (1 : Int32)), (.ref a_YES)])) rfl (by rw [hml]; rfl) (argsL := [(.int (1 : Int32))]) (rest := [(.ref a_YES)]) (lenOf pd2 rfl) rfl (by show 2 * 0 + _ ≤ _; exact Nat.le_of_eq rfl) (hb hby at_55) (fun _ _ => ⟨rfl, ec137, (by decide : 0 + 0 ≤ _), (by decide : 0 + 0 ≤ _)⟩)
   dsimp only [Pt.U, Pt.locs, Pt.cells, Pt.slots] at Xc140 lc140 yc140 zc140 stc140 hQc140
   subst lc140 yc140 zc140
   obtain ⟨Nqc140, ec140, hAc140⟩ := hQc140
   have Nc140 := Fr.app Nc137 Nqc140
   obtain rfl := hAc140
   have p141 : ∀ t, St p e below Tc140 (mkF m 58 Ls133 [(.ref a_YES), (.ref a_YES)]) t → S0 t := fun t k => p139 t (stc140 t k)
   let Ls142 : Array Slot := #[.val (.int i0), .val (.int i1), .val (.ref a_UNKNOWN), .val (.int (0 : Int32)), .val (.ref a_UNKNOWN), .val (.int (1 : Int32)), .val (.int (1 : Int32)), .unset]
   have p143 : ∀ t, St p e below Tc140 (mkF m 69 Ls142 [(.ref a_UNKNOWN)]) t → S0 t := fun t k => p141 t (by
     show St p e below Tc140 (mkF m 58 Ls133 [(.ref a_YES), (.ref a_YES)]) t
     refine Jvm.RoadKit.acmp (g := (mkF m 58 Ls133 [(.ref a_YES), (.ref a_YES)])) Xc140 hx rfl rfl rfl (pc0 := 58) (pc' := 61) (same := true) rfl (hb hby at_58) rfl (decide_eq_true rfl) (by decide) (by decide) ?_
     show St p e below Tc140 (mkF m 61 Ls133 []) t
     refine XT.iconstV Xc140.here hx rfl (1 : Int32) (hb hby at_61) (by decide) ?_
     show St p e below Tc140 (mkF m 62 Ls133 [(.int (1 : Int32))]) t
     refine XS.goto Xc140.here hx rfl (pc0 := 62) (pc' := 66) rfl (hb hby at_62) (by decide) (by decide) ?_
     show St p e below Tc140 (mkF m 66 Ls133 [(.int (1 : Int32))]) t
     refine XS.istore Xc140.here hx rfl (hb hby at_66) rfl (l' := Ls142) rfl ?_
     show St p e below Tc140 (mkF m 68 Ls142 []) t
     refine XS.aloadN Xc140.here hx rfl (hb hby at_68) rfl rfl ?_
     exact k)
   obtain ⟨T144, X144, e144, st144⟩ := getS2 Xc140 hx hZ hown (host := "") (Or.inl (ww hw 19 rfl)) Via.refl ec140 (Sa_UNKNOWN.ext O0.2) (g := (mkF m 69 Ls142 [(.ref a_UNKNOWN)])) rfl (hb hby at_69)
   have p145 : ∀ t, St p e below T144 (mkF m 72 Ls142 [(.ref a_UNKNOWN), (.ref a_UNKNOWN)]) t → S0 t := fun t k => p143 t (st144 t k)
   have p146 : ∀ t, St p e below T144 (mkF m 82 Ls142 [(.ref a_UNKNOWN), (.int (1 : Int32))]) t → S0 t := fun t k => p145 t (by
     show St p e below T144 (mkF m 72 Ls142 [(.ref a_UNKNOWN), (.ref a_UNKNOWN)]) t
     refine Jvm.RoadKit.acmp (g := (mkF m 72 Ls142 [(.ref a_UNKNOWN), (.ref a_UNKNOWN)])) X144 hx rfl rfl rfl (pc0 := 72) (pc' := 75) (same := true) rfl (hb hby at_72) rfl (decide_eq_true rfl) (by decide) (by decide) ?_
     show St p e below T144 (mkF m 75 Ls142 []) t
     refine XT.iconstV X144.here hx rfl (1 : Int32) (hb hby at_75) (by decide) ?_
     show St p e below T144 (mkF m 76 Ls142 [(.int (1 : Int32))]) t
     refine XS.goto X144.here hx rfl (pc0 := 76) (pc' := 80) rfl (hb hby at_76) (by decide) (by decide) ?_
     show St p e below T144 (mkF m 80 Ls142 [(.int (1 : Int32))]) t
     refine XS.aload X144.here hx rfl (hb hby at_80) rfl rfl ?_
     exact k)
   obtain ⟨T147, X147, e147, st147⟩ := getS2 X144 hx hZ hown (host := "") (Or.inl (ww hw 19 rfl)) Via.refl e144 (Sa_UNKNOWN.ext O0.2) (g := (mkF m 82 Ls142 [(.ref a_UNKNOWN), (.int (1 : Int32))])) rfl (hb hby at_82)
   have p148 : ∀ t, St p e below T147 (mkF m 85 Ls142 [(.ref a_UNKNOWN), (.ref a_UNKNOWN), (.int (1 : Int32))]) t → S0 t := fun t k => p146 t (st147 t k)
   let Ls149 : Array Slot := #[.val (.int i0), .val (.int i1), .val (.ref a_UNKNOWN), .val (.int (0 : Int32)), .val (.ref a_UNKNOWN), .val (.int (1 : Int32)), .val (.int (1 : Int32)), .val (.int (1 : Int32))]
   have p150 : ∀ t, St p e below T147 (mkF m 123 Ls149 [(.int (1 : Int32))]) t → S0 t := fun t k => p148 t (by
     show St p e below T147 (mkF m 85 Ls142 [(.ref a_UNKNOWN), (.ref a_UNKNOWN), (.int (1 : Int32))]) t
     refine Jvm.RoadKit.acmp (g := (mkF m 85 Ls142 [(.ref a_UNKNOWN), (.ref a_UNKNOWN), (.int (1 : Int32))])) X147 hx rfl rfl rfl (pc0 := 85) (pc' := 88) (same := true) rfl (hb hby at_85) rfl (decide_eq_true rfl) (by decide) (by decide) ?_
     show St p e below T147 (mkF m 88 Ls142 [(.int (1 : Int32))]) t
     refine XT.iconstV X147.here hx rfl (1 : Int32) (hb hby at_88) (by decide) ?_
     show St p e below T147 (mkF m 89 Ls142 [(.int (1 : Int32)), (.int (1 : Int32))]) t
     refine XS.goto X147.here hx rfl (pc0 := 89) (pc' := 93) rfl (hb hby at_89) (by decide) (by decide) ?_
     show St p e below T147 (mkF m 93 Ls142 [(.int (1 : Int32)), (.int (1 : Int32))]) t
     refine XS.icmpNo X147.here hx rfl (hb hby at_93) rfl (teq (by decide : (1 : Int32) = (1 : Int32))).2 ?_
     show St p e below T147 (mkF m 96 Ls142 []) t
     refine XT.iconstV X147.here hx rfl (1 : Int32) (hb hby at_96) (by decide) ?_
     show St p e below T147 (mkF m 97 Ls142 [(.int (1 : Int32))]) t
     refine XS.goto X147.here hx rfl (pc0 := 97) (pc' := 101) rfl (hb hby at_97) (by decide) (by decide) ?_
     show St p e below T147 (mkF m 101 Ls142 [(.int (1 : Int32))]) t
     refine XS.istore X147.here hx rfl (hb hby at_101) rfl (l' := Ls149) rfl ?_
     show St p e below T147 (mkF m 103 Ls149 []) t
     refine XS.iload X147.here hx rfl (hb hby at_103) rfl ?_
     show St p e below T147 (mkF m 105 Ls149 [(.int (1 : Int32))]) t
     refine XS.ifNo X147.here hx rfl (hb hby at_105) rfl ((if0 _ _).trans (feq (by decide : ¬ ((1 : Int32) = (0 : Int32)))).1) ?_
     show St p e below T147 (mkF m 108 Ls149 []) t
     refine XS.iload X147.here hx rfl (hb hby at_108) rfl ?_
     show St p e below T147 (mkF m 110 Ls149 [(.int (1 : Int32))]) t
     refine XS.ifNo X147.here hx rfl (hb hby at_110) rfl ((if0 _ _).trans (feq (by decide : ¬ ((1 : Int32) = (0 : Int32)))).1) ?_
     show St p e below T147 (mkF m 113 Ls149 []) t
     refine XS.iload X147.here hx rfl (hb hby at_113) rfl ?_
     show St p e below T147 (mkF m 115 Ls149 [(.int (1 : Int32))]) t
     refine XS.ifNo X147.here hx rfl (hb hby at_115) rfl ((if0 _ _).trans (feq (by decide : ¬ ((1 : Int32) = (0 : Int32)))).1) ?_
     show St p e below T147 (mkF m 118 Ls149 []) t
     refine XT.iconstV X147.here hx rfl (1 : Int32) (hb hby at_118) (by decide) ?_
     show St p e below T147 (mkF m 119 Ls149 [(.int (1 : Int32))]) t
     refine XS.goto X147.here hx rfl (pc0 := 119) (pc' := 123) rfl (hb hby at_119) (by decide) (by decide) ?_
     exact k)
   obtain ⟨fs, hr, hrun, hended, hW, hsame⟩ := X147.leave (v := some (.int (1 : Int32))) (fun h => by rw [Bd.returns] at h; cases h)
   refine ⟨_, _, p150 _ ?_, hrun, hended, _, _, rfl, ?_, ⟨_, rfl⟩, hW, hsame.mono (by decide) (by decide)⟩
   · exact retOut X147 hx Bd.returns rfl (Or.inl ⟨rfl, by simp, _, rfl⟩) (hb hby at_123) hr
   · exact ⟨rfl, Nc140⟩
  ·
   let Ls151 : Array Slot := #[.val (.int i0), .val (.int i1), .val (.ref a_UNKNOWN), .val (.int (1 : Int32)), .unset, .unset, .unset, .unset]
   have p152 : ∀ t, St p e below Tc3 (mkF m 18 Ls151 [(.ref a_UNKNOWN)]) t → S0 t := fun t k => p123 t (by
     show St p e below Tc3 (mkF m 8 Ls122 [(.int (i1 &&& (1 : Int32)))]) t
     refine XS.ifNo Xc3.here hx rfl (hb hby at_8) rfl ((if0 _ _).trans (feq g124).1) ?_
     show St p e below Tc3 (mkF m 11 Ls122 []) t
     refine XT.iconstV Xc3.here hx rfl (1 : Int32) (hb hby at_11) (by decide) ?_
     show St p e below Tc3 (mkF m 12 Ls122 [(.int (1 : Int32))]) t
     refine XS.goto Xc3.here hx rfl (pc0 := 12) (pc' := 16) rfl (hb hby at_12) (by decide) (by decide) ?_
     show St p e below Tc3 (mkF m 16 Ls122 [(.int (1 : Int32))]) t
     refine XS.istoreN Xc3.here hx rfl (hb hby at_16) rfl (l' := Ls151) rfl ?_
     show St p e below Tc3 (mkF m 17 Ls151 []) t
     refine XS.aloadN Xc3.here hx rfl (hb hby at_17) rfl rfl ?_
     exact k)
   obtain ⟨cqc153, kqc153, qc153a, qc153b, qc153c⟩ := isOf hZ ec3 (Ea_UNKNOWN.ext O0.2)
   obtain ⟨_, _, ⟨Tc153, Lc153, kc153, nc153⟩, -, Xc153, ⟨Lcc153, hQc153, lc153, yc153, zc153⟩, stc153⟩ := Xc3.virtualBack hx (y := M1) (z := M1) hown (mvT hZ (ww hw 8 rfl)) (mvT hZ (ww hw 9 rfl)) (notFace_of_selects (args := #[]) (mvT hZ (ww hw 11 rfl))) (mvT hZ (ww hw 11 rfl)) (mvT hZ (ww hw 10 rfl)) (by decide) (backOf (W := 0) (rm2_5 l Z a0 hw [] a_YES a_NO a_UNKNOWN h0 n0 O0 HE' ) hZ (ww hw 12 rfl) (ww hw 6 rfl) (by decide) (by decide)) qc153a qc153c (g := (mkF m 18 Ls151 [(.ref a_UNKNOWN)])) rfl (by rw [hml]; rfl) (Steps.refl _) (argsL := []) (rest := []) (lenOf pd1 rfl) rfl (by show 2 * 0 + _ ≤ _; exact Nat.le_of_eq rfl) (hb hby at_18) (fun _ _ => ⟨rfl, ec3, (by decide : 0 + 0 ≤ _), (by decide : 0 + 0 ≤ _)⟩)
   dsimp only [Pt.U, Pt.locs, Pt.cells, Pt.slots] at Xc153 lc153 yc153 zc153 stc153 hQc153
   subst lc153 yc153 zc153
   obtain ⟨Nqc153, ec153, hAc153⟩ := hQc153
   have Nc153 := Fr.app Nc3 Nqc153
   obtain rfl := hAc153
   have p154 : ∀ t, St p e below Tc153 (mkF m 21 Ls151 [(.ref a_UNKNOWN)]) t → S0 t := fun t k => p152 t (stc153.trans k)
   let Ls155 : Array Slot := #[.val (.int i0), .val (.int i1), .val (.ref a_UNKNOWN), .val (.int (1 : Int32)), .val (.ref a_UNKNOWN), .unset, .unset, .unset]
   have p156 : ∀ t, St p e below Tc153 (mkF m 25 Ls155 [(.ref a_UNKNOWN)]) t → S0 t := fun t k => p154 t (by
     show St p e below Tc153 (mkF m 21 Ls151 [(.ref a_UNKNOWN)]) t
     refine XS.astore Xc153.here hx rfl (hb hby at_21) rfl rfl (l' := Ls155) rfl ?_
     show St p e below Tc153 (mkF m 23 Ls155 []) t
     refine XS.aload Xc153.here hx rfl (hb hby at_23) rfl rfl ?_
     exact k)
   obtain ⟨cqc157, kqc157, qc157a, qc157b, qc157c⟩ := isOf hZ ec153 (Ea_UNKNOWN.ext O0.2)
   obtain ⟨_, _, ⟨Tc157, Lc157, kc157, nc157⟩, -, Xc157, ⟨Lcc157, hQc157, lc157, yc157, zc157⟩, stc157⟩ := Xc153.virtualBack hx (y := M1) (z := M1) hown (mvT hZ (ww hw 8 rfl)) (mvT hZ (ww hw 9 rfl)) (notFace_of_selects (args := #[]) (mvT hZ (ww hw 11 rfl))) (mvT hZ (ww hw 11 rfl)) (mvT hZ (ww hw 10 rfl)) (by decide) (backOf (W := 0) (rm2_5 l Z a0 hw [] a_YES a_NO a_UNKNOWN h0 n0 O0 HE' ) hZ (ww hw 12 rfl) (ww hw 6 rfl) (by decide) (by decide)) qc157a qc157c (g := (mkF m 25 Ls155 [(.ref a_UNKNOWN)])) rfl (by rw [hml]; rfl) (Steps.refl _) (argsL := []) (rest := []) (lenOf pd1 rfl) rfl (by show 2 * 0 + _ ≤ _; exact Nat.le_of_eq rfl) (hb hby at_25) (fun _ _ => ⟨rfl, ec153, (by decide : 0 + 0 ≤ _), (by decide : 0 + 0 ≤ _)⟩)
   dsimp only [Pt.U, Pt.locs, Pt.cells, Pt.slots] at Xc157 lc157 yc157 zc157 stc157 hQc157
   subst lc157 yc157 zc157
   obtain ⟨Nqc157, ec157, hAc157⟩ := hQc157
   have Nc157 := Fr.app Nc153 Nqc157
   obtain rfl := hAc157
   have p158 : ∀ t, St p e below Tc157 (mkF m 28 Ls155 [(.ref a_UNKNOWN)]) t → S0 t := fun t k => p156 t (stc157.trans k)
   let Ls159 : Array Slot := #[.val (.int i0), .val (.int i1), .val (.ref a_UNKNOWN), .val (.int (1 : Int32)), .val (.ref a_UNKNOWN), .val (.int (1 : Int32)), .unset, .unset]
   have p160 : ∀ t, St p e below Tc157 (mkF m 40 Ls159 [(.int (1 : Int32))]) t → S0 t := fun t k => p158 t (by
     show St p e below Tc157 (mkF m 28 Ls155 [(.ref a_UNKNOWN)]) t
     refine XS.aloadN Xc157.here hx rfl (hb hby at_28) rfl rfl ?_
     show St p e below Tc157 (mkF m 29 Ls155 [(.ref a_UNKNOWN), (.ref a_UNKNOWN)]) t
     refine Jvm.RoadKit.acmp (g := (mkF m 29 Ls155 [(.ref a_UNKNOWN), (.ref a_UNKNOWN)])) Xc157 hx rfl rfl rfl (pc0 := 29) (pc' := 32) (same := true) rfl (hb hby at_29) rfl (decide_eq_true rfl) (by decide) (by decide) ?_
     show St p e below Tc157 (mkF m 32 Ls155 []) t
     refine XT.iconstV Xc157.here hx rfl (1 : Int32) (hb hby at_32) (by decide) ?_
     show St p e below Tc157 (mkF m 33 Ls155 [(.int (1 : Int32))]) t
     refine XS.goto Xc157.here hx rfl (pc0 := 33) (pc' := 37) rfl (hb hby at_33) (by decide) (by decide) ?_
     show St p e below Tc157 (mkF m 37 Ls155 [(.int (1 : Int32))]) t
     refine XS.istore Xc157.here hx rfl (hb hby at_37) rfl (l' := Ls159) rfl ?_
     show St p e below Tc157 (mkF m 39 Ls159 []) t
     refine XS.iloadN Xc157.here hx rfl (hb hby at_39) rfl ?_
     exact k)
   obtain ⟨_, _, ⟨Tc161, Lc161, kc161, nc161⟩, -, Xc161, ⟨Lcc161, hQc161, lc161, yc161, zc161⟩, stc161⟩ := Jvm.LawKit.callS Xc157 hx (y := M2) hown (mvT hZ (ww hw 16 rfl)) (mvT hZ (ww hw 17 rfl)) (mvT hZ (ww hw 6 rfl)) (mvT hZ (ww hw 18 rfl)) (by decide) (backOf (W := 0) (rm3_4 l Z a0 hw [] a_YES a_NO a_UNKNOWN h0 n0 O0 HE' ) hZ (ww hw 18 rfl) (ww hw 6 rfl) (by decide) (by decide)) (g := (mkF m 40 Ls159 [(.int (1 : Int32))])) rfl (by rw [hml]; rfl) (argsL := [(.int (1 : Int32))]) (rest := []) (lenOf pd2 rfl) rfl (by show 2 * 0 + _ ≤ _; exact Nat.le_of_eq rfl) (hb hby at_40) (fun _ _ => ⟨rfl, ec157, (by decide : 0 + 0 ≤ _), (by decide : 0 + 0 ≤ _)⟩)
   dsimp only [Pt.U, Pt.locs, Pt.cells, Pt.slots] at Xc161 lc161 yc161 zc161 stc161 hQc161
   subst lc161 yc161 zc161
   obtain ⟨Nqc161, ec161, hAc161⟩ := hQc161
   have Nc161 := Fr.app Nc157 Nqc161
   obtain rfl := hAc161
   have p162 : ∀ t, St p e below Tc161 (mkF m 43 Ls159 [(.ref a_YES)]) t → S0 t := fun t k => p160 t (stc161 t k)
   obtain ⟨cqc163, kqc163, qc163a, qc163b, qc163c⟩ := isOf hZ ec161 (Ea_YES.ext O0.2)
   obtain ⟨_, _, ⟨Tc163, Lc163, kc163, nc163⟩, -, Xc163, ⟨Lcc163, hQc163, lc163, yc163, zc163⟩, stc163⟩ := Xc161.virtualBack hx (y := M1) (z := M1) hown (mvT hZ (ww hw 8 rfl)) (mvT hZ (ww hw 9 rfl)) (notFace_of_selects (args := #[]) (mvT hZ (ww hw 11 rfl))) (mvT hZ (ww hw 11 rfl)) (mvT hZ (ww hw 10 rfl)) (by decide) (backOf (W := 0) (rm2_1 l Z a0 hw [] a_YES a_NO a_UNKNOWN h0 n0 O0 HE' ) hZ (ww hw 12 rfl) (ww hw 6 rfl) (by decide) (by decide)) qc163a qc163c (g := (mkF m 43 Ls159 [(.ref a_YES)])) rfl (by rw [hml]; rfl) (Steps.refl _) (argsL := []) (rest := []) (lenOf pd1 rfl) rfl (by show 2 * 0 + _ ≤ _; exact Nat.le_of_eq rfl) (hb hby at_43) (fun _ _ => ⟨rfl, ec161, (by decide : 0 + 0 ≤ _), (by decide : 0 + 0 ≤ _)⟩)
   dsimp only [Pt.U, Pt.locs, Pt.cells, Pt.slots] at Xc163 lc163 yc163 zc163 stc163 hQc163
   subst lc163 yc163 zc163
   obtain ⟨Nqc163, ec163, hAc163⟩ := hQc163
   have Nc163 := Fr.app Nc161 Nqc163
   obtain rfl := hAc163
   have p164 : ∀ t, St p e below Tc163 (mkF m 46 Ls159 [(.ref a_NO)]) t → S0 t := fun t k => p162 t (stc163.trans k)
   have p165 : ∀ t, St p e below Tc163 (mkF m 55 Ls159 [(.int (0 : Int32)), (.ref a_NO)]) t → S0 t := fun t k => p164 t (by
     show St p e below Tc163 (mkF m 46 Ls159 [(.ref a_NO)]) t
     refine XS.iloadN Xc163.here hx rfl (hb hby at_46) rfl ?_
     show St p e below Tc163 (mkF m 47 Ls159 [(.int (1 : Int32)), (.ref a_NO)]) t
     refine XS.ifYes Xc163.here hx rfl (pc0 := 47) (pc' := 54) rfl (hb hby at_47) rfl ((if0 _ _).trans (feq (by decide : ¬ ((1 : Int32) = (0 : Int32)))).2) (by decide) (by decide) ?_
     show St p e below Tc163 (mkF m 54 Ls159 [(.ref a_NO)]) t
     refine XT.iconstV Xc163.here hx rfl (0 : Int32) (hb hby at_54) (by decide) ?_
     exact k)
   obtain ⟨_, _, ⟨Tc166, Lc166, kc166, nc166⟩, -, Xc166, ⟨Lcc166, hQc166, lc166, yc166, zc166⟩, stc166⟩ := Jvm.LawKit.callS Xc163 hx (y := M2) hown (mvT hZ (ww hw 16 rfl)) (mvT hZ (ww hw 17 rfl)) (mvT hZ (ww hw 6 rfl)) (mvT hZ (ww hw 18 rfl)) (by decide) (backOf (W := 1) (rm3_3 l Z a0 hw [] a_YES a_NO a_UNKNOWN h0 n0 O0 HE' ) hZ (ww hw 18 rfl) (ww hw 6 rfl) (by decide) (by decide)) (g := (mkF m 55 Ls159 [(.int (0 : Int32)), (.ref a_NO)])) rfl (by rw [hml]; rfl) (argsL := [(.int (0 : Int32))]) (rest := [(.ref a_NO)]) (lenOf pd2 rfl) rfl (by show 2 * 0 + _ ≤ _; exact Nat.le_of_eq rfl) (hb hby at_55) (fun _ _ => ⟨rfl, ec163, (by decide : 0 + 0 ≤ _), (by decide : 0 + 0 ≤ _)⟩)
   dsimp only [Pt.U, Pt.locs, Pt.cells, Pt.slots] at Xc166 lc166 yc166 zc166 stc166 hQc166
   subst lc166 yc166 zc166
   obtain ⟨Nqc166, ec166, hAc166⟩ := hQc166
   have Nc166 := Fr.app Nc163 Nqc166
   obtain rfl := hAc166
   have p167 : ∀ t, St p e below Tc166 (mkF m 58 Ls159 [(.ref a_NO), (.ref a_NO)]) t → S0 t := fun t k => p165 t (stc166 t k)
   let Ls168 : Array Slot := #[.val (.int i0), .val (.int i1), .val (.ref a_UNKNOWN), .val (.int (1 : Int32)), .val (.ref a_UNKNOWN), .val (.int (1 : Int32)), .val (.int (1 : Int32)), .unset]
   have p169 : ∀ t, St p e below Tc166 (mkF m 69 Ls168 [(.ref a_UNKNOWN)]) t → S0 t := fun t k => p167 t (by
     show St p e below Tc166 (mkF m 58 Ls159 [(.ref a_NO), (.ref a_NO)]) t
     refine Jvm.RoadKit.acmp (g := (mkF m 58 Ls159 [(.ref a_NO), (.ref a_NO)])) Xc166 hx rfl rfl rfl (pc0 := 58) (pc' := 61) (same := true) rfl (hb hby at_58) rfl (decide_eq_true rfl) (by decide) (by decide) ?_
     show St p e below Tc166 (mkF m 61 Ls159 []) t
     refine XT.iconstV Xc166.here hx rfl (1 : Int32) (hb hby at_61) (by decide) ?_
     show St p e below Tc166 (mkF m 62 Ls159 [(.int (1 : Int32))]) t
     refine XS.goto Xc166.here hx rfl (pc0 := 62) (pc' := 66) rfl (hb hby at_62) (by decide) (by decide) ?_
     show St p e below Tc166 (mkF m 66 Ls159 [(.int (1 : Int32))]) t
     refine XS.istore Xc166.here hx rfl (hb hby at_66) rfl (l' := Ls168) rfl ?_
     show St p e below Tc166 (mkF m 68 Ls168 []) t
     refine XS.aloadN Xc166.here hx rfl (hb hby at_68) rfl rfl ?_
     exact k)
   obtain ⟨T170, X170, e170, st170⟩ := getS2 Xc166 hx hZ hown (host := "") (Or.inl (ww hw 19 rfl)) Via.refl ec166 (Sa_UNKNOWN.ext O0.2) (g := (mkF m 69 Ls168 [(.ref a_UNKNOWN)])) rfl (hb hby at_69)
   have p171 : ∀ t, St p e below T170 (mkF m 72 Ls168 [(.ref a_UNKNOWN), (.ref a_UNKNOWN)]) t → S0 t := fun t k => p169 t (st170 t k)
   have p172 : ∀ t, St p e below T170 (mkF m 82 Ls168 [(.ref a_UNKNOWN), (.int (1 : Int32))]) t → S0 t := fun t k => p171 t (by
     show St p e below T170 (mkF m 72 Ls168 [(.ref a_UNKNOWN), (.ref a_UNKNOWN)]) t
     refine Jvm.RoadKit.acmp (g := (mkF m 72 Ls168 [(.ref a_UNKNOWN), (.ref a_UNKNOWN)])) X170 hx rfl rfl rfl (pc0 := 72) (pc' := 75) (same := true) rfl (hb hby at_72) rfl (decide_eq_true rfl) (by decide) (by decide) ?_
     show St p e below T170 (mkF m 75 Ls168 []) t
     refine XT.iconstV X170.here hx rfl (1 : Int32) (hb hby at_75) (by decide) ?_
     show St p e below T170 (mkF m 76 Ls168 [(.int (1 : Int32))]) t
     refine XS.goto X170.here hx rfl (pc0 := 76) (pc' := 80) rfl (hb hby at_76) (by decide) (by decide) ?_
     show St p e below T170 (mkF m 80 Ls168 [(.int (1 : Int32))]) t
     refine XS.aload X170.here hx rfl (hb hby at_80) rfl rfl ?_
     exact k)
   obtain ⟨T173, X173, e173, st173⟩ := getS2 X170 hx hZ hown (host := "") (Or.inl (ww hw 19 rfl)) Via.refl e170 (Sa_UNKNOWN.ext O0.2) (g := (mkF m 82 Ls168 [(.ref a_UNKNOWN), (.int (1 : Int32))])) rfl (hb hby at_82)
   have p174 : ∀ t, St p e below T173 (mkF m 85 Ls168 [(.ref a_UNKNOWN), (.ref a_UNKNOWN), (.int (1 : Int32))]) t → S0 t := fun t k => p172 t (st173 t k)
   let Ls175 : Array Slot := #[.val (.int i0), .val (.int i1), .val (.ref a_UNKNOWN), .val (.int (1 : Int32)), .val (.ref a_UNKNOWN), .val (.int (1 : Int32)), .val (.int (1 : Int32)), .val (.int (1 : Int32))]
   have p176 : ∀ t, St p e below T173 (mkF m 123 Ls175 [(.int (1 : Int32))]) t → S0 t := fun t k => p174 t (by
     show St p e below T173 (mkF m 85 Ls168 [(.ref a_UNKNOWN), (.ref a_UNKNOWN), (.int (1 : Int32))]) t
     refine Jvm.RoadKit.acmp (g := (mkF m 85 Ls168 [(.ref a_UNKNOWN), (.ref a_UNKNOWN), (.int (1 : Int32))])) X173 hx rfl rfl rfl (pc0 := 85) (pc' := 88) (same := true) rfl (hb hby at_85) rfl (decide_eq_true rfl) (by decide) (by decide) ?_
     show St p e below T173 (mkF m 88 Ls168 [(.int (1 : Int32))]) t
     refine XT.iconstV X173.here hx rfl (1 : Int32) (hb hby at_88) (by decide) ?_
     show St p e below T173 (mkF m 89 Ls168 [(.int (1 : Int32)), (.int (1 : Int32))]) t
     refine XS.goto X173.here hx rfl (pc0 := 89) (pc' := 93) rfl (hb hby at_89) (by decide) (by decide) ?_
     show St p e below T173 (mkF m 93 Ls168 [(.int (1 : Int32)), (.int (1 : Int32))]) t
     refine XS.icmpNo X173.here hx rfl (hb hby at_93) rfl (teq (by decide : (1 : Int32) = (1 : Int32))).2 ?_
     show St p e below T173 (mkF m 96 Ls168 []) t
     refine XT.iconstV X173.here hx rfl (1 : Int32) (hb hby at_96) (by decide) ?_
     show St p e below T173 (mkF m 97 Ls168 [(.int (1 : Int32))]) t
     refine XS.goto X173.here hx rfl (pc0 := 97) (pc' := 101) rfl (hb hby at_97) (by decide) (by decide) ?_
     show St p e below T173 (mkF m 101 Ls168 [(.int (1 : Int32))]) t
     refine XS.istore X173.here hx rfl (hb hby at_101) rfl (l' := Ls175) rfl ?_
     show St p e below T173 (mkF m 103 Ls175 []) t
     refine XS.iload X173.here hx rfl (hb hby at_103) rfl ?_
     show St p e below T173 (mkF m 105 Ls175 [(.int (1 : Int32))]) t
     refine XS.ifNo X173.here hx rfl (hb hby at_105) rfl ((if0 _ _).trans (feq (by decide : ¬ ((1 : Int32) = (0 : Int32)))).1) ?_
     show St p e below T173 (mkF m 108 Ls175 []) t
     refine XS.iload X173.here hx rfl (hb hby at_108) rfl ?_
     show St p e below T173 (mkF m 110 Ls175 [(.int (1 : Int32))]) t
     refine XS.ifNo X173.here hx rfl (hb hby at_110) rfl ((if0 _ _).trans (feq (by decide : ¬ ((1 : Int32) = (0 : Int32)))).1) ?_
     show St p e below T173 (mkF m 113 Ls175 []) t
     refine XS.iload X173.here hx rfl (hb hby at_113) rfl ?_
     show St p e below T173 (mkF m 115 Ls175 [(.int (1 : Int32))]) t
     refine XS.ifNo X173.here hx rfl (hb hby at_115) rfl ((if0 _ _).trans (feq (by decide : ¬ ((1 : Int32) = (0 : Int32)))).1) ?_
     show St p e below T173 (mkF m 118 Ls175 []) t
     refine XT.iconstV X173.here hx rfl (1 : Int32) (hb hby at_118) (by decide) ?_
     show St p e below T173 (mkF m 119 Ls175 [(.int (1 : Int32))]) t
     refine XS.goto X173.here hx rfl (pc0 := 119) (pc' := 123) rfl (hb hby at_119) (by decide) (by decide) ?_
     exact k)
   obtain ⟨fs, hr, hrun, hended, hW, hsame⟩ := X173.leave (v := some (.int (1 : Int32))) (fun h => by rw [Bd.returns] at h; cases h)
   refine ⟨_, _, p176 _ ?_, hrun, hended, _, _, rfl, ?_, ⟨_, rfl⟩, hW, hsame.mono (by decide) (by decide)⟩
   · exact retOut X173 hx Bd.returns rfl (Or.inl ⟨rfl, by simp, _, rfl⟩) (hb hby at_123) hr
   · exact ⟨rfl, Nc166⟩
set_option maxRecDepth 65536 in
set_option maxHeartbeats 40000000 in
theorem comes_1 {Post : Tables → Env → Array Value → State → Outcome → State → Prop} (hpost : ∀ tb e args s v u, (limb_1_1.after args s (.returned v) u = true ∧ limb_1_2.after args s (.returned v) u = true ∧ True) → FrameEnd s (.returned v) u (Jvm.fieldLocs frame_1_writes args s ++ Jvm.arrayLocs frame_1_arrays args s ++ Jvm.staticLocs frame_1_statics s) 0 0 → Post tb e args s (.returned v) u) :
    ArmFor flags0 classFile x code maxLocals ret World_1 tables_1 room_1 Calls_1 rest_1 Pre_1 Post := by
  intro l hfl _ _ p e ha hc hk s m args below hf hA hF happ hP
  obtain ⟨hcalls, hrest, hpre⟩ := hP
  obtain ⟨-, -, -, hnamed, -, -, -, hat⟩ := (Spec.applies_iff hf).mp happ
  obtain ⟨hg, hn⟩ := and_e (Cond.before_iff.mp (show (Jvm.Cond.and given_1 narrow_1).before args s = true from hpre))
  obtain ⟨hj1a, hj1b⟩ := and_e hg
  obtain ⟨hj2a, hj2b⟩ := and_e hj1b
  obtain ⟨w0, w1, rfl⟩ : ∃ w0 w1 : Value, args = #[w0, w1] := by
    have hs : args.size = 2 := by simpa [Cond.value, given_1] using hj1a
    obtain ⟨L⟩ := args
    match L, hs with
    | [w0, w1], _ => exact ⟨w0, w1, rfl⟩
  have hw := fun d (hd : d ∈ tables_1) => atoms_spec (ws := Jvm.Cond.code x code maxLocals ret :: tables_1) hat d (List.mem_cons_of_mem _ hd)
  have hfit : Fit s := fun {y c} hc i hi => by
    obtain ⟨ha, rfl⟩ := Array.getElem?_eq_some_iff.mp hc
    have q := List.all_eq_true.mp ((Array.all_eq_true_iff_forall_mem.mp hF) _ (Array.getElem_mem ha)) i (List.mem_range.mpr hi)
    simpa [Array.getElem?_eq_getElem hi] using q
  obtain ⟨i0, ei0⟩ := is_v hj2a
  obtain rfl : w0 = (.int i0) := Option.some.inj ei0
  obtain ⟨i1, ei1⟩ := is_v hj2b
  obtain rfl : w1 = (.int i1) := Option.some.inj ei1
  obtain ⟨hj3a, hj3b⟩ := and_e hn
  obtain ⟨hj4a, hj4b⟩ := and_e hj3b
  obtain ⟨hj5a, hj5b⟩ := and_e hj4b
  obtain ⟨hj6a, hj6b⟩ := and_e hj5b
  obtain ⟨hj7a, hj7b⟩ := and_e hj6b
  have hn0 := hj3a
  have hn1 := hj4a
  have hn2 := hj5a
  have hn3 := hj6a
  have hn4 := hj7a
  have hn5 := hj7b
  obtain ⟨a_YES, eva_YES⟩ := exa_v hn0
  obtain ⟨a_NO, eva_NO⟩ := exa_v hn1
  obtain ⟨a_UNKNOWN, eva_UNKNOWN⟩ := exa_v hn4
  obtain ⟨n, o, h1, h2, h3, _, L, rfl, ⟨rfl, N⟩, hq⟩ := rm0 l s _ hw tables_1 a_YES a_NO a_UNKNOWN i0 i1 s.heap s.heap.size (Old.start s) ⟨(Sta.start eva_YES (Or.inr ⟨(ww hw 6 rfl), (ww hw 7 rfl)⟩)), (Exa.start eva_YES hn0), (Sta.start eva_NO (Or.inr ⟨(ww hw 6 rfl), (ww hw 15 rfl)⟩)), (Exa.start eva_NO hn1), (Fld.start ((fld_at eva_NO).symm.trans (own_eqI hn2))), (Fld.start ((fld_at eva_YES).symm.trans (own_eqI hn3))), (Sta.start eva_UNKNOWN (Or.inr ⟨(ww hw 6 rfl), (ww hw 20 rfl)⟩)), (Exa.start eva_UNKNOWN hn4), (Fld.start ((fld_at eva_UNKNOWN).symm.trans (own_eqI hn5)))⟩ p e ha hc hk s m _ below hf ((Spec.applies_iff_loose hf).mp happ).1 ⟨rfl, State.Warmed39.refl s, rfl⟩ trivial
  refine ⟨n, _, h1, h2, h3, hpost _ _ _ _ _ _ ⟨Cond.after_iff.mpr rfl, Cond.after_iff.mpr (eq_i res_at (Term.int_eval (1)) rfl), trivial⟩ ⟨hq.1, hq.2.1, (hq.2.2.sift fun y hy => Or.inr (N y hy)).mono (by decide) (by decide)⟩⟩
theorem main_1_1 : Claimed_1_1 := comes_1 fun _ _ _ _ _ _ h hF => ⟨h.1, hF⟩
theorem main_1_2 : Claimed_1_2 := comes_1 fun _ _ _ _ _ _ h hF => ⟨h.2.1, hF⟩
end Jvm.Pilot.@@N@@
namespace Jvm.Pilot.@@N@@
open Jvm Jvm.ClassFile Sem Op Lib Jvm.Free Jvm.Stand Jvm.Pilot.@@N@@.Jvm.D
/-! MADE BY PROGRAM (witnessworld.py) out of the Statement's table words and the real class files: 12 classes; the members and pool entries that the words name. The judged class is class 1, her method 2. -/
namespace start1
open Jvm.ClassFile
def u (s : String) : CpInfo := .utf8 (stringToUtf16 s)
/-- a pool by its gaps: so many unusable entries, then the entry; so many at the end -/
def gap : Nat → List CpInfo → List CpInfo
  | 0, r => r
  | n + 1, r => .unusable :: gap n r
def poolList (es : List (Nat × CpInfo)) (last : Nat) : List CpInfo := es.foldr (fun e r => gap e.1 (e.2 :: r)) (gap last [])
def pool (es : List (Nat × CpInfo)) (last : Nat) : Array CpInfo := ⟨poolList es last⟩
def fileOf (pool : Array CpInfo) (this : Nat) (attrs : Array Attribute := #[]) (ms : Array MethodInfo := #[]) (fl : Nat := 33) (sup : Nat := 0) (ifs : Array Nat := #[]) (fds : Array FieldInfo := #[]) : ClassFile where
  minorVersion := 0
  majorVersion := 65
  constantPool := pool
  accessFlags := fl
  thisClass := this
  superClass := sup
  interfaces := ifs
  fields := fds
  methods := ms
  attributes := attrs
def plain (name : String) (sup : Option ClassId) : Class where
  name := name
  kind := .ordinary
  loader := none
  accessFlags := 33
  super := sup
  interfaces := #[]
  cf := none
  fields := #[]
  methods := #[]
  instanceTypes := #[]
  staticTypes := #[]
  resolved := #[]
  callSites := []
  init := .initialized
  statics := none
  mirror := none

def pool0 : Array CpInfo := pool [(5, u "<init>"), (0, u "()V"), (1, .class_ 10), (1, u "java/lang/Object")] 113

def k0m0 : Method := { name := "<init>", desc := "()V", sig := { parameters := [], returnType := none }, accessFlags := 1, code := none }
/-- java/lang/Object -/
def k0 : Class := { plain "java/lang/Object" none with
  accessFlags := 33
  interfaces := #[]
  cf := some (fileOf pool0 8 #[] #[{ accessFlags := 1, nameIndex := 5, descriptorIndex := 6, attributes := #[] }] 33 0 #[] #[])
  fields := #[]
  methods := #[k0m0]
  instanceTypes := #[]
  staticTypes := #[]
  resolved := Array.replicate 124 none
  statics := none }

def pool1 : Array CpInfo := pool [(2, .class_ 4), (1, u "java/lang/Object"), (0, u "<init>"), (0, u "()V"), (0, .integer 2147483647), (0, .fieldref 9 10), (0, .class_ 11), (0, .nameAndType 12 13), (0, u "com/example/bouncr/bouncr/analysis/Answer"), (0, u "YES"), (0, u "Lcom/example/bouncr/bouncr/analysis/Answer;"), (0, .fieldref 9 15), (0, .nameAndType 16 13), (0, u "NO"), (0, .fieldref 9 18), (0, .nameAndType 19 13), (0, u "UNKNOWN"), (0, .methodref 21 22), (0, .class_ 23), (0, .nameAndType 24 25), (0, u "com/example/bouncr/bouncr/analysis/AnswerNotPinLaw"), (0, u "pick"), (0, u "(I)Lcom/example/bouncr/bouncr/analysis/Answer;"), (0, .methodref 9 27), (0, .nameAndType 28 29), (0, u "not"), (0, u "()Lcom/example/bouncr/bouncr/analysis/Answer;"), (0, .methodref 9 31), (0, .nameAndType 32 33), (0, u "of"), (0, u "(Z)Lcom/example/bouncr/bouncr/analysis/Answer;"), (3, u "law"), (0, u "(II)Z")] 2

def k1m0 : Method := { name := "<init>", desc := "()V", sig := { parameters := [], returnType := none }, accessFlags := 1, code := none }
def k1c1 : Code := { maxStack := 2, maxLocals := 2, code := method_2_code, exceptionTable := #[], attributes := #[] }
def k1m1 : Method := { name := "pick", desc := "(I)Lcom/example/bouncr/bouncr/analysis/Answer;", sig := { parameters := [.int], returnType := some (.object "com/example/bouncr/bouncr/analysis/Answer") }, accessFlags := 10, code := some k1c1 }
def k1c2 : Code := { maxStack := 3, maxLocals := 8, code := code, exceptionTable := #[], attributes := #[] }
def k1m2 : Method := { name := "law", desc := "(II)Z", sig := { parameters := [.int, .int], returnType := some .boolean }, accessFlags := 9, code := some k1c2 }
/-- com/example/bouncr/bouncr/analysis/AnswerNotPinLaw -/
def k1 : Class := { plain "com/example/bouncr/bouncr/analysis/AnswerNotPinLaw" (some 0) with
  accessFlags := 49
  interfaces := #[]
  cf := some (fileOf pool1 21 #[] #[{ accessFlags := 1, nameIndex := 5, descriptorIndex := 6, attributes := #[] }, { accessFlags := 10, nameIndex := 24, descriptorIndex := 25, attributes := #[] }, { accessFlags := 9, nameIndex := 37, descriptorIndex := 38, attributes := #[] }] 49 2 #[] #[])
  fields := #[]
  methods := #[k1m0, k1m1, k1m2]
  instanceTypes := #[]
  staticTypes := #[]
  resolved := Array.replicate 41 none
  statics := none }

def pool2 : Array CpInfo := pool [(1, .class_ 2), (0, u "java/lang/constant/Constable"), (0, .class_ 4), (0, u "java/lang/Object")] 6

/-- java/lang/constant/Constable -/
def k2 : Class := { plain "java/lang/constant/Constable" (some 0) with
  accessFlags := 1537
  interfaces := #[]
  cf := some (fileOf pool2 1 #[] #[] 1537 3 #[] #[])
  fields := #[]
  methods := #[]
  instanceTypes := #[]
  staticTypes := #[]
  resolved := Array.replicate 11 none
  statics := none }

def pool3 : Array CpInfo := pool [(1, .class_ 2), (0, u "java/lang/Comparable"), (0, .class_ 4), (0, u "java/lang/Object")] 7

/-- java/lang/Comparable -/
def k3 : Class := { plain "java/lang/Comparable" (some 0) with
  accessFlags := 1537
  interfaces := #[]
  cf := some (fileOf pool3 1 #[] #[] 1537 3 #[] #[])
  fields := #[]
  methods := #[]
  instanceTypes := #[]
  staticTypes := #[]
  resolved := Array.replicate 12 none
  statics := none }

def pool4 : Array CpInfo := pool [(1, .class_ 2), (0, u "java/io/Serializable"), (0, .class_ 4), (0, u "java/lang/Object")] 2

/-- java/io/Serializable -/
def k4 : Class := { plain "java/io/Serializable" (some 0) with
  accessFlags := 1537
  interfaces := #[]
  cf := some (fileOf pool4 1 #[] #[] 1537 3 #[] #[])
  fields := #[]
  methods := #[]
  instanceTypes := #[]
  staticTypes := #[]
  resolved := Array.replicate 7 none
  statics := none }

def pool5 : Array CpInfo := pool [(2, .class_ 4), (1, u "java/lang/Enum"), (0, u "name"), (0, u "Ljava/lang/String;"), (2, u "ordinal"), (0, u "I"), (1, .class_ 14), (1, u "java/lang/Object"), (4, u "hash"), (86, .class_ 108), (1, u "java/lang/Enum$EnumDesc"), (2, .class_ 112), (0, u "java/lang/constant/Constable"), (0, .class_ 114), (0, u "java/lang/Comparable"), (0, .class_ 116), (0, u "java/io/Serializable")] 87

/-- java/lang/Enum -/
def k5 : Class := { plain "java/lang/Enum" (some 0) with
  accessFlags := 1057
  interfaces := #[2, 3, 4]
  cf := some (fileOf pool5 2 #[.nestMembers #[106]] #[] 1057 12 #[111, 113, 115] #[{ accessFlags := 18, nameIndex := 5, descriptorIndex := 6, attributes := #[] }, { accessFlags := 18, nameIndex := 9, descriptorIndex := 10, attributes := #[] }, { accessFlags := 2, nameIndex := 19, descriptorIndex := 10, attributes := #[] }])
  fields := #[{ name := "name", type := (.object "java/lang/String"), accessFlags := 18, slot := 0, constantValue := 0 }, { name := "ordinal", type := .int, accessFlags := 18, slot := 1, constantValue := 0 }, { name := "hash", type := .int, accessFlags := 2, slot := 2, constantValue := 0 }]
  methods := #[]
  instanceTypes := #[(.object "java/lang/String"), .int, .int]
  staticTypes := #[]
  resolved := Array.replicate 204 none
  statics := none }

def pool6 : Array CpInfo := pool [(1, .class_ 2), (0, u "com/example/bouncr/bouncr/analysis/Answer"), (0, .fieldref 1 4), (0, .nameAndType 5 6), (0, u "YES"), (0, u "Lcom/example/bouncr/bouncr/analysis/Answer;"), (0, .fieldref 1 8), (0, .nameAndType 9 6), (0, u "NO"), (0, .fieldref 1 11), (0, .nameAndType 12 6), (0, u "UNKNOWN"), (2, u "$VALUES"), (0, u "[Lcom/example/bouncr/bouncr/analysis/Answer;"), (6, .class_ 25), (1, u "java/lang/Enum"), (21, u "not"), (0, u "()Lcom/example/bouncr/bouncr/analysis/Answer;"), (1, u "of"), (0, u "(Z)Lcom/example/bouncr/bouncr/analysis/Answer;")] 4

def k6c0 : Code := { maxStack := 2, maxLocals := 2, code := prog_2_method_4_code, exceptionTable := #[], attributes := #[] }
def k6m0 : Method := { name := "not", desc := "()Lcom/example/bouncr/bouncr/analysis/Answer;", sig := { parameters := [], returnType := some (.object "com/example/bouncr/bouncr/analysis/Answer") }, accessFlags := 0, code := some k6c0 }
def k6c1 : Code := { maxStack := 1, maxLocals := 1, code := prog_2_method_5_code, exceptionTable := #[], attributes := #[] }
def k6m1 : Method := { name := "of", desc := "(Z)Lcom/example/bouncr/bouncr/analysis/Answer;", sig := { parameters := [.boolean], returnType := some (.object "com/example/bouncr/bouncr/analysis/Answer") }, accessFlags := 8, code := some k6c1 }
/-- com/example/bouncr/bouncr/analysis/Answer -/
def k6 : Class := { plain "com/example/bouncr/bouncr/analysis/Answer" (some 5) with
  accessFlags := 16433
  interfaces := #[]
  cf := some (fileOf pool6 1 #[] #[{ accessFlags := 0, nameIndex := 47, descriptorIndex := 48, attributes := #[] }, { accessFlags := 8, nameIndex := 50, descriptorIndex := 51, attributes := #[] }] 16433 23 #[] #[{ accessFlags := 16409, nameIndex := 5, descriptorIndex := 6, attributes := #[] }, { accessFlags := 16409, nameIndex := 9, descriptorIndex := 6, attributes := #[] }, { accessFlags := 16409, nameIndex := 12, descriptorIndex := 6, attributes := #[] }, { accessFlags := 4122, nameIndex := 15, descriptorIndex := 16, attributes := #[] }])
  fields := #[{ name := "YES", type := (.object "com/example/bouncr/bouncr/analysis/Answer"), accessFlags := 16409, slot := 0, constantValue := 0 }, { name := "NO", type := (.object "com/example/bouncr/bouncr/analysis/Answer"), accessFlags := 16409, slot := 1, constantValue := 0 }, { name := "UNKNOWN", type := (.object "com/example/bouncr/bouncr/analysis/Answer"), accessFlags := 16409, slot := 2, constantValue := 0 }, { name := "$VALUES", type := (.array (.object "com/example/bouncr/bouncr/analysis/Answer")), accessFlags := 4122, slot := 3, constantValue := 0 }]
  methods := #[k6m0, k6m1]
  instanceTypes := #[(.object "java/lang/String"), .int, .int]
  staticTypes := #[(.object "com/example/bouncr/bouncr/analysis/Answer"), (.object "com/example/bouncr/bouncr/analysis/Answer"), (.object "com/example/bouncr/bouncr/analysis/Answer"), (.array (.object "com/example/bouncr/bouncr/analysis/Answer"))]
  resolved := Array.replicate 56 none
  statics := some 0 }

def pool7 : Array CpInfo := pool [(1, u "java/lang/Cloneable"), (0, .class_ 1), (0, u "java/lang/Object"), (0, .class_ 3)] 3

/-- java/lang/Cloneable -/
def k7 : Class := { plain "java/lang/Cloneable" (some 0) with
  accessFlags := 1537
  interfaces := #[]
  cf := some (fileOf pool7 2 #[] #[] 1537 4 #[] #[])
  fields := #[]
  methods := #[]
  instanceTypes := #[]
  staticTypes := #[]
  resolved := Array.replicate 8 none
  statics := none }

/-- the primitive byte -/
def k8 : Class := { plain "byte" none with kind := .primitive 'B', accessFlags := 0x411 }
/-- [B -/
def k9 : Class := { plain "[B" (some 0) with kind := .array 8 .byte, interfaces := #[7, 4], accessFlags := 1041 }

/-- the primitive int -/
def k10 : Class := { plain "int" none with kind := .primitive 'I', accessFlags := 0x411 }
/-- [I -/
def k11 : Class := { plain "[I" (some 0) with kind := .array 10 .int, interfaces := #[7, 4], accessFlags := 1041 }

def heap : Heap := #[{ cls := 6, slots := #[.ref 1, .ref 2, .ref 3, .null], vm := .statics 6 },
  { cls := 6, slots := #[.null, .int 0, .int 0], vm := .none },
  { cls := 6, slots := #[.null, .int 1, .int 0], vm := .none },
  { cls := 6, slots := #[.null, .int 2, .int 0], vm := .none }]
def classes : Array Class := #[k0, k1, k2, k3, k4, k5, k6, k7, k8, k9, k10, k11]
def interned : List (Array UInt16 × Addr) := []
def slotsUsed : Nat := 13
def theMethod : MethodId := ⟨1, 2⟩
def args0 : Array Value := #[.int 5, .int 7]
def aboutOver (below : List Frame) : State where
  vm := { classes := classes, interned := interned.toArray }
  heap := heap
  slotsUsed := slotsUsed
  threads := #[{ frames := .invoking theMethod args0 :: below }]
def below0 : List Frame := [.native { method := ⟨0, 0⟩, args := #[] }]
def about1 : State := aboutOver below0
def p0 : Program := .bare "" "" ""
def e0 : Env := launch0.env 0 0 0
theorem w_frames : about1.frames = Frame.invoking theMethod args0 :: below0 := rfl
set_option maxRecDepth 65536 in
theorem w_args : argsFit about1.vm theMethod args0 = true := by decide +kernel
set_option maxRecDepth 65536 in
theorem w_heap : heapFits about1 = true := by decide +kernel
set_option maxRecDepth 65536 in
theorem w_runnable : about1.curStatus? = some .runnable := by decide +kernel
set_option maxRecDepth 65536 in
theorem w_alone : about1.alone = true := by decide +kernel
set_option maxRecDepth 65536 in
theorem w_named : about1.methodNamed? x = some theMethod := by decide +kernel
set_option maxRecDepth 65536 in
theorem w_hears : about1.hears theMethod below0 = true := by decide +kernel
set_option maxRecDepth 65536 in
theorem w_ripe : about1.ripe theMethod args0 below0 = true := by decide +kernel
theorem w_running : about1.status = .running := rfl
set_option maxRecDepth 65536 in
theorem w_room : about1.hasRoom e0.platform room_1 = true :=
  launch0.hasRoom_least _ room_1 (by decide +kernel) (by decide +kernel) (by decide +kernel) (by decide +kernel) (by decide +kernel) (by decide +kernel)
theorem allAtoms_all (ts : List Jvm.Cond) (a : Array Jvm.Value) (st : Jvm.State) : (allAtoms ts).before a st = ts.all (fun c => c.before a st) := by
  induction ts with
  | nil => rfl
  | cons c t ih =>
    show (Jvm.Cond.and c (allAtoms t)).before a st = _
    rw [Jvm.Cond.before_and, ih, List.all_cons]
def words1 : List Jvm.Cond := Jvm.Cond.code x code maxLocals ret :: tables_1
/-- a 'code' word, met by the world's own term for the bytes: nothing is compared byte by byte -/
theorem code_word {y : MethodName} {bytes : ByteArray} {mx : Nat} {rt : Option FieldType} {a : Array Value} {s : State} {m : MethodId} {meth : Method} {c : Code} (h1 : s.methodNamed? y = some m) (h2 : s.vm.method? m = some meth) (h3 : meth.code = some c) (h4 : c.code = bytes)
    (h5 : (c.maxLocals == mx && c.exceptionTable.isEmpty && decide (c.maxStack ≤ mostOperands) && decide (meth.sig.returnType = rt) && !meth.locks && decide (parseMethodDescriptor y.desc = some meth.sig)) = true) : (Jvm.Cond.code y bytes mx rt).before a s = true := by
  simp only [Bool.and_eq_true, beq_iff_eq, Bool.not_eq_true', decide_eq_true_eq] at h5
  obtain ⟨⟨⟨⟨⟨g1, g2⟩, g3⟩, g4⟩, g5⟩, g6⟩ := h5
  simp [Cond.before, Cond.holds, Cond.value, h1, h2, h3, h4, g1, g2, g3, g4, g5, g6]
def isCode : Jvm.Cond → Bool
  | .code _ _ _ _ => true
  | _ => false
theorem all_split {L : List Jvm.Cond} {P : Jvm.Cond → Bool} (h1 : L.all (fun c => isCode c || P c) = true) (h2 : ∀ c ∈ L.filter isCode, P c = true) : L.all P = true := by
  refine List.all_eq_true.mpr fun c hc => ?_
  have h := List.all_eq_true.mp h1 c hc
  rcases Bool.eq_false_or_eq_true (isCode c) with hi | hi
  · exact h2 c (List.mem_filter.mpr ⟨hc, hi⟩)
  · simpa [hi] using h
set_option maxRecDepth 65536 in
theorem w_c0 : (Jvm.Cond.code x code maxLocals ret).before args0 about1 = true := code_word (m := ⟨1, 2⟩) (meth := k1m2) (c := k1c2) (by decide +kernel) rfl rfl rfl (by decide +kernel)
set_option maxRecDepth 65536 in
theorem w_c1 : (Jvm.Cond.code ({ cls := "com/example/bouncr/bouncr/analysis/AnswerNotPinLaw", name := "pick", desc := "(I)Lcom/example/bouncr/bouncr/analysis/Answer;" } : Jvm.MethodName) method_2_code (2 : Nat) (Option.some (Jvm.ClassFile.FieldType.object "com/example/bouncr/bouncr/analysis/Answer"))).before args0 about1 = true := code_word (m := ⟨1, 1⟩) (meth := k1m1) (c := k1c1) (by decide +kernel) rfl rfl rfl (by decide +kernel)
set_option maxRecDepth 65536 in
theorem w_c2 : (Jvm.Cond.code ({ cls := "com/example/bouncr/bouncr/analysis/Answer", name := "not", desc := "()Lcom/example/bouncr/bouncr/analysis/Answer;" } : Jvm.MethodName) prog_2_method_4_code (2 : Nat) (Option.some (Jvm.ClassFile.FieldType.object "com/example/bouncr/bouncr/analysis/Answer"))).before args0 about1 = true := code_word (m := ⟨6, 0⟩) (meth := k6m0) (c := k6c0) (by decide +kernel) rfl rfl rfl (by decide +kernel)
set_option maxRecDepth 65536 in
theorem w_c3 : (Jvm.Cond.code ({ cls := "com/example/bouncr/bouncr/analysis/Answer", name := "of", desc := "(Z)Lcom/example/bouncr/bouncr/analysis/Answer;" } : Jvm.MethodName) prog_2_method_5_code (1 : Nat) (Option.some (Jvm.ClassFile.FieldType.object "com/example/bouncr/bouncr/analysis/Answer"))).before args0 about1 = true := code_word (m := ⟨6, 1⟩) (meth := k6m1) (c := k6c1) (by decide +kernel) rfl rfl rfl (by decide +kernel)
def codes1 : List Jvm.Cond := [Jvm.Cond.code x code maxLocals ret, Jvm.Cond.code ({ cls := "com/example/bouncr/bouncr/analysis/AnswerNotPinLaw", name := "pick", desc := "(I)Lcom/example/bouncr/bouncr/analysis/Answer;" } : Jvm.MethodName) method_2_code (2 : Nat) (Option.some (Jvm.ClassFile.FieldType.object "com/example/bouncr/bouncr/analysis/Answer")), Jvm.Cond.code ({ cls := "com/example/bouncr/bouncr/analysis/Answer", name := "not", desc := "()Lcom/example/bouncr/bouncr/analysis/Answer;" } : Jvm.MethodName) prog_2_method_4_code (2 : Nat) (Option.some (Jvm.ClassFile.FieldType.object "com/example/bouncr/bouncr/analysis/Answer")), Jvm.Cond.code ({ cls := "com/example/bouncr/bouncr/analysis/Answer", name := "of", desc := "(Z)Lcom/example/bouncr/bouncr/analysis/Answer;" } : Jvm.MethodName) prog_2_method_5_code (1 : Nat) (Option.some (Jvm.ClassFile.FieldType.object "com/example/bouncr/bouncr/analysis/Answer"))]
set_option maxRecDepth 65536 in
theorem codes_eq : words1.filter isCode = codes1 := rfl
theorem w_codes : ∀ c ∈ words1.filter isCode, c.before args0 about1 = true := by
  rw [codes_eq]
  intro c hc
  simp only [codes1, List.mem_cons, List.not_mem_nil, or_false] at hc
  rcases hc with rfl | rfl | rfl | rfl
  · exact w_c0
  · exact w_c1
  · exact w_c2
  · exact w_c3
set_option maxRecDepth 65536 in
theorem w_t1 : words1.all (fun c => isCode c || c.before args0 about1) = true := by decide +kernel
theorem w_tables : (allAtoms (Jvm.Cond.code x code maxLocals ret :: tables_1)).before args0 about1 = true := by
  rw [allAtoms_all]
  show words1.all (fun c => c.before args0 about1) = true
  refine all_split ?_ w_codes
  rw [w_t1]
set_option maxRecDepth 65536 in
theorem w_case : (Jvm.Cond.and given_1 narrow_1).before args0 about1 = true := by decide +kernel
theorem w_applies : (headSpec (Jvm.Cond.code x code maxLocals ret :: tables_1) room_1).applies x e0.platform about1 = true :=
  (Spec.applies_iff w_frames).mpr ⟨w_running, w_runnable, w_alone, w_named, w_hears, w_ripe, w_room, w_tables⟩
theorem atStart : AtStart classFile x code maxLocals ret World_1 tables_1 room_1 Calls_1 rest_1 Pre_1 launch0 p0 e0 about1 theMethod args0 below0 :=
  ⟨lists_1, trivial, launch0.admits_env _ _ _, launch0.least_env, fairChoices_fair.cas, fairChoices_fair.clock, w_frames, w_args, w_heap, w_applies, trivial, trivial, w_case⟩
end start1
theorem witness_1 : WitnessClaimed_1 := ⟨start1.p0, start1.e0, start1.about1, start1.theMethod, start1.args0, start1.below0, start1.atStart⟩
end Jvm.Pilot.@@N@@
