import JvmDerived
import JvmDerived.Pilot.@@N@@Statement
import JvmDerived.Pilot.@@N@@Code
set_option linter.unusedVariables false
set_option linter.unusedSimpArgs false
namespace Jvm.Pilot.@@N@@
open Jvm Jvm.ClassFile Sem Op Lib Jvm.Free Jvm.Stand Jvm.LawKit Jvm.RoadKit Bundle Jvm.Pilot.@@N@@.Jvm.D
abbrev St (p : Program) (e : Env) (below : List Frame) (T : State) (g : JFrame) (t : State) : Prop := Steps p.tables e below (T.setTop g) t
theorem ww {Z : State} {a0 : Array Value} (hw : ∀ d ∈ tables_1, d.before a0 Z = true) {d : Jvm.Cond} (i : Nat) (h : tables_1[i]? = some d) : d.before a0 Z = true := hw _ (List.mem_of_getElem? h)
theorem ltI {a b : Int32} (h : a < b) : a.toInt < b.toInt := Int32.lt_iff_toInt_lt.mp h
theorem nltI {a b : Int32} (h : ¬ a < b) : ¬ a.toInt < b.toInt := mt Int32.lt_iff_toInt_lt.mpr h
theorem eqI {a b : Int32} (h : a = b) : a.toInt = b.toInt := congrArg Int32.toInt h
theorem neI {a b : Int32} (h : ¬ a = b) : ¬ a.toInt = b.toInt := mt Int32.toInt_inj.mp h
theorem ltJ {a b : Int64} (h : a < b) : a.toInt < b.toInt := Int64.lt_iff_toInt_lt.mp h
theorem nltJ {a b : Int64} (h : ¬ a < b) : ¬ a.toInt < b.toInt := mt Int64.lt_iff_toInt_lt.mpr h
theorem eqJ {a b : Int64} (h : a = b) : a.toInt = b.toInt := congrArg Int64.toInt h
theorem neJ {a b : Int64} (h : ¬ a = b) : ¬ a.toInt = b.toInt := mt Int64.toInt_inj.mp h
theorem own_eqI {args : Array Value} {s : State} {t : Term} {k : Int32} (h : (Jvm.Cond.eq t (.int k)).value args s none s [] = some true) : t.eval args s none [] s = some (.int k) := by
  obtain ⟨x, y, ex, ey, k1, k2⟩ := cmp_v (Or.inl h)
  obtain rfl : y = .int k := Option.some.inj (ey.symm.trans (Term.int_eval k))
  obtain ⟨z, rfl⟩ := k2
  rw [ex, gotT (Cond.eq_ints ex ey) h]
theorem own_eqJ {args : Array Value} {s : State} {t : Term} {k : Int64} (h : (Jvm.Cond.eq t (.long k)).value args s none s [] = some true) : t.eval args s none [] s = some (.long k) := by
  obtain ⟨x, y, ex, ey, k1, k2⟩ := cmp_v (Or.inl h)
  obtain rfl : y = .long k := Option.some.inj (ey.symm.trans (long_at k))
  obtain ⟨z, rfl⟩ := k2
  rw [ex, gotT (eq_L ex ey) h]
theorem own_eqR {args : Array Value} {s : State} {t u : Term} {b : Addr} (h : (Jvm.Cond.eq t u).value args s none s [] = some true) (hu : u.eval args s none [] s = some (.ref b)) : t.eval args s none [] s = some (.ref b) := by
  obtain ⟨x, y, ex, ey, k1, k2⟩ := cmp_v (Or.inl h)
  obtain rfl : y = .ref b := Option.some.inj (ey.symm.trans hu)
  have hx : x.isRef = true := k2.2
  rw [ex, gotT (eq_R ex ey hx rfl) h]
theorem own_len {args : Array Value} {s : State} {t : Term} {a : Addr} {cl : Cell} {ty : FieldType} {k : Int32} (ev : t.eval args s none [] s = some (.ref a)) (A : Arr s s.heap a cl ty) (h : (Term.length t).eval args s none [] s = some (.int k)) : cl.slots.size < 2 ^ 31 ∧ cl.slots.size.toInt32 = k := by
  have ha := A.fin (Vm.Alike.refl _)
  by_cases hl : cl.slots.size < 2 ^ 31
  · exact ⟨hl, Value.int.inj (Option.some.inj ((len_f ev ha hl).symm.trans h))⟩
  · exfalso; simp [Term.eval, ev, ha, hl] at h
theorem own_sel {Z : State} {a0 : Array Value} {y : MethodName} {n : Nat} (wi : (Jvm.Cond.instantiable y.cls n).before a0 Z = true) (wp : (Jvm.Cond.privateMethod y).before a0 Z = true) (wm : (Jvm.Cond.instanceMethod y).before a0 Z = true) (hy : y.cls ≠ "java/lang/invoke/MethodHandle" ∧ y.cls ≠ "java/lang/invoke/VarHandle") : (Jvm.Cond.selects y.cls y y).before a0 Z = true := by
  obtain ⟨c, k, h1, h2, h3, h4, -⟩ := Cond.instantiable_spec wi
  exact selects_self_of_private h1 h2 (by simp only [Bool.or_eq_false_iff] at h4; exact h4.1) (Cond.privateMethod_at wp) wm hy
def own_nz (x : Int64) : Int32 := if x = 0 then 0 else 1
theorem own_c_nz (x : Int64) : (x.toInt = 0 → (own_nz x).toInt = 0) ∧ (x.toInt ≠ 0 → (own_nz x).toInt = 1) := by
  unfold own_nz
  by_cases h : x = 0
  · subst h; exact ⟨fun _ => by decide, fun q => absurd (by decide) q⟩
  · rw [if_neg h]; exact ⟨fun q => absurd (Int64.toInt_inj.mp (q.trans (by decide : (0 : Int) = (0 : Int64).toInt))) h, fun _ => by decide⟩
theorem own_old_le {Z : State} {n0 : Nat} {h : Heap} (O : Old Z n0 h) : n0 ≤ h.size := O.1 ▸ O.2.1
abbrev M0 : MethodName := ⟨"dev/ambrotype/StrategyKeepsDataPinLaw", "pick", "(I)Ldev/ambrotype/DiskCache$Strategy;"⟩
abbrev M1 : MethodName := ⟨"dev/ambrotype/DiskCache$Strategy", "keepsData", "()Z"⟩

def Env1 (Z : State) (a_ALL : Addr) (a_NONE : Addr) (a_DATA : Addr) (a_RESULT : Addr) : Prop := Sta Z Z.heap "dev/ambrotype/DiskCache$Strategy" "ALL" "Ldev/ambrotype/DiskCache$Strategy;" (.ref a_ALL) ∧
  Exa Z Z.heap a_ALL "dev/ambrotype/DiskCache$Strategy" ∧
  Sta Z Z.heap "dev/ambrotype/DiskCache$Strategy" "NONE" "Ldev/ambrotype/DiskCache$Strategy;" (.ref a_NONE) ∧
  Exa Z Z.heap a_NONE "dev/ambrotype/DiskCache$Strategy" ∧
  Fld Z Z.heap a_NONE "java/lang/Enum" "ordinal" "I" (.int (3 : Int32)) ∧
  Fld Z Z.heap a_ALL "java/lang/Enum" "ordinal" "I" (.int (0 : Int32)) ∧
  Sta Z Z.heap "dev/ambrotype/DiskCache$Strategy" "DATA" "Ldev/ambrotype/DiskCache$Strategy;" (.ref a_DATA) ∧
  Exa Z Z.heap a_DATA "dev/ambrotype/DiskCache$Strategy" ∧
  Fld Z Z.heap a_DATA "java/lang/Enum" "ordinal" "I" (.int (1 : Int32)) ∧
  Sta Z Z.heap "dev/ambrotype/DiskCache$Strategy" "RESULT" "Ldev/ambrotype/DiskCache$Strategy;" (.ref a_RESULT) ∧
  Exa Z Z.heap a_RESULT "dev/ambrotype/DiskCache$Strategy" ∧
  Fld Z Z.heap a_RESULT "java/lang/Enum" "ordinal" "I" (.int (2 : Int32))
theorem ef0 (m : MethodId) (x0 : Int32) : entryFrame m #[(.int x0)] maxLocals = mkF m 0 #[.val (.int x0), .unset, .unset, .unset] [] := by first | (simp [entryFrame, mkF, argsToLocals, Value.category, maxLocals]; done) | rfl
theorem pn0 : plainName "dev/ambrotype/StrategyKeepsDataPinLaw" = true := by first | (simp [plainName, overriddenIn]; done) | decide +kernel
theorem ef1 (m : MethodId) (x0 : Int32) : entryFrame m #[(.int x0)] 1 = mkF m 0 #[.val (.int x0)] [] := by first | (simp [entryFrame, mkF, argsToLocals, Value.category]; done) | rfl
theorem d1_0 : decode method_2_code 0 = .ok (.iload_n 0, 1) := by decide +kernel
theorem d1_1 : decode method_2_code 1 = .ok (.ifCond .ne 7, 3) := by decide +kernel
theorem d1_4 : decode method_2_code 4 = .ok (.getstatic 7, 3) := by decide +kernel
theorem d1_7 : decode method_2_code 7 = .ok (.areturn, 1) := by decide +kernel
theorem d1_8 : decode method_2_code 8 = .ok (.iload_n 0, 1) := by decide +kernel
theorem d1_9 : decode method_2_code 9 = .ok (.iconst 1, 1) := by decide +kernel
theorem d1_10 : decode method_2_code 10 = .ok (.if_icmp .ne 7, 3) := by decide +kernel
theorem d1_13 : decode method_2_code 13 = .ok (.getstatic 13, 3) := by decide +kernel
theorem d1_16 : decode method_2_code 16 = .ok (.areturn, 1) := by decide +kernel
theorem d1_17 : decode method_2_code 17 = .ok (.iload_n 0, 1) := by decide +kernel
theorem d1_18 : decode method_2_code 18 = .ok (.iconst 2, 1) := by decide +kernel
theorem d1_19 : decode method_2_code 19 = .ok (.if_icmp .ne 7, 3) := by decide +kernel
theorem d1_22 : decode method_2_code 22 = .ok (.getstatic 16, 3) := by decide +kernel
theorem d1_25 : decode method_2_code 25 = .ok (.areturn, 1) := by decide +kernel
theorem d1_26 : decode method_2_code 26 = .ok (.getstatic 19, 3) := by decide +kernel
theorem d1_29 : decode method_2_code 29 = .ok (.areturn, 1) := by decide +kernel
def Q1_0 (Z : State) (a_ALL : Addr) (a_NONE : Addr) (a_DATA : Addr) (a_RESULT : Addr) (i0 : Int32) (h0 : Heap) (n0 : Nat) (v : Option Value) (h : Heap) (L : List Loc) : Prop := Fr n0 L ∧ h = h0 ∧ ((v = some (.ref a_ALL) ∧ i0 = (0 : Int32)) ∨ (v = some (.ref a_DATA) ∧ ¬ (i0 = (0 : Int32)) ∧ i0 = (1 : Int32)) ∨ (v = some (.ref a_RESULT) ∧ ¬ (i0 = (0 : Int32)) ∧ ¬ (i0 = (1 : Int32)) ∧ i0 = (2 : Int32)) ∨ (v = some (.ref a_NONE) ∧ ¬ (i0 = (0 : Int32)) ∧ ¬ (i0 = (1 : Int32)) ∧ ¬ (i0 = (2 : Int32))))
set_option maxRecDepth 65536 in
set_option maxHeartbeats 40000000 in
theorem rm1_0 (l : Launch) (Z : State) (a0 : Array Value) (hw : ∀ d ∈ tables_1, d.before a0 Z = true) (ws : List Jvm.Cond) (a_ALL : Addr) (a_NONE : Addr) (a_DATA : Addr) (a_RESULT : Addr) (i0 : Int32) (h0 : Heap) (n0 : Nat) (O0 : Old Z n0 h0) (HE : Env1 Z a_ALL a_NONE a_DATA a_RESULT)  :
    MetFree l M0 (head1 (Jvm.Cond.code M0 method_2_code 1 (some (.object "dev/ambrotype/DiskCache$Strategy")) :: ws) ({ frames := 0, cells := 0, slots := 0, locals := 0 } : Room)) (fun a U => a = #[(.int i0)] ∧ Z.Warmed39 U.vm ∧ U.heap = h0) (fun _ _ _ _ _ => True) (fun _ U o U' => ∃ v L, o = .returned v ∧ Q1_0 Z a_ALL a_NONE a_DATA a_RESULT i0 h0 n0 v U'.heap L ∧ FrameEnd U o U' L ({ frames := 0, cells := 0, slots := 0, locals := 0 } : Room).cells ({ frames := 0, cells := 0, slots := 0, locals := 0 } : Room).slots) := by
 refine MetFree.of_bodySF (plainFor_of_name pn0) hisR ?_
 intro p e s m args below meth c s₁ Bd hml0 hP hK
 obtain ⟨rfl, hZ, hh⟩ := hP
 have hx := Bd.exec
 have hby := Bd.bytes
 have hml : c.maxLocals = 1 := hml0
 have hown : s.vm.findClass "dev/ambrotype/StrategyKeepsDataPinLaw" = some m.cls := findClass_of_methodNamed Bd.named
 have hnm := (name_of_methodNamed Bd.named Bd.method).1
 have X0 : Stand p l e ({ frames := 0, cells := 0, slots := 0, locals := 0 } : Room) s m #[(.int i0)] below meth c s₁ [] 0 0 := Stand.of_body Bd
 have e0 : s₁.heap = h0 := by rw [← hh, Bd.state]; rfl
 have N0 := Fr.nil n0
 let S0 : State → Prop := fun t => Steps p.tables e below (s₁.setTop (entryFrame m #[(.int i0)] 1)) t
 have p0 : ∀ t, St p e below s₁ (mkF m 0 #[.val (.int i0)] []) t → S0 t := fun t k => castTop (ef1 m i0) k
 have HE' := HE
 obtain ⟨Sa_ALL, Ea_ALL, Sa_NONE, Ea_NONE, Fa_NONE_ordinal, Fa_ALL_ordinal, Sa_DATA, Ea_DATA, Fa_DATA_ordinal, Sa_RESULT, Ea_RESULT, Fa_RESULT_ordinal⟩ := HE
 have p1 : ∀ t, St p e below s₁ (mkF m 1 #[.val (.int i0)] [(.int i0)]) t → S0 t := fun t k => p0 t (by
   show St p e below s₁ (mkF m 0 #[.val (.int i0)] []) t
   refine XS.iloadN X0.here hx rfl (hb hby d1_0) rfl ?_
   exact k)
 by_cases g2 : i0 = (0 : Int32)
 ·
  have p3 : ∀ t, St p e below s₁ (mkF m 4 #[.val (.int i0)] []) t → S0 t := fun t k => p1 t (by
    show St p e below s₁ (mkF m 1 #[.val (.int i0)] [(.int i0)]) t
    refine XS.ifNo X0.here hx rfl (hb hby d1_1) rfl ((if0 _ _).trans (teq g2).2) ?_
    exact k)
  obtain ⟨T4, X4, e4, st4⟩ := getS2 X0 hx hZ hown (host := "") (Or.inl (ww hw 4 rfl)) Via.refl e0 (Sa_ALL.ext O0.2) (g := (mkF m 4 #[.val (.int i0)] [])) rfl (hb hby d1_4)
  have p5 : ∀ t, St p e below T4 (mkF m 7 #[.val (.int i0)] [(.ref a_ALL)]) t → S0 t := fun t k => p3 t (st4 t k)
  obtain ⟨fs, hr, hrun, hended, hW, hsame⟩ := X4.leave (v := some (.ref a_ALL)) (fun h => by rw [Bd.returns] at h; cases h)
  refine ⟨_, _, p5 _ ?_, hrun, hended, _, _, rfl, ?_, ⟨_, rfl⟩, hW, hsame.mono (by decide) (by decide)⟩
  · exact retOut X4 hx Bd.returns rfl (Or.inr (Or.inr (Or.inr (Or.inr ⟨rfl, rfl, rfl⟩)))) (hb hby d1_7) hr
  · show Q1_0 Z a_ALL a_NONE a_DATA a_RESULT i0 h0 n0 _ T4.heap _
    exact ⟨N0, e4, (Or.inl ⟨rfl, g2⟩)⟩
 ·
  have p6 : ∀ t, St p e below s₁ (mkF m 10 #[.val (.int i0)] [(.int (1 : Int32)), (.int i0)]) t → S0 t := fun t k => p1 t (by
    show St p e below s₁ (mkF m 1 #[.val (.int i0)] [(.int i0)]) t
    refine XS.ifYes X0.here hx rfl (pc0 := 1) (pc' := 8) rfl (hb hby d1_1) rfl ((if0 _ _).trans (feq g2).2) (by decide) (by decide) ?_
    show St p e below s₁ (mkF m 8 #[.val (.int i0)] []) t
    refine XS.iloadN X0.here hx rfl (hb hby d1_8) rfl ?_
    show St p e below s₁ (mkF m 9 #[.val (.int i0)] [(.int i0)]) t
    refine XT.iconstV X0.here hx rfl (1 : Int32) (hb hby d1_9) (by decide) ?_
    exact k)
  by_cases g7 : i0 = (1 : Int32)
  ·
   have p8 : ∀ t, St p e below s₁ (mkF m 13 #[.val (.int i0)] []) t → S0 t := fun t k => p6 t (by
     show St p e below s₁ (mkF m 10 #[.val (.int i0)] [(.int (1 : Int32)), (.int i0)]) t
     refine XS.icmpNo X0.here hx rfl (hb hby d1_10) rfl (teq g7).2 ?_
     exact k)
   obtain ⟨T9, X9, e9, st9⟩ := getS2 X0 hx hZ hown (host := "") (Or.inl (ww hw 19 rfl)) Via.refl e0 (Sa_DATA.ext O0.2) (g := (mkF m 13 #[.val (.int i0)] [])) rfl (hb hby d1_13)
   have p10 : ∀ t, St p e below T9 (mkF m 16 #[.val (.int i0)] [(.ref a_DATA)]) t → S0 t := fun t k => p8 t (st9 t k)
   obtain ⟨fs, hr, hrun, hended, hW, hsame⟩ := X9.leave (v := some (.ref a_DATA)) (fun h => by rw [Bd.returns] at h; cases h)
   refine ⟨_, _, p10 _ ?_, hrun, hended, _, _, rfl, ?_, ⟨_, rfl⟩, hW, hsame.mono (by decide) (by decide)⟩
   · exact retOut X9 hx Bd.returns rfl (Or.inr (Or.inr (Or.inr (Or.inr ⟨rfl, rfl, rfl⟩)))) (hb hby d1_16) hr
   · show Q1_0 Z a_ALL a_NONE a_DATA a_RESULT i0 h0 n0 _ T9.heap _
     exact ⟨N0, e9, (Or.inr (Or.inl ⟨rfl, g2, g7⟩))⟩
  ·
   have p11 : ∀ t, St p e below s₁ (mkF m 19 #[.val (.int i0)] [(.int (2 : Int32)), (.int i0)]) t → S0 t := fun t k => p6 t (by
     show St p e below s₁ (mkF m 10 #[.val (.int i0)] [(.int (1 : Int32)), (.int i0)]) t
     refine XS.icmpYes X0.here hx rfl (pc0 := 10) (pc' := 17) rfl (hb hby d1_10) rfl (feq g7).2 (by decide) (by decide) ?_
     show St p e below s₁ (mkF m 17 #[.val (.int i0)] []) t
     refine XS.iloadN X0.here hx rfl (hb hby d1_17) rfl ?_
     show St p e below s₁ (mkF m 18 #[.val (.int i0)] [(.int i0)]) t
     refine XT.iconstV X0.here hx rfl (2 : Int32) (hb hby d1_18) (by decide) ?_
     exact k)
   by_cases g12 : i0 = (2 : Int32)
   ·
    have p13 : ∀ t, St p e below s₁ (mkF m 22 #[.val (.int i0)] []) t → S0 t := fun t k => p11 t (by
      show St p e below s₁ (mkF m 19 #[.val (.int i0)] [(.int (2 : Int32)), (.int i0)]) t
      refine XS.icmpNo X0.here hx rfl (hb hby d1_19) rfl (teq g12).2 ?_
      exact k)
    obtain ⟨T14, X14, e14, st14⟩ := getS2 X0 hx hZ hown (host := "") (Or.inl (ww hw 17 rfl)) Via.refl e0 (Sa_RESULT.ext O0.2) (g := (mkF m 22 #[.val (.int i0)] [])) rfl (hb hby d1_22)
    have p15 : ∀ t, St p e below T14 (mkF m 25 #[.val (.int i0)] [(.ref a_RESULT)]) t → S0 t := fun t k => p13 t (st14 t k)
    obtain ⟨fs, hr, hrun, hended, hW, hsame⟩ := X14.leave (v := some (.ref a_RESULT)) (fun h => by rw [Bd.returns] at h; cases h)
    refine ⟨_, _, p15 _ ?_, hrun, hended, _, _, rfl, ?_, ⟨_, rfl⟩, hW, hsame.mono (by decide) (by decide)⟩
    · exact retOut X14 hx Bd.returns rfl (Or.inr (Or.inr (Or.inr (Or.inr ⟨rfl, rfl, rfl⟩)))) (hb hby d1_25) hr
    · show Q1_0 Z a_ALL a_NONE a_DATA a_RESULT i0 h0 n0 _ T14.heap _
      exact ⟨N0, e14, (Or.inr (Or.inr (Or.inl ⟨rfl, g2, g7, g12⟩)))⟩
   ·
    have p16 : ∀ t, St p e below s₁ (mkF m 26 #[.val (.int i0)] []) t → S0 t := fun t k => p11 t (by
      show St p e below s₁ (mkF m 19 #[.val (.int i0)] [(.int (2 : Int32)), (.int i0)]) t
      refine XS.icmpYes X0.here hx rfl (pc0 := 19) (pc' := 26) rfl (hb hby d1_19) rfl (feq g12).2 (by decide) (by decide) ?_
      exact k)
    obtain ⟨T17, X17, e17, st17⟩ := getS2 X0 hx hZ hown (host := "") (Or.inl (ww hw 13 rfl)) Via.refl e0 (Sa_NONE.ext O0.2) (g := (mkF m 26 #[.val (.int i0)] [])) rfl (hb hby d1_26)
    have p18 : ∀ t, St p e below T17 (mkF m 29 #[.val (.int i0)] [(.ref a_NONE)]) t → S0 t := fun t k => p16 t (st17 t k)
    obtain ⟨fs, hr, hrun, hended, hW, hsame⟩ := X17.leave (v := some (.ref a_NONE)) (fun h => by rw [Bd.returns] at h; cases h)
    refine ⟨_, _, p18 _ ?_, hrun, hended, _, _, rfl, ?_, ⟨_, rfl⟩, hW, hsame.mono (by decide) (by decide)⟩
    · exact retOut X17 hx Bd.returns rfl (Or.inr (Or.inr (Or.inr (Or.inr ⟨rfl, rfl, rfl⟩)))) (hb hby d1_29) hr
    · show Q1_0 Z a_ALL a_NONE a_DATA a_RESULT i0 h0 n0 _ T17.heap _
      exact ⟨N0, e17, (Or.inr (Or.inr (Or.inr (⟨rfl, g2, g7, g12⟩))))⟩
theorem pd0 : parseMethodDescriptor "(I)Ldev/ambrotype/DiskCache$Strategy;" = some ⟨[.int], some (.object "dev/ambrotype/DiskCache$Strategy")⟩ := by decide +kernel
theorem ef2 (m : MethodId) (x0 : Addr) : entryFrame m #[(.ref x0)] 1 = mkF m 0 #[.val (.ref x0)] [] := by first | (simp [entryFrame, mkF, argsToLocals, Value.category]; done) | rfl
theorem pn1 : plainName "dev/ambrotype/DiskCache$Strategy" = true := by first | (simp [plainName, overriddenIn]; done) | decide +kernel
theorem d2_0 : decode prog_5_method_5_code 0 = .ok (.aload_n 0, 1) := by decide +kernel
theorem d2_1 : decode prog_5_method_5_code 1 = .ok (.getstatic 3, 3) := by decide +kernel
theorem d2_4 : decode prog_5_method_5_code 4 = .ok (.if_acmp .eq 10, 3) := by decide +kernel
theorem d2_14 : decode prog_5_method_5_code 14 = .ok (.iconst 1, 1) := by decide +kernel
theorem d2_15 : decode prog_5_method_5_code 15 = .ok (.goto 4, 3) := by decide +kernel
theorem d2_19 : decode prog_5_method_5_code 19 = .ok (.ireturn, 1) := by decide +kernel
def Q2_1 (Z : State) (a_ALL : Addr) (a_NONE : Addr) (a_DATA : Addr) (a_RESULT : Addr) (h0 : Heap) (n0 : Nat) (v : Option Value) (h : Heap) (L : List Loc) : Prop := Fr n0 L ∧ h = h0 ∧ ((v = some (.int (1 : Int32))))
set_option maxRecDepth 65536 in
set_option maxHeartbeats 40000000 in
theorem rm2_1 (l : Launch) (Z : State) (a0 : Array Value) (hw : ∀ d ∈ tables_1, d.before a0 Z = true) (ws : List Jvm.Cond) (a_ALL : Addr) (a_NONE : Addr) (a_DATA : Addr) (a_RESULT : Addr) (h0 : Heap) (n0 : Nat) (O0 : Old Z n0 h0) (HE : Env1 Z a_ALL a_NONE a_DATA a_RESULT)  :
    MetFree l M1 (head1 (Jvm.Cond.code M1 prog_5_method_5_code 1 (some .boolean) :: ws) ({ frames := 0, cells := 0, slots := 0, locals := 0 } : Room)) (fun a U => a = #[(.ref a_ALL)] ∧ Z.Warmed39 U.vm ∧ U.heap = h0) (fun _ _ _ _ _ => True) (fun _ U o U' => ∃ v L, o = .returned v ∧ Q2_1 Z a_ALL a_NONE a_DATA a_RESULT h0 n0 v U'.heap L ∧ FrameEnd U o U' L ({ frames := 0, cells := 0, slots := 0, locals := 0 } : Room).cells ({ frames := 0, cells := 0, slots := 0, locals := 0 } : Room).slots) := by
 refine MetFree.of_bodySF (plainFor_of_name pn1) hisR ?_
 intro p e s m args below meth c s₁ Bd hml0 hP hK
 obtain ⟨rfl, hZ, hh⟩ := hP
 have hx := Bd.exec
 have hby := Bd.bytes
 have hml : c.maxLocals = 1 := hml0
 have hown : s.vm.findClass "dev/ambrotype/DiskCache$Strategy" = some m.cls := findClass_of_methodNamed Bd.named
 have hnm := (name_of_methodNamed Bd.named Bd.method).1
 have X0 : Stand p l e ({ frames := 0, cells := 0, slots := 0, locals := 0 } : Room) s m #[(.ref a_ALL)] below meth c s₁ [] 0 0 := Stand.of_body Bd
 have e0 : s₁.heap = h0 := by rw [← hh, Bd.state]; rfl
 have N0 := Fr.nil n0
 let S0 : State → Prop := fun t => Steps p.tables e below (s₁.setTop (entryFrame m #[(.ref a_ALL)] 1)) t
 have p0 : ∀ t, St p e below s₁ (mkF m 0 #[.val (.ref a_ALL)] []) t → S0 t := fun t k => castTop (ef2 m a_ALL) k
 have HE' := HE
 obtain ⟨Sa_ALL, Ea_ALL, Sa_NONE, Ea_NONE, Fa_NONE_ordinal, Fa_ALL_ordinal, Sa_DATA, Ea_DATA, Fa_DATA_ordinal, Sa_RESULT, Ea_RESULT, Fa_RESULT_ordinal⟩ := HE
 have p1 : ∀ t, St p e below s₁ (mkF m 1 #[.val (.ref a_ALL)] [(.ref a_ALL)]) t → S0 t := fun t k => p0 t (by
   show St p e below s₁ (mkF m 0 #[.val (.ref a_ALL)] []) t
   refine XS.aloadN X0.here hx rfl (hb hby d2_0) rfl rfl ?_
   exact k)
 obtain ⟨T2, X2, e2, st2⟩ := getS2 X0 hx hZ hown (host := "") (Or.inl (ww hw 12 rfl)) Via.refl e0 (Sa_ALL.ext O0.2) (g := (mkF m 1 #[.val (.ref a_ALL)] [(.ref a_ALL)])) rfl (hb hby d2_1)
 have p3 : ∀ t, St p e below T2 (mkF m 4 #[.val (.ref a_ALL)] [(.ref a_ALL), (.ref a_ALL)]) t → S0 t := fun t k => p1 t (st2 t k)
 have p4 : ∀ t, St p e below T2 (mkF m 19 #[.val (.ref a_ALL)] [(.int (1 : Int32))]) t → S0 t := fun t k => p3 t (by
   show St p e below T2 (mkF m 4 #[.val (.ref a_ALL)] [(.ref a_ALL), (.ref a_ALL)]) t
   refine Jvm.RoadKit.acmp (g := (mkF m 4 #[.val (.ref a_ALL)] [(.ref a_ALL), (.ref a_ALL)])) X2 hx rfl rfl rfl (pc0 := 4) (pc' := 14) (same := true) rfl (hb hby d2_4) rfl (decide_eq_true rfl) (by decide) (by decide) ?_
   show St p e below T2 (mkF m 14 #[.val (.ref a_ALL)] []) t
   refine XT.iconstV X2.here hx rfl (1 : Int32) (hb hby d2_14) (by decide) ?_
   show St p e below T2 (mkF m 15 #[.val (.ref a_ALL)] [(.int (1 : Int32))]) t
   refine XS.goto X2.here hx rfl (pc0 := 15) (pc' := 19) rfl (hb hby d2_15) (by decide) (by decide) ?_
   exact k)
 obtain ⟨fs, hr, hrun, hended, hW, hsame⟩ := X2.leave (v := some (.int (1 : Int32))) (fun h => by rw [Bd.returns] at h; cases h)
 refine ⟨_, _, p4 _ ?_, hrun, hended, _, _, rfl, ?_, ⟨_, rfl⟩, hW, hsame.mono (by decide) (by decide)⟩
 · exact retOut X2 hx Bd.returns rfl (Or.inl ⟨rfl, by simp, _, rfl⟩) (hb hby d2_19) hr
 · show Q2_1 Z a_ALL a_NONE a_DATA a_RESULT h0 n0 _ T2.heap _
   exact ⟨N0, e2, rfl⟩
theorem pd1 : parseMethodDescriptor "()Z" = some ⟨[], some .boolean⟩ := by decide +kernel
theorem d2_7 : decode prog_5_method_5_code 7 = .ok (.aload_n 0, 1) := by decide +kernel
theorem d2_8 : decode prog_5_method_5_code 8 = .ok (.getstatic 7, 3) := by decide +kernel
theorem d2_11 : decode prog_5_method_5_code 11 = .ok (.if_acmp .ne 7, 3) := by decide +kernel
def Q2_2 (Z : State) (a_ALL : Addr) (a_NONE : Addr) (a_DATA : Addr) (a_RESULT : Addr) (h0 : Heap) (n0 : Nat) (v : Option Value) (h : Heap) (L : List Loc) : Prop := Fr n0 L ∧ h = h0 ∧ ((v = some (.int (1 : Int32))))
set_option maxRecDepth 65536 in
set_option maxHeartbeats 40000000 in
theorem rm2_2 (l : Launch) (Z : State) (a0 : Array Value) (hw : ∀ d ∈ tables_1, d.before a0 Z = true) (ws : List Jvm.Cond) (a_ALL : Addr) (a_NONE : Addr) (a_DATA : Addr) (a_RESULT : Addr) (h0 : Heap) (n0 : Nat) (O0 : Old Z n0 h0) (HE : Env1 Z a_ALL a_NONE a_DATA a_RESULT)  :
    MetFree l M1 (head1 (Jvm.Cond.code M1 prog_5_method_5_code 1 (some .boolean) :: ws) ({ frames := 0, cells := 0, slots := 0, locals := 0 } : Room)) (fun a U => a = #[(.ref a_DATA)] ∧ Z.Warmed39 U.vm ∧ U.heap = h0) (fun _ _ _ _ _ => True) (fun _ U o U' => ∃ v L, o = .returned v ∧ Q2_2 Z a_ALL a_NONE a_DATA a_RESULT h0 n0 v U'.heap L ∧ FrameEnd U o U' L ({ frames := 0, cells := 0, slots := 0, locals := 0 } : Room).cells ({ frames := 0, cells := 0, slots := 0, locals := 0 } : Room).slots) := by
 refine MetFree.of_bodySF (plainFor_of_name pn1) hisR ?_
 intro p e s m args below meth c s₁ Bd hml0 hP hK
 obtain ⟨rfl, hZ, hh⟩ := hP
 have hx := Bd.exec
 have hby := Bd.bytes
 have hml : c.maxLocals = 1 := hml0
 have hown : s.vm.findClass "dev/ambrotype/DiskCache$Strategy" = some m.cls := findClass_of_methodNamed Bd.named
 have hnm := (name_of_methodNamed Bd.named Bd.method).1
 have X0 : Stand p l e ({ frames := 0, cells := 0, slots := 0, locals := 0 } : Room) s m #[(.ref a_DATA)] below meth c s₁ [] 0 0 := Stand.of_body Bd
 have e0 : s₁.heap = h0 := by rw [← hh, Bd.state]; rfl
 have N0 := Fr.nil n0
 let S0 : State → Prop := fun t => Steps p.tables e below (s₁.setTop (entryFrame m #[(.ref a_DATA)] 1)) t
 have p0 : ∀ t, St p e below s₁ (mkF m 0 #[.val (.ref a_DATA)] []) t → S0 t := fun t k => castTop (ef2 m a_DATA) k
 have HE' := HE
 obtain ⟨Sa_ALL, Ea_ALL, Sa_NONE, Ea_NONE, Fa_NONE_ordinal, Fa_ALL_ordinal, Sa_DATA, Ea_DATA, Fa_DATA_ordinal, Sa_RESULT, Ea_RESULT, Fa_RESULT_ordinal⟩ := HE
 have p1 : ∀ t, St p e below s₁ (mkF m 1 #[.val (.ref a_DATA)] [(.ref a_DATA)]) t → S0 t := fun t k => p0 t (by
   show St p e below s₁ (mkF m 0 #[.val (.ref a_DATA)] []) t
   refine XS.aloadN X0.here hx rfl (hb hby d2_0) rfl rfl ?_
   exact k)
 obtain ⟨T2, X2, e2, st2⟩ := getS2 X0 hx hZ hown (host := "") (Or.inl (ww hw 12 rfl)) Via.refl e0 (Sa_ALL.ext O0.2) (g := (mkF m 1 #[.val (.ref a_DATA)] [(.ref a_DATA)])) rfl (hb hby d2_1)
 have p3 : ∀ t, St p e below T2 (mkF m 4 #[.val (.ref a_DATA)] [(.ref a_ALL), (.ref a_DATA)]) t → S0 t := fun t k => p1 t (st2 t k)
 have p4 : ∀ t, St p e below T2 (mkF m 8 #[.val (.ref a_DATA)] [(.ref a_DATA)]) t → S0 t := fun t k => p3 t (by
   show St p e below T2 (mkF m 4 #[.val (.ref a_DATA)] [(.ref a_ALL), (.ref a_DATA)]) t
   refine Jvm.RoadKit.acmp (g := (mkF m 4 #[.val (.ref a_DATA)] [(.ref a_ALL), (.ref a_DATA)])) X2 hx rfl rfl rfl (pc0 := 4) (pc' := 7) (same := false) rfl (hb hby d2_4) rfl (decide_eq_false fun q => (Fld.ne Fa_DATA_ordinal Fa_ALL_ordinal (fun q => absurd (Value.int.inj q) (by decide))) (Value.ref.inj q)) (by decide) (by decide) ?_
   show St p e below T2 (mkF m 7 #[.val (.ref a_DATA)] []) t
   refine XS.aloadN X2.here hx rfl (hb hby d2_7) rfl rfl ?_
   exact k)
 obtain ⟨T5, X5, e5, st5⟩ := getS2 X2 hx hZ hown (host := "") (Or.inl (ww hw 15 rfl)) Via.refl e2 (Sa_DATA.ext O0.2) (g := (mkF m 8 #[.val (.ref a_DATA)] [(.ref a_DATA)])) rfl (hb hby d2_8)
 have p6 : ∀ t, St p e below T5 (mkF m 11 #[.val (.ref a_DATA)] [(.ref a_DATA), (.ref a_DATA)]) t → S0 t := fun t k => p4 t (st5 t k)
 have p7 : ∀ t, St p e below T5 (mkF m 19 #[.val (.ref a_DATA)] [(.int (1 : Int32))]) t → S0 t := fun t k => p6 t (by
   show St p e below T5 (mkF m 11 #[.val (.ref a_DATA)] [(.ref a_DATA), (.ref a_DATA)]) t
   refine Jvm.RoadKit.acmp (g := (mkF m 11 #[.val (.ref a_DATA)] [(.ref a_DATA), (.ref a_DATA)])) X5 hx rfl rfl rfl (pc0 := 11) (pc' := 14) (same := true) rfl (hb hby d2_11) rfl (decide_eq_true rfl) (by decide) (by decide) ?_
   show St p e below T5 (mkF m 14 #[.val (.ref a_DATA)] []) t
   refine XT.iconstV X5.here hx rfl (1 : Int32) (hb hby d2_14) (by decide) ?_
   show St p e below T5 (mkF m 15 #[.val (.ref a_DATA)] [(.int (1 : Int32))]) t
   refine XS.goto X5.here hx rfl (pc0 := 15) (pc' := 19) rfl (hb hby d2_15) (by decide) (by decide) ?_
   exact k)
 obtain ⟨fs, hr, hrun, hended, hW, hsame⟩ := X5.leave (v := some (.int (1 : Int32))) (fun h => by rw [Bd.returns] at h; cases h)
 refine ⟨_, _, p7 _ ?_, hrun, hended, _, _, rfl, ?_, ⟨_, rfl⟩, hW, hsame.mono (by decide) (by decide)⟩
 · exact retOut X5 hx Bd.returns rfl (Or.inl ⟨rfl, by simp, _, rfl⟩) (hb hby d2_19) hr
 · show Q2_2 Z a_ALL a_NONE a_DATA a_RESULT h0 n0 _ T5.heap _
   exact ⟨N0, e5, rfl⟩
theorem d2_18 : decode prog_5_method_5_code 18 = .ok (.iconst 0, 1) := by decide +kernel
def Q2_3 (Z : State) (a_ALL : Addr) (a_NONE : Addr) (a_DATA : Addr) (a_RESULT : Addr) (h0 : Heap) (n0 : Nat) (v : Option Value) (h : Heap) (L : List Loc) : Prop := Fr n0 L ∧ h = h0 ∧ ((v = some (.int (0 : Int32))))
set_option maxRecDepth 65536 in
set_option maxHeartbeats 40000000 in
theorem rm2_3 (l : Launch) (Z : State) (a0 : Array Value) (hw : ∀ d ∈ tables_1, d.before a0 Z = true) (ws : List Jvm.Cond) (a_ALL : Addr) (a_NONE : Addr) (a_DATA : Addr) (a_RESULT : Addr) (h0 : Heap) (n0 : Nat) (O0 : Old Z n0 h0) (HE : Env1 Z a_ALL a_NONE a_DATA a_RESULT)  :
    MetFree l M1 (head1 (Jvm.Cond.code M1 prog_5_method_5_code 1 (some .boolean) :: ws) ({ frames := 0, cells := 0, slots := 0, locals := 0 } : Room)) (fun a U => a = #[(.ref a_RESULT)] ∧ Z.Warmed39 U.vm ∧ U.heap = h0) (fun _ _ _ _ _ => True) (fun _ U o U' => ∃ v L, o = .returned v ∧ Q2_3 Z a_ALL a_NONE a_DATA a_RESULT h0 n0 v U'.heap L ∧ FrameEnd U o U' L ({ frames := 0, cells := 0, slots := 0, locals := 0 } : Room).cells ({ frames := 0, cells := 0, slots := 0, locals := 0 } : Room).slots) := by
 refine MetFree.of_bodySF (plainFor_of_name pn1) hisR ?_
 intro p e s m args below meth c s₁ Bd hml0 hP hK
 obtain ⟨rfl, hZ, hh⟩ := hP
 have hx := Bd.exec
 have hby := Bd.bytes
 have hml : c.maxLocals = 1 := hml0
 have hown : s.vm.findClass "dev/ambrotype/DiskCache$Strategy" = some m.cls := findClass_of_methodNamed Bd.named
 have hnm := (name_of_methodNamed Bd.named Bd.method).1
 have X0 : Stand p l e ({ frames := 0, cells := 0, slots := 0, locals := 0 } : Room) s m #[(.ref a_RESULT)] below meth c s₁ [] 0 0 := Stand.of_body Bd
 have e0 : s₁.heap = h0 := by rw [← hh, Bd.state]; rfl
 have N0 := Fr.nil n0
 let S0 : State → Prop := fun t => Steps p.tables e below (s₁.setTop (entryFrame m #[(.ref a_RESULT)] 1)) t
 have p0 : ∀ t, St p e below s₁ (mkF m 0 #[.val (.ref a_RESULT)] []) t → S0 t := fun t k => castTop (ef2 m a_RESULT) k
 have HE' := HE
 obtain ⟨Sa_ALL, Ea_ALL, Sa_NONE, Ea_NONE, Fa_NONE_ordinal, Fa_ALL_ordinal, Sa_DATA, Ea_DATA, Fa_DATA_ordinal, Sa_RESULT, Ea_RESULT, Fa_RESULT_ordinal⟩ := HE
 have p1 : ∀ t, St p e below s₁ (mkF m 1 #[.val (.ref a_RESULT)] [(.ref a_RESULT)]) t → S0 t := fun t k => p0 t (by
   show St p e below s₁ (mkF m 0 #[.val (.ref a_RESULT)] []) t
   refine XS.aloadN X0.here hx rfl (hb hby d2_0) rfl rfl ?_
   exact k)
 obtain ⟨T2, X2, e2, st2⟩ := getS2 X0 hx hZ hown (host := "") (Or.inl (ww hw 12 rfl)) Via.refl e0 (Sa_ALL.ext O0.2) (g := (mkF m 1 #[.val (.ref a_RESULT)] [(.ref a_RESULT)])) rfl (hb hby d2_1)
 have p3 : ∀ t, St p e below T2 (mkF m 4 #[.val (.ref a_RESULT)] [(.ref a_ALL), (.ref a_RESULT)]) t → S0 t := fun t k => p1 t (st2 t k)
 have p4 : ∀ t, St p e below T2 (mkF m 8 #[.val (.ref a_RESULT)] [(.ref a_RESULT)]) t → S0 t := fun t k => p3 t (by
   show St p e below T2 (mkF m 4 #[.val (.ref a_RESULT)] [(.ref a_ALL), (.ref a_RESULT)]) t
   refine Jvm.RoadKit.acmp (g := (mkF m 4 #[.val (.ref a_RESULT)] [(.ref a_ALL), (.ref a_RESULT)])) X2 hx rfl rfl rfl (pc0 := 4) (pc' := 7) (same := false) rfl (hb hby d2_4) rfl (decide_eq_false fun q => (Fld.ne Fa_RESULT_ordinal Fa_ALL_ordinal (fun q => absurd (Value.int.inj q) (by decide))) (Value.ref.inj q)) (by decide) (by decide) ?_
   show St p e below T2 (mkF m 7 #[.val (.ref a_RESULT)] []) t
   refine XS.aloadN X2.here hx rfl (hb hby d2_7) rfl rfl ?_
   exact k)
 obtain ⟨T5, X5, e5, st5⟩ := getS2 X2 hx hZ hown (host := "") (Or.inl (ww hw 15 rfl)) Via.refl e2 (Sa_DATA.ext O0.2) (g := (mkF m 8 #[.val (.ref a_RESULT)] [(.ref a_RESULT)])) rfl (hb hby d2_8)
 have p6 : ∀ t, St p e below T5 (mkF m 11 #[.val (.ref a_RESULT)] [(.ref a_DATA), (.ref a_RESULT)]) t → S0 t := fun t k => p4 t (st5 t k)
 have p7 : ∀ t, St p e below T5 (mkF m 19 #[.val (.ref a_RESULT)] [(.int (0 : Int32))]) t → S0 t := fun t k => p6 t (by
   show St p e below T5 (mkF m 11 #[.val (.ref a_RESULT)] [(.ref a_DATA), (.ref a_RESULT)]) t
   refine Jvm.RoadKit.acmp (g := (mkF m 11 #[.val (.ref a_RESULT)] [(.ref a_DATA), (.ref a_RESULT)])) X5 hx rfl rfl rfl (pc0 := 11) (pc' := 18) (same := false) rfl (hb hby d2_11) rfl (decide_eq_false fun q => (Fld.ne Fa_RESULT_ordinal Fa_DATA_ordinal (fun q => absurd (Value.int.inj q) (by decide))) (Value.ref.inj q)) (by decide) (by decide) ?_
   show St p e below T5 (mkF m 18 #[.val (.ref a_RESULT)] []) t
   refine XT.iconstV X5.here hx rfl (0 : Int32) (hb hby d2_18) (by decide) ?_
   exact k)
 obtain ⟨fs, hr, hrun, hended, hW, hsame⟩ := X5.leave (v := some (.int (0 : Int32))) (fun h => by rw [Bd.returns] at h; cases h)
 refine ⟨_, _, p7 _ ?_, hrun, hended, _, _, rfl, ?_, ⟨_, rfl⟩, hW, hsame.mono (by decide) (by decide)⟩
 · exact retOut X5 hx Bd.returns rfl (Or.inl ⟨rfl, by simp, _, rfl⟩) (hb hby d2_19) hr
 · show Q2_3 Z a_ALL a_NONE a_DATA a_RESULT h0 n0 _ T5.heap _
   exact ⟨N0, e5, rfl⟩
def Q2_4 (Z : State) (a_ALL : Addr) (a_NONE : Addr) (a_DATA : Addr) (a_RESULT : Addr) (h0 : Heap) (n0 : Nat) (v : Option Value) (h : Heap) (L : List Loc) : Prop := Fr n0 L ∧ h = h0 ∧ ((v = some (.int (0 : Int32))))
set_option maxRecDepth 65536 in
set_option maxHeartbeats 40000000 in
theorem rm2_4 (l : Launch) (Z : State) (a0 : Array Value) (hw : ∀ d ∈ tables_1, d.before a0 Z = true) (ws : List Jvm.Cond) (a_ALL : Addr) (a_NONE : Addr) (a_DATA : Addr) (a_RESULT : Addr) (h0 : Heap) (n0 : Nat) (O0 : Old Z n0 h0) (HE : Env1 Z a_ALL a_NONE a_DATA a_RESULT)  :
    MetFree l M1 (head1 (Jvm.Cond.code M1 prog_5_method_5_code 1 (some .boolean) :: ws) ({ frames := 0, cells := 0, slots := 0, locals := 0 } : Room)) (fun a U => a = #[(.ref a_NONE)] ∧ Z.Warmed39 U.vm ∧ U.heap = h0) (fun _ _ _ _ _ => True) (fun _ U o U' => ∃ v L, o = .returned v ∧ Q2_4 Z a_ALL a_NONE a_DATA a_RESULT h0 n0 v U'.heap L ∧ FrameEnd U o U' L ({ frames := 0, cells := 0, slots := 0, locals := 0 } : Room).cells ({ frames := 0, cells := 0, slots := 0, locals := 0 } : Room).slots) := by
 refine MetFree.of_bodySF (plainFor_of_name pn1) hisR ?_
 intro p e s m args below meth c s₁ Bd hml0 hP hK
 obtain ⟨rfl, hZ, hh⟩ := hP
 have hx := Bd.exec
 have hby := Bd.bytes
 have hml : c.maxLocals = 1 := hml0
 have hown : s.vm.findClass "dev/ambrotype/DiskCache$Strategy" = some m.cls := findClass_of_methodNamed Bd.named
 have hnm := (name_of_methodNamed Bd.named Bd.method).1
 have X0 : Stand p l e ({ frames := 0, cells := 0, slots := 0, locals := 0 } : Room) s m #[(.ref a_NONE)] below meth c s₁ [] 0 0 := Stand.of_body Bd
 have e0 : s₁.heap = h0 := by rw [← hh, Bd.state]; rfl
 have N0 := Fr.nil n0
 let S0 : State → Prop := fun t => Steps p.tables e below (s₁.setTop (entryFrame m #[(.ref a_NONE)] 1)) t
 have p0 : ∀ t, St p e below s₁ (mkF m 0 #[.val (.ref a_NONE)] []) t → S0 t := fun t k => castTop (ef2 m a_NONE) k
 have HE' := HE
 obtain ⟨Sa_ALL, Ea_ALL, Sa_NONE, Ea_NONE, Fa_NONE_ordinal, Fa_ALL_ordinal, Sa_DATA, Ea_DATA, Fa_DATA_ordinal, Sa_RESULT, Ea_RESULT, Fa_RESULT_ordinal⟩ := HE
 have p1 : ∀ t, St p e below s₁ (mkF m 1 #[.val (.ref a_NONE)] [(.ref a_NONE)]) t → S0 t := fun t k => p0 t (by
   show St p e below s₁ (mkF m 0 #[.val (.ref a_NONE)] []) t
   refine XS.aloadN X0.here hx rfl (hb hby d2_0) rfl rfl ?_
   exact k)
 obtain ⟨T2, X2, e2, st2⟩ := getS2 X0 hx hZ hown (host := "") (Or.inl (ww hw 12 rfl)) Via.refl e0 (Sa_ALL.ext O0.2) (g := (mkF m 1 #[.val (.ref a_NONE)] [(.ref a_NONE)])) rfl (hb hby d2_1)
 have p3 : ∀ t, St p e below T2 (mkF m 4 #[.val (.ref a_NONE)] [(.ref a_ALL), (.ref a_NONE)]) t → S0 t := fun t k => p1 t (st2 t k)
 have p4 : ∀ t, St p e below T2 (mkF m 8 #[.val (.ref a_NONE)] [(.ref a_NONE)]) t → S0 t := fun t k => p3 t (by
   show St p e below T2 (mkF m 4 #[.val (.ref a_NONE)] [(.ref a_ALL), (.ref a_NONE)]) t
   refine Jvm.RoadKit.acmp (g := (mkF m 4 #[.val (.ref a_NONE)] [(.ref a_ALL), (.ref a_NONE)])) X2 hx rfl rfl rfl (pc0 := 4) (pc' := 7) (same := false) rfl (hb hby d2_4) rfl (decide_eq_false fun q => (Fld.ne Fa_NONE_ordinal Fa_ALL_ordinal (fun q => absurd (Value.int.inj q) (by decide))) (Value.ref.inj q)) (by decide) (by decide) ?_
   show St p e below T2 (mkF m 7 #[.val (.ref a_NONE)] []) t
   refine XS.aloadN X2.here hx rfl (hb hby d2_7) rfl rfl ?_
   exact k)
 obtain ⟨T5, X5, e5, st5⟩ := getS2 X2 hx hZ hown (host := "") (Or.inl (ww hw 15 rfl)) Via.refl e2 (Sa_DATA.ext O0.2) (g := (mkF m 8 #[.val (.ref a_NONE)] [(.ref a_NONE)])) rfl (hb hby d2_8)
 have p6 : ∀ t, St p e below T5 (mkF m 11 #[.val (.ref a_NONE)] [(.ref a_DATA), (.ref a_NONE)]) t → S0 t := fun t k => p4 t (st5 t k)
 have p7 : ∀ t, St p e below T5 (mkF m 19 #[.val (.ref a_NONE)] [(.int (0 : Int32))]) t → S0 t := fun t k => p6 t (by
   show St p e below T5 (mkF m 11 #[.val (.ref a_NONE)] [(.ref a_DATA), (.ref a_NONE)]) t
   refine Jvm.RoadKit.acmp (g := (mkF m 11 #[.val (.ref a_NONE)] [(.ref a_DATA), (.ref a_NONE)])) X5 hx rfl rfl rfl (pc0 := 11) (pc' := 18) (same := false) rfl (hb hby d2_11) rfl (decide_eq_false fun q => (Fld.ne Fa_NONE_ordinal Fa_DATA_ordinal (fun q => absurd (Value.int.inj q) (by decide))) (Value.ref.inj q)) (by decide) (by decide) ?_
   show St p e below T5 (mkF m 18 #[.val (.ref a_NONE)] []) t
   refine XT.iconstV X5.here hx rfl (0 : Int32) (hb hby d2_18) (by decide) ?_
   exact k)
 obtain ⟨fs, hr, hrun, hended, hW, hsame⟩ := X5.leave (v := some (.int (0 : Int32))) (fun h => by rw [Bd.returns] at h; cases h)
 refine ⟨_, _, p7 _ ?_, hrun, hended, _, _, rfl, ?_, ⟨_, rfl⟩, hW, hsame.mono (by decide) (by decide)⟩
 · exact retOut X5 hx Bd.returns rfl (Or.inl ⟨rfl, by simp, _, rfl⟩) (hb hby d2_19) hr
 · show Q2_4 Z a_ALL a_NONE a_DATA a_RESULT h0 n0 _ T5.heap _
   exact ⟨N0, e5, rfl⟩
def Q0 (Z : State) (a_ALL : Addr) (a_NONE : Addr) (a_DATA : Addr) (a_RESULT : Addr) (i0 : Int32) (h0 : Heap) (n0 : Nat) (v : Option Value) (h : Heap) (L : List Loc) : Prop := v = some (.int 1) ∧ Fr n0 L
set_option maxRecDepth 65536 in
set_option maxHeartbeats 40000000 in
theorem rm0 (l : Launch) (Z : State) (a0 : Array Value) (hw : ∀ d ∈ tables_1, d.before a0 Z = true) (ws : List Jvm.Cond) (a_ALL : Addr) (a_NONE : Addr) (a_DATA : Addr) (a_RESULT : Addr) (i0 : Int32) (h0 : Heap) (n0 : Nat) (O0 : Old Z n0 h0) (HE : Env1 Z a_ALL a_NONE a_DATA a_RESULT)  :
    MetFree l x (head1 (Jvm.Cond.code x code maxLocals ret :: ws) room_1) (fun a U => a = #[(.int i0)] ∧ Z.Warmed39 U.vm ∧ U.heap = h0) (fun _ _ _ _ _ => True) (fun _ U o U' => ∃ v L, o = .returned v ∧ Q0 Z a_ALL a_NONE a_DATA a_RESULT i0 h0 n0 v U'.heap L ∧ FrameEnd U o U' L 0 0) := by
 refine MetFree.of_bodySF (plainFor_of_name pn0) hisR ?_
 intro p e s m args below meth c s₁ Bd hml0 hP hK
 obtain ⟨rfl, hZ, hh⟩ := hP
 have hx := Bd.exec
 have hby := Bd.bytes
 have hml : c.maxLocals = 4 := hml0
 have hown : s.vm.findClass "dev/ambrotype/StrategyKeepsDataPinLaw" = some m.cls := findClass_of_methodNamed Bd.named
 have hnm := (name_of_methodNamed Bd.named Bd.method).1
 have X0 : Stand p l e room_1 s m #[(.int i0)] below meth c s₁ [] 0 0 := Stand.of_body Bd
 have e0 : s₁.heap = h0 := by rw [← hh, Bd.state]; rfl
 have N0 := Fr.nil n0
 let S0 : State → Prop := fun t => Steps p.tables e below (s₁.setTop (entryFrame m #[(.int i0)] maxLocals)) t
 have p0 : ∀ t, St p e below s₁ (mkF m 0 #[.val (.int i0), .unset, .unset, .unset] []) t → S0 t := fun t k => castTop (ef0 m i0) k
 have HE' := HE
 obtain ⟨Sa_ALL, Ea_ALL, Sa_NONE, Ea_NONE, Fa_NONE_ordinal, Fa_ALL_ordinal, Sa_DATA, Ea_DATA, Fa_DATA_ordinal, Sa_RESULT, Ea_RESULT, Fa_RESULT_ordinal⟩ := HE
 let Ls1 : Array Slot := #[.val (.int i0), .val (.int (i0 &&& (3 : Int32))), .unset, .unset]
 have p2 : ∀ t, St p e below s₁ (mkF m 5 Ls1 [(.int (i0 &&& (3 : Int32)))]) t → S0 t := fun t k => p0 t (by
   show St p e below s₁ (mkF m 0 #[.val (.int i0), .unset, .unset, .unset] []) t
   refine XS.iloadN X0.here hx rfl (hb hby at_0) rfl ?_
   show St p e below s₁ (mkF m 1 #[.val (.int i0), .unset, .unset, .unset] [(.int i0)]) t
   refine XT.iconstV X0.here hx rfl (3 : Int32) (hb hby at_1) (by decide) ?_
   show St p e below s₁ (mkF m 2 #[.val (.int i0), .unset, .unset, .unset] [(.int (3 : Int32)), (.int i0)]) t
   refine XS.iand X0.here hx rfl (hb hby at_2) rfl ?_
   show St p e below s₁ (mkF m 3 #[.val (.int i0), .unset, .unset, .unset] [(.int (i0 &&& (3 : Int32)))]) t
   refine XS.istoreN X0.here hx rfl (hb hby at_3) rfl (l' := Ls1) rfl ?_
   show St p e below s₁ (mkF m 4 Ls1 []) t
   refine XS.iloadN X0.here hx rfl (hb hby at_4) rfl ?_
   exact k)
 obtain ⟨_, _, ⟨Tc3, Lc3, kc3, nc3⟩, -, Xc3, ⟨Lcc3, hQc3, lc3, yc3, zc3⟩, stc3⟩ := Jvm.LawKit.callS X0 hx (y := M0) hown (mvT hZ (ww hw 0 rfl)) (mvT hZ (ww hw 1 rfl)) (mvT hZ (ww hw 2 rfl)) (mvT hZ (ww hw 3 rfl)) (by decide) (backOf (W := 0) (rm1_0 l Z a0 hw [] a_ALL a_NONE a_DATA a_RESULT (i0 &&& (3 : Int32)) h0 n0 O0 HE' ) hZ (ww hw 3 rfl) (ww hw 2 rfl) (by decide) (by decide)) (g := (mkF m 5 Ls1 [(.int (i0 &&& (3 : Int32)))])) rfl (by rw [hml]; rfl) (argsL := [(.int (i0 &&& (3 : Int32)))]) (rest := []) (lenOf pd0 rfl) rfl (by show 2 * 0 + _ ≤ _; exact Nat.le_of_eq rfl) (hb hby at_5) (fun _ _ => ⟨rfl, e0, (by decide : 0 + 0 ≤ _), (by decide : 0 + 0 ≤ _)⟩)
 dsimp only [Pt.U, Pt.locs, Pt.cells, Pt.slots] at Xc3 lc3 yc3 zc3 stc3 hQc3
 subst lc3 yc3 zc3
 obtain ⟨Nqc3, ec3, hAc3⟩ := hQc3
 have Nc3 := Fr.app N0 Nqc3
 rcases hAc3 with ⟨rfl, g4⟩ | ⟨rfl, g5, g6⟩ | ⟨rfl, g7, g8, g9⟩ | ⟨rfl, g10, g11, g12⟩
 ·
  have p13 : ∀ t, St p e below Tc3 (mkF m 8 Ls1 [(.ref a_ALL)]) t → S0 t := fun t k => p2 t (stc3 t k)
  let Ls14 : Array Slot := #[.val (.int i0), .val (.int (i0 &&& (3 : Int32))), .val (.ref a_ALL), .unset]
  have p15 : ∀ t, St p e below Tc3 (mkF m 10 Ls14 [(.int (i0 &&& (3 : Int32)))]) t → S0 t := fun t k => p13 t (by
    show St p e below Tc3 (mkF m 8 Ls1 [(.ref a_ALL)]) t
    refine XS.astoreN Xc3.here hx rfl (hb hby at_8) rfl rfl (l' := Ls14) rfl ?_
    show St p e below Tc3 (mkF m 9 Ls14 []) t
    refine XS.iloadN Xc3.here hx rfl (hb hby at_9) rfl ?_
    exact k)
  let Ls17 : Array Slot := #[.val (.int i0), .val (.int (0 : Int32)), .val (.ref a_ALL), .unset]
  have p16 : ∀ t, St p e below Tc3 (mkF m 10 Ls17 [(.int (0 : Int32))]) t → S0 t := fun t k => p15 t (by show St p e below Tc3 (mkF m 10 #[.val (.int i0), .val (.int (i0 &&& (3 : Int32))), .val (.ref a_ALL), .unset] [(.int (i0 &&& (3 : Int32)))]) t; rw [g4]; exact k)
  let Ls18 : Array Slot := #[.val (.int i0), .val (.int (0 : Int32)), .val (.ref a_ALL), .val (.int (1 : Int32))]
  have p19 : ∀ t, St p e below Tc3 (mkF m 41 Ls18 [(.ref a_ALL)]) t → S0 t := fun t k => p16 t (by
    show St p e below Tc3 (mkF m 10 Ls17 [(.int (0 : Int32))]) t
    refine XS.ifNo Xc3.here hx rfl (hb hby at_10) rfl ((if0 _ _).trans (teq (by decide : (0 : Int32) = (0 : Int32))).2) ?_
    show St p e below Tc3 (mkF m 13 Ls17 []) t
    refine XT.iconstV Xc3.here hx rfl (1 : Int32) (hb hby at_13) (by decide) ?_
    show St p e below Tc3 (mkF m 14 Ls17 [(.int (1 : Int32))]) t
    refine XS.istoreN Xc3.here hx rfl (hb hby at_14) rfl (l' := Ls18) rfl ?_
    show St p e below Tc3 (mkF m 15 Ls18 []) t
    refine XS.goto Xc3.here hx rfl (pc0 := 15) (pc' := 40) rfl (hb hby at_15) (by decide) (by decide) ?_
    show St p e below Tc3 (mkF m 40 Ls18 []) t
    refine XS.aloadN Xc3.here hx rfl (hb hby at_40) rfl rfl ?_
    exact k)
  obtain ⟨cqc20, kqc20, qc20a, qc20b, qc20c⟩ := isOf hZ ec3 (Ea_ALL.ext O0.2)
  obtain ⟨_, _, ⟨Tc20, Lc20, kc20, nc20⟩, -, Xc20, ⟨Lcc20, hQc20, lc20, yc20, zc20⟩, stc20⟩ := Xc3.virtualBack hx (y := M1) (z := M1) hown (mvT hZ (ww hw 7 rfl)) (mvT hZ (ww hw 8 rfl)) (notFace_of_selects (args := #[]) (mvT hZ (ww hw 10 rfl))) (mvT hZ (ww hw 10 rfl)) (mvT hZ (ww hw 9 rfl)) (by decide) (backOf (W := 0) (rm2_1 l Z a0 hw [] a_ALL a_NONE a_DATA a_RESULT h0 n0 O0 HE' ) hZ (ww hw 11 rfl) (ww hw 5 rfl) (by decide) (by decide)) qc20a qc20c (g := (mkF m 41 Ls18 [(.ref a_ALL)])) rfl (by rw [hml]; rfl) (Steps.refl _) (argsL := []) (rest := []) (lenOf pd1 rfl) rfl (by show 2 * 0 + _ ≤ _; exact Nat.le_of_eq rfl) (hb hby at_41) (fun _ _ => ⟨rfl, ec3, (by decide : 0 + 0 ≤ _), (by decide : 0 + 0 ≤ _)⟩)
  dsimp only [Pt.U, Pt.locs, Pt.cells, Pt.slots] at Xc20 lc20 yc20 zc20 stc20 hQc20
  subst lc20 yc20 zc20
  obtain ⟨Nqc20, ec20, hAc20⟩ := hQc20
  have Nc20 := Fr.app Nc3 Nqc20
  obtain rfl := hAc20
  have p21 : ∀ t, St p e below Tc20 (mkF m 44 Ls18 [(.int (1 : Int32))]) t → S0 t := fun t k => p19 t (stc20.trans k)
  have p22 : ∀ t, St p e below Tc20 (mkF m 53 Ls18 [(.int (1 : Int32))]) t → S0 t := fun t k => p21 t (by
    show St p e below Tc20 (mkF m 44 Ls18 [(.int (1 : Int32))]) t
    refine XS.iloadN Xc20.here hx rfl (hb hby at_44) rfl ?_
    show St p e below Tc20 (mkF m 45 Ls18 [(.int (1 : Int32)), (.int (1 : Int32))]) t
    refine XS.icmpNo Xc20.here hx rfl (hb hby at_45) rfl (teq (by decide : (1 : Int32) = (1 : Int32))).2 ?_
    show St p e below Tc20 (mkF m 48 Ls18 []) t
    refine XT.iconstV Xc20.here hx rfl (1 : Int32) (hb hby at_48) (by decide) ?_
    show St p e below Tc20 (mkF m 49 Ls18 [(.int (1 : Int32))]) t
    refine XS.goto Xc20.here hx rfl (pc0 := 49) (pc' := 53) rfl (hb hby at_49) (by decide) (by decide) ?_
    exact k)
  obtain ⟨fs, hr, hrun, hended, hW, hsame⟩ := Xc20.leave (v := some (.int (1 : Int32))) (fun h => by rw [Bd.returns] at h; cases h)
  refine ⟨_, _, p22 _ ?_, hrun, hended, _, _, rfl, ?_, ⟨_, rfl⟩, hW, hsame.mono (by decide) (by decide)⟩
  · exact retOut Xc20 hx Bd.returns rfl (Or.inl ⟨rfl, by simp, _, rfl⟩) (hb hby at_53) hr
  · exact ⟨rfl, Nc20⟩
 ·
  have p23 : ∀ t, St p e below Tc3 (mkF m 8 Ls1 [(.ref a_DATA)]) t → S0 t := fun t k => p2 t (stc3 t k)
  let Ls24 : Array Slot := #[.val (.int i0), .val (.int (i0 &&& (3 : Int32))), .val (.ref a_DATA), .unset]
  have p25 : ∀ t, St p e below Tc3 (mkF m 10 Ls24 [(.int (i0 &&& (3 : Int32)))]) t → S0 t := fun t k => p23 t (by
    show St p e below Tc3 (mkF m 8 Ls1 [(.ref a_DATA)]) t
    refine XS.astoreN Xc3.here hx rfl (hb hby at_8) rfl rfl (l' := Ls24) rfl ?_
    show St p e below Tc3 (mkF m 9 Ls24 []) t
    refine XS.iloadN Xc3.here hx rfl (hb hby at_9) rfl ?_
    exact k)
  let Ls27 : Array Slot := #[.val (.int i0), .val (.int (1 : Int32)), .val (.ref a_DATA), .unset]
  have p26 : ∀ t, St p e below Tc3 (mkF m 10 Ls27 [(.int (1 : Int32))]) t → S0 t := fun t k => p25 t (by show St p e below Tc3 (mkF m 10 #[.val (.int i0), .val (.int (i0 &&& (3 : Int32))), .val (.ref a_DATA), .unset] [(.int (i0 &&& (3 : Int32)))]) t; rw [g6]; exact k)
  let Ls28 : Array Slot := #[.val (.int i0), .val (.int (1 : Int32)), .val (.ref a_DATA), .val (.int (1 : Int32))]
  have p29 : ∀ t, St p e below Tc3 (mkF m 41 Ls28 [(.ref a_DATA)]) t → S0 t := fun t k => p26 t (by
    show St p e below Tc3 (mkF m 10 Ls27 [(.int (1 : Int32))]) t
    refine XS.ifYes Xc3.here hx rfl (pc0 := 10) (pc' := 18) rfl (hb hby at_10) rfl ((if0 _ _).trans (feq (by decide : ¬ ((1 : Int32) = (0 : Int32)))).2) (by decide) (by decide) ?_
    show St p e below Tc3 (mkF m 18 Ls27 []) t
    refine XS.iloadN Xc3.here hx rfl (hb hby at_18) rfl ?_
    show St p e below Tc3 (mkF m 19 Ls27 [(.int (1 : Int32))]) t
    refine XT.iconstV Xc3.here hx rfl (1 : Int32) (hb hby at_19) (by decide) ?_
    show St p e below Tc3 (mkF m 20 Ls27 [(.int (1 : Int32)), (.int (1 : Int32))]) t
    refine XS.icmpNo Xc3.here hx rfl (hb hby at_20) rfl (teq (by decide : (1 : Int32) = (1 : Int32))).2 ?_
    show St p e below Tc3 (mkF m 23 Ls27 []) t
    refine XT.iconstV Xc3.here hx rfl (1 : Int32) (hb hby at_23) (by decide) ?_
    show St p e below Tc3 (mkF m 24 Ls27 [(.int (1 : Int32))]) t
    refine XS.istoreN Xc3.here hx rfl (hb hby at_24) rfl (l' := Ls28) rfl ?_
    show St p e below Tc3 (mkF m 25 Ls28 []) t
    refine XS.goto Xc3.here hx rfl (pc0 := 25) (pc' := 40) rfl (hb hby at_25) (by decide) (by decide) ?_
    show St p e below Tc3 (mkF m 40 Ls28 []) t
    refine XS.aloadN Xc3.here hx rfl (hb hby at_40) rfl rfl ?_
    exact k)
  obtain ⟨cqc30, kqc30, qc30a, qc30b, qc30c⟩ := isOf hZ ec3 (Ea_DATA.ext O0.2)
  obtain ⟨_, _, ⟨Tc30, Lc30, kc30, nc30⟩, -, Xc30, ⟨Lcc30, hQc30, lc30, yc30, zc30⟩, stc30⟩ := Xc3.virtualBack hx (y := M1) (z := M1) hown (mvT hZ (ww hw 7 rfl)) (mvT hZ (ww hw 8 rfl)) (notFace_of_selects (args := #[]) (mvT hZ (ww hw 10 rfl))) (mvT hZ (ww hw 10 rfl)) (mvT hZ (ww hw 9 rfl)) (by decide) (backOf (W := 0) (rm2_2 l Z a0 hw [] a_ALL a_NONE a_DATA a_RESULT h0 n0 O0 HE' ) hZ (ww hw 11 rfl) (ww hw 5 rfl) (by decide) (by decide)) qc30a qc30c (g := (mkF m 41 Ls28 [(.ref a_DATA)])) rfl (by rw [hml]; rfl) (Steps.refl _) (argsL := []) (rest := []) (lenOf pd1 rfl) rfl (by show 2 * 0 + _ ≤ _; exact Nat.le_of_eq rfl) (hb hby at_41) (fun _ _ => ⟨rfl, ec3, (by decide : 0 + 0 ≤ _), (by decide : 0 + 0 ≤ _)⟩)
  dsimp only [Pt.U, Pt.locs, Pt.cells, Pt.slots] at Xc30 lc30 yc30 zc30 stc30 hQc30
  subst lc30 yc30 zc30
  obtain ⟨Nqc30, ec30, hAc30⟩ := hQc30
  have Nc30 := Fr.app Nc3 Nqc30
  obtain rfl := hAc30
  have p31 : ∀ t, St p e below Tc30 (mkF m 44 Ls28 [(.int (1 : Int32))]) t → S0 t := fun t k => p29 t (stc30.trans k)
  have p32 : ∀ t, St p e below Tc30 (mkF m 53 Ls28 [(.int (1 : Int32))]) t → S0 t := fun t k => p31 t (by
    show St p e below Tc30 (mkF m 44 Ls28 [(.int (1 : Int32))]) t
    refine XS.iloadN Xc30.here hx rfl (hb hby at_44) rfl ?_
    show St p e below Tc30 (mkF m 45 Ls28 [(.int (1 : Int32)), (.int (1 : Int32))]) t
    refine XS.icmpNo Xc30.here hx rfl (hb hby at_45) rfl (teq (by decide : (1 : Int32) = (1 : Int32))).2 ?_
    show St p e below Tc30 (mkF m 48 Ls28 []) t
    refine XT.iconstV Xc30.here hx rfl (1 : Int32) (hb hby at_48) (by decide) ?_
    show St p e below Tc30 (mkF m 49 Ls28 [(.int (1 : Int32))]) t
    refine XS.goto Xc30.here hx rfl (pc0 := 49) (pc' := 53) rfl (hb hby at_49) (by decide) (by decide) ?_
    exact k)
  obtain ⟨fs, hr, hrun, hended, hW, hsame⟩ := Xc30.leave (v := some (.int (1 : Int32))) (fun h => by rw [Bd.returns] at h; cases h)
  refine ⟨_, _, p32 _ ?_, hrun, hended, _, _, rfl, ?_, ⟨_, rfl⟩, hW, hsame.mono (by decide) (by decide)⟩
  · exact retOut Xc30 hx Bd.returns rfl (Or.inl ⟨rfl, by simp, _, rfl⟩) (hb hby at_53) hr
  · exact ⟨rfl, Nc30⟩
 ·
  have p33 : ∀ t, St p e below Tc3 (mkF m 8 Ls1 [(.ref a_RESULT)]) t → S0 t := fun t k => p2 t (stc3 t k)
  let Ls34 : Array Slot := #[.val (.int i0), .val (.int (i0 &&& (3 : Int32))), .val (.ref a_RESULT), .unset]
  have p35 : ∀ t, St p e below Tc3 (mkF m 10 Ls34 [(.int (i0 &&& (3 : Int32)))]) t → S0 t := fun t k => p33 t (by
    show St p e below Tc3 (mkF m 8 Ls1 [(.ref a_RESULT)]) t
    refine XS.astoreN Xc3.here hx rfl (hb hby at_8) rfl rfl (l' := Ls34) rfl ?_
    show St p e below Tc3 (mkF m 9 Ls34 []) t
    refine XS.iloadN Xc3.here hx rfl (hb hby at_9) rfl ?_
    exact k)
  let Ls37 : Array Slot := #[.val (.int i0), .val (.int (2 : Int32)), .val (.ref a_RESULT), .unset]
  have p36 : ∀ t, St p e below Tc3 (mkF m 10 Ls37 [(.int (2 : Int32))]) t → S0 t := fun t k => p35 t (by show St p e below Tc3 (mkF m 10 #[.val (.int i0), .val (.int (i0 &&& (3 : Int32))), .val (.ref a_RESULT), .unset] [(.int (i0 &&& (3 : Int32)))]) t; rw [g9]; exact k)
  let Ls38 : Array Slot := #[.val (.int i0), .val (.int (2 : Int32)), .val (.ref a_RESULT), .val (.int (0 : Int32))]
  have p39 : ∀ t, St p e below Tc3 (mkF m 41 Ls38 [(.ref a_RESULT)]) t → S0 t := fun t k => p36 t (by
    show St p e below Tc3 (mkF m 10 Ls37 [(.int (2 : Int32))]) t
    refine XS.ifYes Xc3.here hx rfl (pc0 := 10) (pc' := 18) rfl (hb hby at_10) rfl ((if0 _ _).trans (feq (by decide : ¬ ((2 : Int32) = (0 : Int32)))).2) (by decide) (by decide) ?_
    show St p e below Tc3 (mkF m 18 Ls37 []) t
    refine XS.iloadN Xc3.here hx rfl (hb hby at_18) rfl ?_
    show St p e below Tc3 (mkF m 19 Ls37 [(.int (2 : Int32))]) t
    refine XT.iconstV Xc3.here hx rfl (1 : Int32) (hb hby at_19) (by decide) ?_
    show St p e below Tc3 (mkF m 20 Ls37 [(.int (1 : Int32)), (.int (2 : Int32))]) t
    refine XS.icmpYes Xc3.here hx rfl (pc0 := 20) (pc' := 28) rfl (hb hby at_20) rfl (feq (by decide : ¬ ((2 : Int32) = (1 : Int32)))).2 (by decide) (by decide) ?_
    show St p e below Tc3 (mkF m 28 Ls37 []) t
    refine XS.iloadN Xc3.here hx rfl (hb hby at_28) rfl ?_
    show St p e below Tc3 (mkF m 29 Ls37 [(.int (2 : Int32))]) t
    refine XT.iconstV Xc3.here hx rfl (2 : Int32) (hb hby at_29) (by decide) ?_
    show St p e below Tc3 (mkF m 30 Ls37 [(.int (2 : Int32)), (.int (2 : Int32))]) t
    refine XS.icmpNo Xc3.here hx rfl (hb hby at_30) rfl (teq (by decide : (2 : Int32) = (2 : Int32))).2 ?_
    show St p e below Tc3 (mkF m 33 Ls37 []) t
    refine XT.iconstV Xc3.here hx rfl (0 : Int32) (hb hby at_33) (by decide) ?_
    show St p e below Tc3 (mkF m 34 Ls37 [(.int (0 : Int32))]) t
    refine XS.istoreN Xc3.here hx rfl (hb hby at_34) rfl (l' := Ls38) rfl ?_
    show St p e below Tc3 (mkF m 35 Ls38 []) t
    refine XS.goto Xc3.here hx rfl (pc0 := 35) (pc' := 40) rfl (hb hby at_35) (by decide) (by decide) ?_
    show St p e below Tc3 (mkF m 40 Ls38 []) t
    refine XS.aloadN Xc3.here hx rfl (hb hby at_40) rfl rfl ?_
    exact k)
  obtain ⟨cqc40, kqc40, qc40a, qc40b, qc40c⟩ := isOf hZ ec3 (Ea_RESULT.ext O0.2)
  obtain ⟨_, _, ⟨Tc40, Lc40, kc40, nc40⟩, -, Xc40, ⟨Lcc40, hQc40, lc40, yc40, zc40⟩, stc40⟩ := Xc3.virtualBack hx (y := M1) (z := M1) hown (mvT hZ (ww hw 7 rfl)) (mvT hZ (ww hw 8 rfl)) (notFace_of_selects (args := #[]) (mvT hZ (ww hw 10 rfl))) (mvT hZ (ww hw 10 rfl)) (mvT hZ (ww hw 9 rfl)) (by decide) (backOf (W := 0) (rm2_3 l Z a0 hw [] a_ALL a_NONE a_DATA a_RESULT h0 n0 O0 HE' ) hZ (ww hw 11 rfl) (ww hw 5 rfl) (by decide) (by decide)) qc40a qc40c (g := (mkF m 41 Ls38 [(.ref a_RESULT)])) rfl (by rw [hml]; rfl) (Steps.refl _) (argsL := []) (rest := []) (lenOf pd1 rfl) rfl (by show 2 * 0 + _ ≤ _; exact Nat.le_of_eq rfl) (hb hby at_41) (fun _ _ => ⟨rfl, ec3, (by decide : 0 + 0 ≤ _), (by decide : 0 + 0 ≤ _)⟩)
  dsimp only [Pt.U, Pt.locs, Pt.cells, Pt.slots] at Xc40 lc40 yc40 zc40 stc40 hQc40
  subst lc40 yc40 zc40
  obtain ⟨Nqc40, ec40, hAc40⟩ := hQc40
  have Nc40 := Fr.app Nc3 Nqc40
  obtain rfl := hAc40
  have p41 : ∀ t, St p e below Tc40 (mkF m 44 Ls38 [(.int (0 : Int32))]) t → S0 t := fun t k => p39 t (stc40.trans k)
  have p42 : ∀ t, St p e below Tc40 (mkF m 53 Ls38 [(.int (1 : Int32))]) t → S0 t := fun t k => p41 t (by
    show St p e below Tc40 (mkF m 44 Ls38 [(.int (0 : Int32))]) t
    refine XS.iloadN Xc40.here hx rfl (hb hby at_44) rfl ?_
    show St p e below Tc40 (mkF m 45 Ls38 [(.int (0 : Int32)), (.int (0 : Int32))]) t
    refine XS.icmpNo Xc40.here hx rfl (hb hby at_45) rfl (teq (by decide : (0 : Int32) = (0 : Int32))).2 ?_
    show St p e below Tc40 (mkF m 48 Ls38 []) t
    refine XT.iconstV Xc40.here hx rfl (1 : Int32) (hb hby at_48) (by decide) ?_
    show St p e below Tc40 (mkF m 49 Ls38 [(.int (1 : Int32))]) t
    refine XS.goto Xc40.here hx rfl (pc0 := 49) (pc' := 53) rfl (hb hby at_49) (by decide) (by decide) ?_
    exact k)
  obtain ⟨fs, hr, hrun, hended, hW, hsame⟩ := Xc40.leave (v := some (.int (1 : Int32))) (fun h => by rw [Bd.returns] at h; cases h)
  refine ⟨_, _, p42 _ ?_, hrun, hended, _, _, rfl, ?_, ⟨_, rfl⟩, hW, hsame.mono (by decide) (by decide)⟩
  · exact retOut Xc40 hx Bd.returns rfl (Or.inl ⟨rfl, by simp, _, rfl⟩) (hb hby at_53) hr
  · exact ⟨rfl, Nc40⟩
 ·
  have p43 : ∀ t, St p e below Tc3 (mkF m 8 Ls1 [(.ref a_NONE)]) t → S0 t := fun t k => p2 t (stc3 t k)
  let Ls44 : Array Slot := #[.val (.int i0), .val (.int (i0 &&& (3 : Int32))), .val (.ref a_NONE), .unset]
  let Ls45 : Array Slot := #[.val (.int i0), .val (.int (i0 &&& (3 : Int32))), .val (.ref a_NONE), .val (.int (0 : Int32))]
  have p46 : ∀ t, St p e below Tc3 (mkF m 41 Ls45 [(.ref a_NONE)]) t → S0 t := fun t k => p43 t (by
    show St p e below Tc3 (mkF m 8 Ls1 [(.ref a_NONE)]) t
    refine XS.astoreN Xc3.here hx rfl (hb hby at_8) rfl rfl (l' := Ls44) rfl ?_
    show St p e below Tc3 (mkF m 9 Ls44 []) t
    refine XS.iloadN Xc3.here hx rfl (hb hby at_9) rfl ?_
    show St p e below Tc3 (mkF m 10 Ls44 [(.int (i0 &&& (3 : Int32)))]) t
    refine XS.ifYes Xc3.here hx rfl (pc0 := 10) (pc' := 18) rfl (hb hby at_10) rfl ((if0 _ _).trans (feq g10).2) (by decide) (by decide) ?_
    show St p e below Tc3 (mkF m 18 Ls44 []) t
    refine XS.iloadN Xc3.here hx rfl (hb hby at_18) rfl ?_
    show St p e below Tc3 (mkF m 19 Ls44 [(.int (i0 &&& (3 : Int32)))]) t
    refine XT.iconstV Xc3.here hx rfl (1 : Int32) (hb hby at_19) (by decide) ?_
    show St p e below Tc3 (mkF m 20 Ls44 [(.int (1 : Int32)), (.int (i0 &&& (3 : Int32)))]) t
    refine XS.icmpYes Xc3.here hx rfl (pc0 := 20) (pc' := 28) rfl (hb hby at_20) rfl (feq g11).2 (by decide) (by decide) ?_
    show St p e below Tc3 (mkF m 28 Ls44 []) t
    refine XS.iloadN Xc3.here hx rfl (hb hby at_28) rfl ?_
    show St p e below Tc3 (mkF m 29 Ls44 [(.int (i0 &&& (3 : Int32)))]) t
    refine XT.iconstV Xc3.here hx rfl (2 : Int32) (hb hby at_29) (by decide) ?_
    show St p e below Tc3 (mkF m 30 Ls44 [(.int (2 : Int32)), (.int (i0 &&& (3 : Int32)))]) t
    refine XS.icmpYes Xc3.here hx rfl (pc0 := 30) (pc' := 38) rfl (hb hby at_30) rfl (feq g12).2 (by decide) (by decide) ?_
    show St p e below Tc3 (mkF m 38 Ls44 []) t
    refine XT.iconstV Xc3.here hx rfl (0 : Int32) (hb hby at_38) (by decide) ?_
    show St p e below Tc3 (mkF m 39 Ls44 [(.int (0 : Int32))]) t
    refine XS.istoreN Xc3.here hx rfl (hb hby at_39) rfl (l' := Ls45) rfl ?_
    show St p e below Tc3 (mkF m 40 Ls45 []) t
    refine XS.aloadN Xc3.here hx rfl (hb hby at_40) rfl rfl ?_
    exact k)
  obtain ⟨cqc47, kqc47, qc47a, qc47b, qc47c⟩ := isOf hZ ec3 (Ea_NONE.ext O0.2)
  obtain ⟨_, _, ⟨Tc47, Lc47, kc47, nc47⟩, -, Xc47, ⟨Lcc47, hQc47, lc47, yc47, zc47⟩, stc47⟩ := Xc3.virtualBack hx (y := M1) (z := M1) hown (mvT hZ (ww hw 7 rfl)) (mvT hZ (ww hw 8 rfl)) (notFace_of_selects (args := #[]) (mvT hZ (ww hw 10 rfl))) (mvT hZ (ww hw 10 rfl)) (mvT hZ (ww hw 9 rfl)) (by decide) (backOf (W := 0) (rm2_4 l Z a0 hw [] a_ALL a_NONE a_DATA a_RESULT h0 n0 O0 HE' ) hZ (ww hw 11 rfl) (ww hw 5 rfl) (by decide) (by decide)) qc47a qc47c (g := (mkF m 41 Ls45 [(.ref a_NONE)])) rfl (by rw [hml]; rfl) (Steps.refl _) (argsL := []) (rest := []) (lenOf pd1 rfl) rfl (by show 2 * 0 + _ ≤ _; exact Nat.le_of_eq rfl) (hb hby at_41) (fun _ _ => ⟨rfl, ec3, (by decide : 0 + 0 ≤ _), (by decide : 0 + 0 ≤ _)⟩)
  dsimp only [Pt.U, Pt.locs, Pt.cells, Pt.slots] at Xc47 lc47 yc47 zc47 stc47 hQc47
  subst lc47 yc47 zc47
  obtain ⟨Nqc47, ec47, hAc47⟩ := hQc47
  have Nc47 := Fr.app Nc3 Nqc47
  obtain rfl := hAc47
  have p48 : ∀ t, St p e below Tc47 (mkF m 44 Ls45 [(.int (0 : Int32))]) t → S0 t := fun t k => p46 t (stc47.trans k)
  have p49 : ∀ t, St p e below Tc47 (mkF m 53 Ls45 [(.int (1 : Int32))]) t → S0 t := fun t k => p48 t (by
    show St p e below Tc47 (mkF m 44 Ls45 [(.int (0 : Int32))]) t
    refine XS.iloadN Xc47.here hx rfl (hb hby at_44) rfl ?_
    show St p e below Tc47 (mkF m 45 Ls45 [(.int (0 : Int32)), (.int (0 : Int32))]) t
    refine XS.icmpNo Xc47.here hx rfl (hb hby at_45) rfl (teq (by decide : (0 : Int32) = (0 : Int32))).2 ?_
    show St p e below Tc47 (mkF m 48 Ls45 []) t
    refine XT.iconstV Xc47.here hx rfl (1 : Int32) (hb hby at_48) (by decide) ?_
    show St p e below Tc47 (mkF m 49 Ls45 [(.int (1 : Int32))]) t
    refine XS.goto Xc47.here hx rfl (pc0 := 49) (pc' := 53) rfl (hb hby at_49) (by decide) (by decide) ?_
    exact k)
  obtain ⟨fs, hr, hrun, hended, hW, hsame⟩ := Xc47.leave (v := some (.int (1 : Int32))) (fun h => by rw [Bd.returns] at h; cases h)
  refine ⟨_, _, p49 _ ?_, hrun, hended, _, _, rfl, ?_, ⟨_, rfl⟩, hW, hsame.mono (by decide) (by decide)⟩
  · exact retOut Xc47 hx Bd.returns rfl (Or.inl ⟨rfl, by simp, _, rfl⟩) (hb hby at_53) hr
  · exact ⟨rfl, Nc47⟩
set_option maxRecDepth 65536 in
set_option maxHeartbeats 40000000 in
theorem comes_1 {Post : Tables → Env → Array Value → State → Outcome → State → Prop} (hpost : ∀ tb e args s v u, (limb_1_1.after args s (.returned v) u = true ∧ limb_1_2.after args s (.returned v) u = true ∧ True) → FrameEnd s (.returned v) u (Jvm.fieldLocs frame_1_writes args s ++ Jvm.arrayLocs frame_1_arrays args s ++ Jvm.staticLocs frame_1_statics s) 0 0 → Post tb e args s (.returned v) u) :
    ArmFor flags0 classFile x code maxLocals ret World_1 tables_1 room_1 Calls_1 rest_1 Pre_1 Post := by
  intro l hfl _ _ p e ha hc hk s m args below hf hA hF happ hP
  obtain ⟨hcalls, hrest, hpre⟩ := hP
  obtain ⟨-, -, -, hnamed, -, -, -, hat⟩ := (Spec.applies_iff hf).mp happ
  obtain ⟨hg, hn⟩ := and_e (Cond.before_iff.mp (show (Jvm.Cond.and given_1 narrow_1).before args s = true from hpre))
  obtain ⟨hj1a, hj1b⟩ := and_e hg
  obtain ⟨w0, rfl⟩ : ∃ w0 : Value, args = #[w0] := by
    have hs : args.size = 1 := by simpa [Cond.value, given_1] using hj1a
    obtain ⟨L⟩ := args
    match L, hs with
    | [w0], _ => exact ⟨w0, rfl⟩
  have hw := fun d (hd : d ∈ tables_1) => atoms_spec (ws := Jvm.Cond.code x code maxLocals ret :: tables_1) hat d (List.mem_cons_of_mem _ hd)
  have hfit : Fit s := fun {y c} hc i hi => by
    obtain ⟨ha, rfl⟩ := Array.getElem?_eq_some_iff.mp hc
    have q := List.all_eq_true.mp ((Array.all_eq_true_iff_forall_mem.mp hF) _ (Array.getElem_mem ha)) i (List.mem_range.mpr hi)
    simpa [Array.getElem?_eq_getElem hi] using q
  obtain ⟨i0, ei0⟩ := is_v hj1b
  obtain rfl : w0 = (.int i0) := Option.some.inj ei0
  obtain ⟨hj2a, hj2b⟩ := and_e hn
  obtain ⟨hj3a, hj3b⟩ := and_e hj2b
  obtain ⟨hj4a, hj4b⟩ := and_e hj3b
  obtain ⟨hj5a, hj5b⟩ := and_e hj4b
  obtain ⟨hj6a, hj6b⟩ := and_e hj5b
  obtain ⟨hj7a, hj7b⟩ := and_e hj6b
  obtain ⟨hj8a, hj8b⟩ := and_e hj7b
  have hn0 := hj2a
  have hn1 := hj3a
  have hn2 := hj4a
  have hn3 := hj5a
  have hn4 := hj6a
  have hn5 := hj7a
  have hn6 := hj8a
  have hn7 := hj8b
  obtain ⟨a_ALL, eva_ALL⟩ := exa_v hn0
  obtain ⟨a_NONE, eva_NONE⟩ := exa_v hn1
  obtain ⟨a_DATA, eva_DATA⟩ := exa_v hn4
  obtain ⟨a_RESULT, eva_RESULT⟩ := exa_v hn6
  obtain ⟨n, o, h1, h2, h3, _, L, rfl, ⟨rfl, N⟩, hq⟩ := rm0 l s _ hw tables_1 a_ALL a_NONE a_DATA a_RESULT i0 s.heap s.heap.size (Old.start s) ⟨(Sta.start eva_ALL (Or.inr ⟨(ww hw 5 rfl), (ww hw 6 rfl)⟩)), (Exa.start eva_ALL hn0), (Sta.start eva_NONE (Or.inr ⟨(ww hw 5 rfl), (ww hw 14 rfl)⟩)), (Exa.start eva_NONE hn1), (Fld.start ((fld_at eva_NONE).symm.trans (own_eqI hn2))), (Fld.start ((fld_at eva_ALL).symm.trans (own_eqI hn3))), (Sta.start eva_DATA (Or.inr ⟨(ww hw 5 rfl), (ww hw 16 rfl)⟩)), (Exa.start eva_DATA hn4), (Fld.start ((fld_at eva_DATA).symm.trans (own_eqI hn5))), (Sta.start eva_RESULT (Or.inr ⟨(ww hw 5 rfl), (ww hw 18 rfl)⟩)), (Exa.start eva_RESULT hn6), (Fld.start ((fld_at eva_RESULT).symm.trans (own_eqI hn7)))⟩ p e ha hc hk s m _ below hf ((Spec.applies_iff_loose hf).mp happ).1 ⟨rfl, State.Warmed39.refl s, rfl⟩ trivial
  refine ⟨n, _, h1, h2, h3, hpost _ _ _ _ _ _ ⟨Cond.after_iff.mpr rfl, Cond.after_iff.mpr (eq_i res_at (Term.int_eval (1)) rfl), trivial⟩ ⟨hq.1, hq.2.1, (hq.2.2.sift fun y hy => Or.inr (N y hy)).mono (by decide) (by decide)⟩⟩
theorem main_1_1 : Claimed_1_1 := comes_1 fun _ _ _ _ _ _ h hF => ⟨h.1, hF⟩
theorem main_1_2 : Claimed_1_2 := comes_1 fun _ _ _ _ _ _ h hF => ⟨h.2.1, hF⟩
end Jvm.Pilot.@@N@@
namespace Jvm.Pilot.@@N@@
open Jvm Jvm.ClassFile Sem Op Lib Jvm.Free Jvm.Stand Jvm.Pilot.@@N@@.Jvm.D
/-! MADE BY PROGRAM (witnessworld.py) out of the Statement's table words and the real class files: 12 classes; the members and pool entries that the words name. The judged class is class 1, her method 2. -/
namespace start1
open Jvm.ClassFile
def u (s : String) : CpInfo := .utf8 (stringToUtf16 s)
/-- a pool by its gaps: so many unusable entries, then the entry; so many at the end -/
def gap : Nat → List CpInfo → List CpInfo
  | 0, r => r
  | n + 1, r => .unusable :: gap n r
def poolList (es : List (Nat × CpInfo)) (last : Nat) : List CpInfo := es.foldr (fun e r => gap e.1 (e.2 :: r)) (gap last [])
def pool (es : List (Nat × CpInfo)) (last : Nat) : Array CpInfo := ⟨poolList es last⟩
def fileOf (pool : Array CpInfo) (this : Nat) (attrs : Array Attribute := #[]) (ms : Array MethodInfo := #[]) (fl : Nat := 33) (sup : Nat := 0) (ifs : Array Nat := #[]) (fds : Array FieldInfo := #[]) : ClassFile where
  minorVersion := 0
  majorVersion := 65
  constantPool := pool
  accessFlags := fl
  thisClass := this
  superClass := sup
  interfaces := ifs
  fields := fds
  methods := ms
  attributes := attrs
def plain (name : String) (sup : Option ClassId) : Class where
  name := name
  kind := .ordinary
  loader := none
  accessFlags := 33
  super := sup
  interfaces := #[]
  cf := none
  fields := #[]
  methods := #[]
  instanceTypes := #[]
  staticTypes := #[]
  resolved := #[]
  callSites := []
  init := .initialized
  statics := none
  mirror := none

def pool0 : Array CpInfo := pool [(5, u "<init>"), (0, u "()V"), (1, .class_ 10), (1, u "java/lang/Object")] 113

def k0m0 : Method := { name := "<init>", desc := "()V", sig := { parameters := [], returnType := none }, accessFlags := 1, code := none }
/-- java/lang/Object -/
def k0 : Class := { plain "java/lang/Object" none with
  accessFlags := 33
  interfaces := #[]
  cf := some (fileOf pool0 8 #[] #[{ accessFlags := 1, nameIndex := 5, descriptorIndex := 6, attributes := #[] }] 33 0 #[] #[])
  fields := #[]
  methods := #[k0m0]
  instanceTypes := #[]
  staticTypes := #[]
  resolved := Array.replicate 124 none
  statics := none }

def pool1 : Array CpInfo := pool [(2, .class_ 4), (1, u "java/lang/Object"), (0, u "<init>"), (0, u "()V"), (0, .fieldref 8 9), (0, .class_ 10), (0, .nameAndType 11 12), (0, u "dev/ambrotype/DiskCache$Strategy"), (0, u "ALL"), (0, u "Ldev/ambrotype/DiskCache$Strategy;"), (0, .fieldref 8 14), (0, .nameAndType 15 12), (0, u "DATA"), (0, .fieldref 8 17), (0, .nameAndType 18 12), (0, u "RESULT"), (0, .fieldref 8 20), (0, .nameAndType 21 12), (0, u "NONE"), (0, .methodref 23 24), (0, .class_ 25), (0, .nameAndType 26 27), (0, u "dev/ambrotype/StrategyKeepsDataPinLaw"), (0, u "pick"), (0, u "(I)Ldev/ambrotype/DiskCache$Strategy;"), (0, .methodref 8 29), (0, .nameAndType 30 31), (0, u "keepsData"), (0, u "()Z"), (3, u "law"), (0, u "(I)Z")] 6

def k1m0 : Method := { name := "<init>", desc := "()V", sig := { parameters := [], returnType := none }, accessFlags := 2, code := none }
def k1c1 : Code := { maxStack := 2, maxLocals := 1, code := method_2_code, exceptionTable := #[], attributes := #[] }
def k1m1 : Method := { name := "pick", desc := "(I)Ldev/ambrotype/DiskCache$Strategy;", sig := { parameters := [.int], returnType := some (.object "dev/ambrotype/DiskCache$Strategy") }, accessFlags := 10, code := some k1c1 }
def k1c2 : Code := { maxStack := 2, maxLocals := 4, code := code, exceptionTable := #[], attributes := #[] }
def k1m2 : Method := { name := "law", desc := "(I)Z", sig := { parameters := [.int], returnType := some .boolean }, accessFlags := 9, code := some k1c2 }
/-- dev/ambrotype/StrategyKeepsDataPinLaw -/
def k1 : Class := { plain "dev/ambrotype/StrategyKeepsDataPinLaw" (some 0) with
  accessFlags := 49
  interfaces := #[]
  cf := some (fileOf pool1 23 #[] #[{ accessFlags := 2, nameIndex := 5, descriptorIndex := 6, attributes := #[] }, { accessFlags := 10, nameIndex := 26, descriptorIndex := 27, attributes := #[] }, { accessFlags := 9, nameIndex := 35, descriptorIndex := 36, attributes := #[] }] 49 2 #[] #[])
  fields := #[]
  methods := #[k1m0, k1m1, k1m2]
  instanceTypes := #[]
  staticTypes := #[]
  resolved := Array.replicate 43 none
  statics := none }

def pool2 : Array CpInfo := pool [(1, .class_ 2), (0, u "java/lang/constant/Constable"), (0, .class_ 4), (0, u "java/lang/Object")] 6

/-- java/lang/constant/Constable -/
def k2 : Class := { plain "java/lang/constant/Constable" (some 0) with
  accessFlags := 1537
  interfaces := #[]
  cf := some (fileOf pool2 1 #[] #[] 1537 3 #[] #[])
  fields := #[]
  methods := #[]
  instanceTypes := #[]
  staticTypes := #[]
  resolved := Array.replicate 11 none
  statics := none }

def pool3 : Array CpInfo := pool [(1, .class_ 2), (0, u "java/lang/Comparable"), (0, .class_ 4), (0, u "java/lang/Object")] 7

/-- java/lang/Comparable -/
def k3 : Class := { plain "java/lang/Comparable" (some 0) with
  accessFlags := 1537
  interfaces := #[]
  cf := some (fileOf pool3 1 #[] #[] 1537 3 #[] #[])
  fields := #[]
  methods := #[]
  instanceTypes := #[]
  staticTypes := #[]
  resolved := Array.replicate 12 none
  statics := none }

def pool4 : Array CpInfo := pool [(1, .class_ 2), (0, u "java/io/Serializable"), (0, .class_ 4), (0, u "java/lang/Object")] 2

/-- java/io/Serializable -/
def k4 : Class := { plain "java/io/Serializable" (some 0) with
  accessFlags := 1537
  interfaces := #[]
  cf := some (fileOf pool4 1 #[] #[] 1537 3 #[] #[])
  fields := #[]
  methods := #[]
  instanceTypes := #[]
  staticTypes := #[]
  resolved := Array.replicate 7 none
  statics := none }

def pool5 : Array CpInfo := pool [(2, .class_ 4), (1, u "java/lang/Enum"), (0, u "name"), (0, u "Ljava/lang/String;"), (2, u "ordinal"), (0, u "I"), (1, .class_ 14), (1, u "java/lang/Object"), (4, u "hash"), (86, .class_ 108), (1, u "java/lang/Enum$EnumDesc"), (2, .class_ 112), (0, u "java/lang/constant/Constable"), (0, .class_ 114), (0, u "java/lang/Comparable"), (0, .class_ 116), (0, u "java/io/Serializable")] 87

/-- java/lang/Enum -/
def k5 : Class := { plain "java/lang/Enum" (some 0) with
  accessFlags := 1057
  interfaces := #[2, 3, 4]
  cf := some (fileOf pool5 2 #[.nestMembers #[106]] #[] 1057 12 #[111, 113, 115] #[{ accessFlags := 18, nameIndex := 5, descriptorIndex := 6, attributes := #[] }, { accessFlags := 18, nameIndex := 9, descriptorIndex := 10, attributes := #[] }, { accessFlags := 2, nameIndex := 19, descriptorIndex := 10, attributes := #[] }])
  fields := #[{ name := "name", type := (.object "java/lang/String"), accessFlags := 18, slot := 0, constantValue := 0 }, { name := "ordinal", type := .int, accessFlags := 18, slot := 1, constantValue := 0 }, { name := "hash", type := .int, accessFlags := 2, slot := 2, constantValue := 0 }]
  methods := #[]
  instanceTypes := #[(.object "java/lang/String"), .int, .int]
  staticTypes := #[]
  resolved := Array.replicate 204 none
  statics := none }

def pool6 : Array CpInfo := pool [(1, .class_ 2), (0, u "dev/ambrotype/DiskCache$Strategy"), (0, .fieldref 1 4), (0, .nameAndType 5 6), (0, u "ALL"), (0, u "Ldev/ambrotype/DiskCache$Strategy;"), (0, .fieldref 1 8), (0, .nameAndType 9 6), (0, u "DATA"), (2, u "RESULT"), (2, u "NONE"), (2, u "$VALUES"), (0, u "[Ldev/ambrotype/DiskCache$Strategy;"), (6, .class_ 28), (1, u "java/lang/Enum"), (39, u "keepsData"), (0, u "()Z"), (7, .class_ 78), (0, u "dev/ambrotype/DiskCache")] 2

def k6c0 : Code := { maxStack := 2, maxLocals := 1, code := prog_5_method_5_code, exceptionTable := #[], attributes := #[] }
def k6m0 : Method := { name := "keepsData", desc := "()Z", sig := { parameters := [], returnType := some .boolean }, accessFlags := 0, code := some k6c0 }
/-- dev/ambrotype/DiskCache$Strategy -/
def k6 : Class := { plain "dev/ambrotype/DiskCache$Strategy" (some 5) with
  accessFlags := 16433
  interfaces := #[]
  cf := some (fileOf pool6 1 #[.nestHost 77] #[{ accessFlags := 0, nameIndex := 68, descriptorIndex := 69, attributes := #[] }] 16433 26 #[] #[{ accessFlags := 16409, nameIndex := 5, descriptorIndex := 6, attributes := #[] }, { accessFlags := 16409, nameIndex := 9, descriptorIndex := 6, attributes := #[] }, { accessFlags := 16409, nameIndex := 12, descriptorIndex := 6, attributes := #[] }, { accessFlags := 16409, nameIndex := 15, descriptorIndex := 6, attributes := #[] }, { accessFlags := 4122, nameIndex := 18, descriptorIndex := 19, attributes := #[] }])
  fields := #[{ name := "ALL", type := (.object "dev/ambrotype/DiskCache$Strategy"), accessFlags := 16409, slot := 0, constantValue := 0 }, { name := "DATA", type := (.object "dev/ambrotype/DiskCache$Strategy"), accessFlags := 16409, slot := 1, constantValue := 0 }, { name := "RESULT", type := (.object "dev/ambrotype/DiskCache$Strategy"), accessFlags := 16409, slot := 2, constantValue := 0 }, { name := "NONE", type := (.object "dev/ambrotype/DiskCache$Strategy"), accessFlags := 16409, slot := 3, constantValue := 0 }, { name := "$VALUES", type := (.array (.object "dev/ambrotype/DiskCache$Strategy")), accessFlags := 4122, slot := 4, constantValue := 0 }]
  methods := #[k6m0]
  instanceTypes := #[(.object "java/lang/String"), .int, .int]
  staticTypes := #[(.object "dev/ambrotype/DiskCache$Strategy"), (.object "dev/ambrotype/DiskCache$Strategy"), (.object "dev/ambrotype/DiskCache$Strategy"), (.object "dev/ambrotype/DiskCache$Strategy"), (.array (.object "dev/ambrotype/DiskCache$Strategy"))]
  resolved := Array.replicate 81 none
  statics := some 0 }

def pool7 : Array CpInfo := pool [(1, u "java/lang/Cloneable"), (0, .class_ 1), (0, u "java/lang/Object"), (0, .class_ 3)] 3

/-- java/lang/Cloneable -/
def k7 : Class := { plain "java/lang/Cloneable" (some 0) with
  accessFlags := 1537
  interfaces := #[]
  cf := some (fileOf pool7 2 #[] #[] 1537 4 #[] #[])
  fields := #[]
  methods := #[]
  instanceTypes := #[]
  staticTypes := #[]
  resolved := Array.replicate 8 none
  statics := none }

/-- the primitive byte -/
def k8 : Class := { plain "byte" none with kind := .primitive 'B', accessFlags := 0x411 }
/-- [B -/
def k9 : Class := { plain "[B" (some 0) with kind := .array 8 .byte, interfaces := #[7, 4], accessFlags := 1041 }

/-- the primitive int -/
def k10 : Class := { plain "int" none with kind := .primitive 'I', accessFlags := 0x411 }
/-- [I -/
def k11 : Class := { plain "[I" (some 0) with kind := .array 10 .int, interfaces := #[7, 4], accessFlags := 1041 }

def heap : Heap := #[{ cls := 6, slots := #[.ref 1, .ref 3, .ref 4, .ref 2, .null], vm := .statics 6 },
  { cls := 6, slots := #[.null, .int 0, .int 0], vm := .none },
  { cls := 6, slots := #[.null, .int 3, .int 0], vm := .none },
  { cls := 6, slots := #[.null, .int 1, .int 0], vm := .none },
  { cls := 6, slots := #[.null, .int 2, .int 0], vm := .none }]
def classes : Array Class := #[k0, k1, k2, k3, k4, k5, k6, k7, k8, k9, k10, k11]
def interned : List (Array UInt16 × Addr) := []
def slotsUsed : Nat := 17
def theMethod : MethodId := ⟨1, 2⟩
def args0 : Array Value := #[.int 5]
def aboutOver (below : List Frame) : State where
  vm := { classes := classes, interned := interned.toArray }
  heap := heap
  slotsUsed := slotsUsed
  threads := #[{ frames := .invoking theMethod args0 :: below }]
def below0 : List Frame := [.native { method := ⟨0, 0⟩, args := #[] }]
def about1 : State := aboutOver below0
def p0 : Program := .bare "" "" ""
def e0 : Env := launch0.env 0 0 0
theorem w_frames : about1.frames = Frame.invoking theMethod args0 :: below0 := rfl
set_option maxRecDepth 65536 in
theorem w_args : argsFit about1.vm theMethod args0 = true := by decide +kernel
set_option maxRecDepth 65536 in
theorem w_heap : heapFits about1 = true := by decide +kernel
set_option maxRecDepth 65536 in
theorem w_runnable : about1.curStatus? = some .runnable := by decide +kernel
set_option maxRecDepth 65536 in
theorem w_alone : about1.alone = true := by decide +kernel
set_option maxRecDepth 65536 in
theorem w_named : about1.methodNamed? x = some theMethod := by decide +kernel
set_option maxRecDepth 65536 in
theorem w_hears : about1.hears theMethod below0 = true := by decide +kernel
set_option maxRecDepth 65536 in
theorem w_ripe : about1.ripe theMethod args0 below0 = true := by decide +kernel
theorem w_running : about1.status = .running := rfl
set_option maxRecDepth 65536 in
theorem w_room : about1.hasRoom e0.platform room_1 = true :=
  launch0.hasRoom_least _ room_1 (by decide +kernel) (by decide +kernel) (by decide +kernel) (by decide +kernel) (by decide +kernel) (by decide +kernel)
theorem allAtoms_all (ts : List Jvm.Cond) (a : Array Jvm.Value) (st : Jvm.State) : (allAtoms ts).before a st = ts.all (fun c => c.before a st) := by
  induction ts with
  | nil => rfl
  | cons c t ih =>
    show (Jvm.Cond.and c (allAtoms t)).before a st = _
    rw [Jvm.Cond.before_and, ih, List.all_cons]
def words1 : List Jvm.Cond := Jvm.Cond.code x code maxLocals ret :: tables_1
/-- a 'code' word, met by the world's own term for the bytes: nothing is compared byte by byte -/
theorem code_word {y : MethodName} {bytes : ByteArray} {mx : Nat} {rt : Option FieldType} {a : Array Value} {s : State} {m : MethodId} {meth : Method} {c : Code} (h1 : s.methodNamed? y = some m) (h2 : s.vm.method? m = some meth) (h3 : meth.code = some c) (h4 : c.code = bytes)
    (h5 : (c.maxLocals == mx && c.exceptionTable.isEmpty && decide (c.maxStack ≤ mostOperands) && decide (meth.sig.returnType = rt) && !meth.locks && decide (parseMethodDescriptor y.desc = some meth.sig)) = true) : (Jvm.Cond.code y bytes mx rt).before a s = true := by
  simp only [Bool.and_eq_true, beq_iff_eq, Bool.not_eq_true', decide_eq_true_eq] at h5
  obtain ⟨⟨⟨⟨⟨g1, g2⟩, g3⟩, g4⟩, g5⟩, g6⟩ := h5
  simp [Cond.before, Cond.holds, Cond.value, h1, h2, h3, h4, g1, g2, g3, g4, g5, g6]
def isCode : Jvm.Cond → Bool
  | .code _ _ _ _ => true
  | _ => false
theorem all_split {L : List Jvm.Cond} {P : Jvm.Cond → Bool} (h1 : L.all (fun c => isCode c || P c) = true) (h2 : ∀ c ∈ L.filter isCode, P c = true) : L.all P = true := by
  refine List.all_eq_true.mpr fun c hc => ?_
  have h := List.all_eq_true.mp h1 c hc
  rcases Bool.eq_false_or_eq_true (isCode c) with hi | hi
  · exact h2 c (List.mem_filter.mpr ⟨hc, hi⟩)
  · simpa [hi] using h
set_option maxRecDepth 65536 in
theorem w_c0 : (Jvm.Cond.code x code maxLocals ret).before args0 about1 = true := code_word (m := ⟨1, 2⟩) (meth := k1m2) (c := k1c2) (by decide +kernel) rfl rfl rfl (by decide +kernel)
set_option maxRecDepth 65536 in
theorem w_c1 : (Jvm.Cond.code ({ cls := "dev/ambrotype/StrategyKeepsDataPinLaw", name := "pick", desc := "(I)Ldev/ambrotype/DiskCache$Strategy;" } : Jvm.MethodName) method_2_code (1 : Nat) (Option.some (Jvm.ClassFile.FieldType.object "dev/ambrotype/DiskCache$Strategy"))).before args0 about1 = true := code_word (m := ⟨1, 1⟩) (meth := k1m1) (c := k1c1) (by decide +kernel) rfl rfl rfl (by decide +kernel)
set_option maxRecDepth 65536 in
theorem w_c2 : (Jvm.Cond.code ({ cls := "dev/ambrotype/DiskCache$Strategy", name := "keepsData", desc := "()Z" } : Jvm.MethodName) prog_5_method_5_code (1 : Nat) (Option.some Jvm.ClassFile.FieldType.boolean)).before args0 about1 = true := code_word (m := ⟨6, 0⟩) (meth := k6m0) (c := k6c0) (by decide +kernel) rfl rfl rfl (by decide +kernel)
def codes1 : List Jvm.Cond := [Jvm.Cond.code x code maxLocals ret, Jvm.Cond.code ({ cls := "dev/ambrotype/StrategyKeepsDataPinLaw", name := "pick", desc := "(I)Ldev/ambrotype/DiskCache$Strategy;" } : Jvm.MethodName) method_2_code (1 : Nat) (Option.some (Jvm.ClassFile.FieldType.object "dev/ambrotype/DiskCache$Strategy")), Jvm.Cond.code ({ cls := "dev/ambrotype/DiskCache$Strategy", name := "keepsData", desc := "()Z" } : Jvm.MethodName) prog_5_method_5_code (1 : Nat) (Option.some Jvm.ClassFile.FieldType.boolean)]
set_option maxRecDepth 65536 in
theorem codes_eq : words1.filter isCode = codes1 := rfl
theorem w_codes : ∀ c ∈ words1.filter isCode, c.before args0 about1 = true := by
  rw [codes_eq]
  intro c hc
  simp only [codes1, List.mem_cons, List.not_mem_nil, or_false] at hc
  rcases hc with rfl | rfl | rfl
  · exact w_c0
  · exact w_c1
  · exact w_c2
set_option maxRecDepth 65536 in
theorem w_t1 : words1.all (fun c => isCode c || c.before args0 about1) = true := by decide +kernel
theorem w_tables : (allAtoms (Jvm.Cond.code x code maxLocals ret :: tables_1)).before args0 about1 = true := by
  rw [allAtoms_all]
  show words1.all (fun c => c.before args0 about1) = true
  refine all_split ?_ w_codes
  rw [w_t1]
set_option maxRecDepth 65536 in
theorem w_case : (Jvm.Cond.and given_1 narrow_1).before args0 about1 = true := by decide +kernel
theorem w_applies : (headSpec (Jvm.Cond.code x code maxLocals ret :: tables_1) room_1).applies x e0.platform about1 = true :=
  (Spec.applies_iff w_frames).mpr ⟨w_running, w_runnable, w_alone, w_named, w_hears, w_ripe, w_room, w_tables⟩
theorem atStart : AtStart classFile x code maxLocals ret World_1 tables_1 room_1 Calls_1 rest_1 Pre_1 launch0 p0 e0 about1 theMethod args0 below0 :=
  ⟨lists_1, trivial, launch0.admits_env _ _ _, launch0.least_env, fairChoices_fair.cas, fairChoices_fair.clock, w_frames, w_args, w_heap, w_applies, trivial, trivial, w_case⟩
end start1
theorem witness_1 : WitnessClaimed_1 := ⟨start1.p0, start1.e0, start1.about1, start1.theMethod, start1.args0, start1.below0, start1.atStart⟩
end Jvm.Pilot.@@N@@
