import JvmDerived
import JvmDerived.Pilot.@@N@@Statement
import JvmDerived.Pilot.@@N@@Code
set_option linter.unusedVariables false
set_option linter.unusedSimpArgs false
namespace Jvm.Pilot.@@N@@
open Jvm Jvm.ClassFile Sem Op Lib Jvm.Free Jvm.Stand Jvm.LawKit Jvm.RoadKit Bundle Jvm.Pilot.@@N@@.Jvm.D
abbrev St (p : Program) (e : Env) (below : List Frame) (T : State) (g : JFrame) (t : State) : Prop := Steps p.tables e below (T.setTop g) t
theorem ww {Z : State} {a0 : Array Value} (hw : ∀ d ∈ tables_1, d.before a0 Z = true) {d : Jvm.Cond} (i : Nat) (h : tables_1[i]? = some d) : d.before a0 Z = true := hw _ (List.mem_of_getElem? h)
theorem ltI {a b : Int32} (h : a < b) : a.toInt < b.toInt := Int32.lt_iff_toInt_lt.mp h
theorem nltI {a b : Int32} (h : ¬ a < b) : ¬ a.toInt < b.toInt := mt Int32.lt_iff_toInt_lt.mpr h
theorem eqI {a b : Int32} (h : a = b) : a.toInt = b.toInt := congrArg Int32.toInt h
theorem neI {a b : Int32} (h : ¬ a = b) : ¬ a.toInt = b.toInt := mt Int32.toInt_inj.mp h
theorem ltJ {a b : Int64} (h : a < b) : a.toInt < b.toInt := Int64.lt_iff_toInt_lt.mp h
theorem nltJ {a b : Int64} (h : ¬ a < b) : ¬ a.toInt < b.toInt := mt Int64.lt_iff_toInt_lt.mpr h
theorem eqJ {a b : Int64} (h : a = b) : a.toInt = b.toInt := congrArg Int64.toInt h
theorem neJ {a b : Int64} (h : ¬ a = b) : ¬ a.toInt = b.toInt := mt Int64.toInt_inj.mp h
theorem own_eqI {args : Array Value} {s : State} {t : Term} {k : Int32} (h : (Jvm.Cond.eq t (.int k)).value args s none s [] = some true) : t.eval args s none [] s = some (.int k) := by
  obtain ⟨x, y, ex, ey, k1, k2⟩ := cmp_v (Or.inl h)
  obtain rfl : y = .int k := Option.some.inj (ey.symm.trans (Term.int_eval k))
  obtain ⟨z, rfl⟩ := k2
  rw [ex, gotT (Cond.eq_ints ex ey) h]
theorem own_eqJ {args : Array Value} {s : State} {t : Term} {k : Int64} (h : (Jvm.Cond.eq t (.long k)).value args s none s [] = some true) : t.eval args s none [] s = some (.long k) := by
  obtain ⟨x, y, ex, ey, k1, k2⟩ := cmp_v (Or.inl h)
  obtain rfl : y = .long k := Option.some.inj (ey.symm.trans (long_at k))
  obtain ⟨z, rfl⟩ := k2
  rw [ex, gotT (eq_L ex ey) h]
theorem own_eqR {args : Array Value} {s : State} {t u : Term} {b : Addr} (h : (Jvm.Cond.eq t u).value args s none s [] = some true) (hu : u.eval args s none [] s = some (.ref b)) : t.eval args s none [] s = some (.ref b) := by
  obtain ⟨x, y, ex, ey, k1, k2⟩ := cmp_v (Or.inl h)
  obtain rfl : y = .ref b := Option.some.inj (ey.symm.trans hu)
  have hx : x.isRef = true := k2.2
  rw [ex, gotT (eq_R ex ey hx rfl) h]
theorem own_len {args : Array Value} {s : State} {t : Term} {a : Addr} {cl : Cell} {ty : FieldType} {k : Int32} (ev : t.eval args s none [] s = some (.ref a)) (A : Arr s s.heap a cl ty) (h : (Term.length t).eval args s none [] s = some (.int k)) : cl.slots.size < 2 ^ 31 ∧ cl.slots.size.toInt32 = k := by
  have ha := A.fin (Vm.Alike.refl _)
  by_cases hl : cl.slots.size < 2 ^ 31
  · exact ⟨hl, Value.int.inj (Option.some.inj ((len_f ev ha hl).symm.trans h))⟩
  · exfalso; simp [Term.eval, ev, ha, hl] at h
theorem own_sel {Z : State} {a0 : Array Value} {y : MethodName} {n : Nat} (wi : (Jvm.Cond.instantiable y.cls n).before a0 Z = true) (wp : (Jvm.Cond.privateMethod y).before a0 Z = true) (wm : (Jvm.Cond.instanceMethod y).before a0 Z = true) (hy : y.cls ≠ "java/lang/invoke/MethodHandle" ∧ y.cls ≠ "java/lang/invoke/VarHandle") : (Jvm.Cond.selects y.cls y y).before a0 Z = true := by
  obtain ⟨c, k, h1, h2, h3, h4, -⟩ := Cond.instantiable_spec wi
  exact selects_self_of_private h1 h2 (by simp only [Bool.or_eq_false_iff] at h4; exact h4.1) (Cond.privateMethod_at wp) wm hy
def own_nz (x : Int64) : Int32 := if x = 0 then 0 else 1
theorem own_c_nz (x : Int64) : (x.toInt = 0 → (own_nz x).toInt = 0) ∧ (x.toInt ≠ 0 → (own_nz x).toInt = 1) := by
  unfold own_nz
  by_cases h : x = 0
  · subst h; exact ⟨fun _ => by decide, fun q => absurd (by decide) q⟩
  · rw [if_neg h]; exact ⟨fun q => absurd (Int64.toInt_inj.mp (q.trans (by decide : (0 : Int) = (0 : Int64).toInt))) h, fun _ => by decide⟩
theorem own_old_le {Z : State} {n0 : Nat} {h : Heap} (O : Old Z n0 h) : n0 ≤ h.size := O.1 ▸ O.2.1
abbrev M0 : MethodName := ⟨"com/example/bouncr/bouncr/analysis/Answer", "of", "(Z)Lcom/example/bouncr/bouncr/analysis/Answer;"⟩
abbrev M1 : MethodName := ⟨"com/example/bouncr/bouncr/analysis/Answer", "not", "()Lcom/example/bouncr/bouncr/analysis/Answer;"⟩

def Env1 (Z : State) (a_NO : Addr) (a_YES : Addr) (a_UNKNOWN : Addr) : Prop := Sta Z Z.heap "com/example/bouncr/bouncr/analysis/Answer" "NO" "Lcom/example/bouncr/bouncr/analysis/Answer;" (.ref a_NO) ∧
  Exa Z Z.heap a_NO "com/example/bouncr/bouncr/analysis/Answer" ∧
  Sta Z Z.heap "com/example/bouncr/bouncr/analysis/Answer" "YES" "Lcom/example/bouncr/bouncr/analysis/Answer;" (.ref a_YES) ∧
  Exa Z Z.heap a_YES "com/example/bouncr/bouncr/analysis/Answer" ∧
  Sta Z Z.heap "com/example/bouncr/bouncr/analysis/Answer" "UNKNOWN" "Lcom/example/bouncr/bouncr/analysis/Answer;" (.ref a_UNKNOWN) ∧
  Exa Z Z.heap a_UNKNOWN "com/example/bouncr/bouncr/analysis/Answer" ∧
  Fld Z Z.heap a_NO "java/lang/Enum" "ordinal" "I" (.int (1 : Int32)) ∧
  Fld Z Z.heap a_UNKNOWN "java/lang/Enum" "ordinal" "I" (.int (2 : Int32)) ∧
  Fld Z Z.heap a_YES "java/lang/Enum" "ordinal" "I" (.int (0 : Int32))
theorem ef0 (m : MethodId) (x0 : Int32) : entryFrame m #[(.int x0)] maxLocals = mkF m 0 #[.val (.int x0), .unset, .unset, .unset, .unset, .unset, .unset, .unset] [] := by first | (simp [entryFrame, mkF, argsToLocals, Value.category, maxLocals]; done) | rfl
theorem pn0 : plainName "com/example/bouncr/bouncr/analysis/AnswerOfPinLaw" = true := by first | (simp [plainName, overriddenIn]; done) | decide +kernel
theorem ef1 (m : MethodId) (x0 : Int32) : entryFrame m #[(.int x0)] 1 = mkF m 0 #[.val (.int x0)] [] := by first | (simp [entryFrame, mkF, argsToLocals, Value.category]; done) | rfl
theorem pn1 : plainName "com/example/bouncr/bouncr/analysis/Answer" = true := by first | (simp [plainName, overriddenIn]; done) | decide +kernel
theorem d1_0 : decode prog_2_method_5_code 0 = .ok (.iload_n 0, 1) := by decide +kernel
theorem d1_1 : decode prog_2_method_5_code 1 = .ok (.ifCond .eq 9, 3) := by decide +kernel
theorem d1_10 : decode prog_2_method_5_code 10 = .ok (.getstatic 7, 3) := by decide +kernel
theorem d1_13 : decode prog_2_method_5_code 13 = .ok (.areturn, 1) := by decide +kernel
def Q1_0 (Z : State) (a_NO : Addr) (a_YES : Addr) (a_UNKNOWN : Addr) (h0 : Heap) (n0 : Nat) (v : Option Value) (h : Heap) (L : List Loc) : Prop := Fr n0 L ∧ h = h0 ∧ ((v = some (.ref a_NO)))
set_option maxRecDepth 65536 in
set_option maxHeartbeats 40000000 in
theorem rm1_0 (l : Launch) (Z : State) (a0 : Array Value) (hw : ∀ d ∈ tables_1, d.before a0 Z = true) (ws : List Jvm.Cond) (a_NO : Addr) (a_YES : Addr) (a_UNKNOWN : Addr) (h0 : Heap) (n0 : Nat) (O0 : Old Z n0 h0) (HE : Env1 Z a_NO a_YES a_UNKNOWN)  :
    MetFree l M0 (head1 (Jvm.Cond.code M0 prog_2_method_5_code 1 (some (.object "com/example/bouncr/bouncr/analysis/Answer")) :: ws) ({ frames := 0, cells := 0, slots := 0, locals := 0 } : Room)) (fun a U => a = #[(.int (0 : Int32))] ∧ Z.Warmed39 U.vm ∧ U.heap = h0) (fun _ _ _ _ _ => True) (fun _ U o U' => ∃ v L, o = .returned v ∧ Q1_0 Z a_NO a_YES a_UNKNOWN h0 n0 v U'.heap L ∧ FrameEnd U o U' L ({ frames := 0, cells := 0, slots := 0, locals := 0 } : Room).cells ({ frames := 0, cells := 0, slots := 0, locals := 0 } : Room).slots) := by
 refine MetFree.of_bodySF (plainFor_of_name pn1) hisR ?_
 intro p e s m args below meth c s₁ Bd hml0 hP hK
 obtain ⟨rfl, hZ, hh⟩ := hP
 have hx := Bd.exec
 have hby := Bd.bytes
 have hml : c.maxLocals = 1 := hml0
 have hown : s.vm.findClass "com/example/bouncr/bouncr/analysis/Answer" = some m.cls := findClass_of_methodNamed Bd.named
 have hnm := (name_of_methodNamed Bd.named Bd.method).1
 have X0 : Stand p l e ({ frames := 0, cells := 0, slots := 0, locals := 0 } : Room) s m #[(.int (0 : Int32))] below meth c s₁ [] 0 0 := Stand.of_body Bd
 have e0 : s₁.heap = h0 := by rw [← hh, Bd.state]; rfl
 have N0 := Fr.nil n0
 let S0 : State → Prop := fun t => Steps p.tables e below (s₁.setTop (entryFrame m #[(.int (0 : Int32))] 1)) t
 have p0 : ∀ t, St p e below s₁ (mkF m 0 #[.val (.int (0 : Int32))] []) t → S0 t := fun t k => castTop (ef1 m (0 : Int32)) k
 have HE' := HE
 obtain ⟨Sa_NO, Ea_NO, Sa_YES, Ea_YES, Sa_UNKNOWN, Ea_UNKNOWN, Fa_NO_ordinal, Fa_UNKNOWN_ordinal, Fa_YES_ordinal⟩ := HE
 have p1 : ∀ t, St p e below s₁ (mkF m 10 #[.val (.int (0 : Int32))] []) t → S0 t := fun t k => p0 t (by
   show St p e below s₁ (mkF m 0 #[.val (.int (0 : Int32))] []) t
   refine XS.iloadN X0.here hx rfl (hb hby d1_0) rfl ?_
   show St p e below s₁ (mkF m 1 #[.val (.int (0 : Int32))] [(.int (0 : Int32))]) t
   refine XS.ifYes X0.here hx rfl (pc0 := 1) (pc' := 10) rfl (hb hby d1_1) rfl ((if0 _ _).trans (teq (by decide : (0 : Int32) = (0 : Int32))).1) (by decide) (by decide) ?_
   exact k)
 obtain ⟨T2, X2, e2, st2⟩ := getS2 X0 hx hZ hown (host := "") (Or.inl (ww hw 4 rfl)) Via.refl e0 (Sa_NO.ext O0.2) (g := (mkF m 10 #[.val (.int (0 : Int32))] [])) rfl (hb hby d1_10)
 have p3 : ∀ t, St p e below T2 (mkF m 13 #[.val (.int (0 : Int32))] [(.ref a_NO)]) t → S0 t := fun t k => p1 t (st2 t k)
 obtain ⟨fs, hr, hrun, hended, hW, hsame⟩ := X2.leave (v := some (.ref a_NO)) (fun h => by rw [Bd.returns] at h; cases h)
 refine ⟨_, _, p3 _ ?_, hrun, hended, _, _, rfl, ?_, ⟨_, rfl⟩, hW, hsame.mono (by decide) (by decide)⟩
 · exact retOut X2 hx Bd.returns rfl (Or.inr (Or.inr (Or.inr (Or.inr ⟨rfl, rfl, rfl⟩)))) (hb hby d1_13) hr
 · show Q1_0 Z a_NO a_YES a_UNKNOWN h0 n0 _ T2.heap _
   exact ⟨N0, e2, rfl⟩
theorem pd0 : parseMethodDescriptor "(Z)Lcom/example/bouncr/bouncr/analysis/Answer;" = some ⟨[.boolean], some (.object "com/example/bouncr/bouncr/analysis/Answer")⟩ := by decide +kernel
theorem d1_4 : decode prog_2_method_5_code 4 = .ok (.getstatic 3, 3) := by decide +kernel
theorem d1_7 : decode prog_2_method_5_code 7 = .ok (.goto 6, 3) := by decide +kernel
def Q1_1 (Z : State) (a_NO : Addr) (a_YES : Addr) (a_UNKNOWN : Addr) (h0 : Heap) (n0 : Nat) (v : Option Value) (h : Heap) (L : List Loc) : Prop := Fr n0 L ∧ h = h0 ∧ ((v = some (.ref a_YES)))
set_option maxRecDepth 65536 in
set_option maxHeartbeats 40000000 in
theorem rm1_1 (l : Launch) (Z : State) (a0 : Array Value) (hw : ∀ d ∈ tables_1, d.before a0 Z = true) (ws : List Jvm.Cond) (a_NO : Addr) (a_YES : Addr) (a_UNKNOWN : Addr) (h0 : Heap) (n0 : Nat) (O0 : Old Z n0 h0) (HE : Env1 Z a_NO a_YES a_UNKNOWN)  :
    MetFree l M0 (head1 (Jvm.Cond.code M0 prog_2_method_5_code 1 (some (.object "com/example/bouncr/bouncr/analysis/Answer")) :: ws) ({ frames := 0, cells := 0, slots := 0, locals := 0 } : Room)) (fun a U => a = #[(.int (1 : Int32))] ∧ Z.Warmed39 U.vm ∧ U.heap = h0) (fun _ _ _ _ _ => True) (fun _ U o U' => ∃ v L, o = .returned v ∧ Q1_1 Z a_NO a_YES a_UNKNOWN h0 n0 v U'.heap L ∧ FrameEnd U o U' L ({ frames := 0, cells := 0, slots := 0, locals := 0 } : Room).cells ({ frames := 0, cells := 0, slots := 0, locals := 0 } : Room).slots) := by
 refine MetFree.of_bodySF (plainFor_of_name pn1) hisR ?_
 intro p e s m args below meth c s₁ Bd hml0 hP hK
 obtain ⟨rfl, hZ, hh⟩ := hP
 have hx := Bd.exec
 have hby := Bd.bytes
 have hml : c.maxLocals = 1 := hml0
 have hown : s.vm.findClass "com/example/bouncr/bouncr/analysis/Answer" = some m.cls := findClass_of_methodNamed Bd.named
 have hnm := (name_of_methodNamed Bd.named Bd.method).1
 have X0 : Stand p l e ({ frames := 0, cells := 0, slots := 0, locals := 0 } : Room) s m #[(.int (1 : Int32))] below meth c s₁ [] 0 0 := Stand.of_body Bd
 have e0 : s₁.heap = h0 := by rw [← hh, Bd.state]; rfl
 have N0 := Fr.nil n0
 let S0 : State → Prop := fun t => Steps p.tables e below (s₁.setTop (entryFrame m #[(.int (1 : Int32))] 1)) t
 have p0 : ∀ t, St p e below s₁ (mkF m 0 #[.val (.int (1 : Int32))] []) t → S0 t := fun t k => castTop (ef1 m (1 : Int32)) k
 have HE' := HE
 obtain ⟨Sa_NO, Ea_NO, Sa_YES, Ea_YES, Sa_UNKNOWN, Ea_UNKNOWN, Fa_NO_ordinal, Fa_UNKNOWN_ordinal, Fa_YES_ordinal⟩ := HE
 have p1 : ∀ t, St p e below s₁ (mkF m 4 #[.val (.int (1 : Int32))] []) t → S0 t := fun t k => p0 t (by
   show St p e below s₁ (mkF m 0 #[.val (.int (1 : Int32))] []) t
   refine XS.iloadN X0.here hx rfl (hb hby d1_0) rfl ?_
   show St p e below s₁ (mkF m 1 #[.val (.int (1 : Int32))] [(.int (1 : Int32))]) t
   refine XS.ifNo X0.here hx rfl (hb hby d1_1) rfl ((if0 _ _).trans (feq (by decide : ¬ ((1 : Int32) = (0 : Int32)))).1) ?_
   exact k)
 obtain ⟨T2, X2, e2, st2⟩ := getS2 X0 hx hZ hown (host := "") (Or.inl (ww hw 6 rfl)) Via.refl e0 (Sa_YES.ext O0.2) (g := (mkF m 4 #[.val (.int (1 : Int32))] [])) rfl (hb hby d1_4)
 have p3 : ∀ t, St p e below T2 (mkF m 7 #[.val (.int (1 : Int32))] [(.ref a_YES)]) t → S0 t := fun t k => p1 t (st2 t k)
 have p4 : ∀ t, St p e below T2 (mkF m 13 #[.val (.int (1 : Int32))] [(.ref a_YES)]) t → S0 t := fun t k => p3 t (by
   show St p e below T2 (mkF m 7 #[.val (.int (1 : Int32))] [(.ref a_YES)]) t
   refine XS.goto X2.here hx rfl (pc0 := 7) (pc' := 13) rfl (hb hby d1_7) (by decide) (by decide) ?_
   exact k)
 obtain ⟨fs, hr, hrun, hended, hW, hsame⟩ := X2.leave (v := some (.ref a_YES)) (fun h => by rw [Bd.returns] at h; cases h)
 refine ⟨_, _, p4 _ ?_, hrun, hended, _, _, rfl, ?_, ⟨_, rfl⟩, hW, hsame.mono (by decide) (by decide)⟩
 · exact retOut X2 hx Bd.returns rfl (Or.inr (Or.inr (Or.inr (Or.inr ⟨rfl, rfl, rfl⟩)))) (hb hby d1_13) hr
 · show Q1_1 Z a_NO a_YES a_UNKNOWN h0 n0 _ T2.heap _
   exact ⟨N0, e2, rfl⟩
theorem ef2 (m : MethodId) (x0 : Addr) : entryFrame m #[(.ref x0)] 2 = mkF m 0 #[.val (.ref x0), .unset] [] := by first | (simp [entryFrame, mkF, argsToLocals, Value.category]; done) | rfl
theorem d2_0 : decode prog_2_method_4_code 0 = .ok (.aload_n 0, 1) := by decide +kernel
theorem d2_1 : decode prog_2_method_4_code 1 = .ok (.getstatic 3, 3) := by decide +kernel
theorem d2_4 : decode prog_2_method_4_code 4 = .ok (.if_acmp .ne 10, 3) := by decide +kernel
theorem d2_14 : decode prog_2_method_4_code 14 = .ok (.aload_n 0, 1) := by decide +kernel
theorem d2_15 : decode prog_2_method_4_code 15 = .ok (.getstatic 7, 3) := by decide +kernel
theorem d2_18 : decode prog_2_method_4_code 18 = .ok (.if_acmp .ne 10, 3) := by decide +kernel
theorem d2_21 : decode prog_2_method_4_code 21 = .ok (.getstatic 3, 3) := by decide +kernel
theorem d2_24 : decode prog_2_method_4_code 24 = .ok (.astore_n 1, 1) := by decide +kernel
theorem d2_25 : decode prog_2_method_4_code 25 = .ok (.goto 7, 3) := by decide +kernel
theorem d2_32 : decode prog_2_method_4_code 32 = .ok (.aload_n 1, 1) := by decide +kernel
theorem d2_33 : decode prog_2_method_4_code 33 = .ok (.areturn, 1) := by decide +kernel
def Q2_2 (Z : State) (a_NO : Addr) (a_YES : Addr) (a_UNKNOWN : Addr) (h0 : Heap) (n0 : Nat) (v : Option Value) (h : Heap) (L : List Loc) : Prop := Fr n0 L ∧ h = h0 ∧ ((v = some (.ref a_YES)))
set_option maxRecDepth 65536 in
set_option maxHeartbeats 40000000 in
theorem rm2_2 (l : Launch) (Z : State) (a0 : Array Value) (hw : ∀ d ∈ tables_1, d.before a0 Z = true) (ws : List Jvm.Cond) (a_NO : Addr) (a_YES : Addr) (a_UNKNOWN : Addr) (h0 : Heap) (n0 : Nat) (O0 : Old Z n0 h0) (HE : Env1 Z a_NO a_YES a_UNKNOWN)  :
    MetFree l M1 (head1 (Jvm.Cond.code M1 prog_2_method_4_code 2 (some (.object "com/example/bouncr/bouncr/analysis/Answer")) :: ws) ({ frames := 0, cells := 0, slots := 0, locals := 0 } : Room)) (fun a U => a = #[(.ref a_NO)] ∧ Z.Warmed39 U.vm ∧ U.heap = h0) (fun _ _ _ _ _ => True) (fun _ U o U' => ∃ v L, o = .returned v ∧ Q2_2 Z a_NO a_YES a_UNKNOWN h0 n0 v U'.heap L ∧ FrameEnd U o U' L ({ frames := 0, cells := 0, slots := 0, locals := 0 } : Room).cells ({ frames := 0, cells := 0, slots := 0, locals := 0 } : Room).slots) := by
 refine MetFree.of_bodySF (plainFor_of_name pn1) hisR ?_
 intro p e s m args below meth c s₁ Bd hml0 hP hK
 obtain ⟨rfl, hZ, hh⟩ := hP
 have hx := Bd.exec
 have hby := Bd.bytes
 have hml : c.maxLocals = 2 := hml0
 have hown : s.vm.findClass "com/example/bouncr/bouncr/analysis/Answer" = some m.cls := findClass_of_methodNamed Bd.named
 have hnm := (name_of_methodNamed Bd.named Bd.method).1
 have X0 : Stand p l e ({ frames := 0, cells := 0, slots := 0, locals := 0 } : Room) s m #[(.ref a_NO)] below meth c s₁ [] 0 0 := Stand.of_body Bd
 have e0 : s₁.heap = h0 := by rw [← hh, Bd.state]; rfl
 have N0 := Fr.nil n0
 let S0 : State → Prop := fun t => Steps p.tables e below (s₁.setTop (entryFrame m #[(.ref a_NO)] 2)) t
 have p0 : ∀ t, St p e below s₁ (mkF m 0 #[.val (.ref a_NO), .unset] []) t → S0 t := fun t k => castTop (ef2 m a_NO) k
 have HE' := HE
 obtain ⟨Sa_NO, Ea_NO, Sa_YES, Ea_YES, Sa_UNKNOWN, Ea_UNKNOWN, Fa_NO_ordinal, Fa_UNKNOWN_ordinal, Fa_YES_ordinal⟩ := HE
 have p1 : ∀ t, St p e below s₁ (mkF m 1 #[.val (.ref a_NO), .unset] [(.ref a_NO)]) t → S0 t := fun t k => p0 t (by
   show St p e below s₁ (mkF m 0 #[.val (.ref a_NO), .unset] []) t
   refine XS.aloadN X0.here hx rfl (hb hby d2_0) rfl rfl ?_
   exact k)
 obtain ⟨T2, X2, e2, st2⟩ := getS2 X0 hx hZ hown (host := "") (Or.inl (ww hw 6 rfl)) Via.refl e0 (Sa_YES.ext O0.2) (g := (mkF m 1 #[.val (.ref a_NO), .unset] [(.ref a_NO)])) rfl (hb hby d2_1)
 have p3 : ∀ t, St p e below T2 (mkF m 4 #[.val (.ref a_NO), .unset] [(.ref a_YES), (.ref a_NO)]) t → S0 t := fun t k => p1 t (st2 t k)
 have p4 : ∀ t, St p e below T2 (mkF m 15 #[.val (.ref a_NO), .unset] [(.ref a_NO)]) t → S0 t := fun t k => p3 t (by
   show St p e below T2 (mkF m 4 #[.val (.ref a_NO), .unset] [(.ref a_YES), (.ref a_NO)]) t
   refine Jvm.RoadKit.acmp (g := (mkF m 4 #[.val (.ref a_NO), .unset] [(.ref a_YES), (.ref a_NO)])) X2 hx rfl rfl rfl (pc0 := 4) (pc' := 14) (same := false) rfl (hb hby d2_4) rfl (decide_eq_false fun q => (Fld.ne Fa_NO_ordinal Fa_YES_ordinal (fun q => absurd (Value.int.inj q) (by decide))) (Value.ref.inj q)) (by decide) (by decide) ?_
   show St p e below T2 (mkF m 14 #[.val (.ref a_NO), .unset] []) t
   refine XS.aloadN X2.here hx rfl (hb hby d2_14) rfl rfl ?_
   exact k)
 obtain ⟨T5, X5, e5, st5⟩ := getS2 X2 hx hZ hown (host := "") (Or.inl (ww hw 4 rfl)) Via.refl e2 (Sa_NO.ext O0.2) (g := (mkF m 15 #[.val (.ref a_NO), .unset] [(.ref a_NO)])) rfl (hb hby d2_15)
 have p6 : ∀ t, St p e below T5 (mkF m 18 #[.val (.ref a_NO), .unset] [(.ref a_NO), (.ref a_NO)]) t → S0 t := fun t k => p4 t (st5 t k)
 have p7 : ∀ t, St p e below T5 (mkF m 21 #[.val (.ref a_NO), .unset] []) t → S0 t := fun t k => p6 t (by
   show St p e below T5 (mkF m 18 #[.val (.ref a_NO), .unset] [(.ref a_NO), (.ref a_NO)]) t
   refine Jvm.RoadKit.acmp (g := (mkF m 18 #[.val (.ref a_NO), .unset] [(.ref a_NO), (.ref a_NO)])) X5 hx rfl rfl rfl (pc0 := 18) (pc' := 21) (same := true) rfl (hb hby d2_18) rfl (decide_eq_true rfl) (by decide) (by decide) ?_
   exact k)
 obtain ⟨T8, X8, e8, st8⟩ := getS2 X5 hx hZ hown (host := "") (Or.inl (ww hw 6 rfl)) Via.refl e5 (Sa_YES.ext O0.2) (g := (mkF m 21 #[.val (.ref a_NO), .unset] [])) rfl (hb hby d2_21)
 have p9 : ∀ t, St p e below T8 (mkF m 24 #[.val (.ref a_NO), .unset] [(.ref a_YES)]) t → S0 t := fun t k => p7 t (st8 t k)
 have p10 : ∀ t, St p e below T8 (mkF m 33 #[.val (.ref a_NO), .val (.ref a_YES)] [(.ref a_YES)]) t → S0 t := fun t k => p9 t (by
   show St p e below T8 (mkF m 24 #[.val (.ref a_NO), .unset] [(.ref a_YES)]) t
   refine XS.astoreN X8.here hx rfl (hb hby d2_24) rfl rfl (l' := #[.val (.ref a_NO), .val (.ref a_YES)]) rfl ?_
   show St p e below T8 (mkF m 25 #[.val (.ref a_NO), .val (.ref a_YES)] []) t
   refine XS.goto X8.here hx rfl (pc0 := 25) (pc' := 32) rfl (hb hby d2_25) (by decide) (by decide) ?_
   show St p e below T8 (mkF m 32 #[.val (.ref a_NO), .val (.ref a_YES)] []) t
   refine XS.aloadN X8.here hx rfl (hb hby d2_32) rfl rfl ?_
   exact k)
 obtain ⟨fs, hr, hrun, hended, hW, hsame⟩ := X8.leave (v := some (.ref a_YES)) (fun h => by rw [Bd.returns] at h; cases h)
 refine ⟨_, _, p10 _ ?_, hrun, hended, _, _, rfl, ?_, ⟨_, rfl⟩, hW, hsame.mono (by decide) (by decide)⟩
 · exact retOut X8 hx Bd.returns rfl (Or.inr (Or.inr (Or.inr (Or.inr ⟨rfl, rfl, rfl⟩)))) (hb hby d2_33) hr
 · show Q2_2 Z a_NO a_YES a_UNKNOWN h0 n0 _ T8.heap _
   exact ⟨N0, e8, rfl⟩
theorem pd1 : parseMethodDescriptor "()Lcom/example/bouncr/bouncr/analysis/Answer;" = some ⟨[], some (.object "com/example/bouncr/bouncr/analysis/Answer")⟩ := by decide +kernel
theorem d2_7 : decode prog_2_method_4_code 7 = .ok (.getstatic 7, 3) := by decide +kernel
theorem d2_10 : decode prog_2_method_4_code 10 = .ok (.astore_n 1, 1) := by decide +kernel
theorem d2_11 : decode prog_2_method_4_code 11 = .ok (.goto 21, 3) := by decide +kernel
def Q2_3 (Z : State) (a_NO : Addr) (a_YES : Addr) (a_UNKNOWN : Addr) (h0 : Heap) (n0 : Nat) (v : Option Value) (h : Heap) (L : List Loc) : Prop := Fr n0 L ∧ h = h0 ∧ ((v = some (.ref a_NO)))
set_option maxRecDepth 65536 in
set_option maxHeartbeats 40000000 in
theorem rm2_3 (l : Launch) (Z : State) (a0 : Array Value) (hw : ∀ d ∈ tables_1, d.before a0 Z = true) (ws : List Jvm.Cond) (a_NO : Addr) (a_YES : Addr) (a_UNKNOWN : Addr) (h0 : Heap) (n0 : Nat) (O0 : Old Z n0 h0) (HE : Env1 Z a_NO a_YES a_UNKNOWN)  :
    MetFree l M1 (head1 (Jvm.Cond.code M1 prog_2_method_4_code 2 (some (.object "com/example/bouncr/bouncr/analysis/Answer")) :: ws) ({ frames := 0, cells := 0, slots := 0, locals := 0 } : Room)) (fun a U => a = #[(.ref a_YES)] ∧ Z.Warmed39 U.vm ∧ U.heap = h0) (fun _ _ _ _ _ => True) (fun _ U o U' => ∃ v L, o = .returned v ∧ Q2_3 Z a_NO a_YES a_UNKNOWN h0 n0 v U'.heap L ∧ FrameEnd U o U' L ({ frames := 0, cells := 0, slots := 0, locals := 0 } : Room).cells ({ frames := 0, cells := 0, slots := 0, locals := 0 } : Room).slots) := by
 refine MetFree.of_bodySF (plainFor_of_name pn1) hisR ?_
 intro p e s m args below meth c s₁ Bd hml0 hP hK
 obtain ⟨rfl, hZ, hh⟩ := hP
 have hx := Bd.exec
 have hby := Bd.bytes
 have hml : c.maxLocals = 2 := hml0
 have hown : s.vm.findClass "com/example/bouncr/bouncr/analysis/Answer" = some m.cls := findClass_of_methodNamed Bd.named
 have hnm := (name_of_methodNamed Bd.named Bd.method).1
 have X0 : Stand p l e ({ frames := 0, cells := 0, slots := 0, locals := 0 } : Room) s m #[(.ref a_YES)] below meth c s₁ [] 0 0 := Stand.of_body Bd
 have e0 : s₁.heap = h0 := by rw [← hh, Bd.state]; rfl
 have N0 := Fr.nil n0
 let S0 : State → Prop := fun t => Steps p.tables e below (s₁.setTop (entryFrame m #[(.ref a_YES)] 2)) t
 have p0 : ∀ t, St p e below s₁ (mkF m 0 #[.val (.ref a_YES), .unset] []) t → S0 t := fun t k => castTop (ef2 m a_YES) k
 have HE' := HE
 obtain ⟨Sa_NO, Ea_NO, Sa_YES, Ea_YES, Sa_UNKNOWN, Ea_UNKNOWN, Fa_NO_ordinal, Fa_UNKNOWN_ordinal, Fa_YES_ordinal⟩ := HE
 have p1 : ∀ t, St p e below s₁ (mkF m 1 #[.val (.ref a_YES), .unset] [(.ref a_YES)]) t → S0 t := fun t k => p0 t (by
   show St p e below s₁ (mkF m 0 #[.val (.ref a_YES), .unset] []) t
   refine XS.aloadN X0.here hx rfl (hb hby d2_0) rfl rfl ?_
   exact k)
 obtain ⟨T2, X2, e2, st2⟩ := getS2 X0 hx hZ hown (host := "") (Or.inl (ww hw 6 rfl)) Via.refl e0 (Sa_YES.ext O0.2) (g := (mkF m 1 #[.val (.ref a_YES), .unset] [(.ref a_YES)])) rfl (hb hby d2_1)
 have p3 : ∀ t, St p e below T2 (mkF m 4 #[.val (.ref a_YES), .unset] [(.ref a_YES), (.ref a_YES)]) t → S0 t := fun t k => p1 t (st2 t k)
 have p4 : ∀ t, St p e below T2 (mkF m 7 #[.val (.ref a_YES), .unset] []) t → S0 t := fun t k => p3 t (by
   show St p e below T2 (mkF m 4 #[.val (.ref a_YES), .unset] [(.ref a_YES), (.ref a_YES)]) t
   refine Jvm.RoadKit.acmp (g := (mkF m 4 #[.val (.ref a_YES), .unset] [(.ref a_YES), (.ref a_YES)])) X2 hx rfl rfl rfl (pc0 := 4) (pc' := 7) (same := true) rfl (hb hby d2_4) rfl (decide_eq_true rfl) (by decide) (by decide) ?_
   exact k)
 obtain ⟨T5, X5, e5, st5⟩ := getS2 X2 hx hZ hown (host := "") (Or.inl (ww hw 4 rfl)) Via.refl e2 (Sa_NO.ext O0.2) (g := (mkF m 7 #[.val (.ref a_YES), .unset] [])) rfl (hb hby d2_7)
 have p6 : ∀ t, St p e below T5 (mkF m 10 #[.val (.ref a_YES), .unset] [(.ref a_NO)]) t → S0 t := fun t k => p4 t (st5 t k)
 have p7 : ∀ t, St p e below T5 (mkF m 33 #[.val (.ref a_YES), .val (.ref a_NO)] [(.ref a_NO)]) t → S0 t := fun t k => p6 t (by
   show St p e below T5 (mkF m 10 #[.val (.ref a_YES), .unset] [(.ref a_NO)]) t
   refine XS.astoreN X5.here hx rfl (hb hby d2_10) rfl rfl (l' := #[.val (.ref a_YES), .val (.ref a_NO)]) rfl ?_
   show St p e below T5 (mkF m 11 #[.val (.ref a_YES), .val (.ref a_NO)] []) t
   refine XS.goto X5.here hx rfl (pc0 := 11) (pc' := 32) rfl (hb hby d2_11) (by decide) (by decide) ?_
   show St p e below T5 (mkF m 32 #[.val (.ref a_YES), .val (.ref a_NO)] []) t
   refine XS.aloadN X5.here hx rfl (hb hby d2_32) rfl rfl ?_
   exact k)
 obtain ⟨fs, hr, hrun, hended, hW, hsame⟩ := X5.leave (v := some (.ref a_NO)) (fun h => by rw [Bd.returns] at h; cases h)
 refine ⟨_, _, p7 _ ?_, hrun, hended, _, _, rfl, ?_, ⟨_, rfl⟩, hW, hsame.mono (by decide) (by decide)⟩
 · exact retOut X5 hx Bd.returns rfl (Or.inr (Or.inr (Or.inr (Or.inr ⟨rfl, rfl, rfl⟩)))) (hb hby d2_33) hr
 · show Q2_3 Z a_NO a_YES a_UNKNOWN h0 n0 _ T5.heap _
   exact ⟨N0, e5, rfl⟩
def Q0 (Z : State) (a_NO : Addr) (a_YES : Addr) (a_UNKNOWN : Addr) (i0 : Int32) (h0 : Heap) (n0 : Nat) (v : Option Value) (h : Heap) (L : List Loc) : Prop := v = some (.int 1) ∧ Fr n0 L
set_option maxRecDepth 65536 in
set_option maxHeartbeats 40000000 in
theorem rm0 (l : Launch) (Z : State) (a0 : Array Value) (hw : ∀ d ∈ tables_1, d.before a0 Z = true) (ws : List Jvm.Cond) (a_NO : Addr) (a_YES : Addr) (a_UNKNOWN : Addr) (i0 : Int32) (h0 : Heap) (n0 : Nat) (O0 : Old Z n0 h0) (HE : Env1 Z a_NO a_YES a_UNKNOWN)  :
    MetFree l x (head1 (Jvm.Cond.code x code maxLocals ret :: ws) room_1) (fun a U => a = #[(.int i0)] ∧ Z.Warmed39 U.vm ∧ U.heap = h0) (fun _ _ _ _ _ => True) (fun _ U o U' => ∃ v L, o = .returned v ∧ Q0 Z a_NO a_YES a_UNKNOWN i0 h0 n0 v U'.heap L ∧ FrameEnd U o U' L 0 0) := by
 refine MetFree.of_bodySF (plainFor_of_name pn0) hisR ?_
 intro p e s m args below meth c s₁ Bd hml0 hP hK
 obtain ⟨rfl, hZ, hh⟩ := hP
 have hx := Bd.exec
 have hby := Bd.bytes
 have hml : c.maxLocals = 8 := hml0
 have hown : s.vm.findClass "com/example/bouncr/bouncr/analysis/AnswerOfPinLaw" = some m.cls := findClass_of_methodNamed Bd.named
 have hnm := (name_of_methodNamed Bd.named Bd.method).1
 have X0 : Stand p l e room_1 s m #[(.int i0)] below meth c s₁ [] 0 0 := Stand.of_body Bd
 have e0 : s₁.heap = h0 := by rw [← hh, Bd.state]; rfl
 have N0 := Fr.nil n0
 let S0 : State → Prop := fun t => Steps p.tables e below (s₁.setTop (entryFrame m #[(.int i0)] maxLocals)) t
 let Ls1 : Array Slot := #[.val (.int i0), .unset, .unset, .unset, .unset, .unset, .unset, .unset]
 have p0 : ∀ t, St p e below s₁ (mkF m 0 Ls1 []) t → S0 t := fun t k => castTop (ef0 m i0) k
 have HE' := HE
 obtain ⟨Sa_NO, Ea_NO, Sa_YES, Ea_YES, Sa_UNKNOWN, Ea_UNKNOWN, Fa_NO_ordinal, Fa_UNKNOWN_ordinal, Fa_YES_ordinal⟩ := HE
 have p2 : ∀ t, St p e below s₁ (mkF m 3 Ls1 [(.int (i0 &&& (1 : Int32)))]) t → S0 t := fun t k => p0 t (by
   show St p e below s₁ (mkF m 0 Ls1 []) t
   refine XS.iloadN X0.here hx rfl (hb hby at_0) rfl ?_
   show St p e below s₁ (mkF m 1 Ls1 [(.int i0)]) t
   refine XT.iconstV X0.here hx rfl (1 : Int32) (hb hby at_1) (by decide) ?_
   show St p e below s₁ (mkF m 2 Ls1 [(.int (1 : Int32)), (.int i0)]) t
   refine XS.iand X0.here hx rfl (hb hby at_2) rfl ?_
   exact k)
 by_cases g3 : (i0 &&& (1 : Int32)) = (0 : Int32)
 ·
  let Ls4 : Array Slot := #[.val (.int i0), .val (.int (0 : Int32)), .unset, .unset, .unset, .unset, .unset, .unset]
  have p5 : ∀ t, St p e below s₁ (mkF m 13 Ls4 [(.int (0 : Int32))]) t → S0 t := fun t k => p2 t (by
    show St p e below s₁ (mkF m 3 Ls1 [(.int (i0 &&& (1 : Int32)))]) t
    refine XS.ifYes X0.here hx rfl (pc0 := 3) (pc' := 10) rfl (hb hby at_3) rfl ((if0 _ _).trans (teq g3).1) (by decide) (by decide) ?_
    show St p e below s₁ (mkF m 10 Ls1 []) t
    refine XT.iconstV X0.here hx rfl (0 : Int32) (hb hby at_10) (by decide) ?_
    show St p e below s₁ (mkF m 11 Ls1 [(.int (0 : Int32))]) t
    refine XS.istoreN X0.here hx rfl (hb hby at_11) rfl (l' := Ls4) rfl ?_
    show St p e below s₁ (mkF m 12 Ls4 []) t
    refine XS.iloadN X0.here hx rfl (hb hby at_12) rfl ?_
    exact k)
  obtain ⟨_, _, ⟨Tc6, Lc6, kc6, nc6⟩, -, Xc6, ⟨Lcc6, hQc6, lc6, yc6, zc6⟩, stc6⟩ := Jvm.LawKit.callS X0 hx (y := M0) hown (mvT hZ (ww hw 0 rfl)) (mvT hZ (ww hw 1 rfl)) (mvT hZ (ww hw 2 rfl)) (mvT hZ (ww hw 3 rfl)) (by decide) (backOf (W := 0) (rm1_0 l Z a0 hw [] a_NO a_YES a_UNKNOWN h0 n0 O0 HE' ) hZ (ww hw 3 rfl) (ww hw 2 rfl) (by decide) (by decide)) (g := (mkF m 13 Ls4 [(.int (0 : Int32))])) rfl (by rw [hml]; rfl) (argsL := [(.int (0 : Int32))]) (rest := []) (lenOf pd0 rfl) rfl (by show 2 * 0 + _ ≤ _; exact Nat.le_of_eq rfl) (hb hby at_13) (fun _ _ => ⟨rfl, e0, (by decide : 0 + 0 ≤ _), (by decide : 0 + 0 ≤ _)⟩)
  dsimp only [Pt.U, Pt.locs, Pt.cells, Pt.slots] at Xc6 lc6 yc6 zc6 stc6 hQc6
  subst lc6 yc6 zc6
  obtain ⟨Nqc6, ec6, hAc6⟩ := hQc6
  have Nc6 := Fr.app N0 Nqc6
  obtain rfl := hAc6
  have p7 : ∀ t, St p e below Tc6 (mkF m 16 Ls4 [(.ref a_NO)]) t → S0 t := fun t k => p5 t (stc6 t k)
  let Ls8 : Array Slot := #[.val (.int i0), .val (.int (0 : Int32)), .val (.ref a_NO), .unset, .unset, .unset, .unset, .unset]
  have p9 : ∀ t, St p e below Tc6 (mkF m 26 Ls8 [(.int (1 : Int32))]) t → S0 t := fun t k => p7 t (by
    show St p e below Tc6 (mkF m 16 Ls4 [(.ref a_NO)]) t
    refine XS.astoreN Xc6.here hx rfl (hb hby at_16) rfl rfl (l' := Ls8) rfl ?_
    show St p e below Tc6 (mkF m 17 Ls8 []) t
    refine XS.iloadN Xc6.here hx rfl (hb hby at_17) rfl ?_
    show St p e below Tc6 (mkF m 18 Ls8 [(.int (0 : Int32))]) t
    refine XS.ifNo Xc6.here hx rfl (hb hby at_18) rfl ((if0 _ _).trans (teq (by decide : (0 : Int32) = (0 : Int32))).2) ?_
    show St p e below Tc6 (mkF m 21 Ls8 []) t
    refine XT.iconstV Xc6.here hx rfl (1 : Int32) (hb hby at_21) (by decide) ?_
    show St p e below Tc6 (mkF m 22 Ls8 [(.int (1 : Int32))]) t
    refine XS.goto Xc6.here hx rfl (pc0 := 22) (pc' := 26) rfl (hb hby at_22) (by decide) (by decide) ?_
    exact k)
  obtain ⟨_, _, ⟨Tc10, Lc10, kc10, nc10⟩, -, Xc10, ⟨Lcc10, hQc10, lc10, yc10, zc10⟩, stc10⟩ := Jvm.LawKit.callS Xc6 hx (y := M0) hown (mvT hZ (ww hw 0 rfl)) (mvT hZ (ww hw 1 rfl)) (mvT hZ (ww hw 2 rfl)) (mvT hZ (ww hw 3 rfl)) (by decide) (backOf (W := 0) (rm1_1 l Z a0 hw [] a_NO a_YES a_UNKNOWN h0 n0 O0 HE' ) hZ (ww hw 3 rfl) (ww hw 2 rfl) (by decide) (by decide)) (g := (mkF m 26 Ls8 [(.int (1 : Int32))])) rfl (by rw [hml]; rfl) (argsL := [(.int (1 : Int32))]) (rest := []) (lenOf pd0 rfl) rfl (by show 2 * 0 + _ ≤ _; exact Nat.le_of_eq rfl) (hb hby at_26) (fun _ _ => ⟨rfl, ec6, (by decide : 0 + 0 ≤ _), (by decide : 0 + 0 ≤ _)⟩)
  dsimp only [Pt.U, Pt.locs, Pt.cells, Pt.slots] at Xc10 lc10 yc10 zc10 stc10 hQc10
  subst lc10 yc10 zc10
  obtain ⟨Nqc10, ec10, hAc10⟩ := hQc10
  have Nc10 := Fr.app Nc6 Nqc10
  obtain rfl := hAc10
  have p11 : ∀ t, St p e below Tc10 (mkF m 29 Ls8 [(.ref a_YES)]) t → S0 t := fun t k => p9 t (stc10 t k)
  let Ls12 : Array Slot := #[.val (.int i0), .val (.int (0 : Int32)), .val (.ref a_NO), .val (.ref a_YES), .unset, .unset, .unset, .unset]
  have p13 : ∀ t, St p e below Tc10 (mkF m 31 Ls12 [(.ref a_NO)]) t → S0 t := fun t k => p11 t (by
    show St p e below Tc10 (mkF m 29 Ls8 [(.ref a_YES)]) t
    refine XS.astoreN Xc10.here hx rfl (hb hby at_29) rfl rfl (l' := Ls12) rfl ?_
    show St p e below Tc10 (mkF m 30 Ls12 []) t
    refine XS.aloadN Xc10.here hx rfl (hb hby at_30) rfl rfl ?_
    exact k)
  obtain ⟨T14, X14, e14, st14⟩ := getS2 Xc10 hx hZ hown (host := "") (Or.inl (ww hw 8 rfl)) Via.refl ec10 (Sa_UNKNOWN.ext O0.2) (g := (mkF m 31 Ls12 [(.ref a_NO)])) rfl (hb hby at_31)
  have p15 : ∀ t, St p e below T14 (mkF m 34 Ls12 [(.ref a_UNKNOWN), (.ref a_NO)]) t → S0 t := fun t k => p13 t (st14 t k)
  have p16 : ∀ t, St p e below T14 (mkF m 38 Ls12 [(.ref a_YES)]) t → S0 t := fun t k => p15 t (by
    show St p e below T14 (mkF m 34 Ls12 [(.ref a_UNKNOWN), (.ref a_NO)]) t
    refine Jvm.RoadKit.acmp (g := (mkF m 34 Ls12 [(.ref a_UNKNOWN), (.ref a_NO)])) X14 hx rfl rfl rfl (pc0 := 34) (pc' := 37) (same := false) rfl (hb hby at_34) rfl (decide_eq_false fun q => (Fld.ne Fa_NO_ordinal Fa_UNKNOWN_ordinal (fun q => absurd (Value.int.inj q) (by decide))) (Value.ref.inj q)) (by decide) (by decide) ?_
    show St p e below T14 (mkF m 37 Ls12 []) t
    refine XS.aloadN X14.here hx rfl (hb hby at_37) rfl rfl ?_
    exact k)
  obtain ⟨T17, X17, e17, st17⟩ := getS2 X14 hx hZ hown (host := "") (Or.inl (ww hw 8 rfl)) Via.refl e14 (Sa_UNKNOWN.ext O0.2) (g := (mkF m 38 Ls12 [(.ref a_YES)])) rfl (hb hby at_38)
  have p18 : ∀ t, St p e below T17 (mkF m 41 Ls12 [(.ref a_UNKNOWN), (.ref a_YES)]) t → S0 t := fun t k => p16 t (st17 t k)
  let Ls19 : Array Slot := #[.val (.int i0), .val (.int (0 : Int32)), .val (.ref a_NO), .val (.ref a_YES), .val (.int (1 : Int32)), .unset, .unset, .unset]
  have p20 : ∀ t, St p e below T17 (mkF m 52 Ls19 [(.ref a_NO)]) t → S0 t := fun t k => p18 t (by
    show St p e below T17 (mkF m 41 Ls12 [(.ref a_UNKNOWN), (.ref a_YES)]) t
    refine Jvm.RoadKit.acmp (g := (mkF m 41 Ls12 [(.ref a_UNKNOWN), (.ref a_YES)])) X17 hx rfl rfl rfl (pc0 := 41) (pc' := 44) (same := false) rfl (hb hby at_41) rfl (decide_eq_false fun q => (Fld.ne Fa_YES_ordinal Fa_UNKNOWN_ordinal (fun q => absurd (Value.int.inj q) (by decide))) (Value.ref.inj q)) (by decide) (by decide) ?_
    show St p e below T17 (mkF m 44 Ls12 []) t
    refine XT.iconstV X17.here hx rfl (1 : Int32) (hb hby at_44) (by decide) ?_
    show St p e below T17 (mkF m 45 Ls12 [(.int (1 : Int32))]) t
    refine XS.goto X17.here hx rfl (pc0 := 45) (pc' := 49) rfl (hb hby at_45) (by decide) (by decide) ?_
    show St p e below T17 (mkF m 49 Ls12 [(.int (1 : Int32))]) t
    refine XS.istore X17.here hx rfl (hb hby at_49) rfl (l' := Ls19) rfl ?_
    show St p e below T17 (mkF m 51 Ls19 []) t
    refine XS.aloadN X17.here hx rfl (hb hby at_51) rfl rfl ?_
    exact k)
  obtain ⟨T21, X21, e21, st21⟩ := getS2 X17 hx hZ hown (host := "") (Or.inl (ww hw 10 rfl)) Via.refl e17 (Sa_YES.ext O0.2) (g := (mkF m 52 Ls19 [(.ref a_NO)])) rfl (hb hby at_52)
  have p22 : ∀ t, St p e below T21 (mkF m 55 Ls19 [(.ref a_YES), (.ref a_NO)]) t → S0 t := fun t k => p20 t (st21 t k)
  let Ls23 : Array Slot := #[.val (.int i0), .val (.int (0 : Int32)), .val (.ref a_NO), .val (.ref a_YES), .val (.int (1 : Int32)), .val (.int (1 : Int32)), .unset, .unset]
  have p24 : ∀ t, St p e below T21 (mkF m 75 Ls23 [(.ref a_NO)]) t → S0 t := fun t k => p22 t (by
    show St p e below T21 (mkF m 55 Ls19 [(.ref a_YES), (.ref a_NO)]) t
    refine Jvm.RoadKit.acmp (g := (mkF m 55 Ls19 [(.ref a_YES), (.ref a_NO)])) X21 hx rfl rfl rfl (pc0 := 55) (pc' := 62) (same := false) rfl (hb hby at_55) rfl (decide_eq_false fun q => (Fld.ne Fa_NO_ordinal Fa_YES_ordinal (fun q => absurd (Value.int.inj q) (by decide))) (Value.ref.inj q)) (by decide) (by decide) ?_
    show St p e below T21 (mkF m 62 Ls19 []) t
    refine XT.iconstV X21.here hx rfl (0 : Int32) (hb hby at_62) (by decide) ?_
    show St p e below T21 (mkF m 63 Ls19 [(.int (0 : Int32))]) t
    refine XS.iloadN X21.here hx rfl (hb hby at_63) rfl ?_
    show St p e below T21 (mkF m 64 Ls19 [(.int (0 : Int32)), (.int (0 : Int32))]) t
    refine XS.icmpNo X21.here hx rfl (hb hby at_64) rfl (teq (by decide : (0 : Int32) = (0 : Int32))).2 ?_
    show St p e below T21 (mkF m 67 Ls19 []) t
    refine XT.iconstV X21.here hx rfl (1 : Int32) (hb hby at_67) (by decide) ?_
    show St p e below T21 (mkF m 68 Ls19 [(.int (1 : Int32))]) t
    refine XS.goto X21.here hx rfl (pc0 := 68) (pc' := 72) rfl (hb hby at_68) (by decide) (by decide) ?_
    show St p e below T21 (mkF m 72 Ls19 [(.int (1 : Int32))]) t
    refine XS.istore X21.here hx rfl (hb hby at_72) rfl (l' := Ls23) rfl ?_
    show St p e below T21 (mkF m 74 Ls23 []) t
    refine XS.aloadN X21.here hx rfl (hb hby at_74) rfl rfl ?_
    exact k)
  obtain ⟨T25, X25, e25, st25⟩ := getS2 X21 hx hZ hown (host := "") (Or.inl (ww hw 11 rfl)) Via.refl e21 (Sa_NO.ext O0.2) (g := (mkF m 75 Ls23 [(.ref a_NO)])) rfl (hb hby at_75)
  have p26 : ∀ t, St p e below T25 (mkF m 78 Ls23 [(.ref a_NO), (.ref a_NO)]) t → S0 t := fun t k => p24 t (st25 t k)
  let Ls27 : Array Slot := #[.val (.int i0), .val (.int (0 : Int32)), .val (.ref a_NO), .val (.ref a_YES), .val (.int (1 : Int32)), .val (.int (1 : Int32)), .val (.int (1 : Int32)), .unset]
  have p28 : ∀ t, St p e below T25 (mkF m 106 Ls27 [(.ref a_NO)]) t → S0 t := fun t k => p26 t (by
    show St p e below T25 (mkF m 78 Ls23 [(.ref a_NO), (.ref a_NO)]) t
    refine Jvm.RoadKit.acmp (g := (mkF m 78 Ls23 [(.ref a_NO), (.ref a_NO)])) X25 hx rfl rfl rfl (pc0 := 78) (pc' := 81) (same := true) rfl (hb hby at_78) rfl (decide_eq_true rfl) (by decide) (by decide) ?_
    show St p e below T25 (mkF m 81 Ls23 []) t
    refine XT.iconstV X25.here hx rfl (1 : Int32) (hb hby at_81) (by decide) ?_
    show St p e below T25 (mkF m 82 Ls23 [(.int (1 : Int32))]) t
    refine XS.goto X25.here hx rfl (pc0 := 82) (pc' := 86) rfl (hb hby at_82) (by decide) (by decide) ?_
    show St p e below T25 (mkF m 86 Ls23 [(.int (1 : Int32))]) t
    refine XS.iloadN X25.here hx rfl (hb hby at_86) rfl ?_
    show St p e below T25 (mkF m 87 Ls23 [(.int (0 : Int32)), (.int (1 : Int32))]) t
    refine XS.ifNo X25.here hx rfl (hb hby at_87) rfl ((if0 _ _).trans (teq (by decide : (0 : Int32) = (0 : Int32))).2) ?_
    show St p e below T25 (mkF m 90 Ls23 [(.int (1 : Int32))]) t
    refine XT.iconstV X25.here hx rfl (1 : Int32) (hb hby at_90) (by decide) ?_
    show St p e below T25 (mkF m 91 Ls23 [(.int (1 : Int32)), (.int (1 : Int32))]) t
    refine XS.goto X25.here hx rfl (pc0 := 91) (pc' := 95) rfl (hb hby at_91) (by decide) (by decide) ?_
    show St p e below T25 (mkF m 95 Ls23 [(.int (1 : Int32)), (.int (1 : Int32))]) t
    refine XS.icmpNo X25.here hx rfl (hb hby at_95) rfl (teq (by decide : (1 : Int32) = (1 : Int32))).2 ?_
    show St p e below T25 (mkF m 98 Ls23 []) t
    refine XT.iconstV X25.here hx rfl (1 : Int32) (hb hby at_98) (by decide) ?_
    show St p e below T25 (mkF m 99 Ls23 [(.int (1 : Int32))]) t
    refine XS.goto X25.here hx rfl (pc0 := 99) (pc' := 103) rfl (hb hby at_99) (by decide) (by decide) ?_
    show St p e below T25 (mkF m 103 Ls23 [(.int (1 : Int32))]) t
    refine XS.istore X25.here hx rfl (hb hby at_103) rfl (l' := Ls27) rfl ?_
    show St p e below T25 (mkF m 105 Ls27 []) t
    refine XS.aloadN X25.here hx rfl (hb hby at_105) rfl rfl ?_
    exact k)
  obtain ⟨cqc29, kqc29, qc29a, qc29b, qc29c⟩ := isOf hZ e25 (Ea_NO.ext O0.2)
  obtain ⟨_, _, ⟨Tc29, Lc29, kc29, nc29⟩, -, Xc29, ⟨Lcc29, hQc29, lc29, yc29, zc29⟩, stc29⟩ := X25.virtualBack hx (y := M1) (z := M1) hown (mvT hZ (ww hw 12 rfl)) (mvT hZ (ww hw 13 rfl)) (notFace_of_selects (args := #[]) (mvT hZ (ww hw 15 rfl))) (mvT hZ (ww hw 15 rfl)) (mvT hZ (ww hw 14 rfl)) (by decide) (backOf (W := 0) (rm2_2 l Z a0 hw [] a_NO a_YES a_UNKNOWN h0 n0 O0 HE' ) hZ (ww hw 16 rfl) (ww hw 2 rfl) (by decide) (by decide)) qc29a qc29c (g := (mkF m 106 Ls27 [(.ref a_NO)])) rfl (by rw [hml]; rfl) (Steps.refl _) (argsL := []) (rest := []) (lenOf pd1 rfl) rfl (by show 2 * 0 + _ ≤ _; exact Nat.le_of_eq rfl) (hb hby at_106) (fun _ _ => ⟨rfl, e25, (by decide : 0 + 0 ≤ _), (by decide : 0 + 0 ≤ _)⟩)
  dsimp only [Pt.U, Pt.locs, Pt.cells, Pt.slots] at Xc29 lc29 yc29 zc29 stc29 hQc29
  subst lc29 yc29 zc29
  obtain ⟨Nqc29, ec29, hAc29⟩ := hQc29
  have Nc29 := Fr.app Nc10 Nqc29
  obtain rfl := hAc29
  have p30 : ∀ t, St p e below Tc29 (mkF m 109 Ls27 [(.ref a_YES)]) t → S0 t := fun t k => p28 t (stc29.trans k)
  let Ls31 : Array Slot := #[.val (.int i0), .val (.int (0 : Int32)), .val (.ref a_NO), .val (.ref a_YES), .val (.int (1 : Int32)), .val (.int (1 : Int32)), .val (.int (1 : Int32)), .val (.int (1 : Int32))]
  have p32 : ∀ t, St p e below Tc29 (mkF m 145 Ls31 [(.int (1 : Int32))]) t → S0 t := fun t k => p30 t (by
    show St p e below Tc29 (mkF m 109 Ls27 [(.ref a_YES)]) t
    refine XS.aloadN Xc29.here hx rfl (hb hby at_109) rfl rfl ?_
    show St p e below Tc29 (mkF m 110 Ls27 [(.ref a_YES), (.ref a_YES)]) t
    refine Jvm.RoadKit.acmp (g := (mkF m 110 Ls27 [(.ref a_YES), (.ref a_YES)])) Xc29 hx rfl rfl rfl (pc0 := 110) (pc' := 113) (same := true) rfl (hb hby at_110) rfl (decide_eq_true rfl) (by decide) (by decide) ?_
    show St p e below Tc29 (mkF m 113 Ls27 []) t
    refine XT.iconstV Xc29.here hx rfl (1 : Int32) (hb hby at_113) (by decide) ?_
    show St p e below Tc29 (mkF m 114 Ls27 [(.int (1 : Int32))]) t
    refine XS.goto Xc29.here hx rfl (pc0 := 114) (pc' := 118) rfl (hb hby at_114) (by decide) (by decide) ?_
    show St p e below Tc29 (mkF m 118 Ls27 [(.int (1 : Int32))]) t
    refine XS.istore Xc29.here hx rfl (hb hby at_118) rfl (l' := Ls31) rfl ?_
    show St p e below Tc29 (mkF m 120 Ls31 []) t
    refine XS.iload Xc29.here hx rfl (hb hby at_120) rfl ?_
    show St p e below Tc29 (mkF m 122 Ls31 [(.int (1 : Int32))]) t
    refine XS.ifNo Xc29.here hx rfl (hb hby at_122) rfl ((if0 _ _).trans (feq (by decide : ¬ ((1 : Int32) = (0 : Int32)))).1) ?_
    show St p e below Tc29 (mkF m 125 Ls31 []) t
    refine XS.iload Xc29.here hx rfl (hb hby at_125) rfl ?_
    show St p e below Tc29 (mkF m 127 Ls31 [(.int (1 : Int32))]) t
    refine XS.ifNo Xc29.here hx rfl (hb hby at_127) rfl ((if0 _ _).trans (feq (by decide : ¬ ((1 : Int32) = (0 : Int32)))).1) ?_
    show St p e below Tc29 (mkF m 130 Ls31 []) t
    refine XS.iload Xc29.here hx rfl (hb hby at_130) rfl ?_
    show St p e below Tc29 (mkF m 132 Ls31 [(.int (1 : Int32))]) t
    refine XS.ifNo Xc29.here hx rfl (hb hby at_132) rfl ((if0 _ _).trans (feq (by decide : ¬ ((1 : Int32) = (0 : Int32)))).1) ?_
    show St p e below Tc29 (mkF m 135 Ls31 []) t
    refine XS.iload Xc29.here hx rfl (hb hby at_135) rfl ?_
    show St p e below Tc29 (mkF m 137 Ls31 [(.int (1 : Int32))]) t
    refine XS.ifNo Xc29.here hx rfl (hb hby at_137) rfl ((if0 _ _).trans (feq (by decide : ¬ ((1 : Int32) = (0 : Int32)))).1) ?_
    show St p e below Tc29 (mkF m 140 Ls31 []) t
    refine XT.iconstV Xc29.here hx rfl (1 : Int32) (hb hby at_140) (by decide) ?_
    show St p e below Tc29 (mkF m 141 Ls31 [(.int (1 : Int32))]) t
    refine XS.goto Xc29.here hx rfl (pc0 := 141) (pc' := 145) rfl (hb hby at_141) (by decide) (by decide) ?_
    exact k)
  obtain ⟨fs, hr, hrun, hended, hW, hsame⟩ := Xc29.leave (v := some (.int (1 : Int32))) (fun h => by rw [Bd.returns] at h; cases h)
  refine ⟨_, _, p32 _ ?_, hrun, hended, _, _, rfl, ?_, ⟨_, rfl⟩, hW, hsame.mono (by decide) (by decide)⟩
  · exact retOut Xc29 hx Bd.returns rfl (Or.inl ⟨rfl, by simp, _, rfl⟩) (hb hby at_145) hr
  · exact ⟨rfl, Nc29⟩
 ·
  let Ls33 : Array Slot := #[.val (.int i0), .val (.int (1 : Int32)), .unset, .unset, .unset, .unset, .unset, .unset]
  have p34 : ∀ t, St p e below s₁ (mkF m 13 Ls33 [(.int (1 : Int32))]) t → S0 t := fun t k => p2 t (by
    show St p e below s₁ (mkF m 3 Ls1 [(.int (i0 &&& (1 : Int32)))]) t
    refine XS.ifNo X0.here hx rfl (hb hby at_3) rfl ((if0 _ _).trans (feq g3).1) ?_
    show St p e below s₁ (mkF m 6 Ls1 []) t
    refine XT.iconstV X0.here hx rfl (1 : Int32) (hb hby at_6) (by decide) ?_
    show St p e below s₁ (mkF m 7 Ls1 [(.int (1 : Int32))]) t
    refine XS.goto X0.here hx rfl (pc0 := 7) (pc' := 11) rfl (hb hby at_7) (by decide) (by decide) ?_
    show St p e below s₁ (mkF m 11 Ls1 [(.int (1 : Int32))]) t
    refine XS.istoreN X0.here hx rfl (hb hby at_11) rfl (l' := Ls33) rfl ?_
    show St p e below s₁ (mkF m 12 Ls33 []) t
    refine XS.iloadN X0.here hx rfl (hb hby at_12) rfl ?_
    exact k)
  obtain ⟨_, _, ⟨Tc35, Lc35, kc35, nc35⟩, -, Xc35, ⟨Lcc35, hQc35, lc35, yc35, zc35⟩, stc35⟩ := Jvm.LawKit.callS X0 hx (y := M0) hown (mvT hZ (ww hw 0 rfl)) (mvT hZ (ww hw 1 rfl)) (mvT hZ (ww hw 2 rfl)) (mvT hZ (ww hw 3 rfl)) (by decide) (backOf (W := 0) (rm1_1 l Z a0 hw [] a_NO a_YES a_UNKNOWN h0 n0 O0 HE' ) hZ (ww hw 3 rfl) (ww hw 2 rfl) (by decide) (by decide)) (g := (mkF m 13 Ls33 [(.int (1 : Int32))])) rfl (by rw [hml]; rfl) (argsL := [(.int (1 : Int32))]) (rest := []) (lenOf pd0 rfl) rfl (by show 2 * 0 + _ ≤ _; exact Nat.le_of_eq rfl) (hb hby at_13) (fun _ _ => ⟨rfl, e0, (by decide : 0 + 0 ≤ _), (by decide : 0 + 0 ≤ _)⟩)
  dsimp only [Pt.U, Pt.locs, Pt.cells, Pt.slots] at Xc35 lc35 yc35 zc35 stc35 hQc35
  subst lc35 yc35 zc35
  obtain ⟨Nqc35, ec35, hAc35⟩ := hQc35
  have Nc35 := Fr.app N0 Nqc35
  obtain rfl := hAc35
  have p36 : ∀ t, St p e below Tc35 (mkF m 16 Ls33 [(.ref a_YES)]) t → S0 t := fun t k => p34 t (stc35 t k)
  let Ls37 : Array Slot := #[.val (.int i0), .val (.int (1 : Int32)), .val (.ref a_YES), .unset, .unset, .unset, .unset, .unset]
  have p38 : ∀ t, St p e below Tc35 (mkF m 26 Ls37 [(.int (0 : Int32))]) t → S0 t := fun t k => p36 t (by
    show St p e below Tc35 (mkF m 16 Ls33 [(.ref a_YES)]) t
    refine XS.astoreN Xc35.here hx rfl (hb hby at_16) rfl rfl (l' := Ls37) rfl ?_
    show St p e below Tc35 (mkF m 17 Ls37 []) t
    refine XS.iloadN Xc35.here hx rfl (hb hby at_17) rfl ?_
    show St p e below Tc35 (mkF m 18 Ls37 [(.int (1 : Int32))]) t
    refine XS.ifYes Xc35.here hx rfl (pc0 := 18) (pc' := 25) rfl (hb hby at_18) rfl ((if0 _ _).trans (feq (by decide : ¬ ((1 : Int32) = (0 : Int32)))).2) (by decide) (by decide) ?_
    show St p e below Tc35 (mkF m 25 Ls37 []) t
    refine XT.iconstV Xc35.here hx rfl (0 : Int32) (hb hby at_25) (by decide) ?_
    exact k)
  obtain ⟨_, _, ⟨Tc39, Lc39, kc39, nc39⟩, -, Xc39, ⟨Lcc39, hQc39, lc39, yc39, zc39⟩, stc39⟩ := Jvm.LawKit.callS Xc35 hx (y := M0) hown (mvT hZ (ww hw 0 rfl)) (mvT hZ (ww hw 1 rfl)) (mvT hZ (ww hw 2 rfl)) (mvT hZ (ww hw 3 rfl)) (by decide) (backOf (W := 0) (rm1_0 l Z a0 hw [] a_NO a_YES a_UNKNOWN h0 n0 O0 HE' ) hZ (ww hw 3 rfl) (ww hw 2 rfl) (by decide) (by decide)) (g := (mkF m 26 Ls37 [(.int (0 : Int32))])) rfl (by rw [hml]; rfl) (argsL := [(.int (0 : Int32))]) (rest := []) (lenOf pd0 rfl) rfl (by show 2 * 0 + _ ≤ _; exact Nat.le_of_eq rfl) (hb hby at_26) (fun _ _ => ⟨rfl, ec35, (by decide : 0 + 0 ≤ _), (by decide : 0 + 0 ≤ _)⟩)
  dsimp only [Pt.U, Pt.locs, Pt.cells, Pt.slots] at Xc39 lc39 yc39 zc39 stc39 hQc39
  subst lc39 yc39 zc39
  obtain ⟨Nqc39, ec39, hAc39⟩ := hQc39
  have Nc39 := Fr.app Nc35 Nqc39
  obtain rfl := hAc39
  have p40 : ∀ t, St p e below Tc39 (mkF m 29 Ls37 [(.ref a_NO)]) t → S0 t := fun t k => p38 t (stc39 t k)
  let Ls41 : Array Slot := #[.val (.int i0), .val (.int (1 : Int32)), .val (.ref a_YES), .val (.ref a_NO), .unset, .unset, .unset, .unset]
  have p42 : ∀ t, St p e below Tc39 (mkF m 31 Ls41 [(.ref a_YES)]) t → S0 t := fun t k => p40 t (by
    show St p e below Tc39 (mkF m 29 Ls37 [(.ref a_NO)]) t
    refine XS.astoreN Xc39.here hx rfl (hb hby at_29) rfl rfl (l' := Ls41) rfl ?_
    show St p e below Tc39 (mkF m 30 Ls41 []) t
    refine XS.aloadN Xc39.here hx rfl (hb hby at_30) rfl rfl ?_
    exact k)
  obtain ⟨T43, X43, e43, st43⟩ := getS2 Xc39 hx hZ hown (host := "") (Or.inl (ww hw 8 rfl)) Via.refl ec39 (Sa_UNKNOWN.ext O0.2) (g := (mkF m 31 Ls41 [(.ref a_YES)])) rfl (hb hby at_31)
  have p44 : ∀ t, St p e below T43 (mkF m 34 Ls41 [(.ref a_UNKNOWN), (.ref a_YES)]) t → S0 t := fun t k => p42 t (st43 t k)
  have p45 : ∀ t, St p e below T43 (mkF m 38 Ls41 [(.ref a_NO)]) t → S0 t := fun t k => p44 t (by
    show St p e below T43 (mkF m 34 Ls41 [(.ref a_UNKNOWN), (.ref a_YES)]) t
    refine Jvm.RoadKit.acmp (g := (mkF m 34 Ls41 [(.ref a_UNKNOWN), (.ref a_YES)])) X43 hx rfl rfl rfl (pc0 := 34) (pc' := 37) (same := false) rfl (hb hby at_34) rfl (decide_eq_false fun q => (Fld.ne Fa_YES_ordinal Fa_UNKNOWN_ordinal (fun q => absurd (Value.int.inj q) (by decide))) (Value.ref.inj q)) (by decide) (by decide) ?_
    show St p e below T43 (mkF m 37 Ls41 []) t
    refine XS.aloadN X43.here hx rfl (hb hby at_37) rfl rfl ?_
    exact k)
  obtain ⟨T46, X46, e46, st46⟩ := getS2 X43 hx hZ hown (host := "") (Or.inl (ww hw 8 rfl)) Via.refl e43 (Sa_UNKNOWN.ext O0.2) (g := (mkF m 38 Ls41 [(.ref a_NO)])) rfl (hb hby at_38)
  have p47 : ∀ t, St p e below T46 (mkF m 41 Ls41 [(.ref a_UNKNOWN), (.ref a_NO)]) t → S0 t := fun t k => p45 t (st46 t k)
  let Ls48 : Array Slot := #[.val (.int i0), .val (.int (1 : Int32)), .val (.ref a_YES), .val (.ref a_NO), .val (.int (1 : Int32)), .unset, .unset, .unset]
  have p49 : ∀ t, St p e below T46 (mkF m 52 Ls48 [(.ref a_YES)]) t → S0 t := fun t k => p47 t (by
    show St p e below T46 (mkF m 41 Ls41 [(.ref a_UNKNOWN), (.ref a_NO)]) t
    refine Jvm.RoadKit.acmp (g := (mkF m 41 Ls41 [(.ref a_UNKNOWN), (.ref a_NO)])) X46 hx rfl rfl rfl (pc0 := 41) (pc' := 44) (same := false) rfl (hb hby at_41) rfl (decide_eq_false fun q => (Fld.ne Fa_NO_ordinal Fa_UNKNOWN_ordinal (fun q => absurd (Value.int.inj q) (by decide))) (Value.ref.inj q)) (by decide) (by decide) ?_
    show St p e below T46 (mkF m 44 Ls41 []) t
    refine XT.iconstV X46.here hx rfl (1 : Int32) (hb hby at_44) (by decide) ?_
    show St p e below T46 (mkF m 45 Ls41 [(.int (1 : Int32))]) t
    refine XS.goto X46.here hx rfl (pc0 := 45) (pc' := 49) rfl (hb hby at_45) (by decide) (by decide) ?_
    show St p e below T46 (mkF m 49 Ls41 [(.int (1 : Int32))]) t
    refine XS.istore X46.here hx rfl (hb hby at_49) rfl (l' := Ls48) rfl ?_
    show St p e below T46 (mkF m 51 Ls48 []) t
    refine XS.aloadN X46.here hx rfl (hb hby at_51) rfl rfl ?_
    exact k)
  obtain ⟨T50, X50, e50, st50⟩ := getS2 X46 hx hZ hown (host := "") (Or.inl (ww hw 10 rfl)) Via.refl e46 (Sa_YES.ext O0.2) (g := (mkF m 52 Ls48 [(.ref a_YES)])) rfl (hb hby at_52)
  have p51 : ∀ t, St p e below T50 (mkF m 55 Ls48 [(.ref a_YES), (.ref a_YES)]) t → S0 t := fun t k => p49 t (st50 t k)
  let Ls52 : Array Slot := #[.val (.int i0), .val (.int (1 : Int32)), .val (.ref a_YES), .val (.ref a_NO), .val (.int (1 : Int32)), .val (.int (1 : Int32)), .unset, .unset]
  have p53 : ∀ t, St p e below T50 (mkF m 75 Ls52 [(.ref a_YES)]) t → S0 t := fun t k => p51 t (by
    show St p e below T50 (mkF m 55 Ls48 [(.ref a_YES), (.ref a_YES)]) t
    refine Jvm.RoadKit.acmp (g := (mkF m 55 Ls48 [(.ref a_YES), (.ref a_YES)])) X50 hx rfl rfl rfl (pc0 := 55) (pc' := 58) (same := true) rfl (hb hby at_55) rfl (decide_eq_true rfl) (by decide) (by decide) ?_
    show St p e below T50 (mkF m 58 Ls48 []) t
    refine XT.iconstV X50.here hx rfl (1 : Int32) (hb hby at_58) (by decide) ?_
    show St p e below T50 (mkF m 59 Ls48 [(.int (1 : Int32))]) t
    refine XS.goto X50.here hx rfl (pc0 := 59) (pc' := 63) rfl (hb hby at_59) (by decide) (by decide) ?_
    show St p e below T50 (mkF m 63 Ls48 [(.int (1 : Int32))]) t
    refine XS.iloadN X50.here hx rfl (hb hby at_63) rfl ?_
    show St p e below T50 (mkF m 64 Ls48 [(.int (1 : Int32)), (.int (1 : Int32))]) t
    refine XS.icmpNo X50.here hx rfl (hb hby at_64) rfl (teq (by decide : (1 : Int32) = (1 : Int32))).2 ?_
    show St p e below T50 (mkF m 67 Ls48 []) t
    refine XT.iconstV X50.here hx rfl (1 : Int32) (hb hby at_67) (by decide) ?_
    show St p e below T50 (mkF m 68 Ls48 [(.int (1 : Int32))]) t
    refine XS.goto X50.here hx rfl (pc0 := 68) (pc' := 72) rfl (hb hby at_68) (by decide) (by decide) ?_
    show St p e below T50 (mkF m 72 Ls48 [(.int (1 : Int32))]) t
    refine XS.istore X50.here hx rfl (hb hby at_72) rfl (l' := Ls52) rfl ?_
    show St p e below T50 (mkF m 74 Ls52 []) t
    refine XS.aloadN X50.here hx rfl (hb hby at_74) rfl rfl ?_
    exact k)
  obtain ⟨T54, X54, e54, st54⟩ := getS2 X50 hx hZ hown (host := "") (Or.inl (ww hw 11 rfl)) Via.refl e50 (Sa_NO.ext O0.2) (g := (mkF m 75 Ls52 [(.ref a_YES)])) rfl (hb hby at_75)
  have p55 : ∀ t, St p e below T54 (mkF m 78 Ls52 [(.ref a_NO), (.ref a_YES)]) t → S0 t := fun t k => p53 t (st54 t k)
  let Ls56 : Array Slot := #[.val (.int i0), .val (.int (1 : Int32)), .val (.ref a_YES), .val (.ref a_NO), .val (.int (1 : Int32)), .val (.int (1 : Int32)), .val (.int (1 : Int32)), .unset]
  have p57 : ∀ t, St p e below T54 (mkF m 106 Ls56 [(.ref a_YES)]) t → S0 t := fun t k => p55 t (by
    show St p e below T54 (mkF m 78 Ls52 [(.ref a_NO), (.ref a_YES)]) t
    refine Jvm.RoadKit.acmp (g := (mkF m 78 Ls52 [(.ref a_NO), (.ref a_YES)])) X54 hx rfl rfl rfl (pc0 := 78) (pc' := 85) (same := false) rfl (hb hby at_78) rfl (decide_eq_false fun q => (Fld.ne Fa_YES_ordinal Fa_NO_ordinal (fun q => absurd (Value.int.inj q) (by decide))) (Value.ref.inj q)) (by decide) (by decide) ?_
    show St p e below T54 (mkF m 85 Ls52 []) t
    refine XT.iconstV X54.here hx rfl (0 : Int32) (hb hby at_85) (by decide) ?_
    show St p e below T54 (mkF m 86 Ls52 [(.int (0 : Int32))]) t
    refine XS.iloadN X54.here hx rfl (hb hby at_86) rfl ?_
    show St p e below T54 (mkF m 87 Ls52 [(.int (1 : Int32)), (.int (0 : Int32))]) t
    refine XS.ifYes X54.here hx rfl (pc0 := 87) (pc' := 94) rfl (hb hby at_87) rfl ((if0 _ _).trans (feq (by decide : ¬ ((1 : Int32) = (0 : Int32)))).2) (by decide) (by decide) ?_
    show St p e below T54 (mkF m 94 Ls52 [(.int (0 : Int32))]) t
    refine XT.iconstV X54.here hx rfl (0 : Int32) (hb hby at_94) (by decide) ?_
    show St p e below T54 (mkF m 95 Ls52 [(.int (0 : Int32)), (.int (0 : Int32))]) t
    refine XS.icmpNo X54.here hx rfl (hb hby at_95) rfl (teq (by decide : (0 : Int32) = (0 : Int32))).2 ?_
    show St p e below T54 (mkF m 98 Ls52 []) t
    refine XT.iconstV X54.here hx rfl (1 : Int32) (hb hby at_98) (by decide) ?_
    show St p e below T54 (mkF m 99 Ls52 [(.int (1 : Int32))]) t
    refine XS.goto X54.here hx rfl (pc0 := 99) (pc' := 103) rfl (hb hby at_99) (by decide) (by decide) ?_
    show St p e below T54 (mkF m 103 Ls52 [(.int (1 : Int32))]) t
    refine XS.istore X54.here hx rfl (hb hby at_103) rfl (l' := Ls56) rfl ?_
    show St p e below T54 (mkF m 105 Ls56 []) t
    refine XS.aloadN X54.here hx rfl (hb hby at_105) rfl rfl ?_
    exact k)
  obtain ⟨cqc58, kqc58, qc58a, qc58b, qc58c⟩ := isOf hZ e54 (Ea_YES.ext O0.2)
  obtain ⟨_, _, ⟨Tc58, Lc58, kc58, nc58⟩, -, Xc58, ⟨Lcc58, hQc58, lc58, yc58, zc58⟩, stc58⟩ := X54.virtualBack hx (y := M1) (z := M1) hown (mvT hZ (ww hw 12 rfl)) (mvT hZ (ww hw 13 rfl)) (notFace_of_selects (args := #[]) (mvT hZ (ww hw 15 rfl))) (mvT hZ (ww hw 15 rfl)) (mvT hZ (ww hw 14 rfl)) (by decide) (backOf (W := 0) (rm2_3 l Z a0 hw [] a_NO a_YES a_UNKNOWN h0 n0 O0 HE' ) hZ (ww hw 16 rfl) (ww hw 2 rfl) (by decide) (by decide)) qc58a qc58c (g := (mkF m 106 Ls56 [(.ref a_YES)])) rfl (by rw [hml]; rfl) (Steps.refl _) (argsL := []) (rest := []) (lenOf pd1 rfl) rfl (by show 2 * 0 + _ ≤ _; exact Nat.le_of_eq rfl) (hb hby at_106) (fun _ _ => ⟨rfl, e54, (by decide : 0 + 0 ≤ _), (by decide : 0 + 0 ≤ _)⟩)
  dsimp only [Pt.U, Pt.locs, Pt.cells, Pt.slots] at Xc58 lc58 yc58 zc58 stc58 hQc58
  subst lc58 yc58 zc58
  obtain ⟨Nqc58, ec58, hAc58⟩ := hQc58
  have Nc58 := Fr.app Nc39 Nqc58
  obtain rfl := hAc58
  have p59 : ∀ t, St p e below Tc58 (mkF m 109 Ls56 [(.ref a_NO)]) t → S0 t := fun t k => p57 t (stc58.trans k)
  let Ls60 : Array Slot := #[.val (.int i0), .val (.int (1 : Int32)), .val (.ref a_YES), .val (.ref a_NO), .val (.int (1 : Int32)), .val (.int (1 : Int32)), .val (.int (1 : Int32)), .val (.int (1 : Int32))]
  have p61 : ∀ t, St p e below Tc58 (mkF m 145 Ls60 [(.int (1 : Int32))]) t → S0 t := fun t k => p59 t (by
    show St p e below Tc58 (mkF m 109 Ls56 [(.ref a_NO)]) t
    refine XS.aloadN Xc58.here hx rfl (hb hby at_109) rfl rfl ?_
    show St p e below Tc58 (mkF m 110 Ls56 [(.ref a_NO), (.ref a_NO)]) t
    refine Jvm.RoadKit.acmp (g := (mkF m 110 Ls56 [(.ref a_NO), (.ref a_NO)])) Xc58 hx rfl rfl rfl (pc0 := 110) (pc' := 113) (same := true) rfl (hb hby at_110) rfl (decide_eq_true rfl) (by decide) (by decide) ?_
    show St p e below Tc58 (mkF m 113 Ls56 []) t
    refine XT.iconstV Xc58.here hx rfl (1 : Int32) (hb hby at_113) (by decide) ?_
    show St p e below Tc58 (mkF m 114 Ls56 [(.int (1 : Int32))]) t
    refine XS.goto Xc58.here hx rfl (pc0 := 114) (pc' := 118) rfl (hb hby at_114) (by decide) (by decide) ?_
    show St p e below Tc58 (mkF m 118 Ls56 [(.int (1 : Int32))]) t
    refine XS.istore Xc58.here hx rfl (hb hby at_118) rfl (l' := Ls60) rfl ?_
    show St p e below Tc58 (mkF m 120 Ls60 []) t
    refine XS.iload Xc58.here hx rfl (hb hby at_120) rfl ?_
    show St p e below Tc58 (mkF m 122 Ls60 [(.int (1 : Int32))]) t
    refine XS.ifNo Xc58.here hx rfl (hb hby at_122) rfl ((if0 _ _).trans (feq (by decide : ¬ ((1 : Int32) = (0 : Int32)))).1) ?_
    show St p e below Tc58 (mkF m 125 Ls60 []) t
    refine XS.iload Xc58.here hx rfl (hb hby at_125) rfl ?_
    show St p e below Tc58 (mkF m 127 Ls60 [(.int (1 : Int32))]) t
    refine XS.ifNo Xc58.here hx rfl (hb hby at_127) rfl ((if0 _ _).trans (feq (by decide : ¬ ((1 : Int32) = (0 : Int32)))).1) ?_
    show St p e below Tc58 (mkF m 130 Ls60 []) t
    refine XS.iload Xc58.here hx rfl (hb hby at_130) rfl ?_
    show St p e below Tc58 (mkF m 132 Ls60 [(.int (1 : Int32))]) t
    refine XS.ifNo Xc58.here hx rfl (hb hby at_132) rfl ((if0 _ _).trans (feq (by decide : ¬ ((1 : Int32) = (0 : Int32)))).1) ?_
    show St p e below Tc58 (mkF m 135 Ls60 []) t
    refine XS.iload Xc58.here hx rfl (hb hby at_135) rfl ?_
    show St p e below Tc58 (mkF m 137 Ls60 [(.int (1 : Int32))]) t
    refine XS.ifNo Xc58.here hx rfl (hb hby at_137) rfl ((if0 _ _).trans (feq (by decide : ¬ ((1 : Int32) = (0 : Int32)))).1) ?_
    show St p e below Tc58 (mkF m 140 Ls60 []) t
    refine XT.iconstV Xc58.here hx rfl (1 : Int32) (hb hby at_140) (by decide) ?_
    show St p e below Tc58 (mkF m 141 Ls60 [(.int (1 : Int32))]) t
    refine XS.goto Xc58.here hx rfl (pc0 := 141) (pc' := 145) rfl (hb hby at_141) (by decide) (by decide) ?_
    exact k)
  obtain ⟨fs, hr, hrun, hended, hW, hsame⟩ := Xc58.leave (v := some (.int (1 : Int32))) (fun h => by rw [Bd.returns] at h; cases h)
  refine ⟨_, _, p61 _ ?_, hrun, hended, _, _, rfl, ?_, ⟨_, rfl⟩, hW, hsame.mono (by decide) (by decide)⟩
  · exact retOut Xc58 hx Bd.returns rfl (Or.inl ⟨rfl, by simp, _, rfl⟩) (hb hby at_145) hr
  · exact ⟨rfl, Nc58⟩
set_option maxRecDepth 65536 in
set_option maxHeartbeats 40000000 in
theorem comes_1 {Post : Tables → Env → Array Value → State → Outcome → State → Prop} (hpost : ∀ tb e args s v u, (limb_1_1.after args s (.returned v) u = true ∧ limb_1_2.after args s (.returned v) u = true ∧ True) → FrameEnd s (.returned v) u (Jvm.fieldLocs frame_1_writes args s ++ Jvm.arrayLocs frame_1_arrays args s ++ Jvm.staticLocs frame_1_statics s) 0 0 → Post tb e args s (.returned v) u) :
    ArmFor flags0 classFile x code maxLocals ret World_1 tables_1 room_1 Calls_1 rest_1 Pre_1 Post := by
  intro l hfl _ _ p e ha hc hk s m args below hf hA hF happ hP
  obtain ⟨hcalls, hrest, hpre⟩ := hP
  obtain ⟨-, -, -, hnamed, -, -, -, hat⟩ := (Spec.applies_iff hf).mp happ
  obtain ⟨hg, hn⟩ := and_e (Cond.before_iff.mp (show (Jvm.Cond.and given_1 narrow_1).before args s = true from hpre))
  obtain ⟨hj1a, hj1b⟩ := and_e hg
  obtain ⟨w0, rfl⟩ : ∃ w0 : Value, args = #[w0] := by
    have hs : args.size = 1 := by simpa [Cond.value, given_1] using hj1a
    obtain ⟨L⟩ := args
    match L, hs with
    | [w0], _ => exact ⟨w0, rfl⟩
  have hw := fun d (hd : d ∈ tables_1) => atoms_spec (ws := Jvm.Cond.code x code maxLocals ret :: tables_1) hat d (List.mem_cons_of_mem _ hd)
  have hfit : Fit s := fun {y c} hc i hi => by
    obtain ⟨ha, rfl⟩ := Array.getElem?_eq_some_iff.mp hc
    have q := List.all_eq_true.mp ((Array.all_eq_true_iff_forall_mem.mp hF) _ (Array.getElem_mem ha)) i (List.mem_range.mpr hi)
    simpa [Array.getElem?_eq_getElem hi] using q
  obtain ⟨i0, ei0⟩ := is_v hj1b
  obtain rfl : w0 = (.int i0) := Option.some.inj ei0
  obtain ⟨hj2a, hj2b⟩ := and_e hn
  obtain ⟨hj3a, hj3b⟩ := and_e hj2b
  obtain ⟨hj4a, hj4b⟩ := and_e hj3b
  obtain ⟨hj5a, hj5b⟩ := and_e hj4b
  obtain ⟨hj6a, hj6b⟩ := and_e hj5b
  have hn0 := hj2a
  have hn1 := hj3a
  have hn2 := hj4a
  have hn3 := hj5a
  have hn4 := hj6a
  have hn5 := hj6b
  obtain ⟨a_NO, eva_NO⟩ := exa_v hn0
  obtain ⟨a_YES, eva_YES⟩ := exa_v hn1
  obtain ⟨a_UNKNOWN, eva_UNKNOWN⟩ := exa_v hn2
  obtain ⟨n, o, h1, h2, h3, _, L, rfl, ⟨rfl, N⟩, hq⟩ := rm0 l s _ hw tables_1 a_NO a_YES a_UNKNOWN i0 s.heap s.heap.size (Old.start s) ⟨(Sta.start eva_NO (Or.inr ⟨(ww hw 2 rfl), (ww hw 5 rfl)⟩)), (Exa.start eva_NO hn0), (Sta.start eva_YES (Or.inr ⟨(ww hw 2 rfl), (ww hw 7 rfl)⟩)), (Exa.start eva_YES hn1), (Sta.start eva_UNKNOWN (Or.inr ⟨(ww hw 2 rfl), (ww hw 9 rfl)⟩)), (Exa.start eva_UNKNOWN hn2), (Fld.start ((fld_at eva_NO).symm.trans (own_eqI hn3))), (Fld.start ((fld_at eva_UNKNOWN).symm.trans (own_eqI hn4))), (Fld.start ((fld_at eva_YES).symm.trans (own_eqI hn5)))⟩ p e ha hc hk s m _ below hf ((Spec.applies_iff_loose hf).mp happ).1 ⟨rfl, State.Warmed39.refl s, rfl⟩ trivial
  refine ⟨n, _, h1, h2, h3, hpost _ _ _ _ _ _ ⟨Cond.after_iff.mpr rfl, Cond.after_iff.mpr (eq_i res_at (Term.int_eval (1)) rfl), trivial⟩ ⟨hq.1, hq.2.1, (hq.2.2.sift fun y hy => Or.inr (N y hy)).mono (by decide) (by decide)⟩⟩
theorem main_1_1 : Claimed_1_1 := comes_1 fun _ _ _ _ _ _ h hF => ⟨h.1, hF⟩
theorem main_1_2 : Claimed_1_2 := comes_1 fun _ _ _ _ _ _ h hF => ⟨h.2.1, hF⟩
end Jvm.Pilot.@@N@@
namespace Jvm.Pilot.@@N@@
open Jvm Jvm.ClassFile Sem Op Lib Jvm.Free Jvm.Stand Jvm.Pilot.@@N@@.Jvm.D
/-! MADE BY PROGRAM (witnessworld.py) out of the Statement's table words and the real class files: 12 classes; the members and pool entries that the words name. The judged class is class 1, her method 1. -/
namespace start1
open Jvm.ClassFile
def u (s : String) : CpInfo := .utf8 (stringToUtf16 s)
/-- a pool by its gaps: so many unusable entries, then the entry; so many at the end -/
def gap : Nat → List CpInfo → List CpInfo
  | 0, r => r
  | n + 1, r => .unusable :: gap n r
def poolList (es : List (Nat × CpInfo)) (last : Nat) : List CpInfo := es.foldr (fun e r => gap e.1 (e.2 :: r)) (gap last [])
def pool (es : List (Nat × CpInfo)) (last : Nat) : Array CpInfo := ⟨poolList es last⟩
def fileOf (pool : Array CpInfo) (this : Nat) (attrs : Array Attribute := #[]) (ms : Array MethodInfo := #[]) (fl : Nat := 33) (sup : Nat := 0) (ifs : Array Nat := #[]) (fds : Array FieldInfo := #[]) : ClassFile where
  minorVersion := 0
  majorVersion := 65
  constantPool := pool
  accessFlags := fl
  thisClass := this
  superClass := sup
  interfaces := ifs
  fields := fds
  methods := ms
  attributes := attrs
def plain (name : String) (sup : Option ClassId) : Class where
  name := name
  kind := .ordinary
  loader := none
  accessFlags := 33
  super := sup
  interfaces := #[]
  cf := none
  fields := #[]
  methods := #[]
  instanceTypes := #[]
  staticTypes := #[]
  resolved := #[]
  callSites := []
  init := .initialized
  statics := none
  mirror := none

def pool0 : Array CpInfo := pool [(5, u "<init>"), (0, u "()V"), (1, .class_ 10), (1, u "java/lang/Object")] 113

def k0m0 : Method := { name := "<init>", desc := "()V", sig := { parameters := [], returnType := none }, accessFlags := 1, code := none }
/-- java/lang/Object -/
def k0 : Class := { plain "java/lang/Object" none with
  accessFlags := 33
  interfaces := #[]
  cf := some (fileOf pool0 8 #[] #[{ accessFlags := 1, nameIndex := 5, descriptorIndex := 6, attributes := #[] }] 33 0 #[] #[])
  fields := #[]
  methods := #[k0m0]
  instanceTypes := #[]
  staticTypes := #[]
  resolved := Array.replicate 124 none
  statics := none }

def pool1 : Array CpInfo := pool [(2, .class_ 4), (1, u "java/lang/Object"), (0, u "<init>"), (0, u "()V"), (0, .methodref 8 9), (0, .class_ 10), (0, .nameAndType 11 12), (0, u "com/example/bouncr/bouncr/analysis/Answer"), (0, u "of"), (0, u "(Z)Lcom/example/bouncr/bouncr/analysis/Answer;"), (0, .fieldref 8 14), (0, .nameAndType 15 16), (0, u "UNKNOWN"), (0, u "Lcom/example/bouncr/bouncr/analysis/Answer;"), (0, .fieldref 8 18), (0, .nameAndType 19 16), (0, u "YES"), (0, .fieldref 8 21), (0, .nameAndType 22 16), (0, u "NO"), (0, .methodref 8 24), (0, .nameAndType 25 26), (0, u "not"), (0, u "()Lcom/example/bouncr/bouncr/analysis/Answer;"), (0, .class_ 28), (0, u "com/example/bouncr/bouncr/analysis/AnswerOfPinLaw"), (2, u "law"), (0, u "(I)Z")] 3

def k1m0 : Method := { name := "<init>", desc := "()V", sig := { parameters := [], returnType := none }, accessFlags := 1, code := none }
def k1c1 : Code := { maxStack := 2, maxLocals := 8, code := code, exceptionTable := #[], attributes := #[] }
def k1m1 : Method := { name := "law", desc := "(I)Z", sig := { parameters := [.int], returnType := some .boolean }, accessFlags := 9, code := some k1c1 }
/-- com/example/bouncr/bouncr/analysis/AnswerOfPinLaw -/
def k1 : Class := { plain "com/example/bouncr/bouncr/analysis/AnswerOfPinLaw" (some 0) with
  accessFlags := 49
  interfaces := #[]
  cf := some (fileOf pool1 27 #[] #[{ accessFlags := 1, nameIndex := 5, descriptorIndex := 6, attributes := #[] }, { accessFlags := 9, nameIndex := 31, descriptorIndex := 32, attributes := #[] }] 49 2 #[] #[])
  fields := #[]
  methods := #[k1m0, k1m1]
  instanceTypes := #[]
  staticTypes := #[]
  resolved := Array.replicate 36 none
  statics := none }

def pool2 : Array CpInfo := pool [(1, .class_ 2), (0, u "java/lang/constant/Constable"), (0, .class_ 4), (0, u "java/lang/Object")] 6

/-- java/lang/constant/Constable -/
def k2 : Class := { plain "java/lang/constant/Constable" (some 0) with
  accessFlags := 1537
  interfaces := #[]
  cf := some (fileOf pool2 1 #[] #[] 1537 3 #[] #[])
  fields := #[]
  methods := #[]
  instanceTypes := #[]
  staticTypes := #[]
  resolved := Array.replicate 11 none
  statics := none }

def pool3 : Array CpInfo := pool [(1, .class_ 2), (0, u "java/lang/Comparable"), (0, .class_ 4), (0, u "java/lang/Object")] 7

/-- java/lang/Comparable -/
def k3 : Class := { plain "java/lang/Comparable" (some 0) with
  accessFlags := 1537
  interfaces := #[]
  cf := some (fileOf pool3 1 #[] #[] 1537 3 #[] #[])
  fields := #[]
  methods := #[]
  instanceTypes := #[]
  staticTypes := #[]
  resolved := Array.replicate 12 none
  statics := none }

def pool4 : Array CpInfo := pool [(1, .class_ 2), (0, u "java/io/Serializable"), (0, .class_ 4), (0, u "java/lang/Object")] 2

/-- java/io/Serializable -/
def k4 : Class := { plain "java/io/Serializable" (some 0) with
  accessFlags := 1537
  interfaces := #[]
  cf := some (fileOf pool4 1 #[] #[] 1537 3 #[] #[])
  fields := #[]
  methods := #[]
  instanceTypes := #[]
  staticTypes := #[]
  resolved := Array.replicate 7 none
  statics := none }

def pool5 : Array CpInfo := pool [(2, .class_ 4), (1, u "java/lang/Enum"), (0, u "name"), (0, u "Ljava/lang/String;"), (2, u "ordinal"), (0, u "I"), (1, .class_ 14), (1, u "java/lang/Object"), (4, u "hash"), (86, .class_ 108), (1, u "java/lang/Enum$EnumDesc"), (2, .class_ 112), (0, u "java/lang/constant/Constable"), (0, .class_ 114), (0, u "java/lang/Comparable"), (0, .class_ 116), (0, u "java/io/Serializable")] 87

/-- java/lang/Enum -/
def k5 : Class := { plain "java/lang/Enum" (some 0) with
  accessFlags := 1057
  interfaces := #[2, 3, 4]
  cf := some (fileOf pool5 2 #[.nestMembers #[106]] #[] 1057 12 #[111, 113, 115] #[{ accessFlags := 18, nameIndex := 5, descriptorIndex := 6, attributes := #[] }, { accessFlags := 18, nameIndex := 9, descriptorIndex := 10, attributes := #[] }, { accessFlags := 2, nameIndex := 19, descriptorIndex := 10, attributes := #[] }])
  fields := #[{ name := "name", type := (.object "java/lang/String"), accessFlags := 18, slot := 0, constantValue := 0 }, { name := "ordinal", type := .int, accessFlags := 18, slot := 1, constantValue := 0 }, { name := "hash", type := .int, accessFlags := 2, slot := 2, constantValue := 0 }]
  methods := #[]
  instanceTypes := #[(.object "java/lang/String"), .int, .int]
  staticTypes := #[]
  resolved := Array.replicate 204 none
  statics := none }

def pool6 : Array CpInfo := pool [(1, .class_ 2), (0, u "com/example/bouncr/bouncr/analysis/Answer"), (0, .fieldref 1 4), (0, .nameAndType 5 6), (0, u "YES"), (0, u "Lcom/example/bouncr/bouncr/analysis/Answer;"), (0, .fieldref 1 8), (0, .nameAndType 9 6), (0, u "NO"), (2, u "UNKNOWN"), (2, u "$VALUES"), (0, u "[Lcom/example/bouncr/bouncr/analysis/Answer;"), (6, .class_ 25), (1, u "java/lang/Enum"), (21, u "not"), (0, u "()Lcom/example/bouncr/bouncr/analysis/Answer;"), (1, u "of"), (0, u "(Z)Lcom/example/bouncr/bouncr/analysis/Answer;")] 4

def k6c0 : Code := { maxStack := 2, maxLocals := 2, code := prog_2_method_4_code, exceptionTable := #[], attributes := #[] }
def k6m0 : Method := { name := "not", desc := "()Lcom/example/bouncr/bouncr/analysis/Answer;", sig := { parameters := [], returnType := some (.object "com/example/bouncr/bouncr/analysis/Answer") }, accessFlags := 0, code := some k6c0 }
def k6c1 : Code := { maxStack := 1, maxLocals := 1, code := prog_2_method_5_code, exceptionTable := #[], attributes := #[] }
def k6m1 : Method := { name := "of", desc := "(Z)Lcom/example/bouncr/bouncr/analysis/Answer;", sig := { parameters := [.boolean], returnType := some (.object "com/example/bouncr/bouncr/analysis/Answer") }, accessFlags := 8, code := some k6c1 }
/-- com/example/bouncr/bouncr/analysis/Answer -/
def k6 : Class := { plain "com/example/bouncr/bouncr/analysis/Answer" (some 5) with
  accessFlags := 16433
  interfaces := #[]
  cf := some (fileOf pool6 1 #[] #[{ accessFlags := 0, nameIndex := 47, descriptorIndex := 48, attributes := #[] }, { accessFlags := 8, nameIndex := 50, descriptorIndex := 51, attributes := #[] }] 16433 23 #[] #[{ accessFlags := 16409, nameIndex := 5, descriptorIndex := 6, attributes := #[] }, { accessFlags := 16409, nameIndex := 9, descriptorIndex := 6, attributes := #[] }, { accessFlags := 16409, nameIndex := 12, descriptorIndex := 6, attributes := #[] }, { accessFlags := 4122, nameIndex := 15, descriptorIndex := 16, attributes := #[] }])
  fields := #[{ name := "YES", type := (.object "com/example/bouncr/bouncr/analysis/Answer"), accessFlags := 16409, slot := 0, constantValue := 0 }, { name := "NO", type := (.object "com/example/bouncr/bouncr/analysis/Answer"), accessFlags := 16409, slot := 1, constantValue := 0 }, { name := "UNKNOWN", type := (.object "com/example/bouncr/bouncr/analysis/Answer"), accessFlags := 16409, slot := 2, constantValue := 0 }, { name := "$VALUES", type := (.array (.object "com/example/bouncr/bouncr/analysis/Answer")), accessFlags := 4122, slot := 3, constantValue := 0 }]
  methods := #[k6m0, k6m1]
  instanceTypes := #[(.object "java/lang/String"), .int, .int]
  staticTypes := #[(.object "com/example/bouncr/bouncr/analysis/Answer"), (.object "com/example/bouncr/bouncr/analysis/Answer"), (.object "com/example/bouncr/bouncr/analysis/Answer"), (.array (.object "com/example/bouncr/bouncr/analysis/Answer"))]
  resolved := Array.replicate 56 none
  statics := some 0 }

def pool7 : Array CpInfo := pool [(1, u "java/lang/Cloneable"), (0, .class_ 1), (0, u "java/lang/Object"), (0, .class_ 3)] 3

/-- java/lang/Cloneable -/
def k7 : Class := { plain "java/lang/Cloneable" (some 0) with
  accessFlags := 1537
  interfaces := #[]
  cf := some (fileOf pool7 2 #[] #[] 1537 4 #[] #[])
  fields := #[]
  methods := #[]
  instanceTypes := #[]
  staticTypes := #[]
  resolved := Array.replicate 8 none
  statics := none }

/-- the primitive byte -/
def k8 : Class := { plain "byte" none with kind := .primitive 'B', accessFlags := 0x411 }
/-- [B -/
def k9 : Class := { plain "[B" (some 0) with kind := .array 8 .byte, interfaces := #[7, 4], accessFlags := 1041 }

/-- the primitive int -/
def k10 : Class := { plain "int" none with kind := .primitive 'I', accessFlags := 0x411 }
/-- [I -/
def k11 : Class := { plain "[I" (some 0) with kind := .array 10 .int, interfaces := #[7, 4], accessFlags := 1041 }

def heap : Heap := #[{ cls := 6, slots := #[.ref 2, .ref 1, .ref 3, .null], vm := .statics 6 },
  { cls := 6, slots := #[.null, .int 1, .int 0], vm := .none },
  { cls := 6, slots := #[.null, .int 0, .int 0], vm := .none },
  { cls := 6, slots := #[.null, .int 2, .int 0], vm := .none }]
def classes : Array Class := #[k0, k1, k2, k3, k4, k5, k6, k7, k8, k9, k10, k11]
def interned : List (Array UInt16 × Addr) := []
def slotsUsed : Nat := 13
def theMethod : MethodId := ⟨1, 1⟩
def args0 : Array Value := #[.int 5]
def aboutOver (below : List Frame) : State where
  vm := { classes := classes, interned := interned.toArray }
  heap := heap
  slotsUsed := slotsUsed
  threads := #[{ frames := .invoking theMethod args0 :: below }]
def below0 : List Frame := [.native { method := ⟨0, 0⟩, args := #[] }]
def about1 : State := aboutOver below0
def p0 : Program := .bare "" "" ""
def e0 : Env := launch0.env 0 0 0
theorem w_frames : about1.frames = Frame.invoking theMethod args0 :: below0 := rfl
set_option maxRecDepth 65536 in
theorem w_args : argsFit about1.vm theMethod args0 = true := by decide +kernel
set_option maxRecDepth 65536 in
theorem w_heap : heapFits about1 = true := by decide +kernel
set_option maxRecDepth 65536 in
theorem w_runnable : about1.curStatus? = some .runnable := by decide +kernel
set_option maxRecDepth 65536 in
theorem w_alone : about1.alone = true := by decide +kernel
set_option maxRecDepth 65536 in
theorem w_named : about1.methodNamed? x = some theMethod := by decide +kernel
set_option maxRecDepth 65536 in
theorem w_hears : about1.hears theMethod below0 = true := by decide +kernel
set_option maxRecDepth 65536 in
theorem w_ripe : about1.ripe theMethod args0 below0 = true := by decide +kernel
theorem w_running : about1.status = .running := rfl
set_option maxRecDepth 65536 in
theorem w_room : about1.hasRoom e0.platform room_1 = true :=
  launch0.hasRoom_least _ room_1 (by decide +kernel) (by decide +kernel) (by decide +kernel) (by decide +kernel) (by decide +kernel) (by decide +kernel)
theorem allAtoms_all (ts : List Jvm.Cond) (a : Array Jvm.Value) (st : Jvm.State) : (allAtoms ts).before a st = ts.all (fun c => c.before a st) := by
  induction ts with
  | nil => rfl
  | cons c t ih =>
    show (Jvm.Cond.and c (allAtoms t)).before a st = _
    rw [Jvm.Cond.before_and, ih, List.all_cons]
def words1 : List Jvm.Cond := Jvm.Cond.code x code maxLocals ret :: tables_1
/-- a 'code' word, met by the world's own term for the bytes: nothing is compared byte by byte -/
theorem code_word {y : MethodName} {bytes : ByteArray} {mx : Nat} {rt : Option FieldType} {a : Array Value} {s : State} {m : MethodId} {meth : Method} {c : Code} (h1 : s.methodNamed? y = some m) (h2 : s.vm.method? m = some meth) (h3 : meth.code = some c) (h4 : c.code = bytes)
    (h5 : (c.maxLocals == mx && c.exceptionTable.isEmpty && decide (c.maxStack ≤ mostOperands) && decide (meth.sig.returnType = rt) && !meth.locks && decide (parseMethodDescriptor y.desc = some meth.sig)) = true) : (Jvm.Cond.code y bytes mx rt).before a s = true := by
  simp only [Bool.and_eq_true, beq_iff_eq, Bool.not_eq_true', decide_eq_true_eq] at h5
  obtain ⟨⟨⟨⟨⟨g1, g2⟩, g3⟩, g4⟩, g5⟩, g6⟩ := h5
  simp [Cond.before, Cond.holds, Cond.value, h1, h2, h3, h4, g1, g2, g3, g4, g5, g6]
def isCode : Jvm.Cond → Bool
  | .code _ _ _ _ => true
  | _ => false
theorem all_split {L : List Jvm.Cond} {P : Jvm.Cond → Bool} (h1 : L.all (fun c => isCode c || P c) = true) (h2 : ∀ c ∈ L.filter isCode, P c = true) : L.all P = true := by
  refine List.all_eq_true.mpr fun c hc => ?_
  have h := List.all_eq_true.mp h1 c hc
  rcases Bool.eq_false_or_eq_true (isCode c) with hi | hi
  · exact h2 c (List.mem_filter.mpr ⟨hc, hi⟩)
  · simpa [hi] using h
set_option maxRecDepth 65536 in
theorem w_c0 : (Jvm.Cond.code x code maxLocals ret).before args0 about1 = true := code_word (m := ⟨1, 1⟩) (meth := k1m1) (c := k1c1) (by decide +kernel) rfl rfl rfl (by decide +kernel)
set_option maxRecDepth 65536 in
theorem w_c1 : (Jvm.Cond.code ({ cls := "com/example/bouncr/bouncr/analysis/Answer", name := "of", desc := "(Z)Lcom/example/bouncr/bouncr/analysis/Answer;" } : Jvm.MethodName) prog_2_method_5_code (1 : Nat) (Option.some (Jvm.ClassFile.FieldType.object "com/example/bouncr/bouncr/analysis/Answer"))).before args0 about1 = true := code_word (m := ⟨6, 1⟩) (meth := k6m1) (c := k6c1) (by decide +kernel) rfl rfl rfl (by decide +kernel)
set_option maxRecDepth 65536 in
theorem w_c2 : (Jvm.Cond.code ({ cls := "com/example/bouncr/bouncr/analysis/Answer", name := "not", desc := "()Lcom/example/bouncr/bouncr/analysis/Answer;" } : Jvm.MethodName) prog_2_method_4_code (2 : Nat) (Option.some (Jvm.ClassFile.FieldType.object "com/example/bouncr/bouncr/analysis/Answer"))).before args0 about1 = true := code_word (m := ⟨6, 0⟩) (meth := k6m0) (c := k6c0) (by decide +kernel) rfl rfl rfl (by decide +kernel)
def codes1 : List Jvm.Cond := [Jvm.Cond.code x code maxLocals ret, Jvm.Cond.code ({ cls := "com/example/bouncr/bouncr/analysis/Answer", name := "of", desc := "(Z)Lcom/example/bouncr/bouncr/analysis/Answer;" } : Jvm.MethodName) prog_2_method_5_code (1 : Nat) (Option.some (Jvm.ClassFile.FieldType.object "com/example/bouncr/bouncr/analysis/Answer")), Jvm.Cond.code ({ cls := "com/example/bouncr/bouncr/analysis/Answer", name := "not", desc := "()Lcom/example/bouncr/bouncr/analysis/Answer;" } : Jvm.MethodName) prog_2_method_4_code (2 : Nat) (Option.some (Jvm.ClassFile.FieldType.object "com/example/bouncr/bouncr/analysis/Answer"))]
set_option maxRecDepth 65536 in
theorem codes_eq : words1.filter isCode = codes1 := rfl
theorem w_codes : ∀ c ∈ words1.filter isCode, c.before args0 about1 = true := by
  rw [codes_eq]
  intro c hc
  simp only [codes1, List.mem_cons, List.not_mem_nil, or_false] at hc
  rcases hc with rfl | rfl | rfl
  · exact w_c0
  · exact w_c1
  · exact w_c2
set_option maxRecDepth 65536 in
theorem w_t1 : words1.all (fun c => isCode c || c.before args0 about1) = true := by decide +kernel
theorem w_tables : (allAtoms (Jvm.Cond.code x code maxLocals ret :: tables_1)).before args0 about1 = true := by
  rw [allAtoms_all]
  show words1.all (fun c => c.before args0 about1) = true
  refine all_split ?_ w_codes
  rw [w_t1]
set_option maxRecDepth 65536 in
theorem w_case : (Jvm.Cond.and given_1 narrow_1).before args0 about1 = true := by decide +kernel
theorem w_applies : (headSpec (Jvm.Cond.code x code maxLocals ret :: tables_1) room_1).applies x e0.platform about1 = true :=
  (Spec.applies_iff w_frames).mpr ⟨w_running, w_runnable, w_alone, w_named, w_hears, w_ripe, w_room, w_tables⟩
theorem atStart : AtStart classFile x code maxLocals ret World_1 tables_1 room_1 Calls_1 rest_1 Pre_1 launch0 p0 e0 about1 theMethod args0 below0 :=
  ⟨lists_1, trivial, launch0.admits_env _ _ _, launch0.least_env, fairChoices_fair.cas, fairChoices_fair.clock, w_frames, w_args, w_heap, w_applies, trivial, trivial, w_case⟩
end start1
theorem witness_1 : WitnessClaimed_1 := ⟨start1.p0, start1.e0, start1.about1, start1.theMethod, start1.args0, start1.below0, start1.atStart⟩
end Jvm.Pilot.@@N@@
