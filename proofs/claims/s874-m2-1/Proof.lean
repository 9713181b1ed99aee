import JvmDerived
import JvmDerived.Pilot.@@N@@Statement
import JvmDerived.Pilot.@@N@@Code
set_option linter.unusedVariables false
set_option linter.unusedSimpArgs false
namespace Jvm.Pilot.@@N@@
open Jvm Jvm.ClassFile Sem Op Lib Jvm.Free Jvm.Stand Jvm.LawKit Jvm.RoadKit Bundle Jvm.Pilot.@@N@@.Jvm.D
abbrev St (p : Program) (e : Env) (below : List Frame) (T : State) (g : JFrame) (t : State) : Prop := Steps p.tables e below (T.setTop g) t
theorem ww {Z : State} {a0 : Array Value} (hw : ∀ d ∈ tables_1, d.before a0 Z = true) {d : Jvm.Cond} (i : Nat) (h : tables_1[i]? = some d) : d.before a0 Z = true := hw _ (List.mem_of_getElem? h)
theorem ltI {a b : Int32} (h : a < b) : a.toInt < b.toInt := Int32.lt_iff_toInt_lt.mp h
theorem nltI {a b : Int32} (h : ¬ a < b) : ¬ a.toInt < b.toInt := mt Int32.lt_iff_toInt_lt.mpr h
theorem eqI {a b : Int32} (h : a = b) : a.toInt = b.toInt := congrArg Int32.toInt h
theorem neI {a b : Int32} (h : ¬ a = b) : ¬ a.toInt = b.toInt := mt Int32.toInt_inj.mp h
theorem ltJ {a b : Int64} (h : a < b) : a.toInt < b.toInt := Int64.lt_iff_toInt_lt.mp h
theorem nltJ {a b : Int64} (h : ¬ a < b) : ¬ a.toInt < b.toInt := mt Int64.lt_iff_toInt_lt.mpr h
theorem eqJ {a b : Int64} (h : a = b) : a.toInt = b.toInt := congrArg Int64.toInt h
theorem neJ {a b : Int64} (h : ¬ a = b) : ¬ a.toInt = b.toInt := mt Int64.toInt_inj.mp h
theorem own_eqI {args : Array Value} {s : State} {t : Term} {k : Int32} (h : (Jvm.Cond.eq t (.int k)).value args s none s [] = some true) : t.eval args s none [] s = some (.int k) := by
  obtain ⟨x, y, ex, ey, k1, k2⟩ := cmp_v (Or.inl h)
  obtain rfl : y = .int k := Option.some.inj (ey.symm.trans (Term.int_eval k))
  obtain ⟨z, rfl⟩ := k2
  rw [ex, gotT (Cond.eq_ints ex ey) h]
theorem own_eqJ {args : Array Value} {s : State} {t : Term} {k : Int64} (h : (Jvm.Cond.eq t (.long k)).value args s none s [] = some true) : t.eval args s none [] s = some (.long k) := by
  obtain ⟨x, y, ex, ey, k1, k2⟩ := cmp_v (Or.inl h)
  obtain rfl : y = .long k := Option.some.inj (ey.symm.trans (long_at k))
  obtain ⟨z, rfl⟩ := k2
  rw [ex, gotT (eq_L ex ey) h]
theorem own_eqR {args : Array Value} {s : State} {t u : Term} {b : Addr} (h : (Jvm.Cond.eq t u).value args s none s [] = some true) (hu : u.eval args s none [] s = some (.ref b)) : t.eval args s none [] s = some (.ref b) := by
  obtain ⟨x, y, ex, ey, k1, k2⟩ := cmp_v (Or.inl h)
  obtain rfl : y = .ref b := Option.some.inj (ey.symm.trans hu)
  have hx : x.isRef = true := k2.2
  rw [ex, gotT (eq_R ex ey hx rfl) h]
theorem own_len {args : Array Value} {s : State} {t : Term} {a : Addr} {cl : Cell} {ty : FieldType} {k : Int32} (ev : t.eval args s none [] s = some (.ref a)) (A : Arr s s.heap a cl ty) (h : (Term.length t).eval args s none [] s = some (.int k)) : cl.slots.size < 2 ^ 31 ∧ cl.slots.size.toInt32 = k := by
  have ha := A.fin (Vm.Alike.refl _)
  by_cases hl : cl.slots.size < 2 ^ 31
  · exact ⟨hl, Value.int.inj (Option.some.inj ((len_f ev ha hl).symm.trans h))⟩
  · exfalso; simp [Term.eval, ev, ha, hl] at h
theorem own_sel {Z : State} {a0 : Array Value} {y : MethodName} {n : Nat} (wi : (Jvm.Cond.instantiable y.cls n).before a0 Z = true) (wp : (Jvm.Cond.privateMethod y).before a0 Z = true) (wm : (Jvm.Cond.instanceMethod y).before a0 Z = true) (hy : y.cls ≠ "java/lang/invoke/MethodHandle" ∧ y.cls ≠ "java/lang/invoke/VarHandle") : (Jvm.Cond.selects y.cls y y).before a0 Z = true := by
  obtain ⟨c, k, h1, h2, h3, h4, -⟩ := Cond.instantiable_spec wi
  exact selects_self_of_private h1 h2 (by simp only [Bool.or_eq_false_iff] at h4; exact h4.1) (Cond.privateMethod_at wp) wm hy
def own_nz (x : Int64) : Int32 := if x = 0 then 0 else 1
theorem own_c_nz (x : Int64) : (x.toInt = 0 → (own_nz x).toInt = 0) ∧ (x.toInt ≠ 0 → (own_nz x).toInt = 1) := by
  unfold own_nz
  by_cases h : x = 0
  · subst h; exact ⟨fun _ => by decide, fun q => absurd (by decide) q⟩
  · rw [if_neg h]; exact ⟨fun q => absurd (Int64.toInt_inj.mp (q.trans (by decide : (0 : Int) = (0 : Int64).toInt))) h, fun _ => by decide⟩
theorem own_old_le {Z : State} {n0 : Nat} {h : Heap} (O : Old Z n0 h) : n0 ≤ h.size := O.1 ▸ O.2.1
abbrev M0 : MethodName := ⟨"com/example/bouncr/bouncr/decision/Effect", "opposite", "()Lcom/example/bouncr/bouncr/decision/Effect;"⟩
abbrev M1 : MethodName := ⟨"com/example/bouncr/bouncr/decision/Effect", "decision", "()Lcom/example/bouncr/bouncr/decision/ExtendedDecision;"⟩

def Env1 (Z : State) (a_PERMIT : Addr) (a_DENY : Addr) (a_ExtendedDecision_DENY : Addr) (a_ExtendedDecision_PERMIT : Addr) : Prop := Sta Z Z.heap "com/example/bouncr/bouncr/decision/Effect" "PERMIT" "Lcom/example/bouncr/bouncr/decision/Effect;" (.ref a_PERMIT) ∧
  Exa Z Z.heap a_PERMIT "com/example/bouncr/bouncr/decision/Effect" ∧
  Sta Z Z.heap "com/example/bouncr/bouncr/decision/Effect" "DENY" "Lcom/example/bouncr/bouncr/decision/Effect;" (.ref a_DENY) ∧
  Exa Z Z.heap a_DENY "com/example/bouncr/bouncr/decision/Effect" ∧
  Fld Z Z.heap a_DENY "java/lang/Enum" "ordinal" "I" (.int (1 : Int32)) ∧
  Fld Z Z.heap a_PERMIT "java/lang/Enum" "ordinal" "I" (.int (0 : Int32)) ∧
  Sta Z Z.heap "com/example/bouncr/bouncr/decision/ExtendedDecision" "DENY" "Lcom/example/bouncr/bouncr/decision/ExtendedDecision;" (.ref a_ExtendedDecision_DENY) ∧
  Exa Z Z.heap a_ExtendedDecision_DENY "com/example/bouncr/bouncr/decision/ExtendedDecision" ∧
  Fld Z Z.heap a_DENY "com/example/bouncr/bouncr/decision/Effect" "decision" "Lcom/example/bouncr/bouncr/decision/ExtendedDecision;" (.ref a_ExtendedDecision_DENY) ∧
  Sta Z Z.heap "com/example/bouncr/bouncr/decision/ExtendedDecision" "PERMIT" "Lcom/example/bouncr/bouncr/decision/ExtendedDecision;" (.ref a_ExtendedDecision_PERMIT) ∧
  Exa Z Z.heap a_ExtendedDecision_PERMIT "com/example/bouncr/bouncr/decision/ExtendedDecision" ∧
  Fld Z Z.heap a_PERMIT "com/example/bouncr/bouncr/decision/Effect" "decision" "Lcom/example/bouncr/bouncr/decision/ExtendedDecision;" (.ref a_ExtendedDecision_PERMIT) ∧
  Fld Z Z.heap a_ExtendedDecision_DENY "java/lang/Enum" "ordinal" "I" (.int (1 : Int32)) ∧
  Fld Z Z.heap a_ExtendedDecision_PERMIT "java/lang/Enum" "ordinal" "I" (.int (0 : Int32))
theorem ef0 (m : MethodId) (x0 : Int32) : entryFrame m #[(.int x0)] maxLocals = mkF m 0 #[.val (.int x0), .unset, .unset, .unset, .unset, .unset, .unset] [] := by first | (simp [entryFrame, mkF, argsToLocals, Value.category, maxLocals]; done) | rfl
theorem pn0 : plainName "com/example/bouncr/bouncr/decision/EffectOppositePinLaw" = true := by first | (simp [plainName, overriddenIn]; done) | decide +kernel
theorem ef1 (m : MethodId) (x0 : Addr) : entryFrame m #[(.ref x0)] 1 = mkF m 0 #[.val (.ref x0)] [] := by first | (simp [entryFrame, mkF, argsToLocals, Value.category]; done) | rfl
theorem pn1 : plainName "com/example/bouncr/bouncr/decision/Effect" = true := by first | (simp [plainName, overriddenIn]; done) | decide +kernel
theorem d1_0 : decode prog_49_method_7_code 0 = .ok (.aload_n 0, 1) := by decide +kernel
theorem d1_1 : decode prog_49_method_7_code 1 = .ok (.getstatic 3, 3) := by decide +kernel
theorem d1_4 : decode prog_49_method_7_code 4 = .ok (.if_acmp .ne 9, 3) := by decide +kernel
theorem d1_7 : decode prog_49_method_7_code 7 = .ok (.getstatic 7, 3) := by decide +kernel
theorem d1_10 : decode prog_49_method_7_code 10 = .ok (.goto 6, 3) := by decide +kernel
theorem d1_16 : decode prog_49_method_7_code 16 = .ok (.areturn, 1) := by decide +kernel
def Q1_0 (Z : State) (a_PERMIT : Addr) (a_DENY : Addr) (a_ExtendedDecision_DENY : Addr) (a_ExtendedDecision_PERMIT : Addr) (h0 : Heap) (n0 : Nat) (v : Option Value) (h : Heap) (L : List Loc) : Prop := Fr n0 L ∧ h = h0 ∧ ((v = some (.ref a_DENY)))
set_option maxRecDepth 65536 in
set_option maxHeartbeats 40000000 in
theorem rm1_0 (l : Launch) (Z : State) (a0 : Array Value) (hw : ∀ d ∈ tables_1, d.before a0 Z = true) (ws : List Jvm.Cond) (a_PERMIT : Addr) (a_DENY : Addr) (a_ExtendedDecision_DENY : Addr) (a_ExtendedDecision_PERMIT : Addr) (h0 : Heap) (n0 : Nat) (O0 : Old Z n0 h0) (HE : Env1 Z a_PERMIT a_DENY a_ExtendedDecision_DENY a_ExtendedDecision_PERMIT)  :
    MetFree l M0 (head1 (Jvm.Cond.code M0 prog_49_method_7_code 1 (some (.object "com/example/bouncr/bouncr/decision/Effect")) :: ws) ({ frames := 0, cells := 0, slots := 0, locals := 0 } : Room)) (fun a U => a = #[(.ref a_PERMIT)] ∧ Z.Warmed39 U.vm ∧ U.heap = h0) (fun _ _ _ _ _ => True) (fun _ U o U' => ∃ v L, o = .returned v ∧ Q1_0 Z a_PERMIT a_DENY a_ExtendedDecision_DENY a_ExtendedDecision_PERMIT h0 n0 v U'.heap L ∧ FrameEnd U o U' L ({ frames := 0, cells := 0, slots := 0, locals := 0 } : Room).cells ({ frames := 0, cells := 0, slots := 0, locals := 0 } : Room).slots) := by
 refine MetFree.of_bodySF (plainFor_of_name pn1) hisR ?_
 intro p e s m args below meth c s₁ Bd hml0 hP hK
 obtain ⟨rfl, hZ, hh⟩ := hP
 have hx := Bd.exec
 have hby := Bd.bytes
 have hml : c.maxLocals = 1 := hml0
 have hown : s.vm.findClass "com/example/bouncr/bouncr/decision/Effect" = some m.cls := findClass_of_methodNamed Bd.named
 have hnm := (name_of_methodNamed Bd.named Bd.method).1
 have X0 : Stand p l e ({ frames := 0, cells := 0, slots := 0, locals := 0 } : Room) s m #[(.ref a_PERMIT)] below meth c s₁ [] 0 0 := Stand.of_body Bd
 have e0 : s₁.heap = h0 := by rw [← hh, Bd.state]; rfl
 have N0 := Fr.nil n0
 let S0 : State → Prop := fun t => Steps p.tables e below (s₁.setTop (entryFrame m #[(.ref a_PERMIT)] 1)) t
 have p0 : ∀ t, St p e below s₁ (mkF m 0 #[.val (.ref a_PERMIT)] []) t → S0 t := fun t k => castTop (ef1 m a_PERMIT) k
 have HE' := HE
 obtain ⟨Sa_PERMIT, Ea_PERMIT, Sa_DENY, Ea_DENY, Fa_DENY_ordinal, Fa_PERMIT_ordinal, Sa_ExtendedDecision_DENY, Ea_ExtendedDecision_DENY, Fa_DENY_decision, Sa_ExtendedDecision_PERMIT, Ea_ExtendedDecision_PERMIT, Fa_PERMIT_decision, Fa_ExtendedDecision_DENY_ordinal, Fa_ExtendedDecision_PERMIT_ordinal⟩ := HE
 have p1 : ∀ t, St p e below s₁ (mkF m 1 #[.val (.ref a_PERMIT)] [(.ref a_PERMIT)]) t → S0 t := fun t k => p0 t (by
   show St p e below s₁ (mkF m 0 #[.val (.ref a_PERMIT)] []) t
   refine XS.aloadN X0.here hx rfl (hb hby d1_0) rfl rfl ?_
   exact k)
 obtain ⟨T2, X2, e2, st2⟩ := getS2 X0 hx hZ hown (host := "") (Or.inl (ww hw 8 rfl)) Via.refl e0 (Sa_PERMIT.ext O0.2) (g := (mkF m 1 #[.val (.ref a_PERMIT)] [(.ref a_PERMIT)])) rfl (hb hby d1_1)
 have p3 : ∀ t, St p e below T2 (mkF m 4 #[.val (.ref a_PERMIT)] [(.ref a_PERMIT), (.ref a_PERMIT)]) t → S0 t := fun t k => p1 t (st2 t k)
 have p4 : ∀ t, St p e below T2 (mkF m 7 #[.val (.ref a_PERMIT)] []) t → S0 t := fun t k => p3 t (by
   show St p e below T2 (mkF m 4 #[.val (.ref a_PERMIT)] [(.ref a_PERMIT), (.ref a_PERMIT)]) t
   refine Jvm.RoadKit.acmp (g := (mkF m 4 #[.val (.ref a_PERMIT)] [(.ref a_PERMIT), (.ref a_PERMIT)])) X2 hx rfl rfl rfl (pc0 := 4) (pc' := 7) (same := true) rfl (hb hby d1_4) rfl (decide_eq_true rfl) (by decide) (by decide) ?_
   exact k)
 obtain ⟨T5, X5, e5, st5⟩ := getS2 X2 hx hZ hown (host := "") (Or.inl (ww hw 9 rfl)) Via.refl e2 (Sa_DENY.ext O0.2) (g := (mkF m 7 #[.val (.ref a_PERMIT)] [])) rfl (hb hby d1_7)
 have p6 : ∀ t, St p e below T5 (mkF m 10 #[.val (.ref a_PERMIT)] [(.ref a_DENY)]) t → S0 t := fun t k => p4 t (st5 t k)
 have p7 : ∀ t, St p e below T5 (mkF m 16 #[.val (.ref a_PERMIT)] [(.ref a_DENY)]) t → S0 t := fun t k => p6 t (by
   show St p e below T5 (mkF m 10 #[.val (.ref a_PERMIT)] [(.ref a_DENY)]) t
   refine XS.goto X5.here hx rfl (pc0 := 10) (pc' := 16) rfl (hb hby d1_10) (by decide) (by decide) ?_
   exact k)
 obtain ⟨fs, hr, hrun, hended, hW, hsame⟩ := X5.leave (v := some (.ref a_DENY)) (fun h => by rw [Bd.returns] at h; cases h)
 refine ⟨_, _, p7 _ ?_, hrun, hended, _, _, rfl, ?_, ⟨_, rfl⟩, hW, hsame.mono (by decide) (by decide)⟩
 · exact retOut X5 hx Bd.returns rfl (Or.inr (Or.inr (Or.inr (Or.inr ⟨rfl, rfl, rfl⟩)))) (hb hby d1_16) hr
 · show Q1_0 Z a_PERMIT a_DENY a_ExtendedDecision_DENY a_ExtendedDecision_PERMIT h0 n0 _ T5.heap _
   exact ⟨N0, e5, rfl⟩
theorem pd0 : parseMethodDescriptor "()Lcom/example/bouncr/bouncr/decision/Effect;" = some ⟨[], some (.object "com/example/bouncr/bouncr/decision/Effect")⟩ := by decide +kernel
theorem d1_13 : decode prog_49_method_7_code 13 = .ok (.getstatic 3, 3) := by decide +kernel
def Q1_1 (Z : State) (a_PERMIT : Addr) (a_DENY : Addr) (a_ExtendedDecision_DENY : Addr) (a_ExtendedDecision_PERMIT : Addr) (h0 : Heap) (n0 : Nat) (v : Option Value) (h : Heap) (L : List Loc) : Prop := Fr n0 L ∧ h = h0 ∧ ((v = some (.ref a_PERMIT)))
set_option maxRecDepth 65536 in
set_option maxHeartbeats 40000000 in
theorem rm1_1 (l : Launch) (Z : State) (a0 : Array Value) (hw : ∀ d ∈ tables_1, d.before a0 Z = true) (ws : List Jvm.Cond) (a_PERMIT : Addr) (a_DENY : Addr) (a_ExtendedDecision_DENY : Addr) (a_ExtendedDecision_PERMIT : Addr) (h0 : Heap) (n0 : Nat) (O0 : Old Z n0 h0) (HE : Env1 Z a_PERMIT a_DENY a_ExtendedDecision_DENY a_ExtendedDecision_PERMIT)  :
    MetFree l M0 (head1 (Jvm.Cond.code M0 prog_49_method_7_code 1 (some (.object "com/example/bouncr/bouncr/decision/Effect")) :: ws) ({ frames := 0, cells := 0, slots := 0, locals := 0 } : Room)) (fun a U => a = #[(.ref a_DENY)] ∧ Z.Warmed39 U.vm ∧ U.heap = h0) (fun _ _ _ _ _ => True) (fun _ U o U' => ∃ v L, o = .returned v ∧ Q1_1 Z a_PERMIT a_DENY a_ExtendedDecision_DENY a_ExtendedDecision_PERMIT h0 n0 v U'.heap L ∧ FrameEnd U o U' L ({ frames := 0, cells := 0, slots := 0, locals := 0 } : Room).cells ({ frames := 0, cells := 0, slots := 0, locals := 0 } : Room).slots) := by
 refine MetFree.of_bodySF (plainFor_of_name pn1) hisR ?_
 intro p e s m args below meth c s₁ Bd hml0 hP hK
 obtain ⟨rfl, hZ, hh⟩ := hP
 have hx := Bd.exec
 have hby := Bd.bytes
 have hml : c.maxLocals = 1 := hml0
 have hown : s.vm.findClass "com/example/bouncr/bouncr/decision/Effect" = some m.cls := findClass_of_methodNamed Bd.named
 have hnm := (name_of_methodNamed Bd.named Bd.method).1
 have X0 : Stand p l e ({ frames := 0, cells := 0, slots := 0, locals := 0 } : Room) s m #[(.ref a_DENY)] below meth c s₁ [] 0 0 := Stand.of_body Bd
 have e0 : s₁.heap = h0 := by rw [← hh, Bd.state]; rfl
 have N0 := Fr.nil n0
 let S0 : State → Prop := fun t => Steps p.tables e below (s₁.setTop (entryFrame m #[(.ref a_DENY)] 1)) t
 have p0 : ∀ t, St p e below s₁ (mkF m 0 #[.val (.ref a_DENY)] []) t → S0 t := fun t k => castTop (ef1 m a_DENY) k
 have HE' := HE
 obtain ⟨Sa_PERMIT, Ea_PERMIT, Sa_DENY, Ea_DENY, Fa_DENY_ordinal, Fa_PERMIT_ordinal, Sa_ExtendedDecision_DENY, Ea_ExtendedDecision_DENY, Fa_DENY_decision, Sa_ExtendedDecision_PERMIT, Ea_ExtendedDecision_PERMIT, Fa_PERMIT_decision, Fa_ExtendedDecision_DENY_ordinal, Fa_ExtendedDecision_PERMIT_ordinal⟩ := HE
 have p1 : ∀ t, St p e below s₁ (mkF m 1 #[.val (.ref a_DENY)] [(.ref a_DENY)]) t → S0 t := fun t k => p0 t (by
   show St p e below s₁ (mkF m 0 #[.val (.ref a_DENY)] []) t
   refine XS.aloadN X0.here hx rfl (hb hby d1_0) rfl rfl ?_
   exact k)
 obtain ⟨T2, X2, e2, st2⟩ := getS2 X0 hx hZ hown (host := "") (Or.inl (ww hw 8 rfl)) Via.refl e0 (Sa_PERMIT.ext O0.2) (g := (mkF m 1 #[.val (.ref a_DENY)] [(.ref a_DENY)])) rfl (hb hby d1_1)
 have p3 : ∀ t, St p e below T2 (mkF m 4 #[.val (.ref a_DENY)] [(.ref a_PERMIT), (.ref a_DENY)]) t → S0 t := fun t k => p1 t (st2 t k)
 have p4 : ∀ t, St p e below T2 (mkF m 13 #[.val (.ref a_DENY)] []) t → S0 t := fun t k => p3 t (by
   show St p e below T2 (mkF m 4 #[.val (.ref a_DENY)] [(.ref a_PERMIT), (.ref a_DENY)]) t
   refine Jvm.RoadKit.acmp (g := (mkF m 4 #[.val (.ref a_DENY)] [(.ref a_PERMIT), (.ref a_DENY)])) X2 hx rfl rfl rfl (pc0 := 4) (pc' := 13) (same := false) rfl (hb hby d1_4) rfl (decide_eq_false fun q => (Fld.ne Fa_DENY_ordinal Fa_PERMIT_ordinal (fun q => absurd (Value.int.inj q) (by decide))) (Value.ref.inj q)) (by decide) (by decide) ?_
   exact k)
 obtain ⟨T5, X5, e5, st5⟩ := getS2 X2 hx hZ hown (host := "") (Or.inl (ww hw 8 rfl)) Via.refl e2 (Sa_PERMIT.ext O0.2) (g := (mkF m 13 #[.val (.ref a_DENY)] [])) rfl (hb hby d1_13)
 have p6 : ∀ t, St p e below T5 (mkF m 16 #[.val (.ref a_DENY)] [(.ref a_PERMIT)]) t → S0 t := fun t k => p4 t (st5 t k)
 obtain ⟨fs, hr, hrun, hended, hW, hsame⟩ := X5.leave (v := some (.ref a_PERMIT)) (fun h => by rw [Bd.returns] at h; cases h)
 refine ⟨_, _, p6 _ ?_, hrun, hended, _, _, rfl, ?_, ⟨_, rfl⟩, hW, hsame.mono (by decide) (by decide)⟩
 · exact retOut X5 hx Bd.returns rfl (Or.inr (Or.inr (Or.inr (Or.inr ⟨rfl, rfl, rfl⟩)))) (hb hby d1_16) hr
 · show Q1_1 Z a_PERMIT a_DENY a_ExtendedDecision_DENY a_ExtendedDecision_PERMIT h0 n0 _ T5.heap _
   exact ⟨N0, e5, rfl⟩
theorem ef2 (m : MethodId) (x0 : Addr) : entryFrame m #[(.ref x0)] 1 = mkF m 0 #[.val (.ref x0)] [] := by first | (simp [entryFrame, mkF, argsToLocals, Value.category]; done) | rfl
theorem d2_0 : decode prog_49_method_5_code 0 = .ok (.aload_n 0, 1) := by decide +kernel
theorem d2_1 : decode prog_49_method_5_code 1 = .ok (.getfield 29, 3) := by decide +kernel
theorem d2_4 : decode prog_49_method_5_code 4 = .ok (.areturn, 1) := by decide +kernel
def Q2_2 (Z : State) (a_PERMIT : Addr) (a_DENY : Addr) (a_ExtendedDecision_DENY : Addr) (a_ExtendedDecision_PERMIT : Addr) (h0 : Heap) (n0 : Nat) (v : Option Value) (h : Heap) (L : List Loc) : Prop := Fr n0 L ∧ h = h0 ∧ ((v = some (.ref a_ExtendedDecision_DENY)))
set_option maxRecDepth 65536 in
set_option maxHeartbeats 40000000 in
theorem rm2_2 (l : Launch) (Z : State) (a0 : Array Value) (hw : ∀ d ∈ tables_1, d.before a0 Z = true) (ws : List Jvm.Cond) (a_PERMIT : Addr) (a_DENY : Addr) (a_ExtendedDecision_DENY : Addr) (a_ExtendedDecision_PERMIT : Addr) (h0 : Heap) (n0 : Nat) (O0 : Old Z n0 h0) (HE : Env1 Z a_PERMIT a_DENY a_ExtendedDecision_DENY a_ExtendedDecision_PERMIT)  :
    MetFree l M1 (head1 (Jvm.Cond.code M1 prog_49_method_5_code 1 (some (.object "com/example/bouncr/bouncr/decision/ExtendedDecision")) :: ws) ({ frames := 0, cells := 0, slots := 0, locals := 0 } : Room)) (fun a U => a = #[(.ref a_DENY)] ∧ Z.Warmed39 U.vm ∧ U.heap = h0) (fun _ _ _ _ _ => True) (fun _ U o U' => ∃ v L, o = .returned v ∧ Q2_2 Z a_PERMIT a_DENY a_ExtendedDecision_DENY a_ExtendedDecision_PERMIT h0 n0 v U'.heap L ∧ FrameEnd U o U' L ({ frames := 0, cells := 0, slots := 0, locals := 0 } : Room).cells ({ frames := 0, cells := 0, slots := 0, locals := 0 } : Room).slots) := by
 refine MetFree.of_bodySF (plainFor_of_name pn1) hisR ?_
 intro p e s m args below meth c s₁ Bd hml0 hP hK
 obtain ⟨rfl, hZ, hh⟩ := hP
 have hx := Bd.exec
 have hby := Bd.bytes
 have hml : c.maxLocals = 1 := hml0
 have hown : s.vm.findClass "com/example/bouncr/bouncr/decision/Effect" = some m.cls := findClass_of_methodNamed Bd.named
 have hnm := (name_of_methodNamed Bd.named Bd.method).1
 have X0 : Stand p l e ({ frames := 0, cells := 0, slots := 0, locals := 0 } : Room) s m #[(.ref a_DENY)] below meth c s₁ [] 0 0 := Stand.of_body Bd
 have e0 : s₁.heap = h0 := by rw [← hh, Bd.state]; rfl
 have N0 := Fr.nil n0
 let S0 : State → Prop := fun t => Steps p.tables e below (s₁.setTop (entryFrame m #[(.ref a_DENY)] 1)) t
 have p0 : ∀ t, St p e below s₁ (mkF m 0 #[.val (.ref a_DENY)] []) t → S0 t := fun t k => castTop (ef2 m a_DENY) k
 have HE' := HE
 obtain ⟨Sa_PERMIT, Ea_PERMIT, Sa_DENY, Ea_DENY, Fa_DENY_ordinal, Fa_PERMIT_ordinal, Sa_ExtendedDecision_DENY, Ea_ExtendedDecision_DENY, Fa_DENY_decision, Sa_ExtendedDecision_PERMIT, Ea_ExtendedDecision_PERMIT, Fa_PERMIT_decision, Fa_ExtendedDecision_DENY_ordinal, Fa_ExtendedDecision_PERMIT_ordinal⟩ := HE
 have p1 : ∀ t, St p e below s₁ (mkF m 1 #[.val (.ref a_DENY)] [(.ref a_DENY)]) t → S0 t := fun t k => p0 t (by
   show St p e below s₁ (mkF m 0 #[.val (.ref a_DENY)] []) t
   refine XS.aloadN X0.here hx rfl (hb hby d2_0) rfl rfl ?_
   exact k)
 obtain ⟨T2, X2, e2, st2⟩ := getF X0 hx hZ hown (host := "") (Or.inl (ww hw 16 rfl)) Via.refl e0 (Fa_DENY_decision.ext O0.2) (g := (mkF m 1 #[.val (.ref a_DENY)] [(.ref a_DENY)])) rfl rfl (hb hby d2_1)
 have p3 : ∀ t, St p e below T2 (mkF m 4 #[.val (.ref a_DENY)] [(.ref a_ExtendedDecision_DENY)]) t → S0 t := fun t k => p1 t (st2 t k)
 obtain ⟨fs, hr, hrun, hended, hW, hsame⟩ := X2.leave (v := some (.ref a_ExtendedDecision_DENY)) (fun h => by rw [Bd.returns] at h; cases h)
 refine ⟨_, _, p3 _ ?_, hrun, hended, _, _, rfl, ?_, ⟨_, rfl⟩, hW, hsame.mono (by decide) (by decide)⟩
 · exact retOut X2 hx Bd.returns rfl (Or.inr (Or.inr (Or.inr (Or.inr ⟨rfl, rfl, rfl⟩)))) (hb hby d2_4) hr
 · show Q2_2 Z a_PERMIT a_DENY a_ExtendedDecision_DENY a_ExtendedDecision_PERMIT h0 n0 _ T2.heap _
   exact ⟨N0, e2, rfl⟩
theorem pd1 : parseMethodDescriptor "()Lcom/example/bouncr/bouncr/decision/ExtendedDecision;" = some ⟨[], some (.object "com/example/bouncr/bouncr/decision/ExtendedDecision")⟩ := by decide +kernel
def Q2_3 (Z : State) (a_PERMIT : Addr) (a_DENY : Addr) (a_ExtendedDecision_DENY : Addr) (a_ExtendedDecision_PERMIT : Addr) (h0 : Heap) (n0 : Nat) (v : Option Value) (h : Heap) (L : List Loc) : Prop := Fr n0 L ∧ h = h0 ∧ ((v = some (.ref a_ExtendedDecision_PERMIT)))
set_option maxRecDepth 65536 in
set_option maxHeartbeats 40000000 in
theorem rm2_3 (l : Launch) (Z : State) (a0 : Array Value) (hw : ∀ d ∈ tables_1, d.before a0 Z = true) (ws : List Jvm.Cond) (a_PERMIT : Addr) (a_DENY : Addr) (a_ExtendedDecision_DENY : Addr) (a_ExtendedDecision_PERMIT : Addr) (h0 : Heap) (n0 : Nat) (O0 : Old Z n0 h0) (HE : Env1 Z a_PERMIT a_DENY a_ExtendedDecision_DENY a_ExtendedDecision_PERMIT)  :
    MetFree l M1 (head1 (Jvm.Cond.code M1 prog_49_method_5_code 1 (some (.object "com/example/bouncr/bouncr/decision/ExtendedDecision")) :: ws) ({ frames := 0, cells := 0, slots := 0, locals := 0 } : Room)) (fun a U => a = #[(.ref a_PERMIT)] ∧ Z.Warmed39 U.vm ∧ U.heap = h0) (fun _ _ _ _ _ => True) (fun _ U o U' => ∃ v L, o = .returned v ∧ Q2_3 Z a_PERMIT a_DENY a_ExtendedDecision_DENY a_ExtendedDecision_PERMIT h0 n0 v U'.heap L ∧ FrameEnd U o U' L ({ frames := 0, cells := 0, slots := 0, locals := 0 } : Room).cells ({ frames := 0, cells := 0, slots := 0, locals := 0 } : Room).slots) := by
 refine MetFree.of_bodySF (plainFor_of_name pn1) hisR ?_
 intro p e s m args below meth c s₁ Bd hml0 hP hK
 obtain ⟨rfl, hZ, hh⟩ := hP
 have hx := Bd.exec
 have hby := Bd.bytes
 have hml : c.maxLocals = 1 := hml0
 have hown : s.vm.findClass "com/example/bouncr/bouncr/decision/Effect" = some m.cls := findClass_of_methodNamed Bd.named
 have hnm := (name_of_methodNamed Bd.named Bd.method).1
 have X0 : Stand p l e ({ frames := 0, cells := 0, slots := 0, locals := 0 } : Room) s m #[(.ref a_PERMIT)] below meth c s₁ [] 0 0 := Stand.of_body Bd
 have e0 : s₁.heap = h0 := by rw [← hh, Bd.state]; rfl
 have N0 := Fr.nil n0
 let S0 : State → Prop := fun t => Steps p.tables e below (s₁.setTop (entryFrame m #[(.ref a_PERMIT)] 1)) t
 have p0 : ∀ t, St p e below s₁ (mkF m 0 #[.val (.ref a_PERMIT)] []) t → S0 t := fun t k => castTop (ef2 m a_PERMIT) k
 have HE' := HE
 obtain ⟨Sa_PERMIT, Ea_PERMIT, Sa_DENY, Ea_DENY, Fa_DENY_ordinal, Fa_PERMIT_ordinal, Sa_ExtendedDecision_DENY, Ea_ExtendedDecision_DENY, Fa_DENY_decision, Sa_ExtendedDecision_PERMIT, Ea_ExtendedDecision_PERMIT, Fa_PERMIT_decision, Fa_ExtendedDecision_DENY_ordinal, Fa_ExtendedDecision_PERMIT_ordinal⟩ := HE
 have p1 : ∀ t, St p e below s₁ (mkF m 1 #[.val (.ref a_PERMIT)] [(.ref a_PERMIT)]) t → S0 t := fun t k => p0 t (by
   show St p e below s₁ (mkF m 0 #[.val (.ref a_PERMIT)] []) t
   refine XS.aloadN X0.here hx rfl (hb hby d2_0) rfl rfl ?_
   exact k)
 obtain ⟨T2, X2, e2, st2⟩ := getF X0 hx hZ hown (host := "") (Or.inl (ww hw 16 rfl)) Via.refl e0 (Fa_PERMIT_decision.ext O0.2) (g := (mkF m 1 #[.val (.ref a_PERMIT)] [(.ref a_PERMIT)])) rfl rfl (hb hby d2_1)
 have p3 : ∀ t, St p e below T2 (mkF m 4 #[.val (.ref a_PERMIT)] [(.ref a_ExtendedDecision_PERMIT)]) t → S0 t := fun t k => p1 t (st2 t k)
 obtain ⟨fs, hr, hrun, hended, hW, hsame⟩ := X2.leave (v := some (.ref a_ExtendedDecision_PERMIT)) (fun h => by rw [Bd.returns] at h; cases h)
 refine ⟨_, _, p3 _ ?_, hrun, hended, _, _, rfl, ?_, ⟨_, rfl⟩, hW, hsame.mono (by decide) (by decide)⟩
 · exact retOut X2 hx Bd.returns rfl (Or.inr (Or.inr (Or.inr (Or.inr ⟨rfl, rfl, rfl⟩)))) (hb hby d2_4) hr
 · show Q2_3 Z a_PERMIT a_DENY a_ExtendedDecision_DENY a_ExtendedDecision_PERMIT h0 n0 _ T2.heap _
   exact ⟨N0, e2, rfl⟩
def Q0 (Z : State) (a_PERMIT : Addr) (a_DENY : Addr) (a_ExtendedDecision_DENY : Addr) (a_ExtendedDecision_PERMIT : Addr) (i0 : Int32) (h0 : Heap) (n0 : Nat) (v : Option Value) (h : Heap) (L : List Loc) : Prop := v = some (.int 1) ∧ Fr n0 L
set_option maxRecDepth 65536 in
set_option maxHeartbeats 40000000 in
theorem rm0 (l : Launch) (Z : State) (a0 : Array Value) (hw : ∀ d ∈ tables_1, d.before a0 Z = true) (ws : List Jvm.Cond) (a_PERMIT : Addr) (a_DENY : Addr) (a_ExtendedDecision_DENY : Addr) (a_ExtendedDecision_PERMIT : Addr) (i0 : Int32) (h0 : Heap) (n0 : Nat) (O0 : Old Z n0 h0) (HE : Env1 Z a_PERMIT a_DENY a_ExtendedDecision_DENY a_ExtendedDecision_PERMIT)  :
    MetFree l x (head1 (Jvm.Cond.code x code maxLocals ret :: ws) room_1) (fun a U => a = #[(.int i0)] ∧ Z.Warmed39 U.vm ∧ U.heap = h0) (fun _ _ _ _ _ => True) (fun _ U o U' => ∃ v L, o = .returned v ∧ Q0 Z a_PERMIT a_DENY a_ExtendedDecision_DENY a_ExtendedDecision_PERMIT i0 h0 n0 v U'.heap L ∧ FrameEnd U o U' L 0 0) := by
 refine MetFree.of_bodySF (plainFor_of_name pn0) hisR ?_
 intro p e s m args below meth c s₁ Bd hml0 hP hK
 obtain ⟨rfl, hZ, hh⟩ := hP
 have hx := Bd.exec
 have hby := Bd.bytes
 have hml : c.maxLocals = 7 := hml0
 have hown : s.vm.findClass "com/example/bouncr/bouncr/decision/EffectOppositePinLaw" = some m.cls := findClass_of_methodNamed Bd.named
 have hnm := (name_of_methodNamed Bd.named Bd.method).1
 have X0 : Stand p l e room_1 s m #[(.int i0)] below meth c s₁ [] 0 0 := Stand.of_body Bd
 have e0 : s₁.heap = h0 := by rw [← hh, Bd.state]; rfl
 have N0 := Fr.nil n0
 let S0 : State → Prop := fun t => Steps p.tables e below (s₁.setTop (entryFrame m #[(.int i0)] maxLocals)) t
 let Ls1 : Array Slot := #[.val (.int i0), .unset, .unset, .unset, .unset, .unset, .unset]
 have p0 : ∀ t, St p e below s₁ (mkF m 0 Ls1 []) t → S0 t := fun t k => castTop (ef0 m i0) k
 have HE' := HE
 obtain ⟨Sa_PERMIT, Ea_PERMIT, Sa_DENY, Ea_DENY, Fa_DENY_ordinal, Fa_PERMIT_ordinal, Sa_ExtendedDecision_DENY, Ea_ExtendedDecision_DENY, Fa_DENY_decision, Sa_ExtendedDecision_PERMIT, Ea_ExtendedDecision_PERMIT, Fa_PERMIT_decision, Fa_ExtendedDecision_DENY_ordinal, Fa_ExtendedDecision_PERMIT_ordinal⟩ := HE
 have p2 : ∀ t, St p e below s₁ (mkF m 3 Ls1 [(.int (i0 &&& (1 : Int32)))]) t → S0 t := fun t k => p0 t (by
   show St p e below s₁ (mkF m 0 Ls1 []) t
   refine XS.iloadN X0.here hx rfl (hb hby at_0) rfl ?_
   show St p e below s₁ (mkF m 1 Ls1 [(.int i0)]) t
   refine XT.iconstV X0.here hx rfl (1 : Int32) (hb hby at_1) (by decide) ?_
   show St p e below s₁ (mkF m 2 Ls1 [(.int (1 : Int32)), (.int i0)]) t
   refine XS.iand X0.here hx rfl (hb hby at_2) rfl ?_
   exact k)
 by_cases g3 : (i0 &&& (1 : Int32)) = (0 : Int32)
 ·
  have p4 : ∀ t, St p e below s₁ (mkF m 6 Ls1 []) t → S0 t := fun t k => p2 t (by
    show St p e below s₁ (mkF m 3 Ls1 [(.int (i0 &&& (1 : Int32)))]) t
    refine XS.ifNo X0.here hx rfl (hb hby at_3) rfl ((if0 _ _).trans (teq g3).2) ?_
    exact k)
  obtain ⟨T5, X5, e5, st5⟩ := getS2 X0 hx hZ hown (host := "") (Or.inl (ww hw 0 rfl)) Via.refl e0 (Sa_PERMIT.ext O0.2) (g := (mkF m 6 Ls1 [])) rfl (hb hby at_6)
  have p6 : ∀ t, St p e below T5 (mkF m 9 Ls1 [(.ref a_PERMIT)]) t → S0 t := fun t k => p4 t (st5 t k)
  let Ls7 : Array Slot := #[.val (.int i0), .val (.ref a_PERMIT), .unset, .unset, .unset, .unset, .unset]
  have p8 : ∀ t, St p e below T5 (mkF m 17 Ls7 [(.ref a_PERMIT)]) t → S0 t := fun t k => p6 t (by
    show St p e below T5 (mkF m 9 Ls1 [(.ref a_PERMIT)]) t
    refine XS.goto X5.here hx rfl (pc0 := 9) (pc' := 15) rfl (hb hby at_9) (by decide) (by decide) ?_
    show St p e below T5 (mkF m 15 Ls1 [(.ref a_PERMIT)]) t
    refine XS.astoreN X5.here hx rfl (hb hby at_15) rfl rfl (l' := Ls7) rfl ?_
    show St p e below T5 (mkF m 16 Ls7 []) t
    refine XS.aloadN X5.here hx rfl (hb hby at_16) rfl rfl ?_
    exact k)
  obtain ⟨cqc9, kqc9, qc9a, qc9b, qc9c⟩ := isOf hZ e5 (Ea_PERMIT.ext O0.2)
  obtain ⟨_, _, ⟨Tc9, Lc9, kc9, nc9⟩, -, Xc9, ⟨Lcc9, hQc9, lc9, yc9, zc9⟩, stc9⟩ := X5.virtualBack hx (y := M0) (z := M0) hown (mvT hZ (ww hw 3 rfl)) (mvT hZ (ww hw 4 rfl)) (notFace_of_selects (args := #[]) (mvT hZ (ww hw 6 rfl))) (mvT hZ (ww hw 6 rfl)) (mvT hZ (ww hw 5 rfl)) (by decide) (backOf (W := 0) (rm1_0 l Z a0 hw [] a_PERMIT a_DENY a_ExtendedDecision_DENY a_ExtendedDecision_PERMIT h0 n0 O0 HE' ) hZ (ww hw 7 rfl) (ww hw 1 rfl) (by decide) (by decide)) qc9a qc9c (g := (mkF m 17 Ls7 [(.ref a_PERMIT)])) rfl (by rw [hml]; rfl) (Steps.refl _) (argsL := []) (rest := []) (lenOf pd0 rfl) rfl (by show 2 * 0 + _ ≤ _; exact Nat.le_of_eq rfl) (hb hby at_17) (fun _ _ => ⟨rfl, e5, (by decide : 0 + 0 ≤ _), (by decide : 0 + 0 ≤ _)⟩)
  dsimp only [Pt.U, Pt.locs, Pt.cells, Pt.slots] at Xc9 lc9 yc9 zc9 stc9 hQc9
  subst lc9 yc9 zc9
  obtain ⟨Nqc9, ec9, hAc9⟩ := hQc9
  have Nc9 := Fr.app N0 Nqc9
  obtain rfl := hAc9
  have p10 : ∀ t, St p e below Tc9 (mkF m 20 Ls7 [(.ref a_DENY)]) t → S0 t := fun t k => p8 t (stc9.trans k)
  let Ls11 : Array Slot := #[.val (.int i0), .val (.ref a_PERMIT), .val (.ref a_DENY), .unset, .unset, .unset, .unset]
  have p12 : ∀ t, St p e below Tc9 (mkF m 33 Ls11 [(.ref a_DENY)]) t → S0 t := fun t k => p10 t (by
    show St p e below Tc9 (mkF m 20 Ls7 [(.ref a_DENY)]) t
    refine XS.astoreN Xc9.here hx rfl (hb hby at_20) rfl rfl (l' := Ls11) rfl ?_
    show St p e below Tc9 (mkF m 21 Ls11 []) t
    refine XS.aloadN Xc9.here hx rfl (hb hby at_21) rfl rfl ?_
    show St p e below Tc9 (mkF m 22 Ls11 [(.ref a_DENY)]) t
    refine XS.ifnullNo Xc9.here hx rfl (hb hby at_22) rfl ?_
    show St p e below Tc9 (mkF m 25 Ls11 []) t
    refine XS.aloadN Xc9.here hx rfl (hb hby at_25) rfl rfl ?_
    show St p e below Tc9 (mkF m 26 Ls11 [(.ref a_DENY)]) t
    refine XS.aloadN Xc9.here hx rfl (hb hby at_26) rfl rfl ?_
    show St p e below Tc9 (mkF m 27 Ls11 [(.ref a_PERMIT), (.ref a_DENY)]) t
    refine Jvm.RoadKit.acmp (g := (mkF m 27 Ls11 [(.ref a_PERMIT), (.ref a_DENY)])) Xc9 hx rfl rfl rfl (pc0 := 27) (pc' := 32) (same := false) rfl (hb hby at_27) rfl (decide_eq_false fun q => (Fld.ne Fa_DENY_ordinal Fa_PERMIT_ordinal (fun q => absurd (Value.int.inj q) (by decide))) (Value.ref.inj q)) (by decide) (by decide) ?_
    show St p e below Tc9 (mkF m 32 Ls11 []) t
    refine XS.aloadN Xc9.here hx rfl (hb hby at_32) rfl rfl ?_
    exact k)
  obtain ⟨cqc13, kqc13, qc13a, qc13b, qc13c⟩ := isOf hZ ec9 (Ea_DENY.ext O0.2)
  obtain ⟨_, _, ⟨Tc13, Lc13, kc13, nc13⟩, -, Xc13, ⟨Lcc13, hQc13, lc13, yc13, zc13⟩, stc13⟩ := Xc9.virtualBack hx (y := M0) (z := M0) hown (mvT hZ (ww hw 3 rfl)) (mvT hZ (ww hw 4 rfl)) (notFace_of_selects (args := #[]) (mvT hZ (ww hw 6 rfl))) (mvT hZ (ww hw 6 rfl)) (mvT hZ (ww hw 5 rfl)) (by decide) (backOf (W := 0) (rm1_1 l Z a0 hw [] a_PERMIT a_DENY a_ExtendedDecision_DENY a_ExtendedDecision_PERMIT h0 n0 O0 HE' ) hZ (ww hw 7 rfl) (ww hw 1 rfl) (by decide) (by decide)) qc13a qc13c (g := (mkF m 33 Ls11 [(.ref a_DENY)])) rfl (by rw [hml]; rfl) (Steps.refl _) (argsL := []) (rest := []) (lenOf pd0 rfl) rfl (by show 2 * 0 + _ ≤ _; exact Nat.le_of_eq rfl) (hb hby at_33) (fun _ _ => ⟨rfl, ec9, (by decide : 0 + 0 ≤ _), (by decide : 0 + 0 ≤ _)⟩)
  dsimp only [Pt.U, Pt.locs, Pt.cells, Pt.slots] at Xc13 lc13 yc13 zc13 stc13 hQc13
  subst lc13 yc13 zc13
  obtain ⟨Nqc13, ec13, hAc13⟩ := hQc13
  have Nc13 := Fr.app Nc9 Nqc13
  obtain rfl := hAc13
  have p14 : ∀ t, St p e below Tc13 (mkF m 36 Ls11 [(.ref a_PERMIT)]) t → S0 t := fun t k => p12 t (stc13.trans k)
  let Ls15 : Array Slot := #[.val (.int i0), .val (.ref a_PERMIT), .val (.ref a_DENY), .val (.ref a_PERMIT), .unset, .unset, .unset]
  have p16 : ∀ t, St p e below Tc13 (mkF m 38 Ls15 [(.ref a_DENY)]) t → S0 t := fun t k => p14 t (by
    show St p e below Tc13 (mkF m 36 Ls11 [(.ref a_PERMIT)]) t
    refine XS.astoreN Xc13.here hx rfl (hb hby at_36) rfl rfl (l' := Ls15) rfl ?_
    show St p e below Tc13 (mkF m 37 Ls15 []) t
    refine XS.aloadN Xc13.here hx rfl (hb hby at_37) rfl rfl ?_
    exact k)
  obtain ⟨cqc17, kqc17, qc17a, qc17b, qc17c⟩ := isOf hZ ec13 (Ea_DENY.ext O0.2)
  obtain ⟨_, _, ⟨Tc17, Lc17, kc17, nc17⟩, -, Xc17, ⟨Lcc17, hQc17, lc17, yc17, zc17⟩, stc17⟩ := Xc13.virtualBack hx (y := M1) (z := M1) hown (mvT hZ (ww hw 11 rfl)) (mvT hZ (ww hw 12 rfl)) (notFace_of_selects (args := #[]) (mvT hZ (ww hw 14 rfl))) (mvT hZ (ww hw 14 rfl)) (mvT hZ (ww hw 13 rfl)) (by decide) (backOf (W := 0) (rm2_2 l Z a0 hw [] a_PERMIT a_DENY a_ExtendedDecision_DENY a_ExtendedDecision_PERMIT h0 n0 O0 HE' ) hZ (ww hw 15 rfl) (ww hw 1 rfl) (by decide) (by decide)) qc17a qc17c (g := (mkF m 38 Ls15 [(.ref a_DENY)])) rfl (by rw [hml]; rfl) (Steps.refl _) (argsL := []) (rest := []) (lenOf pd1 rfl) rfl (by show 2 * 0 + _ ≤ _; exact Nat.le_of_eq rfl) (hb hby at_38) (fun _ _ => ⟨rfl, ec13, (by decide : 0 + 0 ≤ _), (by decide : 0 + 0 ≤ _)⟩)
  dsimp only [Pt.U, Pt.locs, Pt.cells, Pt.slots] at Xc17 lc17 yc17 zc17 stc17 hQc17
  subst lc17 yc17 zc17
  obtain ⟨Nqc17, ec17, hAc17⟩ := hQc17
  have Nc17 := Fr.app Nc13 Nqc17
  obtain rfl := hAc17
  have p18 : ∀ t, St p e below Tc17 (mkF m 41 Ls15 [(.ref a_ExtendedDecision_DENY)]) t → S0 t := fun t k => p16 t (stc17.trans k)
  let Ls19 : Array Slot := #[.val (.int i0), .val (.ref a_PERMIT), .val (.ref a_DENY), .val (.ref a_PERMIT), .val (.ref a_ExtendedDecision_DENY), .unset, .unset]
  have p20 : ∀ t, St p e below Tc17 (mkF m 44 Ls19 [(.ref a_PERMIT)]) t → S0 t := fun t k => p18 t (by
    show St p e below Tc17 (mkF m 41 Ls15 [(.ref a_ExtendedDecision_DENY)]) t
    refine XS.astore Xc17.here hx rfl (hb hby at_41) rfl rfl (l' := Ls19) rfl ?_
    show St p e below Tc17 (mkF m 43 Ls19 []) t
    refine XS.aloadN Xc17.here hx rfl (hb hby at_43) rfl rfl ?_
    exact k)
  obtain ⟨cqc21, kqc21, qc21a, qc21b, qc21c⟩ := isOf hZ ec17 (Ea_PERMIT.ext O0.2)
  obtain ⟨_, _, ⟨Tc21, Lc21, kc21, nc21⟩, -, Xc21, ⟨Lcc21, hQc21, lc21, yc21, zc21⟩, stc21⟩ := Xc17.virtualBack hx (y := M1) (z := M1) hown (mvT hZ (ww hw 11 rfl)) (mvT hZ (ww hw 12 rfl)) (notFace_of_selects (args := #[]) (mvT hZ (ww hw 14 rfl))) (mvT hZ (ww hw 14 rfl)) (mvT hZ (ww hw 13 rfl)) (by decide) (backOf (W := 0) (rm2_3 l Z a0 hw [] a_PERMIT a_DENY a_ExtendedDecision_DENY a_ExtendedDecision_PERMIT h0 n0 O0 HE' ) hZ (ww hw 15 rfl) (ww hw 1 rfl) (by decide) (by decide)) qc21a qc21c (g := (mkF m 44 Ls19 [(.ref a_PERMIT)])) rfl (by rw [hml]; rfl) (Steps.refl _) (argsL := []) (rest := []) (lenOf pd1 rfl) rfl (by show 2 * 0 + _ ≤ _; exact Nat.le_of_eq rfl) (hb hby at_44) (fun _ _ => ⟨rfl, ec17, (by decide : 0 + 0 ≤ _), (by decide : 0 + 0 ≤ _)⟩)
  dsimp only [Pt.U, Pt.locs, Pt.cells, Pt.slots] at Xc21 lc21 yc21 zc21 stc21 hQc21
  subst lc21 yc21 zc21
  obtain ⟨Nqc21, ec21, hAc21⟩ := hQc21
  have Nc21 := Fr.app Nc17 Nqc21
  obtain rfl := hAc21
  have p22 : ∀ t, St p e below Tc21 (mkF m 47 Ls19 [(.ref a_ExtendedDecision_PERMIT)]) t → S0 t := fun t k => p20 t (stc21.trans k)
  obtain ⟨T23, X23, e23, st23⟩ := getS2 Xc21 hx hZ hown (host := "") (Or.inl (ww hw 21 rfl)) Via.refl ec21 (Sa_ExtendedDecision_PERMIT.ext O0.2) (g := (mkF m 47 Ls19 [(.ref a_ExtendedDecision_PERMIT)])) rfl (hb hby at_47)
  have p24 : ∀ t, St p e below T23 (mkF m 50 Ls19 [(.ref a_ExtendedDecision_PERMIT), (.ref a_ExtendedDecision_PERMIT)]) t → S0 t := fun t k => p22 t (st23 t k)
  let Ls25 : Array Slot := #[.val (.int i0), .val (.ref a_PERMIT), .val (.ref a_DENY), .val (.ref a_PERMIT), .val (.ref a_ExtendedDecision_DENY), .val (.int (1 : Int32)), .unset]
  have p26 : ∀ t, St p e below T23 (mkF m 67 Ls25 [(.ref a_ExtendedDecision_DENY)]) t → S0 t := fun t k => p24 t (by
    show St p e below T23 (mkF m 50 Ls19 [(.ref a_ExtendedDecision_PERMIT), (.ref a_ExtendedDecision_PERMIT)]) t
    refine Jvm.RoadKit.acmp (g := (mkF m 50 Ls19 [(.ref a_ExtendedDecision_PERMIT), (.ref a_ExtendedDecision_PERMIT)])) X23 hx rfl rfl rfl (pc0 := 50) (pc' := 53) (same := true) rfl (hb hby at_50) rfl (decide_eq_true rfl) (by decide) (by decide) ?_
    show St p e below T23 (mkF m 53 Ls19 []) t
    refine XT.iconstV X23.here hx rfl (1 : Int32) (hb hby at_53) (by decide) ?_
    show St p e below T23 (mkF m 54 Ls19 [(.int (1 : Int32))]) t
    refine XS.goto X23.here hx rfl (pc0 := 54) (pc' := 58) rfl (hb hby at_54) (by decide) (by decide) ?_
    show St p e below T23 (mkF m 58 Ls19 [(.int (1 : Int32))]) t
    refine XS.istore X23.here hx rfl (hb hby at_58) rfl (l' := Ls25) rfl ?_
    show St p e below T23 (mkF m 60 Ls25 []) t
    refine XS.iload X23.here hx rfl (hb hby at_60) rfl ?_
    show St p e below T23 (mkF m 62 Ls25 [(.int (1 : Int32))]) t
    refine XS.ifNo X23.here hx rfl (hb hby at_62) rfl ((if0 _ _).trans (feq (by decide : ¬ ((1 : Int32) = (0 : Int32)))).1) ?_
    show St p e below T23 (mkF m 65 Ls25 []) t
    refine XS.aload X23.here hx rfl (hb hby at_65) rfl rfl ?_
    exact k)
  obtain ⟨T27, X27, e27, st27⟩ := getS2 X23 hx hZ hown (host := "") (Or.inl (ww hw 22 rfl)) Via.refl e23 (Sa_ExtendedDecision_DENY.ext O0.2) (g := (mkF m 67 Ls25 [(.ref a_ExtendedDecision_DENY)])) rfl (hb hby at_67)
  have p28 : ∀ t, St p e below T27 (mkF m 70 Ls25 [(.ref a_ExtendedDecision_DENY), (.ref a_ExtendedDecision_DENY)]) t → S0 t := fun t k => p26 t (st27 t k)
  let Ls29 : Array Slot := #[.val (.int i0), .val (.ref a_PERMIT), .val (.ref a_DENY), .val (.ref a_PERMIT), .val (.ref a_ExtendedDecision_DENY), .val (.int (1 : Int32)), .val (.int (1 : Int32))]
  have p30 : ∀ t, St p e below T27 (mkF m 111 Ls29 [(.int (1 : Int32))]) t → S0 t := fun t k => p28 t (by
    show St p e below T27 (mkF m 70 Ls25 [(.ref a_ExtendedDecision_DENY), (.ref a_ExtendedDecision_DENY)]) t
    refine Jvm.RoadKit.acmp (g := (mkF m 70 Ls25 [(.ref a_ExtendedDecision_DENY), (.ref a_ExtendedDecision_DENY)])) X27 hx rfl rfl rfl (pc0 := 70) (pc' := 73) (same := true) rfl (hb hby at_70) rfl (decide_eq_true rfl) (by decide) (by decide) ?_
    show St p e below T27 (mkF m 73 Ls25 []) t
    refine XT.iconstV X27.here hx rfl (1 : Int32) (hb hby at_73) (by decide) ?_
    show St p e below T27 (mkF m 74 Ls25 [(.int (1 : Int32))]) t
    refine XS.goto X27.here hx rfl (pc0 := 74) (pc' := 94) rfl (hb hby at_74) (by decide) (by decide) ?_
    show St p e below T27 (mkF m 94 Ls25 [(.int (1 : Int32))]) t
    refine XS.istore X27.here hx rfl (hb hby at_94) rfl (l' := Ls29) rfl ?_
    show St p e below T27 (mkF m 96 Ls29 []) t
    refine XS.aloadN X27.here hx rfl (hb hby at_96) rfl rfl ?_
    show St p e below T27 (mkF m 97 Ls29 [(.ref a_PERMIT)]) t
    refine XS.aloadN X27.here hx rfl (hb hby at_97) rfl rfl ?_
    show St p e below T27 (mkF m 98 Ls29 [(.ref a_PERMIT), (.ref a_PERMIT)]) t
    refine Jvm.RoadKit.acmp (g := (mkF m 98 Ls29 [(.ref a_PERMIT), (.ref a_PERMIT)])) X27 hx rfl rfl rfl (pc0 := 98) (pc' := 101) (same := true) rfl (hb hby at_98) rfl (decide_eq_true rfl) (by decide) (by decide) ?_
    show St p e below T27 (mkF m 101 Ls29 []) t
    refine XS.iload X27.here hx rfl (hb hby at_101) rfl ?_
    show St p e below T27 (mkF m 103 Ls29 [(.int (1 : Int32))]) t
    refine XS.ifNo X27.here hx rfl (hb hby at_103) rfl ((if0 _ _).trans (feq (by decide : ¬ ((1 : Int32) = (0 : Int32)))).1) ?_
    show St p e below T27 (mkF m 106 Ls29 []) t
    refine XT.iconstV X27.here hx rfl (1 : Int32) (hb hby at_106) (by decide) ?_
    show St p e below T27 (mkF m 107 Ls29 [(.int (1 : Int32))]) t
    refine XS.goto X27.here hx rfl (pc0 := 107) (pc' := 111) rfl (hb hby at_107) (by decide) (by decide) ?_
    exact k)
  obtain ⟨fs, hr, hrun, hended, hW, hsame⟩ := X27.leave (v := some (.int (1 : Int32))) (fun h => by rw [Bd.returns] at h; cases h)
  refine ⟨_, _, p30 _ ?_, hrun, hended, _, _, rfl, ?_, ⟨_, rfl⟩, hW, hsame.mono (by decide) (by decide)⟩
  · exact retOut X27 hx Bd.returns rfl (Or.inl ⟨rfl, by simp, _, rfl⟩) (hb hby at_111) hr
  · exact ⟨rfl, Nc21⟩
 ·
  have p31 : ∀ t, St p e below s₁ (mkF m 12 Ls1 []) t → S0 t := fun t k => p2 t (by
    show St p e below s₁ (mkF m 3 Ls1 [(.int (i0 &&& (1 : Int32)))]) t
    refine XS.ifYes X0.here hx rfl (pc0 := 3) (pc' := 12) rfl (hb hby at_3) rfl ((if0 _ _).trans (feq g3).2) (by decide) (by decide) ?_
    exact k)
  obtain ⟨T32, X32, e32, st32⟩ := getS2 X0 hx hZ hown (host := "") (Or.inl (ww hw 23 rfl)) Via.refl e0 (Sa_DENY.ext O0.2) (g := (mkF m 12 Ls1 [])) rfl (hb hby at_12)
  have p33 : ∀ t, St p e below T32 (mkF m 15 Ls1 [(.ref a_DENY)]) t → S0 t := fun t k => p31 t (st32 t k)
  let Ls34 : Array Slot := #[.val (.int i0), .val (.ref a_DENY), .unset, .unset, .unset, .unset, .unset]
  have p35 : ∀ t, St p e below T32 (mkF m 17 Ls34 [(.ref a_DENY)]) t → S0 t := fun t k => p33 t (by
    show St p e below T32 (mkF m 15 Ls1 [(.ref a_DENY)]) t
    refine XS.astoreN X32.here hx rfl (hb hby at_15) rfl rfl (l' := Ls34) rfl ?_
    show St p e below T32 (mkF m 16 Ls34 []) t
    refine XS.aloadN X32.here hx rfl (hb hby at_16) rfl rfl ?_
    exact k)
  obtain ⟨cqc36, kqc36, qc36a, qc36b, qc36c⟩ := isOf hZ e32 (Ea_DENY.ext O0.2)
  obtain ⟨_, _, ⟨Tc36, Lc36, kc36, nc36⟩, -, Xc36, ⟨Lcc36, hQc36, lc36, yc36, zc36⟩, stc36⟩ := X32.virtualBack hx (y := M0) (z := M0) hown (mvT hZ (ww hw 3 rfl)) (mvT hZ (ww hw 4 rfl)) (notFace_of_selects (args := #[]) (mvT hZ (ww hw 6 rfl))) (mvT hZ (ww hw 6 rfl)) (mvT hZ (ww hw 5 rfl)) (by decide) (backOf (W := 0) (rm1_1 l Z a0 hw [] a_PERMIT a_DENY a_ExtendedDecision_DENY a_ExtendedDecision_PERMIT h0 n0 O0 HE' ) hZ (ww hw 7 rfl) (ww hw 1 rfl) (by decide) (by decide)) qc36a qc36c (g := (mkF m 17 Ls34 [(.ref a_DENY)])) rfl (by rw [hml]; rfl) (Steps.refl _) (argsL := []) (rest := []) (lenOf pd0 rfl) rfl (by show 2 * 0 + _ ≤ _; exact Nat.le_of_eq rfl) (hb hby at_17) (fun _ _ => ⟨rfl, e32, (by decide : 0 + 0 ≤ _), (by decide : 0 + 0 ≤ _)⟩)
  dsimp only [Pt.U, Pt.locs, Pt.cells, Pt.slots] at Xc36 lc36 yc36 zc36 stc36 hQc36
  subst lc36 yc36 zc36
  obtain ⟨Nqc36, ec36, hAc36⟩ := hQc36
  have Nc36 := Fr.app N0 Nqc36
  obtain rfl := hAc36
  have p37 : ∀ t, St p e below Tc36 (mkF m 20 Ls34 [(.ref a_PERMIT)]) t → S0 t := fun t k => p35 t (stc36.trans k)
  let Ls38 : Array Slot := #[.val (.int i0), .val (.ref a_DENY), .val (.ref a_PERMIT), .unset, .unset, .unset, .unset]
  have p39 : ∀ t, St p e below Tc36 (mkF m 33 Ls38 [(.ref a_PERMIT)]) t → S0 t := fun t k => p37 t (by
    show St p e below Tc36 (mkF m 20 Ls34 [(.ref a_PERMIT)]) t
    refine XS.astoreN Xc36.here hx rfl (hb hby at_20) rfl rfl (l' := Ls38) rfl ?_
    show St p e below Tc36 (mkF m 21 Ls38 []) t
    refine XS.aloadN Xc36.here hx rfl (hb hby at_21) rfl rfl ?_
    show St p e below Tc36 (mkF m 22 Ls38 [(.ref a_PERMIT)]) t
    refine XS.ifnullNo Xc36.here hx rfl (hb hby at_22) rfl ?_
    show St p e below Tc36 (mkF m 25 Ls38 []) t
    refine XS.aloadN Xc36.here hx rfl (hb hby at_25) rfl rfl ?_
    show St p e below Tc36 (mkF m 26 Ls38 [(.ref a_PERMIT)]) t
    refine XS.aloadN Xc36.here hx rfl (hb hby at_26) rfl rfl ?_
    show St p e below Tc36 (mkF m 27 Ls38 [(.ref a_DENY), (.ref a_PERMIT)]) t
    refine Jvm.RoadKit.acmp (g := (mkF m 27 Ls38 [(.ref a_DENY), (.ref a_PERMIT)])) Xc36 hx rfl rfl rfl (pc0 := 27) (pc' := 32) (same := false) rfl (hb hby at_27) rfl (decide_eq_false fun q => (Fld.ne Fa_PERMIT_ordinal Fa_DENY_ordinal (fun q => absurd (Value.int.inj q) (by decide))) (Value.ref.inj q)) (by decide) (by decide) ?_
    show St p e below Tc36 (mkF m 32 Ls38 []) t
    refine XS.aloadN Xc36.here hx rfl (hb hby at_32) rfl rfl ?_
    exact k)
  obtain ⟨cqc40, kqc40, qc40a, qc40b, qc40c⟩ := isOf hZ ec36 (Ea_PERMIT.ext O0.2)
  obtain ⟨_, _, ⟨Tc40, Lc40, kc40, nc40⟩, -, Xc40, ⟨Lcc40, hQc40, lc40, yc40, zc40⟩, stc40⟩ := Xc36.virtualBack hx (y := M0) (z := M0) hown (mvT hZ (ww hw 3 rfl)) (mvT hZ (ww hw 4 rfl)) (notFace_of_selects (args := #[]) (mvT hZ (ww hw 6 rfl))) (mvT hZ (ww hw 6 rfl)) (mvT hZ (ww hw 5 rfl)) (by decide) (backOf (W := 0) (rm1_0 l Z a0 hw [] a_PERMIT a_DENY a_ExtendedDecision_DENY a_ExtendedDecision_PERMIT h0 n0 O0 HE' ) hZ (ww hw 7 rfl) (ww hw 1 rfl) (by decide) (by decide)) qc40a qc40c (g := (mkF m 33 Ls38 [(.ref a_PERMIT)])) rfl (by rw [hml]; rfl) (Steps.refl _) (argsL := []) (rest := []) (lenOf pd0 rfl) rfl (by show 2 * 0 + _ ≤ _; exact Nat.le_of_eq rfl) (hb hby at_33) (fun _ _ => ⟨rfl, ec36, (by decide : 0 + 0 ≤ _), (by decide : 0 + 0 ≤ _)⟩)
  dsimp only [Pt.U, Pt.locs, Pt.cells, Pt.slots] at Xc40 lc40 yc40 zc40 stc40 hQc40
  subst lc40 yc40 zc40
  obtain ⟨Nqc40, ec40, hAc40⟩ := hQc40
  have Nc40 := Fr.app Nc36 Nqc40
  obtain rfl := hAc40
  have p41 : ∀ t, St p e below Tc40 (mkF m 36 Ls38 [(.ref a_DENY)]) t → S0 t := fun t k => p39 t (stc40.trans k)
  let Ls42 : Array Slot := #[.val (.int i0), .val (.ref a_DENY), .val (.ref a_PERMIT), .val (.ref a_DENY), .unset, .unset, .unset]
  have p43 : ∀ t, St p e below Tc40 (mkF m 38 Ls42 [(.ref a_PERMIT)]) t → S0 t := fun t k => p41 t (by
    show St p e below Tc40 (mkF m 36 Ls38 [(.ref a_DENY)]) t
    refine XS.astoreN Xc40.here hx rfl (hb hby at_36) rfl rfl (l' := Ls42) rfl ?_
    show St p e below Tc40 (mkF m 37 Ls42 []) t
    refine XS.aloadN Xc40.here hx rfl (hb hby at_37) rfl rfl ?_
    exact k)
  obtain ⟨cqc44, kqc44, qc44a, qc44b, qc44c⟩ := isOf hZ ec40 (Ea_PERMIT.ext O0.2)
  obtain ⟨_, _, ⟨Tc44, Lc44, kc44, nc44⟩, -, Xc44, ⟨Lcc44, hQc44, lc44, yc44, zc44⟩, stc44⟩ := Xc40.virtualBack hx (y := M1) (z := M1) hown (mvT hZ (ww hw 11 rfl)) (mvT hZ (ww hw 12 rfl)) (notFace_of_selects (args := #[]) (mvT hZ (ww hw 14 rfl))) (mvT hZ (ww hw 14 rfl)) (mvT hZ (ww hw 13 rfl)) (by decide) (backOf (W := 0) (rm2_3 l Z a0 hw [] a_PERMIT a_DENY a_ExtendedDecision_DENY a_ExtendedDecision_PERMIT h0 n0 O0 HE' ) hZ (ww hw 15 rfl) (ww hw 1 rfl) (by decide) (by decide)) qc44a qc44c (g := (mkF m 38 Ls42 [(.ref a_PERMIT)])) rfl (by rw [hml]; rfl) (Steps.refl _) (argsL := []) (rest := []) (lenOf pd1 rfl) rfl (by show 2 * 0 + _ ≤ _; exact Nat.le_of_eq rfl) (hb hby at_38) (fun _ _ => ⟨rfl, ec40, (by decide : 0 + 0 ≤ _), (by decide : 0 + 0 ≤ _)⟩)
  dsimp only [Pt.U, Pt.locs, Pt.cells, Pt.slots] at Xc44 lc44 yc44 zc44 stc44 hQc44
  subst lc44 yc44 zc44
  obtain ⟨Nqc44, ec44, hAc44⟩ := hQc44
  have Nc44 := Fr.app Nc40 Nqc44
  obtain rfl := hAc44
  have p45 : ∀ t, St p e below Tc44 (mkF m 41 Ls42 [(.ref a_ExtendedDecision_PERMIT)]) t → S0 t := fun t k => p43 t (stc44.trans k)
  let Ls46 : Array Slot := #[.val (.int i0), .val (.ref a_DENY), .val (.ref a_PERMIT), .val (.ref a_DENY), .val (.ref a_ExtendedDecision_PERMIT), .unset, .unset]
  have p47 : ∀ t, St p e below Tc44 (mkF m 44 Ls46 [(.ref a_DENY)]) t → S0 t := fun t k => p45 t (by
    show St p e below Tc44 (mkF m 41 Ls42 [(.ref a_ExtendedDecision_PERMIT)]) t
    refine XS.astore Xc44.here hx rfl (hb hby at_41) rfl rfl (l' := Ls46) rfl ?_
    show St p e below Tc44 (mkF m 43 Ls46 []) t
    refine XS.aloadN Xc44.here hx rfl (hb hby at_43) rfl rfl ?_
    exact k)
  obtain ⟨cqc48, kqc48, qc48a, qc48b, qc48c⟩ := isOf hZ ec44 (Ea_DENY.ext O0.2)
  obtain ⟨_, _, ⟨Tc48, Lc48, kc48, nc48⟩, -, Xc48, ⟨Lcc48, hQc48, lc48, yc48, zc48⟩, stc48⟩ := Xc44.virtualBack hx (y := M1) (z := M1) hown (mvT hZ (ww hw 11 rfl)) (mvT hZ (ww hw 12 rfl)) (notFace_of_selects (args := #[]) (mvT hZ (ww hw 14 rfl))) (mvT hZ (ww hw 14 rfl)) (mvT hZ (ww hw 13 rfl)) (by decide) (backOf (W := 0) (rm2_2 l Z a0 hw [] a_PERMIT a_DENY a_ExtendedDecision_DENY a_ExtendedDecision_PERMIT h0 n0 O0 HE' ) hZ (ww hw 15 rfl) (ww hw 1 rfl) (by decide) (by decide)) qc48a qc48c (g := (mkF m 44 Ls46 [(.ref a_DENY)])) rfl (by rw [hml]; rfl) (Steps.refl _) (argsL := []) (rest := []) (lenOf pd1 rfl) rfl (by show 2 * 0 + _ ≤ _; exact Nat.le_of_eq rfl) (hb hby at_44) (fun _ _ => ⟨rfl, ec44, (by decide : 0 + 0 ≤ _), (by decide : 0 + 0 ≤ _)⟩)
  dsimp only [Pt.U, Pt.locs, Pt.cells, Pt.slots] at Xc48 lc48 yc48 zc48 stc48 hQc48
  subst lc48 yc48 zc48
  obtain ⟨Nqc48, ec48, hAc48⟩ := hQc48
  have Nc48 := Fr.app Nc44 Nqc48
  obtain rfl := hAc48
  have p49 : ∀ t, St p e below Tc48 (mkF m 47 Ls46 [(.ref a_ExtendedDecision_DENY)]) t → S0 t := fun t k => p47 t (stc48.trans k)
  obtain ⟨T50, X50, e50, st50⟩ := getS2 Xc48 hx hZ hown (host := "") (Or.inl (ww hw 21 rfl)) Via.refl ec48 (Sa_ExtendedDecision_PERMIT.ext O0.2) (g := (mkF m 47 Ls46 [(.ref a_ExtendedDecision_DENY)])) rfl (hb hby at_47)
  have p51 : ∀ t, St p e below T50 (mkF m 50 Ls46 [(.ref a_ExtendedDecision_PERMIT), (.ref a_ExtendedDecision_DENY)]) t → S0 t := fun t k => p49 t (st50 t k)
  let Ls52 : Array Slot := #[.val (.int i0), .val (.ref a_DENY), .val (.ref a_PERMIT), .val (.ref a_DENY), .val (.ref a_ExtendedDecision_PERMIT), .val (.int (0 : Int32)), .unset]
  have p53 : ∀ t, St p e below T50 (mkF m 83 Ls52 [(.ref a_ExtendedDecision_PERMIT)]) t → S0 t := fun t k => p51 t (by
    show St p e below T50 (mkF m 50 Ls46 [(.ref a_ExtendedDecision_PERMIT), (.ref a_ExtendedDecision_DENY)]) t
    refine Jvm.RoadKit.acmp (g := (mkF m 50 Ls46 [(.ref a_ExtendedDecision_PERMIT), (.ref a_ExtendedDecision_DENY)])) X50 hx rfl rfl rfl (pc0 := 50) (pc' := 57) (same := false) rfl (hb hby at_50) rfl (decide_eq_false fun q => (Fld.ne Fa_ExtendedDecision_DENY_ordinal Fa_ExtendedDecision_PERMIT_ordinal (fun q => absurd (Value.int.inj q) (by decide))) (Value.ref.inj q)) (by decide) (by decide) ?_
    show St p e below T50 (mkF m 57 Ls46 []) t
    refine XT.iconstV X50.here hx rfl (0 : Int32) (hb hby at_57) (by decide) ?_
    show St p e below T50 (mkF m 58 Ls46 [(.int (0 : Int32))]) t
    refine XS.istore X50.here hx rfl (hb hby at_58) rfl (l' := Ls52) rfl ?_
    show St p e below T50 (mkF m 60 Ls52 []) t
    refine XS.iload X50.here hx rfl (hb hby at_60) rfl ?_
    show St p e below T50 (mkF m 62 Ls52 [(.int (0 : Int32))]) t
    refine XS.ifYes X50.here hx rfl (pc0 := 62) (pc' := 81) rfl (hb hby at_62) rfl ((if0 _ _).trans (teq (by decide : (0 : Int32) = (0 : Int32))).1) (by decide) (by decide) ?_
    show St p e below T50 (mkF m 81 Ls52 []) t
    refine XS.aload X50.here hx rfl (hb hby at_81) rfl rfl ?_
    exact k)
  obtain ⟨T54, X54, e54, st54⟩ := getS2 X50 hx hZ hown (host := "") (Or.inl (ww hw 21 rfl)) Via.refl e50 (Sa_ExtendedDecision_PERMIT.ext O0.2) (g := (mkF m 83 Ls52 [(.ref a_ExtendedDecision_PERMIT)])) rfl (hb hby at_83)
  have p55 : ∀ t, St p e below T54 (mkF m 86 Ls52 [(.ref a_ExtendedDecision_PERMIT), (.ref a_ExtendedDecision_PERMIT)]) t → S0 t := fun t k => p53 t (st54 t k)
  let Ls56 : Array Slot := #[.val (.int i0), .val (.ref a_DENY), .val (.ref a_PERMIT), .val (.ref a_DENY), .val (.ref a_ExtendedDecision_PERMIT), .val (.int (0 : Int32)), .val (.int (1 : Int32))]
  have p57 : ∀ t, St p e below T54 (mkF m 111 Ls56 [(.int (1 : Int32))]) t → S0 t := fun t k => p55 t (by
    show St p e below T54 (mkF m 86 Ls52 [(.ref a_ExtendedDecision_PERMIT), (.ref a_ExtendedDecision_PERMIT)]) t
    refine Jvm.RoadKit.acmp (g := (mkF m 86 Ls52 [(.ref a_ExtendedDecision_PERMIT), (.ref a_ExtendedDecision_PERMIT)])) X54 hx rfl rfl rfl (pc0 := 86) (pc' := 89) (same := true) rfl (hb hby at_86) rfl (decide_eq_true rfl) (by decide) (by decide) ?_
    show St p e below T54 (mkF m 89 Ls52 []) t
    refine XT.iconstV X54.here hx rfl (1 : Int32) (hb hby at_89) (by decide) ?_
    show St p e below T54 (mkF m 90 Ls52 [(.int (1 : Int32))]) t
    refine XS.goto X54.here hx rfl (pc0 := 90) (pc' := 94) rfl (hb hby at_90) (by decide) (by decide) ?_
    show St p e below T54 (mkF m 94 Ls52 [(.int (1 : Int32))]) t
    refine XS.istore X54.here hx rfl (hb hby at_94) rfl (l' := Ls56) rfl ?_
    show St p e below T54 (mkF m 96 Ls56 []) t
    refine XS.aloadN X54.here hx rfl (hb hby at_96) rfl rfl ?_
    show St p e below T54 (mkF m 97 Ls56 [(.ref a_DENY)]) t
    refine XS.aloadN X54.here hx rfl (hb hby at_97) rfl rfl ?_
    show St p e below T54 (mkF m 98 Ls56 [(.ref a_DENY), (.ref a_DENY)]) t
    refine Jvm.RoadKit.acmp (g := (mkF m 98 Ls56 [(.ref a_DENY), (.ref a_DENY)])) X54 hx rfl rfl rfl (pc0 := 98) (pc' := 101) (same := true) rfl (hb hby at_98) rfl (decide_eq_true rfl) (by decide) (by decide) ?_
    show St p e below T54 (mkF m 101 Ls56 []) t
    refine XS.iload X54.here hx rfl (hb hby at_101) rfl ?_
    show St p e below T54 (mkF m 103 Ls56 [(.int (1 : Int32))]) t
    refine XS.ifNo X54.here hx rfl (hb hby at_103) rfl ((if0 _ _).trans (feq (by decide : ¬ ((1 : Int32) = (0 : Int32)))).1) ?_
    show St p e below T54 (mkF m 106 Ls56 []) t
    refine XT.iconstV X54.here hx rfl (1 : Int32) (hb hby at_106) (by decide) ?_
    show St p e below T54 (mkF m 107 Ls56 [(.int (1 : Int32))]) t
    refine XS.goto X54.here hx rfl (pc0 := 107) (pc' := 111) rfl (hb hby at_107) (by decide) (by decide) ?_
    exact k)
  obtain ⟨fs, hr, hrun, hended, hW, hsame⟩ := X54.leave (v := some (.int (1 : Int32))) (fun h => by rw [Bd.returns] at h; cases h)
  refine ⟨_, _, p57 _ ?_, hrun, hended, _, _, rfl, ?_, ⟨_, rfl⟩, hW, hsame.mono (by decide) (by decide)⟩
  · exact retOut X54 hx Bd.returns rfl (Or.inl ⟨rfl, by simp, _, rfl⟩) (hb hby at_111) hr
  · exact ⟨rfl, Nc48⟩
set_option maxRecDepth 65536 in
set_option maxHeartbeats 40000000 in
theorem comes_1 {Post : Tables → Env → Array Value → State → Outcome → State → Prop} (hpost : ∀ tb e args s v u, (limb_1_1.after args s (.returned v) u = true ∧ limb_1_2.after args s (.returned v) u = true ∧ True) → FrameEnd s (.returned v) u (Jvm.fieldLocs frame_1_writes args s ++ Jvm.arrayLocs frame_1_arrays args s ++ Jvm.staticLocs frame_1_statics s) 0 0 → Post tb e args s (.returned v) u) :
    ArmFor flags0 classFile x code maxLocals ret World_1 tables_1 room_1 Calls_1 rest_1 Pre_1 Post := by
  intro l hfl _ _ p e ha hc hk s m args below hf hA hF happ hP
  obtain ⟨hcalls, hrest, hpre⟩ := hP
  obtain ⟨-, -, -, hnamed, -, -, -, hat⟩ := (Spec.applies_iff hf).mp happ
  obtain ⟨hg, hn⟩ := and_e (Cond.before_iff.mp (show (Jvm.Cond.and given_1 narrow_1).before args s = true from hpre))
  obtain ⟨hj1a, hj1b⟩ := and_e hg
  obtain ⟨w0, rfl⟩ : ∃ w0 : Value, args = #[w0] := by
    have hs : args.size = 1 := by simpa [Cond.value, given_1] using hj1a
    obtain ⟨L⟩ := args
    match L, hs with
    | [w0], _ => exact ⟨w0, rfl⟩
  have hw := fun d (hd : d ∈ tables_1) => atoms_spec (ws := Jvm.Cond.code x code maxLocals ret :: tables_1) hat d (List.mem_cons_of_mem _ hd)
  have hfit : Fit s := fun {y c} hc i hi => by
    obtain ⟨ha, rfl⟩ := Array.getElem?_eq_some_iff.mp hc
    have q := List.all_eq_true.mp ((Array.all_eq_true_iff_forall_mem.mp hF) _ (Array.getElem_mem ha)) i (List.mem_range.mpr hi)
    simpa [Array.getElem?_eq_getElem hi] using q
  obtain ⟨i0, ei0⟩ := is_v hj1b
  obtain rfl : w0 = (.int i0) := Option.some.inj ei0
  obtain ⟨hj2a, hj2b⟩ := and_e hn
  obtain ⟨hj3a, hj3b⟩ := and_e hj2b
  obtain ⟨hj4a, hj4b⟩ := and_e hj3b
  obtain ⟨hj5a, hj5b⟩ := and_e hj4b
  obtain ⟨hj6a, hj6b⟩ := and_e hj5b
  obtain ⟨hj7a, hj7b⟩ := and_e hj6b
  obtain ⟨hj8a, hj8b⟩ := and_e hj7b
  obtain ⟨hj9a, hj9b⟩ := and_e hj8b
  obtain ⟨hj10a, hj10b⟩ := and_e hj9b
  have hn0 := hj2a
  have hn1 := hj3a
  have hn2 := hj4a
  have hn3 := hj5a
  have hn4 := hj6a
  have hn5 := hj7a
  have hn6 := hj8a
  have hn7 := hj9a
  have hn8 := hj10a
  have hn9 := hj10b
  obtain ⟨a_PERMIT, eva_PERMIT⟩ := exa_v hn0
  obtain ⟨a_DENY, eva_DENY⟩ := exa_v hn1
  obtain ⟨a_ExtendedDecision_DENY, eva_ExtendedDecision_DENY⟩ := exa_v hn4
  obtain ⟨a_ExtendedDecision_PERMIT, eva_ExtendedDecision_PERMIT⟩ := exa_v hn6
  obtain ⟨n, o, h1, h2, h3, _, L, rfl, ⟨rfl, N⟩, hq⟩ := rm0 l s _ hw tables_1 a_PERMIT a_DENY a_ExtendedDecision_DENY a_ExtendedDecision_PERMIT i0 s.heap s.heap.size (Old.start s) ⟨(Sta.start eva_PERMIT (Or.inr ⟨(ww hw 1 rfl), (ww hw 2 rfl)⟩)), (Exa.start eva_PERMIT hn0), (Sta.start eva_DENY (Or.inr ⟨(ww hw 1 rfl), (ww hw 10 rfl)⟩)), (Exa.start eva_DENY hn1), (Fld.start ((fld_at eva_DENY).symm.trans (own_eqI hn2))), (Fld.start ((fld_at eva_PERMIT).symm.trans (own_eqI hn3))), (Sta.start eva_ExtendedDecision_DENY (Or.inr ⟨(ww hw 18 rfl), (ww hw 19 rfl)⟩)), (Exa.start eva_ExtendedDecision_DENY hn4), (Fld.start ((fld_at eva_DENY).symm.trans (own_eqR hn5 eva_ExtendedDecision_DENY))), (Sta.start eva_ExtendedDecision_PERMIT (Or.inr ⟨(ww hw 18 rfl), (ww hw 20 rfl)⟩)), (Exa.start eva_ExtendedDecision_PERMIT hn6), (Fld.start ((fld_at eva_PERMIT).symm.trans (own_eqR hn7 eva_ExtendedDecision_PERMIT))), (Fld.start ((fld_at eva_ExtendedDecision_DENY).symm.trans (own_eqI hn8))), (Fld.start ((fld_at eva_ExtendedDecision_PERMIT).symm.trans (own_eqI hn9)))⟩ p e ha hc hk s m _ below hf ((Spec.applies_iff_loose hf).mp happ).1 ⟨rfl, State.Warmed39.refl s, rfl⟩ trivial
  refine ⟨n, _, h1, h2, h3, hpost _ _ _ _ _ _ ⟨Cond.after_iff.mpr rfl, Cond.after_iff.mpr (eq_i res_at (Term.int_eval (1)) rfl), trivial⟩ ⟨hq.1, hq.2.1, (hq.2.2.sift fun y hy => Or.inr (N y hy)).mono (by decide) (by decide)⟩⟩
theorem main_1_1 : Claimed_1_1 := comes_1 fun _ _ _ _ _ _ h hF => ⟨h.1, hF⟩
theorem main_1_2 : Claimed_1_2 := comes_1 fun _ _ _ _ _ _ h hF => ⟨h.2.1, hF⟩
end Jvm.Pilot.@@N@@
namespace Jvm.Pilot.@@N@@
open Jvm Jvm.ClassFile Sem Op Lib Jvm.Free Jvm.Stand Jvm.Pilot.@@N@@.Jvm.D
/-! MADE BY PROGRAM (witnessworld.py) out of the Statement's table words and the real class files: 13 classes; the members and pool entries that the words name. The judged class is class 1, her method 1. -/
namespace start1
open Jvm.ClassFile
def u (s : String) : CpInfo := .utf8 (stringToUtf16 s)
/-- a pool by its gaps: so many unusable entries, then the entry; so many at the end -/
def gap : Nat → List CpInfo → List CpInfo
  | 0, r => r
  | n + 1, r => .unusable :: gap n r
def poolList (es : List (Nat × CpInfo)) (last : Nat) : List CpInfo := es.foldr (fun e r => gap e.1 (e.2 :: r)) (gap last [])
def pool (es : List (Nat × CpInfo)) (last : Nat) : Array CpInfo := ⟨poolList es last⟩
def fileOf (pool : Array CpInfo) (this : Nat) (attrs : Array Attribute := #[]) (ms : Array MethodInfo := #[]) (fl : Nat := 33) (sup : Nat := 0) (ifs : Array Nat := #[]) (fds : Array FieldInfo := #[]) : ClassFile where
  minorVersion := 0
  majorVersion := 65
  constantPool := pool
  accessFlags := fl
  thisClass := this
  superClass := sup
  interfaces := ifs
  fields := fds
  methods := ms
  attributes := attrs
def plain (name : String) (sup : Option ClassId) : Class where
  name := name
  kind := .ordinary
  loader := none
  accessFlags := 33
  super := sup
  interfaces := #[]
  cf := none
  fields := #[]
  methods := #[]
  instanceTypes := #[]
  staticTypes := #[]
  resolved := #[]
  callSites := []
  init := .initialized
  statics := none
  mirror := none

def pool0 : Array CpInfo := pool [(5, u "<init>"), (0, u "()V"), (1, .class_ 10), (1, u "java/lang/Object")] 113

def k0m0 : Method := { name := "<init>", desc := "()V", sig := { parameters := [], returnType := none }, accessFlags := 1, code := none }
/-- java/lang/Object -/
def k0 : Class := { plain "java/lang/Object" none with
  accessFlags := 33
  interfaces := #[]
  cf := some (fileOf pool0 8 #[] #[{ accessFlags := 1, nameIndex := 5, descriptorIndex := 6, attributes := #[] }] 33 0 #[] #[])
  fields := #[]
  methods := #[k0m0]
  instanceTypes := #[]
  staticTypes := #[]
  resolved := Array.replicate 124 none
  statics := none }

def pool1 : Array CpInfo := pool [(2, .class_ 4), (1, u "java/lang/Object"), (0, u "<init>"), (0, u "()V"), (0, .fieldref 8 9), (0, .class_ 10), (0, .nameAndType 11 12), (0, u "com/example/bouncr/bouncr/decision/Effect"), (0, u "PERMIT"), (0, u "Lcom/example/bouncr/bouncr/decision/Effect;"), (0, .fieldref 8 14), (0, .nameAndType 15 12), (0, u "DENY"), (0, .methodref 8 17), (0, .nameAndType 18 19), (0, u "opposite"), (0, u "()Lcom/example/bouncr/bouncr/decision/Effect;"), (0, .methodref 8 21), (0, .nameAndType 22 23), (0, u "decision"), (0, u "()Lcom/example/bouncr/bouncr/decision/ExtendedDecision;"), (0, .fieldref 25 26), (0, .class_ 27), (0, .nameAndType 11 28), (0, u "com/example/bouncr/bouncr/decision/ExtendedDecision"), (0, u "Lcom/example/bouncr/bouncr/decision/ExtendedDecision;"), (0, .fieldref 25 30), (0, .nameAndType 15 28), (0, .class_ 32), (0, u "com/example/bouncr/bouncr/decision/EffectOppositePinLaw"), (2, u "law"), (0, u "(I)Z")] 3

def k1m0 : Method := { name := "<init>", desc := "()V", sig := { parameters := [], returnType := none }, accessFlags := 2, code := none }
def k1c1 : Code := { maxStack := 2, maxLocals := 7, code := code, exceptionTable := #[], attributes := #[] }
def k1m1 : Method := { name := "law", desc := "(I)Z", sig := { parameters := [.int], returnType := some .boolean }, accessFlags := 9, code := some k1c1 }
/-- com/example/bouncr/bouncr/decision/EffectOppositePinLaw -/
def k1 : Class := { plain "com/example/bouncr/bouncr/decision/EffectOppositePinLaw" (some 0) with
  accessFlags := 49
  interfaces := #[]
  cf := some (fileOf pool1 31 #[] #[{ accessFlags := 2, nameIndex := 5, descriptorIndex := 6, attributes := #[] }, { accessFlags := 9, nameIndex := 35, descriptorIndex := 36, attributes := #[] }] 49 2 #[] #[])
  fields := #[]
  methods := #[k1m0, k1m1]
  instanceTypes := #[]
  staticTypes := #[]
  resolved := Array.replicate 40 none
  statics := none }

def pool2 : Array CpInfo := pool [(1, .class_ 2), (0, u "java/lang/constant/Constable"), (0, .class_ 4), (0, u "java/lang/Object")] 6

/-- java/lang/constant/Constable -/
def k2 : Class := { plain "java/lang/constant/Constable" (some 0) with
  accessFlags := 1537
  interfaces := #[]
  cf := some (fileOf pool2 1 #[] #[] 1537 3 #[] #[])
  fields := #[]
  methods := #[]
  instanceTypes := #[]
  staticTypes := #[]
  resolved := Array.replicate 11 none
  statics := none }

def pool3 : Array CpInfo := pool [(1, .class_ 2), (0, u "java/lang/Comparable"), (0, .class_ 4), (0, u "java/lang/Object")] 7

/-- java/lang/Comparable -/
def k3 : Class := { plain "java/lang/Comparable" (some 0) with
  accessFlags := 1537
  interfaces := #[]
  cf := some (fileOf pool3 1 #[] #[] 1537 3 #[] #[])
  fields := #[]
  methods := #[]
  instanceTypes := #[]
  staticTypes := #[]
  resolved := Array.replicate 12 none
  statics := none }

def pool4 : Array CpInfo := pool [(1, .class_ 2), (0, u "java/io/Serializable"), (0, .class_ 4), (0, u "java/lang/Object")] 2

/-- java/io/Serializable -/
def k4 : Class := { plain "java/io/Serializable" (some 0) with
  accessFlags := 1537
  interfaces := #[]
  cf := some (fileOf pool4 1 #[] #[] 1537 3 #[] #[])
  fields := #[]
  methods := #[]
  instanceTypes := #[]
  staticTypes := #[]
  resolved := Array.replicate 7 none
  statics := none }

def pool5 : Array CpInfo := pool [(2, .class_ 4), (1, u "java/lang/Enum"), (0, u "name"), (0, u "Ljava/lang/String;"), (2, u "ordinal"), (0, u "I"), (1, .class_ 14), (1, u "java/lang/Object"), (4, u "hash"), (86, .class_ 108), (1, u "java/lang/Enum$EnumDesc"), (2, .class_ 112), (0, u "java/lang/constant/Constable"), (0, .class_ 114), (0, u "java/lang/Comparable"), (0, .class_ 116), (0, u "java/io/Serializable")] 87

/-- java/lang/Enum -/
def k5 : Class := { plain "java/lang/Enum" (some 0) with
  accessFlags := 1057
  interfaces := #[2, 3, 4]
  cf := some (fileOf pool5 2 #[.nestMembers #[106]] #[] 1057 12 #[111, 113, 115] #[{ accessFlags := 18, nameIndex := 5, descriptorIndex := 6, attributes := #[] }, { accessFlags := 18, nameIndex := 9, descriptorIndex := 10, attributes := #[] }, { accessFlags := 2, nameIndex := 19, descriptorIndex := 10, attributes := #[] }])
  fields := #[{ name := "name", type := (.object "java/lang/String"), accessFlags := 18, slot := 0, constantValue := 0 }, { name := "ordinal", type := .int, accessFlags := 18, slot := 1, constantValue := 0 }, { name := "hash", type := .int, accessFlags := 2, slot := 2, constantValue := 0 }]
  methods := #[]
  instanceTypes := #[(.object "java/lang/String"), .int, .int]
  staticTypes := #[]
  resolved := Array.replicate 204 none
  statics := none }

def pool6 : Array CpInfo := pool [(1, .class_ 2), (0, u "com/example/bouncr/bouncr/decision/Effect"), (0, .fieldref 1 4), (0, .nameAndType 5 6), (0, u "PERMIT"), (0, u "Lcom/example/bouncr/bouncr/decision/Effect;"), (0, .fieldref 1 8), (0, .nameAndType 9 6), (0, u "DENY"), (2, u "$VALUES"), (0, u "[Lcom/example/bouncr/bouncr/decision/Effect;"), (6, .class_ 22), (1, u "java/lang/Enum"), (6, .fieldref 1 30), (0, .nameAndType 31 32), (0, u "decision"), (0, u "Lcom/example/bouncr/bouncr/decision/ExtendedDecision;"), (2, u "indeterminate"), (60, u "()Lcom/example/bouncr/bouncr/decision/ExtendedDecision;"), (0, u "opposite"), (0, u "()Lcom/example/bouncr/bouncr/decision/Effect;")] 5

def k6c0 : Code := { maxStack := 1, maxLocals := 1, code := prog_49_method_5_code, exceptionTable := #[], attributes := #[] }
def k6m0 : Method := { name := "decision", desc := "()Lcom/example/bouncr/bouncr/decision/ExtendedDecision;", sig := { parameters := [], returnType := some (.object "com/example/bouncr/bouncr/decision/ExtendedDecision") }, accessFlags := 1, code := some k6c0 }
def k6c1 : Code := { maxStack := 2, maxLocals := 1, code := prog_49_method_7_code, exceptionTable := #[], attributes := #[] }
def k6m1 : Method := { name := "opposite", desc := "()Lcom/example/bouncr/bouncr/decision/Effect;", sig := { parameters := [], returnType := some (.object "com/example/bouncr/bouncr/decision/Effect") }, accessFlags := 0, code := some k6c1 }
/-- com/example/bouncr/bouncr/decision/Effect -/
def k6 : Class := { plain "com/example/bouncr/bouncr/decision/Effect" (some 5) with
  accessFlags := 16433
  interfaces := #[]
  cf := some (fileOf pool6 1 #[] #[{ accessFlags := 1, nameIndex := 31, descriptorIndex := 96, attributes := #[] }, { accessFlags := 0, nameIndex := 97, descriptorIndex := 98, attributes := #[] }] 16433 20 #[] #[{ accessFlags := 16409, nameIndex := 5, descriptorIndex := 6, attributes := #[] }, { accessFlags := 16409, nameIndex := 9, descriptorIndex := 6, attributes := #[] }, { accessFlags := 18, nameIndex := 31, descriptorIndex := 32, attributes := #[] }, { accessFlags := 18, nameIndex := 35, descriptorIndex := 32, attributes := #[] }, { accessFlags := 4122, nameIndex := 12, descriptorIndex := 13, attributes := #[] }])
  fields := #[{ name := "PERMIT", type := (.object "com/example/bouncr/bouncr/decision/Effect"), accessFlags := 16409, slot := 0, constantValue := 0 }, { name := "DENY", type := (.object "com/example/bouncr/bouncr/decision/Effect"), accessFlags := 16409, slot := 1, constantValue := 0 }, { name := "decision", type := (.object "com/example/bouncr/bouncr/decision/ExtendedDecision"), accessFlags := 18, slot := 3, constantValue := 0 }, { name := "indeterminate", type := (.object "com/example/bouncr/bouncr/decision/ExtendedDecision"), accessFlags := 18, slot := 4, constantValue := 0 }, { name := "$VALUES", type := (.array (.object "com/example/bouncr/bouncr/decision/Effect")), accessFlags := 4122, slot := 2, constantValue := 0 }]
  methods := #[k6m0, k6m1]
  instanceTypes := #[(.object "java/lang/String"), .int, .int, (.object "com/example/bouncr/bouncr/decision/ExtendedDecision"), (.object "com/example/bouncr/bouncr/decision/ExtendedDecision")]
  staticTypes := #[(.object "com/example/bouncr/bouncr/decision/Effect"), (.object "com/example/bouncr/bouncr/decision/Effect"), (.array (.object "com/example/bouncr/bouncr/decision/Effect"))]
  resolved := Array.replicate 104 none
  statics := some 0 }

def pool7 : Array CpInfo := pool [(1, .class_ 2), (0, u "com/example/bouncr/bouncr/decision/ExtendedDecision"), (2, u "PERMIT"), (0, u "Lcom/example/bouncr/bouncr/decision/ExtendedDecision;"), (2, u "DENY"), (2, u "NOT_APPLICABLE"), (2, u "INDETERMINATE_P"), (2, u "INDETERMINATE_D"), (2, u "INDETERMINATE_DP"), (2, u "$VALUES"), (0, u "[Lcom/example/bouncr/bouncr/decision/ExtendedDecision;"), (6, .class_ 34), (1, u "java/lang/Enum"), (8, u "decision"), (0, u "Lcom/example/bouncr/bouncr/decision/Decision;")] 49

/-- com/example/bouncr/bouncr/decision/ExtendedDecision -/
def k7 : Class := { plain "com/example/bouncr/bouncr/decision/ExtendedDecision" (some 5) with
  accessFlags := 16433
  interfaces := #[]
  cf := some (fileOf pool7 1 #[] #[] 16433 32 #[] #[{ accessFlags := 16409, nameIndex := 5, descriptorIndex := 6, attributes := #[] }, { accessFlags := 16409, nameIndex := 9, descriptorIndex := 6, attributes := #[] }, { accessFlags := 16409, nameIndex := 12, descriptorIndex := 6, attributes := #[] }, { accessFlags := 16409, nameIndex := 15, descriptorIndex := 6, attributes := #[] }, { accessFlags := 16409, nameIndex := 18, descriptorIndex := 6, attributes := #[] }, { accessFlags := 16409, nameIndex := 21, descriptorIndex := 6, attributes := #[] }, { accessFlags := 18, nameIndex := 43, descriptorIndex := 44, attributes := #[] }, { accessFlags := 4122, nameIndex := 24, descriptorIndex := 25, attributes := #[] }])
  fields := #[{ name := "PERMIT", type := (.object "com/example/bouncr/bouncr/decision/ExtendedDecision"), accessFlags := 16409, slot := 0, constantValue := 0 }, { name := "DENY", type := (.object "com/example/bouncr/bouncr/decision/ExtendedDecision"), accessFlags := 16409, slot := 1, constantValue := 0 }, { name := "NOT_APPLICABLE", type := (.object "com/example/bouncr/bouncr/decision/ExtendedDecision"), accessFlags := 16409, slot := 2, constantValue := 0 }, { name := "INDETERMINATE_P", type := (.object "com/example/bouncr/bouncr/decision/ExtendedDecision"), accessFlags := 16409, slot := 3, constantValue := 0 }, { name := "INDETERMINATE_D", type := (.object "com/example/bouncr/bouncr/decision/ExtendedDecision"), accessFlags := 16409, slot := 4, constantValue := 0 }, { name := "INDETERMINATE_DP", type := (.object "com/example/bouncr/bouncr/decision/ExtendedDecision"), accessFlags := 16409, slot := 5, constantValue := 0 }, { name := "decision", type := (.object "com/example/bouncr/bouncr/decision/Decision"), accessFlags := 18, slot := 3, constantValue := 0 }, { name := "$VALUES", type := (.array (.object "com/example/bouncr/bouncr/decision/ExtendedDecision")), accessFlags := 4122, slot := 6, constantValue := 0 }]
  methods := #[]
  instanceTypes := #[(.object "java/lang/String"), .int, .int, (.object "com/example/bouncr/bouncr/decision/Decision")]
  staticTypes := #[(.object "com/example/bouncr/bouncr/decision/ExtendedDecision"), (.object "com/example/bouncr/bouncr/decision/ExtendedDecision"), (.object "com/example/bouncr/bouncr/decision/ExtendedDecision"), (.object "com/example/bouncr/bouncr/decision/ExtendedDecision"), (.object "com/example/bouncr/bouncr/decision/ExtendedDecision"), (.object "com/example/bouncr/bouncr/decision/ExtendedDecision"), (.array (.object "com/example/bouncr/bouncr/decision/ExtendedDecision"))]
  resolved := Array.replicate 94 none
  statics := some 1 }

def pool8 : Array CpInfo := pool [(1, u "java/lang/Cloneable"), (0, .class_ 1), (0, u "java/lang/Object"), (0, .class_ 3)] 3

/-- java/lang/Cloneable -/
def k8 : Class := { plain "java/lang/Cloneable" (some 0) with
  accessFlags := 1537
  interfaces := #[]
  cf := some (fileOf pool8 2 #[] #[] 1537 4 #[] #[])
  fields := #[]
  methods := #[]
  instanceTypes := #[]
  staticTypes := #[]
  resolved := Array.replicate 8 none
  statics := none }

/-- the primitive byte -/
def k9 : Class := { plain "byte" none with kind := .primitive 'B', accessFlags := 0x411 }
/-- [B -/
def k10 : Class := { plain "[B" (some 0) with kind := .array 9 .byte, interfaces := #[8, 4], accessFlags := 1041 }

/-- the primitive int -/
def k11 : Class := { plain "int" none with kind := .primitive 'I', accessFlags := 0x411 }
/-- [I -/
def k12 : Class := { plain "[I" (some 0) with kind := .array 11 .int, interfaces := #[8, 4], accessFlags := 1041 }

def heap : Heap := #[{ cls := 6, slots := #[.ref 2, .ref 3, .null], vm := .statics 6 },
  { cls := 7, slots := #[.ref 5, .ref 4, .null, .null, .null, .null, .null], vm := .statics 7 },
  { cls := 6, slots := #[.null, .int 0, .int 0, .ref 5, .null], vm := .none },
  { cls := 6, slots := #[.null, .int 1, .int 0, .ref 4, .null], vm := .none },
  { cls := 7, slots := #[.null, .int 1, .int 0, .null], vm := .none },
  { cls := 7, slots := #[.null, .int 0, .int 0, .null], vm := .none }]
def classes : Array Class := #[k0, k1, k2, k3, k4, k5, k6, k7, k8, k9, k10, k11, k12]
def interned : List (Array UInt16 × Addr) := []
def slotsUsed : Nat := 28
def theMethod : MethodId := ⟨1, 1⟩
def args0 : Array Value := #[.int 5]
def aboutOver (below : List Frame) : State where
  vm := { classes := classes, interned := interned.toArray }
  heap := heap
  slotsUsed := slotsUsed
  threads := #[{ frames := .invoking theMethod args0 :: below }]
def below0 : List Frame := [.native { method := ⟨0, 0⟩, args := #[] }]
def about1 : State := aboutOver below0
def p0 : Program := .bare "" "" ""
def e0 : Env := launch0.env 0 0 0
theorem w_frames : about1.frames = Frame.invoking theMethod args0 :: below0 := rfl
set_option maxRecDepth 65536 in
theorem w_args : argsFit about1.vm theMethod args0 = true := by decide +kernel
set_option maxRecDepth 65536 in
theorem w_heap : heapFits about1 = true := by decide +kernel
set_option maxRecDepth 65536 in
theorem w_runnable : about1.curStatus? = some .runnable := by decide +kernel
set_option maxRecDepth 65536 in
theorem w_alone : about1.alone = true := by decide +kernel
set_option maxRecDepth 65536 in
theorem w_named : about1.methodNamed? x = some theMethod := by decide +kernel
set_option maxRecDepth 65536 in
theorem w_hears : about1.hears theMethod below0 = true := by decide +kernel
set_option maxRecDepth 65536 in
theorem w_ripe : about1.ripe theMethod args0 below0 = true := by decide +kernel
theorem w_running : about1.status = .running := rfl
set_option maxRecDepth 65536 in
theorem w_room : about1.hasRoom e0.platform room_1 = true :=
  launch0.hasRoom_least _ room_1 (by decide +kernel) (by decide +kernel) (by decide +kernel) (by decide +kernel) (by decide +kernel) (by decide +kernel)
theorem allAtoms_all (ts : List Jvm.Cond) (a : Array Jvm.Value) (st : Jvm.State) : (allAtoms ts).before a st = ts.all (fun c => c.before a st) := by
  induction ts with
  | nil => rfl
  | cons c t ih =>
    show (Jvm.Cond.and c (allAtoms t)).before a st = _
    rw [Jvm.Cond.before_and, ih, List.all_cons]
def words1 : List Jvm.Cond := Jvm.Cond.code x code maxLocals ret :: tables_1
/-- a 'code' word, met by the world's own term for the bytes: nothing is compared byte by byte -/
theorem code_word {y : MethodName} {bytes : ByteArray} {mx : Nat} {rt : Option FieldType} {a : Array Value} {s : State} {m : MethodId} {meth : Method} {c : Code} (h1 : s.methodNamed? y = some m) (h2 : s.vm.method? m = some meth) (h3 : meth.code = some c) (h4 : c.code = bytes)
    (h5 : (c.maxLocals == mx && c.exceptionTable.isEmpty && decide (c.maxStack ≤ mostOperands) && decide (meth.sig.returnType = rt) && !meth.locks && decide (parseMethodDescriptor y.desc = some meth.sig)) = true) : (Jvm.Cond.code y bytes mx rt).before a s = true := by
  simp only [Bool.and_eq_true, beq_iff_eq, Bool.not_eq_true', decide_eq_true_eq] at h5
  obtain ⟨⟨⟨⟨⟨g1, g2⟩, g3⟩, g4⟩, g5⟩, g6⟩ := h5
  simp [Cond.before, Cond.holds, Cond.value, h1, h2, h3, h4, g1, g2, g3, g4, g5, g6]
def isCode : Jvm.Cond → Bool
  | .code _ _ _ _ => true
  | _ => false
theorem all_split {L : List Jvm.Cond} {P : Jvm.Cond → Bool} (h1 : L.all (fun c => isCode c || P c) = true) (h2 : ∀ c ∈ L.filter isCode, P c = true) : L.all P = true := by
  refine List.all_eq_true.mpr fun c hc => ?_
  have h := List.all_eq_true.mp h1 c hc
  rcases Bool.eq_false_or_eq_true (isCode c) with hi | hi
  · exact h2 c (List.mem_filter.mpr ⟨hc, hi⟩)
  · simpa [hi] using h
set_option maxRecDepth 65536 in
theorem w_c0 : (Jvm.Cond.code x code maxLocals ret).before args0 about1 = true := code_word (m := ⟨1, 1⟩) (meth := k1m1) (c := k1c1) (by decide +kernel) rfl rfl rfl (by decide +kernel)
set_option maxRecDepth 65536 in
theorem w_c1 : (Jvm.Cond.code ({ cls := "com/example/bouncr/bouncr/decision/Effect", name := "opposite", desc := "()Lcom/example/bouncr/bouncr/decision/Effect;" } : Jvm.MethodName) prog_49_method_7_code (1 : Nat) (Option.some (Jvm.ClassFile.FieldType.object "com/example/bouncr/bouncr/decision/Effect"))).before args0 about1 = true := code_word (m := ⟨6, 1⟩) (meth := k6m1) (c := k6c1) (by decide +kernel) rfl rfl rfl (by decide +kernel)
set_option maxRecDepth 65536 in
theorem w_c2 : (Jvm.Cond.code ({ cls := "com/example/bouncr/bouncr/decision/Effect", name := "decision", desc := "()Lcom/example/bouncr/bouncr/decision/ExtendedDecision;" } : Jvm.MethodName) prog_49_method_5_code (1 : Nat) (Option.some (Jvm.ClassFile.FieldType.object "com/example/bouncr/bouncr/decision/ExtendedDecision"))).before args0 about1 = true := code_word (m := ⟨6, 0⟩) (meth := k6m0) (c := k6c0) (by decide +kernel) rfl rfl rfl (by decide +kernel)
def codes1 : List Jvm.Cond := [Jvm.Cond.code x code maxLocals ret, Jvm.Cond.code ({ cls := "com/example/bouncr/bouncr/decision/Effect", name := "opposite", desc := "()Lcom/example/bouncr/bouncr/decision/Effect;" } : Jvm.MethodName) prog_49_method_7_code (1 : Nat) (Option.some (Jvm.ClassFile.FieldType.object "com/example/bouncr/bouncr/decision/Effect")), Jvm.Cond.code ({ cls := "com/example/bouncr/bouncr/decision/Effect", name := "decision", desc := "()Lcom/example/bouncr/bouncr/decision/ExtendedDecision;" } : Jvm.MethodName) prog_49_method_5_code (1 : Nat) (Option.some (Jvm.ClassFile.FieldType.object "com/example/bouncr/bouncr/decision/ExtendedDecision"))]
set_option maxRecDepth 65536 in
theorem codes_eq : words1.filter isCode = codes1 := rfl
theorem w_codes : ∀ c ∈ words1.filter isCode, c.before args0 about1 = true := by
  rw [codes_eq]
  intro c hc
  simp only [codes1, List.mem_cons, List.not_mem_nil, or_false] at hc
  rcases hc with rfl | rfl | rfl
  · exact w_c0
  · exact w_c1
  · exact w_c2
set_option maxRecDepth 65536 in
theorem w_t1 : (words1.take 24).all (fun c => isCode c || c.before args0 about1) = true := by decide +kernel
set_option maxRecDepth 65536 in
theorem w_t2 : (words1.drop 24).all (fun c => isCode c || c.before args0 about1) = true := by decide +kernel
theorem w_tables : (allAtoms (Jvm.Cond.code x code maxLocals ret :: tables_1)).before args0 about1 = true := by
  rw [allAtoms_all]
  show words1.all (fun c => c.before args0 about1) = true
  refine all_split ?_ w_codes
  rw [← List.take_append_drop 24 words1, List.all_append, w_t1, w_t2]
  rfl
set_option maxRecDepth 65536 in
theorem w_case : (Jvm.Cond.and given_1 narrow_1).before args0 about1 = true := by decide +kernel
theorem w_applies : (headSpec (Jvm.Cond.code x code maxLocals ret :: tables_1) room_1).applies x e0.platform about1 = true :=
  (Spec.applies_iff w_frames).mpr ⟨w_running, w_runnable, w_alone, w_named, w_hears, w_ripe, w_room, w_tables⟩
theorem atStart : AtStart classFile x code maxLocals ret World_1 tables_1 room_1 Calls_1 rest_1 Pre_1 launch0 p0 e0 about1 theMethod args0 below0 :=
  ⟨lists_1, trivial, launch0.admits_env _ _ _, launch0.least_env, fairChoices_fair.cas, fairChoices_fair.clock, w_frames, w_args, w_heap, w_applies, trivial, trivial, w_case⟩
end start1
theorem witness_1 : WitnessClaimed_1 := ⟨start1.p0, start1.e0, start1.about1, start1.theMethod, start1.args0, start1.below0, start1.atStart⟩
end Jvm.Pilot.@@N@@
