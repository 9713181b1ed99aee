import JvmDerived
import JvmDerived.Pilot.@@N@@Statement
import JvmDerived.Pilot.@@N@@Code
set_option linter.unusedVariables false
set_option linter.unusedSimpArgs false
namespace Jvm.Pilot.@@N@@
open Jvm Jvm.ClassFile Sem Op Lib Jvm.Free Jvm.Stand Jvm.LawKit Jvm.RoadKit Bundle Jvm.Pilot.@@N@@.Jvm.D
abbrev St (p : Program) (e : Env) (below : List Frame) (T : State) (g : JFrame) (t : State) : Prop := Steps p.tables e below (T.setTop g) t
theorem ww {Z : State} {a0 : Array Value} (hw : ∀ d ∈ tables_1, d.before a0 Z = true) {d : Jvm.Cond} (i : Nat) (h : tables_1[i]? = some d) : d.before a0 Z = true := hw _ (List.mem_of_getElem? h)
theorem ltI {a b : Int32} (h : a < b) : a.toInt < b.toInt := Int32.lt_iff_toInt_lt.mp h
theorem nltI {a b : Int32} (h : ¬ a < b) : ¬ a.toInt < b.toInt := mt Int32.lt_iff_toInt_lt.mpr h
theorem eqI {a b : Int32} (h : a = b) : a.toInt = b.toInt := congrArg Int32.toInt h
theorem neI {a b : Int32} (h : ¬ a = b) : ¬ a.toInt = b.toInt := mt Int32.toInt_inj.mp h
theorem ltJ {a b : Int64} (h : a < b) : a.toInt < b.toInt := Int64.lt_iff_toInt_lt.mp h
theorem nltJ {a b : Int64} (h : ¬ a < b) : ¬ a.toInt < b.toInt := mt Int64.lt_iff_toInt_lt.mpr h
theorem eqJ {a b : Int64} (h : a = b) : a.toInt = b.toInt := congrArg Int64.toInt h
theorem neJ {a b : Int64} (h : ¬ a = b) : ¬ a.toInt = b.toInt := mt Int64.toInt_inj.mp h
theorem own_eqI {args : Array Value} {s : State} {t : Term} {k : Int32} (h : (Jvm.Cond.eq t (.int k)).value args s none s [] = some true) : t.eval args s none [] s = some (.int k) := by
  obtain ⟨x, y, ex, ey, k1, k2⟩ := cmp_v (Or.inl h)
  obtain rfl : y = .int k := Option.some.inj (ey.symm.trans (Term.int_eval k))
  obtain ⟨z, rfl⟩ := k2
  rw [ex, gotT (Cond.eq_ints ex ey) h]
theorem own_eqJ {args : Array Value} {s : State} {t : Term} {k : Int64} (h : (Jvm.Cond.eq t (.long k)).value args s none s [] = some true) : t.eval args s none [] s = some (.long k) := by
  obtain ⟨x, y, ex, ey, k1, k2⟩ := cmp_v (Or.inl h)
  obtain rfl : y = .long k := Option.some.inj (ey.symm.trans (long_at k))
  obtain ⟨z, rfl⟩ := k2
  rw [ex, gotT (eq_L ex ey) h]
theorem own_eqR {args : Array Value} {s : State} {t u : Term} {b : Addr} (h : (Jvm.Cond.eq t u).value args s none s [] = some true) (hu : u.eval args s none [] s = some (.ref b)) : t.eval args s none [] s = some (.ref b) := by
  obtain ⟨x, y, ex, ey, k1, k2⟩ := cmp_v (Or.inl h)
  obtain rfl : y = .ref b := Option.some.inj (ey.symm.trans hu)
  have hx : x.isRef = true := k2.2
  rw [ex, gotT (eq_R ex ey hx rfl) h]
theorem own_len {args : Array Value} {s : State} {t : Term} {a : Addr} {cl : Cell} {ty : FieldType} {k : Int32} (ev : t.eval args s none [] s = some (.ref a)) (A : Arr s s.heap a cl ty) (h : (Term.length t).eval args s none [] s = some (.int k)) : cl.slots.size < 2 ^ 31 ∧ cl.slots.size.toInt32 = k := by
  have ha := A.fin (Vm.Alike.refl _)
  by_cases hl : cl.slots.size < 2 ^ 31
  · exact ⟨hl, Value.int.inj (Option.some.inj ((len_f ev ha hl).symm.trans h))⟩
  · exfalso; simp [Term.eval, ev, ha, hl] at h
theorem own_sel {Z : State} {a0 : Array Value} {y : MethodName} {n : Nat} (wi : (Jvm.Cond.instantiable y.cls n).before a0 Z = true) (wp : (Jvm.Cond.privateMethod y).before a0 Z = true) (wm : (Jvm.Cond.instanceMethod y).before a0 Z = true) (hy : y.cls ≠ "java/lang/invoke/MethodHandle" ∧ y.cls ≠ "java/lang/invoke/VarHandle") : (Jvm.Cond.selects y.cls y y).before a0 Z = true := by
  obtain ⟨c, k, h1, h2, h3, h4, -⟩ := Cond.instantiable_spec wi
  exact selects_self_of_private h1 h2 (by simp only [Bool.or_eq_false_iff] at h4; exact h4.1) (Cond.privateMethod_at wp) wm hy
def own_nz (x : Int64) : Int32 := if x = 0 then 0 else 1
theorem own_c_nz (x : Int64) : (x.toInt = 0 → (own_nz x).toInt = 0) ∧ (x.toInt ≠ 0 → (own_nz x).toInt = 1) := by
  unfold own_nz
  by_cases h : x = 0
  · subst h; exact ⟨fun _ => by decide, fun q => absurd (by decide) q⟩
  · rw [if_neg h]; exact ⟨fun q => absurd (Int64.toInt_inj.mp (q.trans (by decide : (0 : Int) = (0 : Int64).toInt))) h, fun _ => by decide⟩
theorem own_old_le {Z : State} {n0 : Nat} {h : Heap} (O : Old Z n0 h) : n0 ≤ h.size := O.1 ▸ O.2.1
abbrev M0 : MethodName := ⟨"com/example/vacant_throne/vacantthrone/core/Verdict", "isDropped", "()Z"⟩

def Env1 (Z : State) (a_ACCEPTED : Addr) (a_OTHER_SET : Addr) (a_SLOW_SENDER : Addr) (a_DUPLICATE_ID : Addr) (a_STALE : Addr) (a_OWN : Addr) (a_MALFORMED : Addr) : Prop := Sta Z Z.heap "com/example/vacant_throne/vacantthrone/core/Verdict" "ACCEPTED" "Lcom/example/vacant_throne/vacantthrone/core/Verdict;" (.ref a_ACCEPTED) ∧
  Exa Z Z.heap a_ACCEPTED "com/example/vacant_throne/vacantthrone/core/Verdict" ∧
  Sta Z Z.heap "com/example/vacant_throne/vacantthrone/core/Verdict" "OTHER_SET" "Lcom/example/vacant_throne/vacantthrone/core/Verdict;" (.ref a_OTHER_SET) ∧
  Exa Z Z.heap a_OTHER_SET "com/example/vacant_throne/vacantthrone/core/Verdict" ∧
  Fld Z Z.heap a_OTHER_SET "java/lang/Enum" "ordinal" "I" (.int (3 : Int32)) ∧
  Fld Z Z.heap a_ACCEPTED "java/lang/Enum" "ordinal" "I" (.int (0 : Int32)) ∧
  Sta Z Z.heap "com/example/vacant_throne/vacantthrone/core/Verdict" "SLOW_SENDER" "Lcom/example/vacant_throne/vacantthrone/core/Verdict;" (.ref a_SLOW_SENDER) ∧
  Exa Z Z.heap a_SLOW_SENDER "com/example/vacant_throne/vacantthrone/core/Verdict" ∧
  Fld Z Z.heap a_SLOW_SENDER "java/lang/Enum" "ordinal" "I" (.int (1 : Int32)) ∧
  Sta Z Z.heap "com/example/vacant_throne/vacantthrone/core/Verdict" "DUPLICATE_ID" "Lcom/example/vacant_throne/vacantthrone/core/Verdict;" (.ref a_DUPLICATE_ID) ∧
  Exa Z Z.heap a_DUPLICATE_ID "com/example/vacant_throne/vacantthrone/core/Verdict" ∧
  Fld Z Z.heap a_DUPLICATE_ID "java/lang/Enum" "ordinal" "I" (.int (5 : Int32)) ∧
  Sta Z Z.heap "com/example/vacant_throne/vacantthrone/core/Verdict" "STALE" "Lcom/example/vacant_throne/vacantthrone/core/Verdict;" (.ref a_STALE) ∧
  Exa Z Z.heap a_STALE "com/example/vacant_throne/vacantthrone/core/Verdict" ∧
  Fld Z Z.heap a_STALE "java/lang/Enum" "ordinal" "I" (.int (6 : Int32)) ∧
  Sta Z Z.heap "com/example/vacant_throne/vacantthrone/core/Verdict" "OWN" "Lcom/example/vacant_throne/vacantthrone/core/Verdict;" (.ref a_OWN) ∧
  Exa Z Z.heap a_OWN "com/example/vacant_throne/vacantthrone/core/Verdict" ∧
  Fld Z Z.heap a_OWN "java/lang/Enum" "ordinal" "I" (.int (4 : Int32)) ∧
  Sta Z Z.heap "com/example/vacant_throne/vacantthrone/core/Verdict" "MALFORMED" "Lcom/example/vacant_throne/vacantthrone/core/Verdict;" (.ref a_MALFORMED) ∧
  Exa Z Z.heap a_MALFORMED "com/example/vacant_throne/vacantthrone/core/Verdict" ∧
  Fld Z Z.heap a_MALFORMED "java/lang/Enum" "ordinal" "I" (.int (2 : Int32))
theorem ef0 (m : MethodId) (x0 : Int32) : entryFrame m #[(.int x0)] maxLocals = mkF m 0 #[.val (.int x0), .unset, .unset, .unset] [] := by first | (simp [entryFrame, mkF, argsToLocals, Value.category, maxLocals]; done) | rfl
theorem pn0 : plainName "com/example/vacant_throne/vacantthrone/core/VerdictIsDroppedPinLaw" = true := by first | (simp [plainName, overriddenIn]; done) | decide +kernel
theorem ef1 (m : MethodId) (x0 : Addr) : entryFrame m #[(.ref x0)] 1 = mkF m 0 #[.val (.ref x0)] [] := by first | (simp [entryFrame, mkF, argsToLocals, Value.category]; done) | rfl
theorem pn1 : plainName "com/example/vacant_throne/vacantthrone/core/Verdict" = true := by first | (simp [plainName, overriddenIn]; done) | decide +kernel
theorem d1_0 : decode prog_18_method_4_code 0 = .ok (.aload_n 0, 1) := by decide +kernel
theorem d1_1 : decode prog_18_method_4_code 1 = .ok (.getstatic 3, 3) := by decide +kernel
theorem d1_4 : decode prog_18_method_4_code 4 = .ok (.if_acmp .eq 14, 3) := by decide +kernel
theorem d1_18 : decode prog_18_method_4_code 18 = .ok (.iconst 0, 1) := by decide +kernel
theorem d1_19 : decode prog_18_method_4_code 19 = .ok (.ireturn, 1) := by decide +kernel
def Q1_0 (Z : State) (a_ACCEPTED : Addr) (a_OTHER_SET : Addr) (a_SLOW_SENDER : Addr) (a_DUPLICATE_ID : Addr) (a_STALE : Addr) (a_OWN : Addr) (a_MALFORMED : Addr) (h0 : Heap) (n0 : Nat) (v : Option Value) (h : Heap) (L : List Loc) : Prop := Fr n0 L ∧ h = h0 ∧ ((v = some (.int (0 : Int32))))
set_option maxRecDepth 65536 in
set_option maxHeartbeats 40000000 in
theorem rm1_0 (l : Launch) (Z : State) (a0 : Array Value) (hw : ∀ d ∈ tables_1, d.before a0 Z = true) (ws : List Jvm.Cond) (a_ACCEPTED : Addr) (a_OTHER_SET : Addr) (a_SLOW_SENDER : Addr) (a_DUPLICATE_ID : Addr) (a_STALE : Addr) (a_OWN : Addr) (a_MALFORMED : Addr) (h0 : Heap) (n0 : Nat) (O0 : Old Z n0 h0) (HE : Env1 Z a_ACCEPTED a_OTHER_SET a_SLOW_SENDER a_DUPLICATE_ID a_STALE a_OWN a_MALFORMED)  :
    MetFree l M0 (head1 (Jvm.Cond.code M0 prog_18_method_4_code 1 (some .boolean) :: ws) ({ frames := 0, cells := 0, slots := 0, locals := 0 } : Room)) (fun a U => a = #[(.ref a_ACCEPTED)] ∧ Z.Warmed39 U.vm ∧ U.heap = h0) (fun _ _ _ _ _ => True) (fun _ U o U' => ∃ v L, o = .returned v ∧ Q1_0 Z a_ACCEPTED a_OTHER_SET a_SLOW_SENDER a_DUPLICATE_ID a_STALE a_OWN a_MALFORMED h0 n0 v U'.heap L ∧ FrameEnd U o U' L ({ frames := 0, cells := 0, slots := 0, locals := 0 } : Room).cells ({ frames := 0, cells := 0, slots := 0, locals := 0 } : Room).slots) := by
 refine MetFree.of_bodySF (plainFor_of_name pn1) hisR ?_
 intro p e s m args below meth c s₁ Bd hml0 hP hK
 obtain ⟨rfl, hZ, hh⟩ := hP
 have hx := Bd.exec
 have hby := Bd.bytes
 have hml : c.maxLocals = 1 := hml0
 have hown : s.vm.findClass "com/example/vacant_throne/vacantthrone/core/Verdict" = some m.cls := findClass_of_methodNamed Bd.named
 have hnm := (name_of_methodNamed Bd.named Bd.method).1
 have X0 : Stand p l e ({ frames := 0, cells := 0, slots := 0, locals := 0 } : Room) s m #[(.ref a_ACCEPTED)] below meth c s₁ [] 0 0 := Stand.of_body Bd
 have e0 : s₁.heap = h0 := by rw [← hh, Bd.state]; rfl
 have N0 := Fr.nil n0
 let S0 : State → Prop := fun t => Steps p.tables e below (s₁.setTop (entryFrame m #[(.ref a_ACCEPTED)] 1)) t
 have p0 : ∀ t, St p e below s₁ (mkF m 0 #[.val (.ref a_ACCEPTED)] []) t → S0 t := fun t k => castTop (ef1 m a_ACCEPTED) k
 have HE' := HE
 obtain ⟨Sa_ACCEPTED, Ea_ACCEPTED, Sa_OTHER_SET, Ea_OTHER_SET, Fa_OTHER_SET_ordinal, Fa_ACCEPTED_ordinal, Sa_SLOW_SENDER, Ea_SLOW_SENDER, Fa_SLOW_SENDER_ordinal, Sa_DUPLICATE_ID, Ea_DUPLICATE_ID, Fa_DUPLICATE_ID_ordinal, Sa_STALE, Ea_STALE, Fa_STALE_ordinal, Sa_OWN, Ea_OWN, Fa_OWN_ordinal, Sa_MALFORMED, Ea_MALFORMED, Fa_MALFORMED_ordinal⟩ := HE
 have p1 : ∀ t, St p e below s₁ (mkF m 1 #[.val (.ref a_ACCEPTED)] [(.ref a_ACCEPTED)]) t → S0 t := fun t k => p0 t (by
   show St p e below s₁ (mkF m 0 #[.val (.ref a_ACCEPTED)] []) t
   refine XS.aloadN X0.here hx rfl (hb hby d1_0) rfl rfl ?_
   exact k)
 obtain ⟨T2, X2, e2, st2⟩ := getS2 X0 hx hZ hown (host := "") (Or.inl (ww hw 9 rfl)) Via.refl e0 (Sa_ACCEPTED.ext O0.2) (g := (mkF m 1 #[.val (.ref a_ACCEPTED)] [(.ref a_ACCEPTED)])) rfl (hb hby d1_1)
 have p3 : ∀ t, St p e below T2 (mkF m 4 #[.val (.ref a_ACCEPTED)] [(.ref a_ACCEPTED), (.ref a_ACCEPTED)]) t → S0 t := fun t k => p1 t (st2 t k)
 have p4 : ∀ t, St p e below T2 (mkF m 19 #[.val (.ref a_ACCEPTED)] [(.int (0 : Int32))]) t → S0 t := fun t k => p3 t (by
   show St p e below T2 (mkF m 4 #[.val (.ref a_ACCEPTED)] [(.ref a_ACCEPTED), (.ref a_ACCEPTED)]) t
   refine Jvm.RoadKit.acmp (g := (mkF m 4 #[.val (.ref a_ACCEPTED)] [(.ref a_ACCEPTED), (.ref a_ACCEPTED)])) X2 hx rfl rfl rfl (pc0 := 4) (pc' := 18) (same := true) rfl (hb hby d1_4) rfl (decide_eq_true rfl) (by decide) (by decide) ?_
   show St p e below T2 (mkF m 18 #[.val (.ref a_ACCEPTED)] []) t
   refine XT.iconstV X2.here hx rfl (0 : Int32) (hb hby d1_18) (by decide) ?_
   exact k)
 obtain ⟨fs, hr, hrun, hended, hW, hsame⟩ := X2.leave (v := some (.int (0 : Int32))) (fun h => by rw [Bd.returns] at h; cases h)
 refine ⟨_, _, p4 _ ?_, hrun, hended, _, _, rfl, ?_, ⟨_, rfl⟩, hW, hsame.mono (by decide) (by decide)⟩
 · exact retOut X2 hx Bd.returns rfl (Or.inl ⟨rfl, by simp, _, rfl⟩) (hb hby d1_19) hr
 · show Q1_0 Z a_ACCEPTED a_OTHER_SET a_SLOW_SENDER a_DUPLICATE_ID a_STALE a_OWN a_MALFORMED h0 n0 _ T2.heap _
   exact ⟨N0, e2, rfl⟩
theorem pd0 : parseMethodDescriptor "()Z" = some ⟨[], some .boolean⟩ := by decide +kernel
theorem d1_7 : decode prog_18_method_4_code 7 = .ok (.aload_n 0, 1) := by decide +kernel
theorem d1_8 : decode prog_18_method_4_code 8 = .ok (.getstatic 7, 3) := by decide +kernel
theorem d1_11 : decode prog_18_method_4_code 11 = .ok (.if_acmp .eq 7, 3) := by decide +kernel
def Q1_1 (Z : State) (a_ACCEPTED : Addr) (a_OTHER_SET : Addr) (a_SLOW_SENDER : Addr) (a_DUPLICATE_ID : Addr) (a_STALE : Addr) (a_OWN : Addr) (a_MALFORMED : Addr) (h0 : Heap) (n0 : Nat) (v : Option Value) (h : Heap) (L : List Loc) : Prop := Fr n0 L ∧ h = h0 ∧ ((v = some (.int (0 : Int32))))
set_option maxRecDepth 65536 in
set_option maxHeartbeats 40000000 in
theorem rm1_1 (l : Launch) (Z : State) (a0 : Array Value) (hw : ∀ d ∈ tables_1, d.before a0 Z = true) (ws : List Jvm.Cond) (a_ACCEPTED : Addr) (a_OTHER_SET : Addr) (a_SLOW_SENDER : Addr) (a_DUPLICATE_ID : Addr) (a_STALE : Addr) (a_OWN : Addr) (a_MALFORMED : Addr) (h0 : Heap) (n0 : Nat) (O0 : Old Z n0 h0) (HE : Env1 Z a_ACCEPTED a_OTHER_SET a_SLOW_SENDER a_DUPLICATE_ID a_STALE a_OWN a_MALFORMED)  :
    MetFree l M0 (head1 (Jvm.Cond.code M0 prog_18_method_4_code 1 (some .boolean) :: ws) ({ frames := 0, cells := 0, slots := 0, locals := 0 } : Room)) (fun a U => a = #[(.ref a_SLOW_SENDER)] ∧ Z.Warmed39 U.vm ∧ U.heap = h0) (fun _ _ _ _ _ => True) (fun _ U o U' => ∃ v L, o = .returned v ∧ Q1_1 Z a_ACCEPTED a_OTHER_SET a_SLOW_SENDER a_DUPLICATE_ID a_STALE a_OWN a_MALFORMED h0 n0 v U'.heap L ∧ FrameEnd U o U' L ({ frames := 0, cells := 0, slots := 0, locals := 0 } : Room).cells ({ frames := 0, cells := 0, slots := 0, locals := 0 } : Room).slots) := by
 refine MetFree.of_bodySF (plainFor_of_name pn1) hisR ?_
 intro p e s m args below meth c s₁ Bd hml0 hP hK
 obtain ⟨rfl, hZ, hh⟩ := hP
 have hx := Bd.exec
 have hby := Bd.bytes
 have hml : c.maxLocals = 1 := hml0
 have hown : s.vm.findClass "com/example/vacant_throne/vacantthrone/core/Verdict" = some m.cls := findClass_of_methodNamed Bd.named
 have hnm := (name_of_methodNamed Bd.named Bd.method).1
 have X0 : Stand p l e ({ frames := 0, cells := 0, slots := 0, locals := 0 } : Room) s m #[(.ref a_SLOW_SENDER)] below meth c s₁ [] 0 0 := Stand.of_body Bd
 have e0 : s₁.heap = h0 := by rw [← hh, Bd.state]; rfl
 have N0 := Fr.nil n0
 let S0 : State → Prop := fun t => Steps p.tables e below (s₁.setTop (entryFrame m #[(.ref a_SLOW_SENDER)] 1)) t
 have p0 : ∀ t, St p e below s₁ (mkF m 0 #[.val (.ref a_SLOW_SENDER)] []) t → S0 t := fun t k => castTop (ef1 m a_SLOW_SENDER) k
 have HE' := HE
 obtain ⟨Sa_ACCEPTED, Ea_ACCEPTED, Sa_OTHER_SET, Ea_OTHER_SET, Fa_OTHER_SET_ordinal, Fa_ACCEPTED_ordinal, Sa_SLOW_SENDER, Ea_SLOW_SENDER, Fa_SLOW_SENDER_ordinal, Sa_DUPLICATE_ID, Ea_DUPLICATE_ID, Fa_DUPLICATE_ID_ordinal, Sa_STALE, Ea_STALE, Fa_STALE_ordinal, Sa_OWN, Ea_OWN, Fa_OWN_ordinal, Sa_MALFORMED, Ea_MALFORMED, Fa_MALFORMED_ordinal⟩ := HE
 have p1 : ∀ t, St p e below s₁ (mkF m 1 #[.val (.ref a_SLOW_SENDER)] [(.ref a_SLOW_SENDER)]) t → S0 t := fun t k => p0 t (by
   show St p e below s₁ (mkF m 0 #[.val (.ref a_SLOW_SENDER)] []) t
   refine XS.aloadN X0.here hx rfl (hb hby d1_0) rfl rfl ?_
   exact k)
 obtain ⟨T2, X2, e2, st2⟩ := getS2 X0 hx hZ hown (host := "") (Or.inl (ww hw 9 rfl)) Via.refl e0 (Sa_ACCEPTED.ext O0.2) (g := (mkF m 1 #[.val (.ref a_SLOW_SENDER)] [(.ref a_SLOW_SENDER)])) rfl (hb hby d1_1)
 have p3 : ∀ t, St p e below T2 (mkF m 4 #[.val (.ref a_SLOW_SENDER)] [(.ref a_ACCEPTED), (.ref a_SLOW_SENDER)]) t → S0 t := fun t k => p1 t (st2 t k)
 have p4 : ∀ t, St p e below T2 (mkF m 8 #[.val (.ref a_SLOW_SENDER)] [(.ref a_SLOW_SENDER)]) t → S0 t := fun t k => p3 t (by
   show St p e below T2 (mkF m 4 #[.val (.ref a_SLOW_SENDER)] [(.ref a_ACCEPTED), (.ref a_SLOW_SENDER)]) t
   refine Jvm.RoadKit.acmp (g := (mkF m 4 #[.val (.ref a_SLOW_SENDER)] [(.ref a_ACCEPTED), (.ref a_SLOW_SENDER)])) X2 hx rfl rfl rfl (pc0 := 4) (pc' := 7) (same := false) rfl (hb hby d1_4) rfl (decide_eq_false fun q => (Fld.ne Fa_SLOW_SENDER_ordinal Fa_ACCEPTED_ordinal (fun q => absurd (Value.int.inj q) (by decide))) (Value.ref.inj q)) (by decide) (by decide) ?_
   show St p e below T2 (mkF m 7 #[.val (.ref a_SLOW_SENDER)] []) t
   refine XS.aloadN X2.here hx rfl (hb hby d1_7) rfl rfl ?_
   exact k)
 obtain ⟨T5, X5, e5, st5⟩ := getS2 X2 hx hZ hown (host := "") (Or.inl (ww hw 12 rfl)) Via.refl e2 (Sa_SLOW_SENDER.ext O0.2) (g := (mkF m 8 #[.val (.ref a_SLOW_SENDER)] [(.ref a_SLOW_SENDER)])) rfl (hb hby d1_8)
 have p6 : ∀ t, St p e below T5 (mkF m 11 #[.val (.ref a_SLOW_SENDER)] [(.ref a_SLOW_SENDER), (.ref a_SLOW_SENDER)]) t → S0 t := fun t k => p4 t (st5 t k)
 have p7 : ∀ t, St p e below T5 (mkF m 19 #[.val (.ref a_SLOW_SENDER)] [(.int (0 : Int32))]) t → S0 t := fun t k => p6 t (by
   show St p e below T5 (mkF m 11 #[.val (.ref a_SLOW_SENDER)] [(.ref a_SLOW_SENDER), (.ref a_SLOW_SENDER)]) t
   refine Jvm.RoadKit.acmp (g := (mkF m 11 #[.val (.ref a_SLOW_SENDER)] [(.ref a_SLOW_SENDER), (.ref a_SLOW_SENDER)])) X5 hx rfl rfl rfl (pc0 := 11) (pc' := 18) (same := true) rfl (hb hby d1_11) rfl (decide_eq_true rfl) (by decide) (by decide) ?_
   show St p e below T5 (mkF m 18 #[.val (.ref a_SLOW_SENDER)] []) t
   refine XT.iconstV X5.here hx rfl (0 : Int32) (hb hby d1_18) (by decide) ?_
   exact k)
 obtain ⟨fs, hr, hrun, hended, hW, hsame⟩ := X5.leave (v := some (.int (0 : Int32))) (fun h => by rw [Bd.returns] at h; cases h)
 refine ⟨_, _, p7 _ ?_, hrun, hended, _, _, rfl, ?_, ⟨_, rfl⟩, hW, hsame.mono (by decide) (by decide)⟩
 · exact retOut X5 hx Bd.returns rfl (Or.inl ⟨rfl, by simp, _, rfl⟩) (hb hby d1_19) hr
 · show Q1_1 Z a_ACCEPTED a_OTHER_SET a_SLOW_SENDER a_DUPLICATE_ID a_STALE a_OWN a_MALFORMED h0 n0 _ T5.heap _
   exact ⟨N0, e5, rfl⟩
theorem d1_14 : decode prog_18_method_4_code 14 = .ok (.iconst 1, 1) := by decide +kernel
theorem d1_15 : decode prog_18_method_4_code 15 = .ok (.goto 4, 3) := by decide +kernel
def Q1_2 (Z : State) (a_ACCEPTED : Addr) (a_OTHER_SET : Addr) (a_SLOW_SENDER : Addr) (a_DUPLICATE_ID : Addr) (a_STALE : Addr) (a_OWN : Addr) (a_MALFORMED : Addr) (h0 : Heap) (n0 : Nat) (v : Option Value) (h : Heap) (L : List Loc) : Prop := Fr n0 L ∧ h = h0 ∧ ((v = some (.int (1 : Int32))))
set_option maxRecDepth 65536 in
set_option maxHeartbeats 40000000 in
theorem rm1_2 (l : Launch) (Z : State) (a0 : Array Value) (hw : ∀ d ∈ tables_1, d.before a0 Z = true) (ws : List Jvm.Cond) (a_ACCEPTED : Addr) (a_OTHER_SET : Addr) (a_SLOW_SENDER : Addr) (a_DUPLICATE_ID : Addr) (a_STALE : Addr) (a_OWN : Addr) (a_MALFORMED : Addr) (h0 : Heap) (n0 : Nat) (O0 : Old Z n0 h0) (HE : Env1 Z a_ACCEPTED a_OTHER_SET a_SLOW_SENDER a_DUPLICATE_ID a_STALE a_OWN a_MALFORMED)  :
    MetFree l M0 (head1 (Jvm.Cond.code M0 prog_18_method_4_code 1 (some .boolean) :: ws) ({ frames := 0, cells := 0, slots := 0, locals := 0 } : Room)) (fun a U => a = #[(.ref a_MALFORMED)] ∧ Z.Warmed39 U.vm ∧ U.heap = h0) (fun _ _ _ _ _ => True) (fun _ U o U' => ∃ v L, o = .returned v ∧ Q1_2 Z a_ACCEPTED a_OTHER_SET a_SLOW_SENDER a_DUPLICATE_ID a_STALE a_OWN a_MALFORMED h0 n0 v U'.heap L ∧ FrameEnd U o U' L ({ frames := 0, cells := 0, slots := 0, locals := 0 } : Room).cells ({ frames := 0, cells := 0, slots := 0, locals := 0 } : Room).slots) := by
 refine MetFree.of_bodySF (plainFor_of_name pn1) hisR ?_
 intro p e s m args below meth c s₁ Bd hml0 hP hK
 obtain ⟨rfl, hZ, hh⟩ := hP
 have hx := Bd.exec
 have hby := Bd.bytes
 have hml : c.maxLocals = 1 := hml0
 have hown : s.vm.findClass "com/example/vacant_throne/vacantthrone/core/Verdict" = some m.cls := findClass_of_methodNamed Bd.named
 have hnm := (name_of_methodNamed Bd.named Bd.method).1
 have X0 : Stand p l e ({ frames := 0, cells := 0, slots := 0, locals := 0 } : Room) s m #[(.ref a_MALFORMED)] below meth c s₁ [] 0 0 := Stand.of_body Bd
 have e0 : s₁.heap = h0 := by rw [← hh, Bd.state]; rfl
 have N0 := Fr.nil n0
 let S0 : State → Prop := fun t => Steps p.tables e below (s₁.setTop (entryFrame m #[(.ref a_MALFORMED)] 1)) t
 have p0 : ∀ t, St p e below s₁ (mkF m 0 #[.val (.ref a_MALFORMED)] []) t → S0 t := fun t k => castTop (ef1 m a_MALFORMED) k
 have HE' := HE
 obtain ⟨Sa_ACCEPTED, Ea_ACCEPTED, Sa_OTHER_SET, Ea_OTHER_SET, Fa_OTHER_SET_ordinal, Fa_ACCEPTED_ordinal, Sa_SLOW_SENDER, Ea_SLOW_SENDER, Fa_SLOW_SENDER_ordinal, Sa_DUPLICATE_ID, Ea_DUPLICATE_ID, Fa_DUPLICATE_ID_ordinal, Sa_STALE, Ea_STALE, Fa_STALE_ordinal, Sa_OWN, Ea_OWN, Fa_OWN_ordinal, Sa_MALFORMED, Ea_MALFORMED, Fa_MALFORMED_ordinal⟩ := HE
 have p1 : ∀ t, St p e below s₁ (mkF m 1 #[.val (.ref a_MALFORMED)] [(.ref a_MALFORMED)]) t → S0 t := fun t k => p0 t (by
   show St p e below s₁ (mkF m 0 #[.val (.ref a_MALFORMED)] []) t
   refine XS.aloadN X0.here hx rfl (hb hby d1_0) rfl rfl ?_
   exact k)
 obtain ⟨T2, X2, e2, st2⟩ := getS2 X0 hx hZ hown (host := "") (Or.inl (ww hw 9 rfl)) Via.refl e0 (Sa_ACCEPTED.ext O0.2) (g := (mkF m 1 #[.val (.ref a_MALFORMED)] [(.ref a_MALFORMED)])) rfl (hb hby d1_1)
 have p3 : ∀ t, St p e below T2 (mkF m 4 #[.val (.ref a_MALFORMED)] [(.ref a_ACCEPTED), (.ref a_MALFORMED)]) t → S0 t := fun t k => p1 t (st2 t k)
 have p4 : ∀ t, St p e below T2 (mkF m 8 #[.val (.ref a_MALFORMED)] [(.ref a_MALFORMED)]) t → S0 t := fun t k => p3 t (by
   show St p e below T2 (mkF m 4 #[.val (.ref a_MALFORMED)] [(.ref a_ACCEPTED), (.ref a_MALFORMED)]) t
   refine Jvm.RoadKit.acmp (g := (mkF m 4 #[.val (.ref a_MALFORMED)] [(.ref a_ACCEPTED), (.ref a_MALFORMED)])) X2 hx rfl rfl rfl (pc0 := 4) (pc' := 7) (same := false) rfl (hb hby d1_4) rfl (decide_eq_false fun q => (Fld.ne Fa_MALFORMED_ordinal Fa_ACCEPTED_ordinal (fun q => absurd (Value.int.inj q) (by decide))) (Value.ref.inj q)) (by decide) (by decide) ?_
   show St p e below T2 (mkF m 7 #[.val (.ref a_MALFORMED)] []) t
   refine XS.aloadN X2.here hx rfl (hb hby d1_7) rfl rfl ?_
   exact k)
 obtain ⟨T5, X5, e5, st5⟩ := getS2 X2 hx hZ hown (host := "") (Or.inl (ww hw 12 rfl)) Via.refl e2 (Sa_SLOW_SENDER.ext O0.2) (g := (mkF m 8 #[.val (.ref a_MALFORMED)] [(.ref a_MALFORMED)])) rfl (hb hby d1_8)
 have p6 : ∀ t, St p e below T5 (mkF m 11 #[.val (.ref a_MALFORMED)] [(.ref a_SLOW_SENDER), (.ref a_MALFORMED)]) t → S0 t := fun t k => p4 t (st5 t k)
 have p7 : ∀ t, St p e below T5 (mkF m 19 #[.val (.ref a_MALFORMED)] [(.int (1 : Int32))]) t → S0 t := fun t k => p6 t (by
   show St p e below T5 (mkF m 11 #[.val (.ref a_MALFORMED)] [(.ref a_SLOW_SENDER), (.ref a_MALFORMED)]) t
   refine Jvm.RoadKit.acmp (g := (mkF m 11 #[.val (.ref a_MALFORMED)] [(.ref a_SLOW_SENDER), (.ref a_MALFORMED)])) X5 hx rfl rfl rfl (pc0 := 11) (pc' := 14) (same := false) rfl (hb hby d1_11) rfl (decide_eq_false fun q => (Fld.ne Fa_MALFORMED_ordinal Fa_SLOW_SENDER_ordinal (fun q => absurd (Value.int.inj q) (by decide))) (Value.ref.inj q)) (by decide) (by decide) ?_
   show St p e below T5 (mkF m 14 #[.val (.ref a_MALFORMED)] []) t
   refine XT.iconstV X5.here hx rfl (1 : Int32) (hb hby d1_14) (by decide) ?_
   show St p e below T5 (mkF m 15 #[.val (.ref a_MALFORMED)] [(.int (1 : Int32))]) t
   refine XS.goto X5.here hx rfl (pc0 := 15) (pc' := 19) rfl (hb hby d1_15) (by decide) (by decide) ?_
   exact k)
 obtain ⟨fs, hr, hrun, hended, hW, hsame⟩ := X5.leave (v := some (.int (1 : Int32))) (fun h => by rw [Bd.returns] at h; cases h)
 refine ⟨_, _, p7 _ ?_, hrun, hended, _, _, rfl, ?_, ⟨_, rfl⟩, hW, hsame.mono (by decide) (by decide)⟩
 · exact retOut X5 hx Bd.returns rfl (Or.inl ⟨rfl, by simp, _, rfl⟩) (hb hby d1_19) hr
 · show Q1_2 Z a_ACCEPTED a_OTHER_SET a_SLOW_SENDER a_DUPLICATE_ID a_STALE a_OWN a_MALFORMED h0 n0 _ T5.heap _
   exact ⟨N0, e5, rfl⟩
def Q1_3 (Z : State) (a_ACCEPTED : Addr) (a_OTHER_SET : Addr) (a_SLOW_SENDER : Addr) (a_DUPLICATE_ID : Addr) (a_STALE : Addr) (a_OWN : Addr) (a_MALFORMED : Addr) (h0 : Heap) (n0 : Nat) (v : Option Value) (h : Heap) (L : List Loc) : Prop := Fr n0 L ∧ h = h0 ∧ ((v = some (.int (1 : Int32))))
set_option maxRecDepth 65536 in
set_option maxHeartbeats 40000000 in
theorem rm1_3 (l : Launch) (Z : State) (a0 : Array Value) (hw : ∀ d ∈ tables_1, d.before a0 Z = true) (ws : List Jvm.Cond) (a_ACCEPTED : Addr) (a_OTHER_SET : Addr) (a_SLOW_SENDER : Addr) (a_DUPLICATE_ID : Addr) (a_STALE : Addr) (a_OWN : Addr) (a_MALFORMED : Addr) (h0 : Heap) (n0 : Nat) (O0 : Old Z n0 h0) (HE : Env1 Z a_ACCEPTED a_OTHER_SET a_SLOW_SENDER a_DUPLICATE_ID a_STALE a_OWN a_MALFORMED)  :
    MetFree l M0 (head1 (Jvm.Cond.code M0 prog_18_method_4_code 1 (some .boolean) :: ws) ({ frames := 0, cells := 0, slots := 0, locals := 0 } : Room)) (fun a U => a = #[(.ref a_OTHER_SET)] ∧ Z.Warmed39 U.vm ∧ U.heap = h0) (fun _ _ _ _ _ => True) (fun _ U o U' => ∃ v L, o = .returned v ∧ Q1_3 Z a_ACCEPTED a_OTHER_SET a_SLOW_SENDER a_DUPLICATE_ID a_STALE a_OWN a_MALFORMED h0 n0 v U'.heap L ∧ FrameEnd U o U' L ({ frames := 0, cells := 0, slots := 0, locals := 0 } : Room).cells ({ frames := 0, cells := 0, slots := 0, locals := 0 } : Room).slots) := by
 refine MetFree.of_bodySF (plainFor_of_name pn1) hisR ?_
 intro p e s m args below meth c s₁ Bd hml0 hP hK
 obtain ⟨rfl, hZ, hh⟩ := hP
 have hx := Bd.exec
 have hby := Bd.bytes
 have hml : c.maxLocals = 1 := hml0
 have hown : s.vm.findClass "com/example/vacant_throne/vacantthrone/core/Verdict" = some m.cls := findClass_of_methodNamed Bd.named
 have hnm := (name_of_methodNamed Bd.named Bd.method).1
 have X0 : Stand p l e ({ frames := 0, cells := 0, slots := 0, locals := 0 } : Room) s m #[(.ref a_OTHER_SET)] below meth c s₁ [] 0 0 := Stand.of_body Bd
 have e0 : s₁.heap = h0 := by rw [← hh, Bd.state]; rfl
 have N0 := Fr.nil n0
 let S0 : State → Prop := fun t => Steps p.tables e below (s₁.setTop (entryFrame m #[(.ref a_OTHER_SET)] 1)) t
 have p0 : ∀ t, St p e below s₁ (mkF m 0 #[.val (.ref a_OTHER_SET)] []) t → S0 t := fun t k => castTop (ef1 m a_OTHER_SET) k
 have HE' := HE
 obtain ⟨Sa_ACCEPTED, Ea_ACCEPTED, Sa_OTHER_SET, Ea_OTHER_SET, Fa_OTHER_SET_ordinal, Fa_ACCEPTED_ordinal, Sa_SLOW_SENDER, Ea_SLOW_SENDER, Fa_SLOW_SENDER_ordinal, Sa_DUPLICATE_ID, Ea_DUPLICATE_ID, Fa_DUPLICATE_ID_ordinal, Sa_STALE, Ea_STALE, Fa_STALE_ordinal, Sa_OWN, Ea_OWN, Fa_OWN_ordinal, Sa_MALFORMED, Ea_MALFORMED, Fa_MALFORMED_ordinal⟩ := HE
 have p1 : ∀ t, St p e below s₁ (mkF m 1 #[.val (.ref a_OTHER_SET)] [(.ref a_OTHER_SET)]) t → S0 t := fun t k => p0 t (by
   show St p e below s₁ (mkF m 0 #[.val (.ref a_OTHER_SET)] []) t
   refine XS.aloadN X0.here hx rfl (hb hby d1_0) rfl rfl ?_
   exact k)
 obtain ⟨T2, X2, e2, st2⟩ := getS2 X0 hx hZ hown (host := "") (Or.inl (ww hw 9 rfl)) Via.refl e0 (Sa_ACCEPTED.ext O0.2) (g := (mkF m 1 #[.val (.ref a_OTHER_SET)] [(.ref a_OTHER_SET)])) rfl (hb hby d1_1)
 have p3 : ∀ t, St p e below T2 (mkF m 4 #[.val (.ref a_OTHER_SET)] [(.ref a_ACCEPTED), (.ref a_OTHER_SET)]) t → S0 t := fun t k => p1 t (st2 t k)
 have p4 : ∀ t, St p e below T2 (mkF m 8 #[.val (.ref a_OTHER_SET)] [(.ref a_OTHER_SET)]) t → S0 t := fun t k => p3 t (by
   show St p e below T2 (mkF m 4 #[.val (.ref a_OTHER_SET)] [(.ref a_ACCEPTED), (.ref a_OTHER_SET)]) t
   refine Jvm.RoadKit.acmp (g := (mkF m 4 #[.val (.ref a_OTHER_SET)] [(.ref a_ACCEPTED), (.ref a_OTHER_SET)])) X2 hx rfl rfl rfl (pc0 := 4) (pc' := 7) (same := false) rfl (hb hby d1_4) rfl (decide_eq_false fun q => (Fld.ne Fa_OTHER_SET_ordinal Fa_ACCEPTED_ordinal (fun q => absurd (Value.int.inj q) (by decide))) (Value.ref.inj q)) (by decide) (by decide) ?_
   show St p e below T2 (mkF m 7 #[.val (.ref a_OTHER_SET)] []) t
   refine XS.aloadN X2.here hx rfl (hb hby d1_7) rfl rfl ?_
   exact k)
 obtain ⟨T5, X5, e5, st5⟩ := getS2 X2 hx hZ hown (host := "") (Or.inl (ww hw 12 rfl)) Via.refl e2 (Sa_SLOW_SENDER.ext O0.2) (g := (mkF m 8 #[.val (.ref a_OTHER_SET)] [(.ref a_OTHER_SET)])) rfl (hb hby d1_8)
 have p6 : ∀ t, St p e below T5 (mkF m 11 #[.val (.ref a_OTHER_SET)] [(.ref a_SLOW_SENDER), (.ref a_OTHER_SET)]) t → S0 t := fun t k => p4 t (st5 t k)
 have p7 : ∀ t, St p e below T5 (mkF m 19 #[.val (.ref a_OTHER_SET)] [(.int (1 : Int32))]) t → S0 t := fun t k => p6 t (by
   show St p e below T5 (mkF m 11 #[.val (.ref a_OTHER_SET)] [(.ref a_SLOW_SENDER), (.ref a_OTHER_SET)]) t
   refine Jvm.RoadKit.acmp (g := (mkF m 11 #[.val (.ref a_OTHER_SET)] [(.ref a_SLOW_SENDER), (.ref a_OTHER_SET)])) X5 hx rfl rfl rfl (pc0 := 11) (pc' := 14) (same := false) rfl (hb hby d1_11) rfl (decide_eq_false fun q => (Fld.ne Fa_OTHER_SET_ordinal Fa_SLOW_SENDER_ordinal (fun q => absurd (Value.int.inj q) (by decide))) (Value.ref.inj q)) (by decide) (by decide) ?_
   show St p e below T5 (mkF m 14 #[.val (.ref a_OTHER_SET)] []) t
   refine XT.iconstV X5.here hx rfl (1 : Int32) (hb hby d1_14) (by decide) ?_
   show St p e below T5 (mkF m 15 #[.val (.ref a_OTHER_SET)] [(.int (1 : Int32))]) t
   refine XS.goto X5.here hx rfl (pc0 := 15) (pc' := 19) rfl (hb hby d1_15) (by decide) (by decide) ?_
   exact k)
 obtain ⟨fs, hr, hrun, hended, hW, hsame⟩ := X5.leave (v := some (.int (1 : Int32))) (fun h => by rw [Bd.returns] at h; cases h)
 refine ⟨_, _, p7 _ ?_, hrun, hended, _, _, rfl, ?_, ⟨_, rfl⟩, hW, hsame.mono (by decide) (by decide)⟩
 · exact retOut X5 hx Bd.returns rfl (Or.inl ⟨rfl, by simp, _, rfl⟩) (hb hby d1_19) hr
 · show Q1_3 Z a_ACCEPTED a_OTHER_SET a_SLOW_SENDER a_DUPLICATE_ID a_STALE a_OWN a_MALFORMED h0 n0 _ T5.heap _
   exact ⟨N0, e5, rfl⟩
def Q1_4 (Z : State) (a_ACCEPTED : Addr) (a_OTHER_SET : Addr) (a_SLOW_SENDER : Addr) (a_DUPLICATE_ID : Addr) (a_STALE : Addr) (a_OWN : Addr) (a_MALFORMED : Addr) (h0 : Heap) (n0 : Nat) (v : Option Value) (h : Heap) (L : List Loc) : Prop := Fr n0 L ∧ h = h0 ∧ ((v = some (.int (1 : Int32))))
set_option maxRecDepth 65536 in
set_option maxHeartbeats 40000000 in
theorem rm1_4 (l : Launch) (Z : State) (a0 : Array Value) (hw : ∀ d ∈ tables_1, d.before a0 Z = true) (ws : List Jvm.Cond) (a_ACCEPTED : Addr) (a_OTHER_SET : Addr) (a_SLOW_SENDER : Addr) (a_DUPLICATE_ID : Addr) (a_STALE : Addr) (a_OWN : Addr) (a_MALFORMED : Addr) (h0 : Heap) (n0 : Nat) (O0 : Old Z n0 h0) (HE : Env1 Z a_ACCEPTED a_OTHER_SET a_SLOW_SENDER a_DUPLICATE_ID a_STALE a_OWN a_MALFORMED)  :
    MetFree l M0 (head1 (Jvm.Cond.code M0 prog_18_method_4_code 1 (some .boolean) :: ws) ({ frames := 0, cells := 0, slots := 0, locals := 0 } : Room)) (fun a U => a = #[(.ref a_OWN)] ∧ Z.Warmed39 U.vm ∧ U.heap = h0) (fun _ _ _ _ _ => True) (fun _ U o U' => ∃ v L, o = .returned v ∧ Q1_4 Z a_ACCEPTED a_OTHER_SET a_SLOW_SENDER a_DUPLICATE_ID a_STALE a_OWN a_MALFORMED h0 n0 v U'.heap L ∧ FrameEnd U o U' L ({ frames := 0, cells := 0, slots := 0, locals := 0 } : Room).cells ({ frames := 0, cells := 0, slots := 0, locals := 0 } : Room).slots) := by
 refine MetFree.of_bodySF (plainFor_of_name pn1) hisR ?_
 intro p e s m args below meth c s₁ Bd hml0 hP hK
 obtain ⟨rfl, hZ, hh⟩ := hP
 have hx := Bd.exec
 have hby := Bd.bytes
 have hml : c.maxLocals = 1 := hml0
 have hown : s.vm.findClass "com/example/vacant_throne/vacantthrone/core/Verdict" = some m.cls := findClass_of_methodNamed Bd.named
 have hnm := (name_of_methodNamed Bd.named Bd.method).1
 have X0 : Stand p l e ({ frames := 0, cells := 0, slots := 0, locals := 0 } : Room) s m #[(.ref a_OWN)] below meth c s₁ [] 0 0 := Stand.of_body Bd
 have e0 : s₁.heap = h0 := by rw [← hh, Bd.state]; rfl
 have N0 := Fr.nil n0
 let S0 : State → Prop := fun t => Steps p.tables e below (s₁.setTop (entryFrame m #[(.ref a_OWN)] 1)) t
 have p0 : ∀ t, St p e below s₁ (mkF m 0 #[.val (.ref a_OWN)] []) t → S0 t := fun t k => castTop (ef1 m a_OWN) k
 have HE' := HE
 obtain ⟨Sa_ACCEPTED, Ea_ACCEPTED, Sa_OTHER_SET, Ea_OTHER_SET, Fa_OTHER_SET_ordinal, Fa_ACCEPTED_ordinal, Sa_SLOW_SENDER, Ea_SLOW_SENDER, Fa_SLOW_SENDER_ordinal, Sa_DUPLICATE_ID, Ea_DUPLICATE_ID, Fa_DUPLICATE_ID_ordinal, Sa_STALE, Ea_STALE, Fa_STALE_ordinal, Sa_OWN, Ea_OWN, Fa_OWN_ordinal, Sa_MALFORMED, Ea_MALFORMED, Fa_MALFORMED_ordinal⟩ := HE
 have p1 : ∀ t, St p e below s₁ (mkF m 1 #[.val (.ref a_OWN)] [(.ref a_OWN)]) t → S0 t := fun t k => p0 t (by
   show St p e below s₁ (mkF m 0 #[.val (.ref a_OWN)] []) t
   refine XS.aloadN X0.here hx rfl (hb hby d1_0) rfl rfl ?_
   exact k)
 obtain ⟨T2, X2, e2, st2⟩ := getS2 X0 hx hZ hown (host := "") (Or.inl (ww hw 9 rfl)) Via.refl e0 (Sa_ACCEPTED.ext O0.2) (g := (mkF m 1 #[.val (.ref a_OWN)] [(.ref a_OWN)])) rfl (hb hby d1_1)
 have p3 : ∀ t, St p e below T2 (mkF m 4 #[.val (.ref a_OWN)] [(.ref a_ACCEPTED), (.ref a_OWN)]) t → S0 t := fun t k => p1 t (st2 t k)
 have p4 : ∀ t, St p e below T2 (mkF m 8 #[.val (.ref a_OWN)] [(.ref a_OWN)]) t → S0 t := fun t k => p3 t (by
   show St p e below T2 (mkF m 4 #[.val (.ref a_OWN)] [(.ref a_ACCEPTED), (.ref a_OWN)]) t
   refine Jvm.RoadKit.acmp (g := (mkF m 4 #[.val (.ref a_OWN)] [(.ref a_ACCEPTED), (.ref a_OWN)])) X2 hx rfl rfl rfl (pc0 := 4) (pc' := 7) (same := false) rfl (hb hby d1_4) rfl (decide_eq_false fun q => (Fld.ne Fa_OWN_ordinal Fa_ACCEPTED_ordinal (fun q => absurd (Value.int.inj q) (by decide))) (Value.ref.inj q)) (by decide) (by decide) ?_
   show St p e below T2 (mkF m 7 #[.val (.ref a_OWN)] []) t
   refine XS.aloadN X2.here hx rfl (hb hby d1_7) rfl rfl ?_
   exact k)
 obtain ⟨T5, X5, e5, st5⟩ := getS2 X2 hx hZ hown (host := "") (Or.inl (ww hw 12 rfl)) Via.refl e2 (Sa_SLOW_SENDER.ext O0.2) (g := (mkF m 8 #[.val (.ref a_OWN)] [(.ref a_OWN)])) rfl (hb hby d1_8)
 have p6 : ∀ t, St p e below T5 (mkF m 11 #[.val (.ref a_OWN)] [(.ref a_SLOW_SENDER), (.ref a_OWN)]) t → S0 t := fun t k => p4 t (st5 t k)
 have p7 : ∀ t, St p e below T5 (mkF m 19 #[.val (.ref a_OWN)] [(.int (1 : Int32))]) t → S0 t := fun t k => p6 t (by
   show St p e below T5 (mkF m 11 #[.val (.ref a_OWN)] [(.ref a_SLOW_SENDER), (.ref a_OWN)]) t
   refine Jvm.RoadKit.acmp (g := (mkF m 11 #[.val (.ref a_OWN)] [(.ref a_SLOW_SENDER), (.ref a_OWN)])) X5 hx rfl rfl rfl (pc0 := 11) (pc' := 14) (same := false) rfl (hb hby d1_11) rfl (decide_eq_false fun q => (Fld.ne Fa_OWN_ordinal Fa_SLOW_SENDER_ordinal (fun q => absurd (Value.int.inj q) (by decide))) (Value.ref.inj q)) (by decide) (by decide) ?_
   show St p e below T5 (mkF m 14 #[.val (.ref a_OWN)] []) t
   refine XT.iconstV X5.here hx rfl (1 : Int32) (hb hby d1_14) (by decide) ?_
   show St p e below T5 (mkF m 15 #[.val (.ref a_OWN)] [(.int (1 : Int32))]) t
   refine XS.goto X5.here hx rfl (pc0 := 15) (pc' := 19) rfl (hb hby d1_15) (by decide) (by decide) ?_
   exact k)
 obtain ⟨fs, hr, hrun, hended, hW, hsame⟩ := X5.leave (v := some (.int (1 : Int32))) (fun h => by rw [Bd.returns] at h; cases h)
 refine ⟨_, _, p7 _ ?_, hrun, hended, _, _, rfl, ?_, ⟨_, rfl⟩, hW, hsame.mono (by decide) (by decide)⟩
 · exact retOut X5 hx Bd.returns rfl (Or.inl ⟨rfl, by simp, _, rfl⟩) (hb hby d1_19) hr
 · show Q1_4 Z a_ACCEPTED a_OTHER_SET a_SLOW_SENDER a_DUPLICATE_ID a_STALE a_OWN a_MALFORMED h0 n0 _ T5.heap _
   exact ⟨N0, e5, rfl⟩
def Q1_5 (Z : State) (a_ACCEPTED : Addr) (a_OTHER_SET : Addr) (a_SLOW_SENDER : Addr) (a_DUPLICATE_ID : Addr) (a_STALE : Addr) (a_OWN : Addr) (a_MALFORMED : Addr) (h0 : Heap) (n0 : Nat) (v : Option Value) (h : Heap) (L : List Loc) : Prop := Fr n0 L ∧ h = h0 ∧ ((v = some (.int (1 : Int32))))
set_option maxRecDepth 65536 in
set_option maxHeartbeats 40000000 in
theorem rm1_5 (l : Launch) (Z : State) (a0 : Array Value) (hw : ∀ d ∈ tables_1, d.before a0 Z = true) (ws : List Jvm.Cond) (a_ACCEPTED : Addr) (a_OTHER_SET : Addr) (a_SLOW_SENDER : Addr) (a_DUPLICATE_ID : Addr) (a_STALE : Addr) (a_OWN : Addr) (a_MALFORMED : Addr) (h0 : Heap) (n0 : Nat) (O0 : Old Z n0 h0) (HE : Env1 Z a_ACCEPTED a_OTHER_SET a_SLOW_SENDER a_DUPLICATE_ID a_STALE a_OWN a_MALFORMED)  :
    MetFree l M0 (head1 (Jvm.Cond.code M0 prog_18_method_4_code 1 (some .boolean) :: ws) ({ frames := 0, cells := 0, slots := 0, locals := 0 } : Room)) (fun a U => a = #[(.ref a_DUPLICATE_ID)] ∧ Z.Warmed39 U.vm ∧ U.heap = h0) (fun _ _ _ _ _ => True) (fun _ U o U' => ∃ v L, o = .returned v ∧ Q1_5 Z a_ACCEPTED a_OTHER_SET a_SLOW_SENDER a_DUPLICATE_ID a_STALE a_OWN a_MALFORMED h0 n0 v U'.heap L ∧ FrameEnd U o U' L ({ frames := 0, cells := 0, slots := 0, locals := 0 } : Room).cells ({ frames := 0, cells := 0, slots := 0, locals := 0 } : Room).slots) := by
 refine MetFree.of_bodySF (plainFor_of_name pn1) hisR ?_
 intro p e s m args below meth c s₁ Bd hml0 hP hK
 obtain ⟨rfl, hZ, hh⟩ := hP
 have hx := Bd.exec
 have hby := Bd.bytes
 have hml : c.maxLocals = 1 := hml0
 have hown : s.vm.findClass "com/example/vacant_throne/vacantthrone/core/Verdict" = some m.cls := findClass_of_methodNamed Bd.named
 have hnm := (name_of_methodNamed Bd.named Bd.method).1
 have X0 : Stand p l e ({ frames := 0, cells := 0, slots := 0, locals := 0 } : Room) s m #[(.ref a_DUPLICATE_ID)] below meth c s₁ [] 0 0 := Stand.of_body Bd
 have e0 : s₁.heap = h0 := by rw [← hh, Bd.state]; rfl
 have N0 := Fr.nil n0
 let S0 : State → Prop := fun t => Steps p.tables e below (s₁.setTop (entryFrame m #[(.ref a_DUPLICATE_ID)] 1)) t
 have p0 : ∀ t, St p e below s₁ (mkF m 0 #[.val (.ref a_DUPLICATE_ID)] []) t → S0 t := fun t k => castTop (ef1 m a_DUPLICATE_ID) k
 have HE' := HE
 obtain ⟨Sa_ACCEPTED, Ea_ACCEPTED, Sa_OTHER_SET, Ea_OTHER_SET, Fa_OTHER_SET_ordinal, Fa_ACCEPTED_ordinal, Sa_SLOW_SENDER, Ea_SLOW_SENDER, Fa_SLOW_SENDER_ordinal, Sa_DUPLICATE_ID, Ea_DUPLICATE_ID, Fa_DUPLICATE_ID_ordinal, Sa_STALE, Ea_STALE, Fa_STALE_ordinal, Sa_OWN, Ea_OWN, Fa_OWN_ordinal, Sa_MALFORMED, Ea_MALFORMED, Fa_MALFORMED_ordinal⟩ := HE
 have p1 : ∀ t, St p e below s₁ (mkF m 1 #[.val (.ref a_DUPLICATE_ID)] [(.ref a_DUPLICATE_ID)]) t → S0 t := fun t k => p0 t (by
   show St p e below s₁ (mkF m 0 #[.val (.ref a_DUPLICATE_ID)] []) t
   refine XS.aloadN X0.here hx rfl (hb hby d1_0) rfl rfl ?_
   exact k)
 obtain ⟨T2, X2, e2, st2⟩ := getS2 X0 hx hZ hown (host := "") (Or.inl (ww hw 9 rfl)) Via.refl e0 (Sa_ACCEPTED.ext O0.2) (g := (mkF m 1 #[.val (.ref a_DUPLICATE_ID)] [(.ref a_DUPLICATE_ID)])) rfl (hb hby d1_1)
 have p3 : ∀ t, St p e below T2 (mkF m 4 #[.val (.ref a_DUPLICATE_ID)] [(.ref a_ACCEPTED), (.ref a_DUPLICATE_ID)]) t → S0 t := fun t k => p1 t (st2 t k)
 have p4 : ∀ t, St p e below T2 (mkF m 8 #[.val (.ref a_DUPLICATE_ID)] [(.ref a_DUPLICATE_ID)]) t → S0 t := fun t k => p3 t (by
   show St p e below T2 (mkF m 4 #[.val (.ref a_DUPLICATE_ID)] [(.ref a_ACCEPTED), (.ref a_DUPLICATE_ID)]) t
   refine Jvm.RoadKit.acmp (g := (mkF m 4 #[.val (.ref a_DUPLICATE_ID)] [(.ref a_ACCEPTED), (.ref a_DUPLICATE_ID)])) X2 hx rfl rfl rfl (pc0 := 4) (pc' := 7) (same := false) rfl (hb hby d1_4) rfl (decide_eq_false fun q => (Fld.ne Fa_DUPLICATE_ID_ordinal Fa_ACCEPTED_ordinal (fun q => absurd (Value.int.inj q) (by decide))) (Value.ref.inj q)) (by decide) (by decide) ?_
   show St p e below T2 (mkF m 7 #[.val (.ref a_DUPLICATE_ID)] []) t
   refine XS.aloadN X2.here hx rfl (hb hby d1_7) rfl rfl ?_
   exact k)
 obtain ⟨T5, X5, e5, st5⟩ := getS2 X2 hx hZ hown (host := "") (Or.inl (ww hw 12 rfl)) Via.refl e2 (Sa_SLOW_SENDER.ext O0.2) (g := (mkF m 8 #[.val (.ref a_DUPLICATE_ID)] [(.ref a_DUPLICATE_ID)])) rfl (hb hby d1_8)
 have p6 : ∀ t, St p e below T5 (mkF m 11 #[.val (.ref a_DUPLICATE_ID)] [(.ref a_SLOW_SENDER), (.ref a_DUPLICATE_ID)]) t → S0 t := fun t k => p4 t (st5 t k)
 have p7 : ∀ t, St p e below T5 (mkF m 19 #[.val (.ref a_DUPLICATE_ID)] [(.int (1 : Int32))]) t → S0 t := fun t k => p6 t (by
   show St p e below T5 (mkF m 11 #[.val (.ref a_DUPLICATE_ID)] [(.ref a_SLOW_SENDER), (.ref a_DUPLICATE_ID)]) t
   refine Jvm.RoadKit.acmp (g := (mkF m 11 #[.val (.ref a_DUPLICATE_ID)] [(.ref a_SLOW_SENDER), (.ref a_DUPLICATE_ID)])) X5 hx rfl rfl rfl (pc0 := 11) (pc' := 14) (same := false) rfl (hb hby d1_11) rfl (decide_eq_false fun q => (Fld.ne Fa_DUPLICATE_ID_ordinal Fa_SLOW_SENDER_ordinal (fun q => absurd (Value.int.inj q) (by decide))) (Value.ref.inj q)) (by decide) (by decide) ?_
   show St p e below T5 (mkF m 14 #[.val (.ref a_DUPLICATE_ID)] []) t
   refine XT.iconstV X5.here hx rfl (1 : Int32) (hb hby d1_14) (by decide) ?_
   show St p e below T5 (mkF m 15 #[.val (.ref a_DUPLICATE_ID)] [(.int (1 : Int32))]) t
   refine XS.goto X5.here hx rfl (pc0 := 15) (pc' := 19) rfl (hb hby d1_15) (by decide) (by decide) ?_
   exact k)
 obtain ⟨fs, hr, hrun, hended, hW, hsame⟩ := X5.leave (v := some (.int (1 : Int32))) (fun h => by rw [Bd.returns] at h; cases h)
 refine ⟨_, _, p7 _ ?_, hrun, hended, _, _, rfl, ?_, ⟨_, rfl⟩, hW, hsame.mono (by decide) (by decide)⟩
 · exact retOut X5 hx Bd.returns rfl (Or.inl ⟨rfl, by simp, _, rfl⟩) (hb hby d1_19) hr
 · show Q1_5 Z a_ACCEPTED a_OTHER_SET a_SLOW_SENDER a_DUPLICATE_ID a_STALE a_OWN a_MALFORMED h0 n0 _ T5.heap _
   exact ⟨N0, e5, rfl⟩
def Q1_6 (Z : State) (a_ACCEPTED : Addr) (a_OTHER_SET : Addr) (a_SLOW_SENDER : Addr) (a_DUPLICATE_ID : Addr) (a_STALE : Addr) (a_OWN : Addr) (a_MALFORMED : Addr) (h0 : Heap) (n0 : Nat) (v : Option Value) (h : Heap) (L : List Loc) : Prop := Fr n0 L ∧ h = h0 ∧ ((v = some (.int (1 : Int32))))
set_option maxRecDepth 65536 in
set_option maxHeartbeats 40000000 in
theorem rm1_6 (l : Launch) (Z : State) (a0 : Array Value) (hw : ∀ d ∈ tables_1, d.before a0 Z = true) (ws : List Jvm.Cond) (a_ACCEPTED : Addr) (a_OTHER_SET : Addr) (a_SLOW_SENDER : Addr) (a_DUPLICATE_ID : Addr) (a_STALE : Addr) (a_OWN : Addr) (a_MALFORMED : Addr) (h0 : Heap) (n0 : Nat) (O0 : Old Z n0 h0) (HE : Env1 Z a_ACCEPTED a_OTHER_SET a_SLOW_SENDER a_DUPLICATE_ID a_STALE a_OWN a_MALFORMED)  :
    MetFree l M0 (head1 (Jvm.Cond.code M0 prog_18_method_4_code 1 (some .boolean) :: ws) ({ frames := 0, cells := 0, slots := 0, locals := 0 } : Room)) (fun a U => a = #[(.ref a_STALE)] ∧ Z.Warmed39 U.vm ∧ U.heap = h0) (fun _ _ _ _ _ => True) (fun _ U o U' => ∃ v L, o = .returned v ∧ Q1_6 Z a_ACCEPTED a_OTHER_SET a_SLOW_SENDER a_DUPLICATE_ID a_STALE a_OWN a_MALFORMED h0 n0 v U'.heap L ∧ FrameEnd U o U' L ({ frames := 0, cells := 0, slots := 0, locals := 0 } : Room).cells ({ frames := 0, cells := 0, slots := 0, locals := 0 } : Room).slots) := by
 refine MetFree.of_bodySF (plainFor_of_name pn1) hisR ?_
 intro p e s m args below meth c s₁ Bd hml0 hP hK
 obtain ⟨rfl, hZ, hh⟩ := hP
 have hx := Bd.exec
 have hby := Bd.bytes
 have hml : c.maxLocals = 1 := hml0
 have hown : s.vm.findClass "com/example/vacant_throne/vacantthrone/core/Verdict" = some m.cls := findClass_of_methodNamed Bd.named
 have hnm := (name_of_methodNamed Bd.named Bd.method).1
 have X0 : Stand p l e ({ frames := 0, cells := 0, slots := 0, locals := 0 } : Room) s m #[(.ref a_STALE)] below meth c s₁ [] 0 0 := Stand.of_body Bd
 have e0 : s₁.heap = h0 := by rw [← hh, Bd.state]; rfl
 have N0 := Fr.nil n0
 let S0 : State → Prop := fun t => Steps p.tables e below (s₁.setTop (entryFrame m #[(.ref a_STALE)] 1)) t
 have p0 : ∀ t, St p e below s₁ (mkF m 0 #[.val (.ref a_STALE)] []) t → S0 t := fun t k => castTop (ef1 m a_STALE) k
 have HE' := HE
 obtain ⟨Sa_ACCEPTED, Ea_ACCEPTED, Sa_OTHER_SET, Ea_OTHER_SET, Fa_OTHER_SET_ordinal, Fa_ACCEPTED_ordinal, Sa_SLOW_SENDER, Ea_SLOW_SENDER, Fa_SLOW_SENDER_ordinal, Sa_DUPLICATE_ID, Ea_DUPLICATE_ID, Fa_DUPLICATE_ID_ordinal, Sa_STALE, Ea_STALE, Fa_STALE_ordinal, Sa_OWN, Ea_OWN, Fa_OWN_ordinal, Sa_MALFORMED, Ea_MALFORMED, Fa_MALFORMED_ordinal⟩ := HE
 have p1 : ∀ t, St p e below s₁ (mkF m 1 #[.val (.ref a_STALE)] [(.ref a_STALE)]) t → S0 t := fun t k => p0 t (by
   show St p e below s₁ (mkF m 0 #[.val (.ref a_STALE)] []) t
   refine XS.aloadN X0.here hx rfl (hb hby d1_0) rfl rfl ?_
   exact k)
 obtain ⟨T2, X2, e2, st2⟩ := getS2 X0 hx hZ hown (host := "") (Or.inl (ww hw 9 rfl)) Via.refl e0 (Sa_ACCEPTED.ext O0.2) (g := (mkF m 1 #[.val (.ref a_STALE)] [(.ref a_STALE)])) rfl (hb hby d1_1)
 have p3 : ∀ t, St p e below T2 (mkF m 4 #[.val (.ref a_STALE)] [(.ref a_ACCEPTED), (.ref a_STALE)]) t → S0 t := fun t k => p1 t (st2 t k)
 have p4 : ∀ t, St p e below T2 (mkF m 8 #[.val (.ref a_STALE)] [(.ref a_STALE)]) t → S0 t := fun t k => p3 t (by
   show St p e below T2 (mkF m 4 #[.val (.ref a_STALE)] [(.ref a_ACCEPTED), (.ref a_STALE)]) t
   refine Jvm.RoadKit.acmp (g := (mkF m 4 #[.val (.ref a_STALE)] [(.ref a_ACCEPTED), (.ref a_STALE)])) X2 hx rfl rfl rfl (pc0 := 4) (pc' := 7) (same := false) rfl (hb hby d1_4) rfl (decide_eq_false fun q => (Fld.ne Fa_STALE_ordinal Fa_ACCEPTED_ordinal (fun q => absurd (Value.int.inj q) (by decide))) (Value.ref.inj q)) (by decide) (by decide) ?_
   show St p e below T2 (mkF m 7 #[.val (.ref a_STALE)] []) t
   refine XS.aloadN X2.here hx rfl (hb hby d1_7) rfl rfl ?_
   exact k)
 obtain ⟨T5, X5, e5, st5⟩ := getS2 X2 hx hZ hown (host := "") (Or.inl (ww hw 12 rfl)) Via.refl e2 (Sa_SLOW_SENDER.ext O0.2) (g := (mkF m 8 #[.val (.ref a_STALE)] [(.ref a_STALE)])) rfl (hb hby d1_8)
 have p6 : ∀ t, St p e below T5 (mkF m 11 #[.val (.ref a_STALE)] [(.ref a_SLOW_SENDER), (.ref a_STALE)]) t → S0 t := fun t k => p4 t (st5 t k)
 have p7 : ∀ t, St p e below T5 (mkF m 19 #[.val (.ref a_STALE)] [(.int (1 : Int32))]) t → S0 t := fun t k => p6 t (by
   show St p e below T5 (mkF m 11 #[.val (.ref a_STALE)] [(.ref a_SLOW_SENDER), (.ref a_STALE)]) t
   refine Jvm.RoadKit.acmp (g := (mkF m 11 #[.val (.ref a_STALE)] [(.ref a_SLOW_SENDER), (.ref a_STALE)])) X5 hx rfl rfl rfl (pc0 := 11) (pc' := 14) (same := false) rfl (hb hby d1_11) rfl (decide_eq_false fun q => (Fld.ne Fa_STALE_ordinal Fa_SLOW_SENDER_ordinal (fun q => absurd (Value.int.inj q) (by decide))) (Value.ref.inj q)) (by decide) (by decide) ?_
   show St p e below T5 (mkF m 14 #[.val (.ref a_STALE)] []) t
   refine XT.iconstV X5.here hx rfl (1 : Int32) (hb hby d1_14) (by decide) ?_
   show St p e below T5 (mkF m 15 #[.val (.ref a_STALE)] [(.int (1 : Int32))]) t
   refine XS.goto X5.here hx rfl (pc0 := 15) (pc' := 19) rfl (hb hby d1_15) (by decide) (by decide) ?_
   exact k)
 obtain ⟨fs, hr, hrun, hended, hW, hsame⟩ := X5.leave (v := some (.int (1 : Int32))) (fun h => by rw [Bd.returns] at h; cases h)
 refine ⟨_, _, p7 _ ?_, hrun, hended, _, _, rfl, ?_, ⟨_, rfl⟩, hW, hsame.mono (by decide) (by decide)⟩
 · exact retOut X5 hx Bd.returns rfl (Or.inl ⟨rfl, by simp, _, rfl⟩) (hb hby d1_19) hr
 · show Q1_6 Z a_ACCEPTED a_OTHER_SET a_SLOW_SENDER a_DUPLICATE_ID a_STALE a_OWN a_MALFORMED h0 n0 _ T5.heap _
   exact ⟨N0, e5, rfl⟩
def Q0 (Z : State) (a_ACCEPTED : Addr) (a_OTHER_SET : Addr) (a_SLOW_SENDER : Addr) (a_DUPLICATE_ID : Addr) (a_STALE : Addr) (a_OWN : Addr) (a_MALFORMED : Addr) (i0 : Int32) (h0 : Heap) (n0 : Nat) (v : Option Value) (h : Heap) (L : List Loc) : Prop := v = some (.int 1) ∧ Fr n0 L
set_option maxRecDepth 65536 in
set_option maxHeartbeats 40000000 in
theorem rm0 (l : Launch) (Z : State) (a0 : Array Value) (hw : ∀ d ∈ tables_1, d.before a0 Z = true) (ws : List Jvm.Cond) (a_ACCEPTED : Addr) (a_OTHER_SET : Addr) (a_SLOW_SENDER : Addr) (a_DUPLICATE_ID : Addr) (a_STALE : Addr) (a_OWN : Addr) (a_MALFORMED : Addr) (i0 : Int32) (h0 : Heap) (n0 : Nat) (O0 : Old Z n0 h0) (HE : Env1 Z a_ACCEPTED a_OTHER_SET a_SLOW_SENDER a_DUPLICATE_ID a_STALE a_OWN a_MALFORMED)  :
    MetFree l x (head1 (Jvm.Cond.code x code maxLocals ret :: ws) room_1) (fun a U => a = #[(.int i0)] ∧ Z.Warmed39 U.vm ∧ U.heap = h0) (fun _ _ _ _ _ => True) (fun _ U o U' => ∃ v L, o = .returned v ∧ Q0 Z a_ACCEPTED a_OTHER_SET a_SLOW_SENDER a_DUPLICATE_ID a_STALE a_OWN a_MALFORMED i0 h0 n0 v U'.heap L ∧ FrameEnd U o U' L 0 0) := by
 refine MetFree.of_bodySF (plainFor_of_name pn0) hisR ?_
 intro p e s m args below meth c s₁ Bd hml0 hP hK
 obtain ⟨rfl, hZ, hh⟩ := hP
 have hx := Bd.exec
 have hby := Bd.bytes
 have hml : c.maxLocals = 4 := hml0
 have hown : s.vm.findClass "com/example/vacant_throne/vacantthrone/core/VerdictIsDroppedPinLaw" = some m.cls := findClass_of_methodNamed Bd.named
 have hnm := (name_of_methodNamed Bd.named Bd.method).1
 have X0 : Stand p l e room_1 s m #[(.int i0)] below meth c s₁ [] 0 0 := Stand.of_body Bd
 have e0 : s₁.heap = h0 := by rw [← hh, Bd.state]; rfl
 have N0 := Fr.nil n0
 let S0 : State → Prop := fun t => Steps p.tables e below (s₁.setTop (entryFrame m #[(.int i0)] maxLocals)) t
 have p0 : ∀ t, St p e below s₁ (mkF m 0 #[.val (.int i0), .unset, .unset, .unset] []) t → S0 t := fun t k => castTop (ef0 m i0) k
 have HE' := HE
 obtain ⟨Sa_ACCEPTED, Ea_ACCEPTED, Sa_OTHER_SET, Ea_OTHER_SET, Fa_OTHER_SET_ordinal, Fa_ACCEPTED_ordinal, Sa_SLOW_SENDER, Ea_SLOW_SENDER, Fa_SLOW_SENDER_ordinal, Sa_DUPLICATE_ID, Ea_DUPLICATE_ID, Fa_DUPLICATE_ID_ordinal, Sa_STALE, Ea_STALE, Fa_STALE_ordinal, Sa_OWN, Ea_OWN, Fa_OWN_ordinal, Sa_MALFORMED, Ea_MALFORMED, Fa_MALFORMED_ordinal⟩ := HE
 let Ls1 : Array Slot := #[.val (.int i0), .val (.int ((i0 &&& (2147483647 : Int32)) % (7 : Int32))), .unset, .unset]
 have p2 : ∀ t, St p e below s₁ (mkF m 9 Ls1 [(.int ((i0 &&& (2147483647 : Int32)) % (7 : Int32)))]) t → S0 t := fun t k => p0 t (by
   show St p e below s₁ (mkF m 0 #[.val (.int i0), .unset, .unset, .unset] []) t
   refine XS.iloadN X0.here hx rfl (hb hby at_0) rfl ?_
   show St p e below s₁ (mkF m 1 #[.val (.int i0), .unset, .unset, .unset] [(.int i0)]) t
   refine X0.ldcI hx hown (mvT hZ (ww hw 0 rfl)) rfl (hb hby at_1) ?_
   show St p e below s₁ (mkF m 3 #[.val (.int i0), .unset, .unset, .unset] [(.int (2147483647 : Int32)), (.int i0)]) t
   refine XS.iand X0.here hx rfl (hb hby at_3) rfl ?_
   show St p e below s₁ (mkF m 4 #[.val (.int i0), .unset, .unset, .unset] [(.int (i0 &&& (2147483647 : Int32)))]) t
   refine XT.bipushV X0.here hx rfl (7 : Int32) (hb hby at_4) (by decide) ?_
   show St p e below s₁ (mkF m 6 #[.val (.int i0), .unset, .unset, .unset] [(.int (7 : Int32)), (.int (i0 &&& (2147483647 : Int32)))]) t
   refine iremM X0 hx rfl (hb hby at_6) rfl (by decide : ¬ ((7 : Int32) = (0 : Int32))) ?_
   show St p e below s₁ (mkF m 7 #[.val (.int i0), .unset, .unset, .unset] [(.int ((i0 &&& (2147483647 : Int32)) % (7 : Int32)))]) t
   refine XS.istoreN X0.here hx rfl (hb hby at_7) rfl (l' := Ls1) rfl ?_
   show St p e below s₁ (mkF m 8 Ls1 []) t
   refine XS.iloadN X0.here hx rfl (hb hby at_8) rfl ?_
   exact k)
 by_cases g3 : ((i0 &&& (2147483647 : Int32)) % (7 : Int32)) = (0 : Int32)
 ·
  have p4 : ∀ t, St p e below s₁ (mkF m 12 Ls1 []) t → S0 t := fun t k => p2 t (by
    show St p e below s₁ (mkF m 9 Ls1 [(.int ((i0 &&& (2147483647 : Int32)) % (7 : Int32)))]) t
    refine XS.ifNo X0.here hx rfl (hb hby at_9) rfl ((if0 _ _).trans (teq g3).2) ?_
    exact k)
  obtain ⟨T5, X5, e5, st5⟩ := getS2 X0 hx hZ hown (host := "") (Or.inl (ww hw 1 rfl)) Via.refl e0 (Sa_ACCEPTED.ext O0.2) (g := (mkF m 12 Ls1 [])) rfl (hb hby at_12)
  have p6 : ∀ t, St p e below T5 (mkF m 15 Ls1 [(.ref a_ACCEPTED)]) t → S0 t := fun t k => p4 t (st5 t k)
  let Ls7 : Array Slot := #[.val (.int i0), .val (.int ((i0 &&& (2147483647 : Int32)) % (7 : Int32))), .val (.ref a_ACCEPTED), .unset]
  let Ls8 : Array Slot := #[.val (.int i0), .val (.int ((i0 &&& (2147483647 : Int32)) % (7 : Int32))), .val (.ref a_ACCEPTED), .val (.int (0 : Int32))]
  have p9 : ∀ t, St p e below T5 (mkF m 98 Ls8 [(.ref a_ACCEPTED)]) t → S0 t := fun t k => p6 t (by
    show St p e below T5 (mkF m 15 Ls1 [(.ref a_ACCEPTED)]) t
    refine XS.astoreN X5.here hx rfl (hb hby at_15) rfl rfl (l' := Ls7) rfl ?_
    show St p e below T5 (mkF m 16 Ls7 []) t
    refine XT.iconstV X5.here hx rfl (0 : Int32) (hb hby at_16) (by decide) ?_
    show St p e below T5 (mkF m 17 Ls7 [(.int (0 : Int32))]) t
    refine XS.istoreN X5.here hx rfl (hb hby at_17) rfl (l' := Ls8) rfl ?_
    show St p e below T5 (mkF m 18 Ls8 []) t
    refine XS.goto X5.here hx rfl (pc0 := 18) (pc' := 97) rfl (hb hby at_18) (by decide) (by decide) ?_
    show St p e below T5 (mkF m 97 Ls8 []) t
    refine XS.aloadN X5.here hx rfl (hb hby at_97) rfl rfl ?_
    exact k)
  obtain ⟨cqc10, kqc10, qc10a, qc10b, qc10c⟩ := isOf hZ e5 (Ea_ACCEPTED.ext O0.2)
  obtain ⟨_, _, ⟨Tc10, Lc10, kc10, nc10⟩, -, Xc10, ⟨Lcc10, hQc10, lc10, yc10, zc10⟩, stc10⟩ := X5.virtualBack hx (y := M0) (z := M0) hown (mvT hZ (ww hw 4 rfl)) (mvT hZ (ww hw 5 rfl)) (notFace_of_selects (args := #[]) (mvT hZ (ww hw 7 rfl))) (mvT hZ (ww hw 7 rfl)) (mvT hZ (ww hw 6 rfl)) (by decide) (backOf (W := 0) (rm1_0 l Z a0 hw [] a_ACCEPTED a_OTHER_SET a_SLOW_SENDER a_DUPLICATE_ID a_STALE a_OWN a_MALFORMED h0 n0 O0 HE' ) hZ (ww hw 8 rfl) (ww hw 2 rfl) (by decide) (by decide)) qc10a qc10c (g := (mkF m 98 Ls8 [(.ref a_ACCEPTED)])) rfl (by rw [hml]; rfl) (Steps.refl _) (argsL := []) (rest := []) (lenOf pd0 rfl) rfl (by show 2 * 0 + _ ≤ _; exact Nat.le_of_eq rfl) (hb hby at_98) (fun _ _ => ⟨rfl, e5, (by decide : 0 + 0 ≤ _), (by decide : 0 + 0 ≤ _)⟩)
  dsimp only [Pt.U, Pt.locs, Pt.cells, Pt.slots] at Xc10 lc10 yc10 zc10 stc10 hQc10
  subst lc10 yc10 zc10
  obtain ⟨Nqc10, ec10, hAc10⟩ := hQc10
  have Nc10 := Fr.app N0 Nqc10
  obtain rfl := hAc10
  have p11 : ∀ t, St p e below Tc10 (mkF m 101 Ls8 [(.int (0 : Int32))]) t → S0 t := fun t k => p9 t (stc10.trans k)
  have p12 : ∀ t, St p e below Tc10 (mkF m 110 Ls8 [(.int (1 : Int32))]) t → S0 t := fun t k => p11 t (by
    show St p e below Tc10 (mkF m 101 Ls8 [(.int (0 : Int32))]) t
    refine XS.iloadN Xc10.here hx rfl (hb hby at_101) rfl ?_
    show St p e below Tc10 (mkF m 102 Ls8 [(.int (0 : Int32)), (.int (0 : Int32))]) t
    refine XS.icmpNo Xc10.here hx rfl (hb hby at_102) rfl (teq (by decide : (0 : Int32) = (0 : Int32))).2 ?_
    show St p e below Tc10 (mkF m 105 Ls8 []) t
    refine XT.iconstV Xc10.here hx rfl (1 : Int32) (hb hby at_105) (by decide) ?_
    show St p e below Tc10 (mkF m 106 Ls8 [(.int (1 : Int32))]) t
    refine XS.goto Xc10.here hx rfl (pc0 := 106) (pc' := 110) rfl (hb hby at_106) (by decide) (by decide) ?_
    exact k)
  obtain ⟨fs, hr, hrun, hended, hW, hsame⟩ := Xc10.leave (v := some (.int (1 : Int32))) (fun h => by rw [Bd.returns] at h; cases h)
  refine ⟨_, _, p12 _ ?_, hrun, hended, _, _, rfl, ?_, ⟨_, rfl⟩, hW, hsame.mono (by decide) (by decide)⟩
  · exact retOut Xc10 hx Bd.returns rfl (Or.inl ⟨rfl, by simp, _, rfl⟩) (hb hby at_110) hr
  · exact ⟨rfl, Nc10⟩
 ·
  have p13 : ∀ t, St p e below s₁ (mkF m 23 Ls1 [(.int (1 : Int32)), (.int ((i0 &&& (2147483647 : Int32)) % (7 : Int32)))]) t → S0 t := fun t k => p2 t (by
    show St p e below s₁ (mkF m 9 Ls1 [(.int ((i0 &&& (2147483647 : Int32)) % (7 : Int32)))]) t
    refine XS.ifYes X0.here hx rfl (pc0 := 9) (pc' := 21) rfl (hb hby at_9) rfl ((if0 _ _).trans (feq g3).2) (by decide) (by decide) ?_
    show St p e below s₁ (mkF m 21 Ls1 []) t
    refine XS.iloadN X0.here hx rfl (hb hby at_21) rfl ?_
    show St p e below s₁ (mkF m 22 Ls1 [(.int ((i0 &&& (2147483647 : Int32)) % (7 : Int32)))]) t
    refine XT.iconstV X0.here hx rfl (1 : Int32) (hb hby at_22) (by decide) ?_
    exact k)
  by_cases g14 : ((i0 &&& (2147483647 : Int32)) % (7 : Int32)) = (1 : Int32)
  ·
   have p15 : ∀ t, St p e below s₁ (mkF m 26 Ls1 []) t → S0 t := fun t k => p13 t (by
     show St p e below s₁ (mkF m 23 Ls1 [(.int (1 : Int32)), (.int ((i0 &&& (2147483647 : Int32)) % (7 : Int32)))]) t
     refine XS.icmpNo X0.here hx rfl (hb hby at_23) rfl (teq g14).2 ?_
     exact k)
   obtain ⟨T16, X16, e16, st16⟩ := getS2 X0 hx hZ hown (host := "") (Or.inl (ww hw 22 rfl)) Via.refl e0 (Sa_SLOW_SENDER.ext O0.2) (g := (mkF m 26 Ls1 [])) rfl (hb hby at_26)
   have p17 : ∀ t, St p e below T16 (mkF m 29 Ls1 [(.ref a_SLOW_SENDER)]) t → S0 t := fun t k => p15 t (st16 t k)
   let Ls18 : Array Slot := #[.val (.int i0), .val (.int ((i0 &&& (2147483647 : Int32)) % (7 : Int32))), .val (.ref a_SLOW_SENDER), .unset]
   let Ls19 : Array Slot := #[.val (.int i0), .val (.int ((i0 &&& (2147483647 : Int32)) % (7 : Int32))), .val (.ref a_SLOW_SENDER), .val (.int (0 : Int32))]
   have p20 : ∀ t, St p e below T16 (mkF m 98 Ls19 [(.ref a_SLOW_SENDER)]) t → S0 t := fun t k => p17 t (by
     show St p e below T16 (mkF m 29 Ls1 [(.ref a_SLOW_SENDER)]) t
     refine XS.astoreN X16.here hx rfl (hb hby at_29) rfl rfl (l' := Ls18) rfl ?_
     show St p e below T16 (mkF m 30 Ls18 []) t
     refine XT.iconstV X16.here hx rfl (0 : Int32) (hb hby at_30) (by decide) ?_
     show St p e below T16 (mkF m 31 Ls18 [(.int (0 : Int32))]) t
     refine XS.istoreN X16.here hx rfl (hb hby at_31) rfl (l' := Ls19) rfl ?_
     show St p e below T16 (mkF m 32 Ls19 []) t
     refine XS.goto X16.here hx rfl (pc0 := 32) (pc' := 97) rfl (hb hby at_32) (by decide) (by decide) ?_
     show St p e below T16 (mkF m 97 Ls19 []) t
     refine XS.aloadN X16.here hx rfl (hb hby at_97) rfl rfl ?_
     exact k)
   obtain ⟨cqc21, kqc21, qc21a, qc21b, qc21c⟩ := isOf hZ e16 (Ea_SLOW_SENDER.ext O0.2)
   obtain ⟨_, _, ⟨Tc21, Lc21, kc21, nc21⟩, -, Xc21, ⟨Lcc21, hQc21, lc21, yc21, zc21⟩, stc21⟩ := X16.virtualBack hx (y := M0) (z := M0) hown (mvT hZ (ww hw 4 rfl)) (mvT hZ (ww hw 5 rfl)) (notFace_of_selects (args := #[]) (mvT hZ (ww hw 7 rfl))) (mvT hZ (ww hw 7 rfl)) (mvT hZ (ww hw 6 rfl)) (by decide) (backOf (W := 0) (rm1_1 l Z a0 hw [] a_ACCEPTED a_OTHER_SET a_SLOW_SENDER a_DUPLICATE_ID a_STALE a_OWN a_MALFORMED h0 n0 O0 HE' ) hZ (ww hw 8 rfl) (ww hw 2 rfl) (by decide) (by decide)) qc21a qc21c (g := (mkF m 98 Ls19 [(.ref a_SLOW_SENDER)])) rfl (by rw [hml]; rfl) (Steps.refl _) (argsL := []) (rest := []) (lenOf pd0 rfl) rfl (by show 2 * 0 + _ ≤ _; exact Nat.le_of_eq rfl) (hb hby at_98) (fun _ _ => ⟨rfl, e16, (by decide : 0 + 0 ≤ _), (by decide : 0 + 0 ≤ _)⟩)
   dsimp only [Pt.U, Pt.locs, Pt.cells, Pt.slots] at Xc21 lc21 yc21 zc21 stc21 hQc21
   subst lc21 yc21 zc21
   obtain ⟨Nqc21, ec21, hAc21⟩ := hQc21
   have Nc21 := Fr.app N0 Nqc21
   obtain rfl := hAc21
   have p22 : ∀ t, St p e below Tc21 (mkF m 101 Ls19 [(.int (0 : Int32))]) t → S0 t := fun t k => p20 t (stc21.trans k)
   have p23 : ∀ t, St p e below Tc21 (mkF m 110 Ls19 [(.int (1 : Int32))]) t → S0 t := fun t k => p22 t (by
     show St p e below Tc21 (mkF m 101 Ls19 [(.int (0 : Int32))]) t
     refine XS.iloadN Xc21.here hx rfl (hb hby at_101) rfl ?_
     show St p e below Tc21 (mkF m 102 Ls19 [(.int (0 : Int32)), (.int (0 : Int32))]) t
     refine XS.icmpNo Xc21.here hx rfl (hb hby at_102) rfl (teq (by decide : (0 : Int32) = (0 : Int32))).2 ?_
     show St p e below Tc21 (mkF m 105 Ls19 []) t
     refine XT.iconstV Xc21.here hx rfl (1 : Int32) (hb hby at_105) (by decide) ?_
     show St p e below Tc21 (mkF m 106 Ls19 [(.int (1 : Int32))]) t
     refine XS.goto Xc21.here hx rfl (pc0 := 106) (pc' := 110) rfl (hb hby at_106) (by decide) (by decide) ?_
     exact k)
   obtain ⟨fs, hr, hrun, hended, hW, hsame⟩ := Xc21.leave (v := some (.int (1 : Int32))) (fun h => by rw [Bd.returns] at h; cases h)
   refine ⟨_, _, p23 _ ?_, hrun, hended, _, _, rfl, ?_, ⟨_, rfl⟩, hW, hsame.mono (by decide) (by decide)⟩
   · exact retOut Xc21 hx Bd.returns rfl (Or.inl ⟨rfl, by simp, _, rfl⟩) (hb hby at_110) hr
   · exact ⟨rfl, Nc21⟩
  ·
   have p24 : ∀ t, St p e below s₁ (mkF m 37 Ls1 [(.int (2 : Int32)), (.int ((i0 &&& (2147483647 : Int32)) % (7 : Int32)))]) t → S0 t := fun t k => p13 t (by
     show St p e below s₁ (mkF m 23 Ls1 [(.int (1 : Int32)), (.int ((i0 &&& (2147483647 : Int32)) % (7 : Int32)))]) t
     refine XS.icmpYes X0.here hx rfl (pc0 := 23) (pc' := 35) rfl (hb hby at_23) rfl (feq g14).2 (by decide) (by decide) ?_
     show St p e below s₁ (mkF m 35 Ls1 []) t
     refine XS.iloadN X0.here hx rfl (hb hby at_35) rfl ?_
     show St p e below s₁ (mkF m 36 Ls1 [(.int ((i0 &&& (2147483647 : Int32)) % (7 : Int32)))]) t
     refine XT.iconstV X0.here hx rfl (2 : Int32) (hb hby at_36) (by decide) ?_
     exact k)
   by_cases g25 : ((i0 &&& (2147483647 : Int32)) % (7 : Int32)) = (2 : Int32)
   ·
    have p26 : ∀ t, St p e below s₁ (mkF m 40 Ls1 []) t → S0 t := fun t k => p24 t (by
      show St p e below s₁ (mkF m 37 Ls1 [(.int (2 : Int32)), (.int ((i0 &&& (2147483647 : Int32)) % (7 : Int32)))]) t
      refine XS.icmpNo X0.here hx rfl (hb hby at_37) rfl (teq g25).2 ?_
      exact k)
    obtain ⟨T27, X27, e27, st27⟩ := getS2 X0 hx hZ hown (host := "") (Or.inl (ww hw 20 rfl)) Via.refl e0 (Sa_MALFORMED.ext O0.2) (g := (mkF m 40 Ls1 [])) rfl (hb hby at_40)
    have p28 : ∀ t, St p e below T27 (mkF m 43 Ls1 [(.ref a_MALFORMED)]) t → S0 t := fun t k => p26 t (st27 t k)
    let Ls29 : Array Slot := #[.val (.int i0), .val (.int ((i0 &&& (2147483647 : Int32)) % (7 : Int32))), .val (.ref a_MALFORMED), .unset]
    let Ls30 : Array Slot := #[.val (.int i0), .val (.int ((i0 &&& (2147483647 : Int32)) % (7 : Int32))), .val (.ref a_MALFORMED), .val (.int (1 : Int32))]
    have p31 : ∀ t, St p e below T27 (mkF m 98 Ls30 [(.ref a_MALFORMED)]) t → S0 t := fun t k => p28 t (by
      show St p e below T27 (mkF m 43 Ls1 [(.ref a_MALFORMED)]) t
      refine XS.astoreN X27.here hx rfl (hb hby at_43) rfl rfl (l' := Ls29) rfl ?_
      show St p e below T27 (mkF m 44 Ls29 []) t
      refine XT.iconstV X27.here hx rfl (1 : Int32) (hb hby at_44) (by decide) ?_
      show St p e below T27 (mkF m 45 Ls29 [(.int (1 : Int32))]) t
      refine XS.istoreN X27.here hx rfl (hb hby at_45) rfl (l' := Ls30) rfl ?_
      show St p e below T27 (mkF m 46 Ls30 []) t
      refine XS.goto X27.here hx rfl (pc0 := 46) (pc' := 97) rfl (hb hby at_46) (by decide) (by decide) ?_
      show St p e below T27 (mkF m 97 Ls30 []) t
      refine XS.aloadN X27.here hx rfl (hb hby at_97) rfl rfl ?_
      exact k)
    obtain ⟨cqc32, kqc32, qc32a, qc32b, qc32c⟩ := isOf hZ e27 (Ea_MALFORMED.ext O0.2)
    obtain ⟨_, _, ⟨Tc32, Lc32, kc32, nc32⟩, -, Xc32, ⟨Lcc32, hQc32, lc32, yc32, zc32⟩, stc32⟩ := X27.virtualBack hx (y := M0) (z := M0) hown (mvT hZ (ww hw 4 rfl)) (mvT hZ (ww hw 5 rfl)) (notFace_of_selects (args := #[]) (mvT hZ (ww hw 7 rfl))) (mvT hZ (ww hw 7 rfl)) (mvT hZ (ww hw 6 rfl)) (by decide) (backOf (W := 0) (rm1_2 l Z a0 hw [] a_ACCEPTED a_OTHER_SET a_SLOW_SENDER a_DUPLICATE_ID a_STALE a_OWN a_MALFORMED h0 n0 O0 HE' ) hZ (ww hw 8 rfl) (ww hw 2 rfl) (by decide) (by decide)) qc32a qc32c (g := (mkF m 98 Ls30 [(.ref a_MALFORMED)])) rfl (by rw [hml]; rfl) (Steps.refl _) (argsL := []) (rest := []) (lenOf pd0 rfl) rfl (by show 2 * 0 + _ ≤ _; exact Nat.le_of_eq rfl) (hb hby at_98) (fun _ _ => ⟨rfl, e27, (by decide : 0 + 0 ≤ _), (by decide : 0 + 0 ≤ _)⟩)
    dsimp only [Pt.U, Pt.locs, Pt.cells, Pt.slots] at Xc32 lc32 yc32 zc32 stc32 hQc32
    subst lc32 yc32 zc32
    obtain ⟨Nqc32, ec32, hAc32⟩ := hQc32
    have Nc32 := Fr.app N0 Nqc32
    obtain rfl := hAc32
    have p33 : ∀ t, St p e below Tc32 (mkF m 101 Ls30 [(.int (1 : Int32))]) t → S0 t := fun t k => p31 t (stc32.trans k)
    have p34 : ∀ t, St p e below Tc32 (mkF m 110 Ls30 [(.int (1 : Int32))]) t → S0 t := fun t k => p33 t (by
      show St p e below Tc32 (mkF m 101 Ls30 [(.int (1 : Int32))]) t
      refine XS.iloadN Xc32.here hx rfl (hb hby at_101) rfl ?_
      show St p e below Tc32 (mkF m 102 Ls30 [(.int (1 : Int32)), (.int (1 : Int32))]) t
      refine XS.icmpNo Xc32.here hx rfl (hb hby at_102) rfl (teq (by decide : (1 : Int32) = (1 : Int32))).2 ?_
      show St p e below Tc32 (mkF m 105 Ls30 []) t
      refine XT.iconstV Xc32.here hx rfl (1 : Int32) (hb hby at_105) (by decide) ?_
      show St p e below Tc32 (mkF m 106 Ls30 [(.int (1 : Int32))]) t
      refine XS.goto Xc32.here hx rfl (pc0 := 106) (pc' := 110) rfl (hb hby at_106) (by decide) (by decide) ?_
      exact k)
    obtain ⟨fs, hr, hrun, hended, hW, hsame⟩ := Xc32.leave (v := some (.int (1 : Int32))) (fun h => by rw [Bd.returns] at h; cases h)
    refine ⟨_, _, p34 _ ?_, hrun, hended, _, _, rfl, ?_, ⟨_, rfl⟩, hW, hsame.mono (by decide) (by decide)⟩
    · exact retOut Xc32 hx Bd.returns rfl (Or.inl ⟨rfl, by simp, _, rfl⟩) (hb hby at_110) hr
    · exact ⟨rfl, Nc32⟩
   ·
    have p35 : ∀ t, St p e below s₁ (mkF m 51 Ls1 [(.int (3 : Int32)), (.int ((i0 &&& (2147483647 : Int32)) % (7 : Int32)))]) t → S0 t := fun t k => p24 t (by
      show St p e below s₁ (mkF m 37 Ls1 [(.int (2 : Int32)), (.int ((i0 &&& (2147483647 : Int32)) % (7 : Int32)))]) t
      refine XS.icmpYes X0.here hx rfl (pc0 := 37) (pc' := 49) rfl (hb hby at_37) rfl (feq g25).2 (by decide) (by decide) ?_
      show St p e below s₁ (mkF m 49 Ls1 []) t
      refine XS.iloadN X0.here hx rfl (hb hby at_49) rfl ?_
      show St p e below s₁ (mkF m 50 Ls1 [(.int ((i0 &&& (2147483647 : Int32)) % (7 : Int32)))]) t
      refine XT.iconstV X0.here hx rfl (3 : Int32) (hb hby at_50) (by decide) ?_
      exact k)
    by_cases g36 : ((i0 &&& (2147483647 : Int32)) % (7 : Int32)) = (3 : Int32)
    ·
     have p37 : ∀ t, St p e below s₁ (mkF m 54 Ls1 []) t → S0 t := fun t k => p35 t (by
       show St p e below s₁ (mkF m 51 Ls1 [(.int (3 : Int32)), (.int ((i0 &&& (2147483647 : Int32)) % (7 : Int32)))]) t
       refine XS.icmpNo X0.here hx rfl (hb hby at_51) rfl (teq g36).2 ?_
       exact k)
     obtain ⟨T38, X38, e38, st38⟩ := getS2 X0 hx hZ hown (host := "") (Or.inl (ww hw 10 rfl)) Via.refl e0 (Sa_OTHER_SET.ext O0.2) (g := (mkF m 54 Ls1 [])) rfl (hb hby at_54)
     have p39 : ∀ t, St p e below T38 (mkF m 57 Ls1 [(.ref a_OTHER_SET)]) t → S0 t := fun t k => p37 t (st38 t k)
     let Ls40 : Array Slot := #[.val (.int i0), .val (.int ((i0 &&& (2147483647 : Int32)) % (7 : Int32))), .val (.ref a_OTHER_SET), .unset]
     let Ls41 : Array Slot := #[.val (.int i0), .val (.int ((i0 &&& (2147483647 : Int32)) % (7 : Int32))), .val (.ref a_OTHER_SET), .val (.int (1 : Int32))]
     have p42 : ∀ t, St p e below T38 (mkF m 98 Ls41 [(.ref a_OTHER_SET)]) t → S0 t := fun t k => p39 t (by
       show St p e below T38 (mkF m 57 Ls1 [(.ref a_OTHER_SET)]) t
       refine XS.astoreN X38.here hx rfl (hb hby at_57) rfl rfl (l' := Ls40) rfl ?_
       show St p e below T38 (mkF m 58 Ls40 []) t
       refine XT.iconstV X38.here hx rfl (1 : Int32) (hb hby at_58) (by decide) ?_
       show St p e below T38 (mkF m 59 Ls40 [(.int (1 : Int32))]) t
       refine XS.istoreN X38.here hx rfl (hb hby at_59) rfl (l' := Ls41) rfl ?_
       show St p e below T38 (mkF m 60 Ls41 []) t
       refine XS.goto X38.here hx rfl (pc0 := 60) (pc' := 97) rfl (hb hby at_60) (by decide) (by decide) ?_
       show St p e below T38 (mkF m 97 Ls41 []) t
       refine XS.aloadN X38.here hx rfl (hb hby at_97) rfl rfl ?_
       exact k)
     obtain ⟨cqc43, kqc43, qc43a, qc43b, qc43c⟩ := isOf hZ e38 (Ea_OTHER_SET.ext O0.2)
     obtain ⟨_, _, ⟨Tc43, Lc43, kc43, nc43⟩, -, Xc43, ⟨Lcc43, hQc43, lc43, yc43, zc43⟩, stc43⟩ := X38.virtualBack hx (y := M0) (z := M0) hown (mvT hZ (ww hw 4 rfl)) (mvT hZ (ww hw 5 rfl)) (notFace_of_selects (args := #[]) (mvT hZ (ww hw 7 rfl))) (mvT hZ (ww hw 7 rfl)) (mvT hZ (ww hw 6 rfl)) (by decide) (backOf (W := 0) (rm1_3 l Z a0 hw [] a_ACCEPTED a_OTHER_SET a_SLOW_SENDER a_DUPLICATE_ID a_STALE a_OWN a_MALFORMED h0 n0 O0 HE' ) hZ (ww hw 8 rfl) (ww hw 2 rfl) (by decide) (by decide)) qc43a qc43c (g := (mkF m 98 Ls41 [(.ref a_OTHER_SET)])) rfl (by rw [hml]; rfl) (Steps.refl _) (argsL := []) (rest := []) (lenOf pd0 rfl) rfl (by show 2 * 0 + _ ≤ _; exact Nat.le_of_eq rfl) (hb hby at_98) (fun _ _ => ⟨rfl, e38, (by decide : 0 + 0 ≤ _), (by decide : 0 + 0 ≤ _)⟩)
     dsimp only [Pt.U, Pt.locs, Pt.cells, Pt.slots] at Xc43 lc43 yc43 zc43 stc43 hQc43
     subst lc43 yc43 zc43
     obtain ⟨Nqc43, ec43, hAc43⟩ := hQc43
     have Nc43 := Fr.app N0 Nqc43
     obtain rfl := hAc43
     have p44 : ∀ t, St p e below Tc43 (mkF m 101 Ls41 [(.int (1 : Int32))]) t → S0 t := fun t k => p42 t (stc43.trans k)
     have p45 : ∀ t, St p e below Tc43 (mkF m 110 Ls41 [(.int (1 : Int32))]) t → S0 t := fun t k => p44 t (by
       show St p e below Tc43 (mkF m 101 Ls41 [(.int (1 : Int32))]) t
       refine XS.iloadN Xc43.here hx rfl (hb hby at_101) rfl ?_
       show St p e below Tc43 (mkF m 102 Ls41 [(.int (1 : Int32)), (.int (1 : Int32))]) t
       refine XS.icmpNo Xc43.here hx rfl (hb hby at_102) rfl (teq (by decide : (1 : Int32) = (1 : Int32))).2 ?_
       show St p e below Tc43 (mkF m 105 Ls41 []) t
       refine XT.iconstV Xc43.here hx rfl (1 : Int32) (hb hby at_105) (by decide) ?_
       show St p e below Tc43 (mkF m 106 Ls41 [(.int (1 : Int32))]) t
       refine XS.goto Xc43.here hx rfl (pc0 := 106) (pc' := 110) rfl (hb hby at_106) (by decide) (by decide) ?_
       exact k)
     obtain ⟨fs, hr, hrun, hended, hW, hsame⟩ := Xc43.leave (v := some (.int (1 : Int32))) (fun h => by rw [Bd.returns] at h; cases h)
     refine ⟨_, _, p45 _ ?_, hrun, hended, _, _, rfl, ?_, ⟨_, rfl⟩, hW, hsame.mono (by decide) (by decide)⟩
     · exact retOut Xc43 hx Bd.returns rfl (Or.inl ⟨rfl, by simp, _, rfl⟩) (hb hby at_110) hr
     · exact ⟨rfl, Nc43⟩
    ·
     have p46 : ∀ t, St p e below s₁ (mkF m 65 Ls1 [(.int (4 : Int32)), (.int ((i0 &&& (2147483647 : Int32)) % (7 : Int32)))]) t → S0 t := fun t k => p35 t (by
       show St p e below s₁ (mkF m 51 Ls1 [(.int (3 : Int32)), (.int ((i0 &&& (2147483647 : Int32)) % (7 : Int32)))]) t
       refine XS.icmpYes X0.here hx rfl (pc0 := 51) (pc' := 63) rfl (hb hby at_51) rfl (feq g36).2 (by decide) (by decide) ?_
       show St p e below s₁ (mkF m 63 Ls1 []) t
       refine XS.iloadN X0.here hx rfl (hb hby at_63) rfl ?_
       show St p e below s₁ (mkF m 64 Ls1 [(.int ((i0 &&& (2147483647 : Int32)) % (7 : Int32)))]) t
       refine XT.iconstV X0.here hx rfl (4 : Int32) (hb hby at_64) (by decide) ?_
       exact k)
     by_cases g47 : ((i0 &&& (2147483647 : Int32)) % (7 : Int32)) = (4 : Int32)
     ·
      have p48 : ∀ t, St p e below s₁ (mkF m 68 Ls1 []) t → S0 t := fun t k => p46 t (by
        show St p e below s₁ (mkF m 65 Ls1 [(.int (4 : Int32)), (.int ((i0 &&& (2147483647 : Int32)) % (7 : Int32)))]) t
        refine XS.icmpNo X0.here hx rfl (hb hby at_65) rfl (teq g47).2 ?_
        exact k)
      obtain ⟨T49, X49, e49, st49⟩ := getS2 X0 hx hZ hown (host := "") (Or.inl (ww hw 18 rfl)) Via.refl e0 (Sa_OWN.ext O0.2) (g := (mkF m 68 Ls1 [])) rfl (hb hby at_68)
      have p50 : ∀ t, St p e below T49 (mkF m 71 Ls1 [(.ref a_OWN)]) t → S0 t := fun t k => p48 t (st49 t k)
      let Ls51 : Array Slot := #[.val (.int i0), .val (.int ((i0 &&& (2147483647 : Int32)) % (7 : Int32))), .val (.ref a_OWN), .unset]
      let Ls52 : Array Slot := #[.val (.int i0), .val (.int ((i0 &&& (2147483647 : Int32)) % (7 : Int32))), .val (.ref a_OWN), .val (.int (1 : Int32))]
      have p53 : ∀ t, St p e below T49 (mkF m 98 Ls52 [(.ref a_OWN)]) t → S0 t := fun t k => p50 t (by
        show St p e below T49 (mkF m 71 Ls1 [(.ref a_OWN)]) t
        refine XS.astoreN X49.here hx rfl (hb hby at_71) rfl rfl (l' := Ls51) rfl ?_
        show St p e below T49 (mkF m 72 Ls51 []) t
        refine XT.iconstV X49.here hx rfl (1 : Int32) (hb hby at_72) (by decide) ?_
        show St p e below T49 (mkF m 73 Ls51 [(.int (1 : Int32))]) t
        refine XS.istoreN X49.here hx rfl (hb hby at_73) rfl (l' := Ls52) rfl ?_
        show St p e below T49 (mkF m 74 Ls52 []) t
        refine XS.goto X49.here hx rfl (pc0 := 74) (pc' := 97) rfl (hb hby at_74) (by decide) (by decide) ?_
        show St p e below T49 (mkF m 97 Ls52 []) t
        refine XS.aloadN X49.here hx rfl (hb hby at_97) rfl rfl ?_
        exact k)
      obtain ⟨cqc54, kqc54, qc54a, qc54b, qc54c⟩ := isOf hZ e49 (Ea_OWN.ext O0.2)
      obtain ⟨_, _, ⟨Tc54, Lc54, kc54, nc54⟩, -, Xc54, ⟨Lcc54, hQc54, lc54, yc54, zc54⟩, stc54⟩ := X49.virtualBack hx (y := M0) (z := M0) hown (mvT hZ (ww hw 4 rfl)) (mvT hZ (ww hw 5 rfl)) (notFace_of_selects (args := #[]) (mvT hZ (ww hw 7 rfl))) (mvT hZ (ww hw 7 rfl)) (mvT hZ (ww hw 6 rfl)) (by decide) (backOf (W := 0) (rm1_4 l Z a0 hw [] a_ACCEPTED a_OTHER_SET a_SLOW_SENDER a_DUPLICATE_ID a_STALE a_OWN a_MALFORMED h0 n0 O0 HE' ) hZ (ww hw 8 rfl) (ww hw 2 rfl) (by decide) (by decide)) qc54a qc54c (g := (mkF m 98 Ls52 [(.ref a_OWN)])) rfl (by rw [hml]; rfl) (Steps.refl _) (argsL := []) (rest := []) (lenOf pd0 rfl) rfl (by show 2 * 0 + _ ≤ _; exact Nat.le_of_eq rfl) (hb hby at_98) (fun _ _ => ⟨rfl, e49, (by decide : 0 + 0 ≤ _), (by decide : 0 + 0 ≤ _)⟩)
      dsimp only [Pt.U, Pt.locs, Pt.cells, Pt.slots] at Xc54 lc54 yc54 zc54 stc54 hQc54
      subst lc54 yc54 zc54
      obtain ⟨Nqc54, ec54, hAc54⟩ := hQc54
      have Nc54 := Fr.app N0 Nqc54
      obtain rfl := hAc54
      have p55 : ∀ t, St p e below Tc54 (mkF m 101 Ls52 [(.int (1 : Int32))]) t → S0 t := fun t k => p53 t (stc54.trans k)
      have p56 : ∀ t, St p e below Tc54 (mkF m 110 Ls52 [(.int (1 : Int32))]) t → S0 t := fun t k => p55 t (by
        show St p e below Tc54 (mkF m 101 Ls52 [(.int (1 : Int32))]) t
        refine XS.iloadN Xc54.here hx rfl (hb hby at_101) rfl ?_
        show St p e below Tc54 (mkF m 102 Ls52 [(.int (1 : Int32)), (.int (1 : Int32))]) t
        refine XS.icmpNo Xc54.here hx rfl (hb hby at_102) rfl (teq (by decide : (1 : Int32) = (1 : Int32))).2 ?_
        show St p e below Tc54 (mkF m 105 Ls52 []) t
        refine XT.iconstV Xc54.here hx rfl (1 : Int32) (hb hby at_105) (by decide) ?_
        show St p e below Tc54 (mkF m 106 Ls52 [(.int (1 : Int32))]) t
        refine XS.goto Xc54.here hx rfl (pc0 := 106) (pc' := 110) rfl (hb hby at_106) (by decide) (by decide) ?_
        exact k)
      obtain ⟨fs, hr, hrun, hended, hW, hsame⟩ := Xc54.leave (v := some (.int (1 : Int32))) (fun h => by rw [Bd.returns] at h; cases h)
      refine ⟨_, _, p56 _ ?_, hrun, hended, _, _, rfl, ?_, ⟨_, rfl⟩, hW, hsame.mono (by decide) (by decide)⟩
      · exact retOut Xc54 hx Bd.returns rfl (Or.inl ⟨rfl, by simp, _, rfl⟩) (hb hby at_110) hr
      · exact ⟨rfl, Nc54⟩
     ·
      have p57 : ∀ t, St p e below s₁ (mkF m 79 Ls1 [(.int (5 : Int32)), (.int ((i0 &&& (2147483647 : Int32)) % (7 : Int32)))]) t → S0 t := fun t k => p46 t (by
        show St p e below s₁ (mkF m 65 Ls1 [(.int (4 : Int32)), (.int ((i0 &&& (2147483647 : Int32)) % (7 : Int32)))]) t
        refine XS.icmpYes X0.here hx rfl (pc0 := 65) (pc' := 77) rfl (hb hby at_65) rfl (feq g47).2 (by decide) (by decide) ?_
        show St p e below s₁ (mkF m 77 Ls1 []) t
        refine XS.iloadN X0.here hx rfl (hb hby at_77) rfl ?_
        show St p e below s₁ (mkF m 78 Ls1 [(.int ((i0 &&& (2147483647 : Int32)) % (7 : Int32)))]) t
        refine XT.iconstV X0.here hx rfl (5 : Int32) (hb hby at_78) (by decide) ?_
        exact k)
      by_cases g58 : ((i0 &&& (2147483647 : Int32)) % (7 : Int32)) = (5 : Int32)
      ·
       have p59 : ∀ t, St p e below s₁ (mkF m 82 Ls1 []) t → S0 t := fun t k => p57 t (by
         show St p e below s₁ (mkF m 79 Ls1 [(.int (5 : Int32)), (.int ((i0 &&& (2147483647 : Int32)) % (7 : Int32)))]) t
         refine XS.icmpNo X0.here hx rfl (hb hby at_79) rfl (teq g58).2 ?_
         exact k)
       obtain ⟨T60, X60, e60, st60⟩ := getS2 X0 hx hZ hown (host := "") (Or.inl (ww hw 14 rfl)) Via.refl e0 (Sa_DUPLICATE_ID.ext O0.2) (g := (mkF m 82 Ls1 [])) rfl (hb hby at_82)
       have p61 : ∀ t, St p e below T60 (mkF m 85 Ls1 [(.ref a_DUPLICATE_ID)]) t → S0 t := fun t k => p59 t (st60 t k)
       let Ls62 : Array Slot := #[.val (.int i0), .val (.int ((i0 &&& (2147483647 : Int32)) % (7 : Int32))), .val (.ref a_DUPLICATE_ID), .unset]
       let Ls63 : Array Slot := #[.val (.int i0), .val (.int ((i0 &&& (2147483647 : Int32)) % (7 : Int32))), .val (.ref a_DUPLICATE_ID), .val (.int (1 : Int32))]
       have p64 : ∀ t, St p e below T60 (mkF m 98 Ls63 [(.ref a_DUPLICATE_ID)]) t → S0 t := fun t k => p61 t (by
         show St p e below T60 (mkF m 85 Ls1 [(.ref a_DUPLICATE_ID)]) t
         refine XS.astoreN X60.here hx rfl (hb hby at_85) rfl rfl (l' := Ls62) rfl ?_
         show St p e below T60 (mkF m 86 Ls62 []) t
         refine XT.iconstV X60.here hx rfl (1 : Int32) (hb hby at_86) (by decide) ?_
         show St p e below T60 (mkF m 87 Ls62 [(.int (1 : Int32))]) t
         refine XS.istoreN X60.here hx rfl (hb hby at_87) rfl (l' := Ls63) rfl ?_
         show St p e below T60 (mkF m 88 Ls63 []) t
         refine XS.goto X60.here hx rfl (pc0 := 88) (pc' := 97) rfl (hb hby at_88) (by decide) (by decide) ?_
         show St p e below T60 (mkF m 97 Ls63 []) t
         refine XS.aloadN X60.here hx rfl (hb hby at_97) rfl rfl ?_
         exact k)
       obtain ⟨cqc65, kqc65, qc65a, qc65b, qc65c⟩ := isOf hZ e60 (Ea_DUPLICATE_ID.ext O0.2)
       obtain ⟨_, _, ⟨Tc65, Lc65, kc65, nc65⟩, -, Xc65, ⟨Lcc65, hQc65, lc65, yc65, zc65⟩, stc65⟩ := X60.virtualBack hx (y := M0) (z := M0) hown (mvT hZ (ww hw 4 rfl)) (mvT hZ (ww hw 5 rfl)) (notFace_of_selects (args := #[]) (mvT hZ (ww hw 7 rfl))) (mvT hZ (ww hw 7 rfl)) (mvT hZ (ww hw 6 rfl)) (by decide) (backOf (W := 0) (rm1_5 l Z a0 hw [] a_ACCEPTED a_OTHER_SET a_SLOW_SENDER a_DUPLICATE_ID a_STALE a_OWN a_MALFORMED h0 n0 O0 HE' ) hZ (ww hw 8 rfl) (ww hw 2 rfl) (by decide) (by decide)) qc65a qc65c (g := (mkF m 98 Ls63 [(.ref a_DUPLICATE_ID)])) rfl (by rw [hml]; rfl) (Steps.refl _) (argsL := []) (rest := []) (lenOf pd0 rfl) rfl (by show 2 * 0 + _ ≤ _; exact Nat.le_of_eq rfl) (hb hby at_98) (fun _ _ => ⟨rfl, e60, (by decide : 0 + 0 ≤ _), (by decide : 0 + 0 ≤ _)⟩)
       dsimp only [Pt.U, Pt.locs, Pt.cells, Pt.slots] at Xc65 lc65 yc65 zc65 stc65 hQc65
       subst lc65 yc65 zc65
       obtain ⟨Nqc65, ec65, hAc65⟩ := hQc65
       have Nc65 := Fr.app N0 Nqc65
       obtain rfl := hAc65
       have p66 : ∀ t, St p e below Tc65 (mkF m 101 Ls63 [(.int (1 : Int32))]) t → S0 t := fun t k => p64 t (stc65.trans k)
       have p67 : ∀ t, St p e below Tc65 (mkF m 110 Ls63 [(.int (1 : Int32))]) t → S0 t := fun t k => p66 t (by
         show St p e below Tc65 (mkF m 101 Ls63 [(.int (1 : Int32))]) t
         refine XS.iloadN Xc65.here hx rfl (hb hby at_101) rfl ?_
         show St p e below Tc65 (mkF m 102 Ls63 [(.int (1 : Int32)), (.int (1 : Int32))]) t
         refine XS.icmpNo Xc65.here hx rfl (hb hby at_102) rfl (teq (by decide : (1 : Int32) = (1 : Int32))).2 ?_
         show St p e below Tc65 (mkF m 105 Ls63 []) t
         refine XT.iconstV Xc65.here hx rfl (1 : Int32) (hb hby at_105) (by decide) ?_
         show St p e below Tc65 (mkF m 106 Ls63 [(.int (1 : Int32))]) t
         refine XS.goto Xc65.here hx rfl (pc0 := 106) (pc' := 110) rfl (hb hby at_106) (by decide) (by decide) ?_
         exact k)
       obtain ⟨fs, hr, hrun, hended, hW, hsame⟩ := Xc65.leave (v := some (.int (1 : Int32))) (fun h => by rw [Bd.returns] at h; cases h)
       refine ⟨_, _, p67 _ ?_, hrun, hended, _, _, rfl, ?_, ⟨_, rfl⟩, hW, hsame.mono (by decide) (by decide)⟩
       · exact retOut Xc65 hx Bd.returns rfl (Or.inl ⟨rfl, by simp, _, rfl⟩) (hb hby at_110) hr
       · exact ⟨rfl, Nc65⟩
      ·
       have p68 : ∀ t, St p e below s₁ (mkF m 91 Ls1 []) t → S0 t := fun t k => p57 t (by
         show St p e below s₁ (mkF m 79 Ls1 [(.int (5 : Int32)), (.int ((i0 &&& (2147483647 : Int32)) % (7 : Int32)))]) t
         refine XS.icmpYes X0.here hx rfl (pc0 := 79) (pc' := 91) rfl (hb hby at_79) rfl (feq g58).2 (by decide) (by decide) ?_
         exact k)
       obtain ⟨T69, X69, e69, st69⟩ := getS2 X0 hx hZ hown (host := "") (Or.inl (ww hw 16 rfl)) Via.refl e0 (Sa_STALE.ext O0.2) (g := (mkF m 91 Ls1 [])) rfl (hb hby at_91)
       have p70 : ∀ t, St p e below T69 (mkF m 94 Ls1 [(.ref a_STALE)]) t → S0 t := fun t k => p68 t (st69 t k)
       let Ls71 : Array Slot := #[.val (.int i0), .val (.int ((i0 &&& (2147483647 : Int32)) % (7 : Int32))), .val (.ref a_STALE), .unset]
       let Ls72 : Array Slot := #[.val (.int i0), .val (.int ((i0 &&& (2147483647 : Int32)) % (7 : Int32))), .val (.ref a_STALE), .val (.int (1 : Int32))]
       have p73 : ∀ t, St p e below T69 (mkF m 98 Ls72 [(.ref a_STALE)]) t → S0 t := fun t k => p70 t (by
         show St p e below T69 (mkF m 94 Ls1 [(.ref a_STALE)]) t
         refine XS.astoreN X69.here hx rfl (hb hby at_94) rfl rfl (l' := Ls71) rfl ?_
         show St p e below T69 (mkF m 95 Ls71 []) t
         refine XT.iconstV X69.here hx rfl (1 : Int32) (hb hby at_95) (by decide) ?_
         show St p e below T69 (mkF m 96 Ls71 [(.int (1 : Int32))]) t
         refine XS.istoreN X69.here hx rfl (hb hby at_96) rfl (l' := Ls72) rfl ?_
         show St p e below T69 (mkF m 97 Ls72 []) t
         refine XS.aloadN X69.here hx rfl (hb hby at_97) rfl rfl ?_
         exact k)
       obtain ⟨cqc74, kqc74, qc74a, qc74b, qc74c⟩ := isOf hZ e69 (Ea_STALE.ext O0.2)
       obtain ⟨_, _, ⟨Tc74, Lc74, kc74, nc74⟩, -, Xc74, ⟨Lcc74, hQc74, lc74, yc74, zc74⟩, stc74⟩ := X69.virtualBack hx (y := M0) (z := M0) hown (mvT hZ (ww hw 4 rfl)) (mvT hZ (ww hw 5 rfl)) (notFace_of_selects (args := #[]) (mvT hZ (ww hw 7 rfl))) (mvT hZ (ww hw 7 rfl)) (mvT hZ (ww hw 6 rfl)) (by decide) (backOf (W := 0) (rm1_6 l Z a0 hw [] a_ACCEPTED a_OTHER_SET a_SLOW_SENDER a_DUPLICATE_ID a_STALE a_OWN a_MALFORMED h0 n0 O0 HE' ) hZ (ww hw 8 rfl) (ww hw 2 rfl) (by decide) (by decide)) qc74a qc74c (g := (mkF m 98 Ls72 [(.ref a_STALE)])) rfl (by rw [hml]; rfl) (Steps.refl _) (argsL := []) (rest := []) (lenOf pd0 rfl) rfl (by show 2 * 0 + _ ≤ _; exact Nat.le_of_eq rfl) (hb hby at_98) (fun _ _ => ⟨rfl, e69, (by decide : 0 + 0 ≤ _), (by decide : 0 + 0 ≤ _)⟩)
       dsimp only [Pt.U, Pt.locs, Pt.cells, Pt.slots] at Xc74 lc74 yc74 zc74 stc74 hQc74
       subst lc74 yc74 zc74
       obtain ⟨Nqc74, ec74, hAc74⟩ := hQc74
       have Nc74 := Fr.app N0 Nqc74
       obtain rfl := hAc74
       have p75 : ∀ t, St p e below Tc74 (mkF m 101 Ls72 [(.int (1 : Int32))]) t → S0 t := fun t k => p73 t (stc74.trans k)
       have p76 : ∀ t, St p e below Tc74 (mkF m 110 Ls72 [(.int (1 : Int32))]) t → S0 t := fun t k => p75 t (by
         show St p e below Tc74 (mkF m 101 Ls72 [(.int (1 : Int32))]) t
         refine XS.iloadN Xc74.here hx rfl (hb hby at_101) rfl ?_
         show St p e below Tc74 (mkF m 102 Ls72 [(.int (1 : Int32)), (.int (1 : Int32))]) t
         refine XS.icmpNo Xc74.here hx rfl (hb hby at_102) rfl (teq (by decide : (1 : Int32) = (1 : Int32))).2 ?_
         show St p e below Tc74 (mkF m 105 Ls72 []) t
         refine XT.iconstV Xc74.here hx rfl (1 : Int32) (hb hby at_105) (by decide) ?_
         show St p e below Tc74 (mkF m 106 Ls72 [(.int (1 : Int32))]) t
         refine XS.goto Xc74.here hx rfl (pc0 := 106) (pc' := 110) rfl (hb hby at_106) (by decide) (by decide) ?_
         exact k)
       obtain ⟨fs, hr, hrun, hended, hW, hsame⟩ := Xc74.leave (v := some (.int (1 : Int32))) (fun h => by rw [Bd.returns] at h; cases h)
       refine ⟨_, _, p76 _ ?_, hrun, hended, _, _, rfl, ?_, ⟨_, rfl⟩, hW, hsame.mono (by decide) (by decide)⟩
       · exact retOut Xc74 hx Bd.returns rfl (Or.inl ⟨rfl, by simp, _, rfl⟩) (hb hby at_110) hr
       · exact ⟨rfl, Nc74⟩
set_option maxRecDepth 65536 in
set_option maxHeartbeats 40000000 in
theorem comes_1 {Post : Tables → Env → Array Value → State → Outcome → State → Prop} (hpost : ∀ tb e args s v u, (limb_1_1.after args s (.returned v) u = true ∧ limb_1_2.after args s (.returned v) u = true ∧ True) → FrameEnd s (.returned v) u (Jvm.fieldLocs frame_1_writes args s ++ Jvm.arrayLocs frame_1_arrays args s ++ Jvm.staticLocs frame_1_statics s) 0 0 → Post tb e args s (.returned v) u) :
    ArmFor flags0 classFile x code maxLocals ret World_1 tables_1 room_1 Calls_1 rest_1 Pre_1 Post := by
  intro l hfl _ _ p e ha hc hk s m args below hf hA hF happ hP
  obtain ⟨hcalls, hrest, hpre⟩ := hP
  obtain ⟨-, -, -, hnamed, -, -, -, hat⟩ := (Spec.applies_iff hf).mp happ
  obtain ⟨hg, hn⟩ := and_e (Cond.before_iff.mp (show (Jvm.Cond.and given_1 narrow_1).before args s = true from hpre))
  obtain ⟨hj1a, hj1b⟩ := and_e hg
  obtain ⟨w0, rfl⟩ : ∃ w0 : Value, args = #[w0] := by
    have hs : args.size = 1 := by simpa [Cond.value, given_1] using hj1a
    obtain ⟨L⟩ := args
    match L, hs with
    | [w0], _ => exact ⟨w0, rfl⟩
  have hw := fun d (hd : d ∈ tables_1) => atoms_spec (ws := Jvm.Cond.code x code maxLocals ret :: tables_1) hat d (List.mem_cons_of_mem _ hd)
  have hfit : Fit s := fun {y c} hc i hi => by
    obtain ⟨ha, rfl⟩ := Array.getElem?_eq_some_iff.mp hc
    have q := List.all_eq_true.mp ((Array.all_eq_true_iff_forall_mem.mp hF) _ (Array.getElem_mem ha)) i (List.mem_range.mpr hi)
    simpa [Array.getElem?_eq_getElem hi] using q
  obtain ⟨i0, ei0⟩ := is_v hj1b
  obtain rfl : w0 = (.int i0) := Option.some.inj ei0
  obtain ⟨hj2a, hj2b⟩ := and_e hn
  obtain ⟨hj3a, hj3b⟩ := and_e hj2b
  obtain ⟨hj4a, hj4b⟩ := and_e hj3b
  obtain ⟨hj5a, hj5b⟩ := and_e hj4b
  obtain ⟨hj6a, hj6b⟩ := and_e hj5b
  obtain ⟨hj7a, hj7b⟩ := and_e hj6b
  obtain ⟨hj8a, hj8b⟩ := and_e hj7b
  obtain ⟨hj9a, hj9b⟩ := and_e hj8b
  obtain ⟨hj10a, hj10b⟩ := and_e hj9b
  obtain ⟨hj11a, hj11b⟩ := and_e hj10b
  obtain ⟨hj12a, hj12b⟩ := and_e hj11b
  obtain ⟨hj13a, hj13b⟩ := and_e hj12b
  obtain ⟨hj14a, hj14b⟩ := and_e hj13b
  have hn0 := hj2a
  have hn1 := hj3a
  have hn2 := hj4a
  have hn3 := hj5a
  have hn4 := hj6a
  have hn5 := hj7a
  have hn6 := hj8a
  have hn7 := hj9a
  have hn8 := hj10a
  have hn9 := hj11a
  have hn10 := hj12a
  have hn11 := hj13a
  have hn12 := hj14a
  have hn13 := hj14b
  obtain ⟨a_ACCEPTED, eva_ACCEPTED⟩ := exa_v hn0
  obtain ⟨a_OTHER_SET, eva_OTHER_SET⟩ := exa_v hn1
  obtain ⟨a_SLOW_SENDER, eva_SLOW_SENDER⟩ := exa_v hn4
  obtain ⟨a_DUPLICATE_ID, eva_DUPLICATE_ID⟩ := exa_v hn6
  obtain ⟨a_STALE, eva_STALE⟩ := exa_v hn8
  obtain ⟨a_OWN, eva_OWN⟩ := exa_v hn10
  obtain ⟨a_MALFORMED, eva_MALFORMED⟩ := exa_v hn12
  obtain ⟨n, o, h1, h2, h3, _, L, rfl, ⟨rfl, N⟩, hq⟩ := rm0 l s _ hw tables_1 a_ACCEPTED a_OTHER_SET a_SLOW_SENDER a_DUPLICATE_ID a_STALE a_OWN a_MALFORMED i0 s.heap s.heap.size (Old.start s) ⟨(Sta.start eva_ACCEPTED (Or.inr ⟨(ww hw 2 rfl), (ww hw 3 rfl)⟩)), (Exa.start eva_ACCEPTED hn0), (Sta.start eva_OTHER_SET (Or.inr ⟨(ww hw 2 rfl), (ww hw 11 rfl)⟩)), (Exa.start eva_OTHER_SET hn1), (Fld.start ((fld_at eva_OTHER_SET).symm.trans (own_eqI hn2))), (Fld.start ((fld_at eva_ACCEPTED).symm.trans (own_eqI hn3))), (Sta.start eva_SLOW_SENDER (Or.inr ⟨(ww hw 2 rfl), (ww hw 13 rfl)⟩)), (Exa.start eva_SLOW_SENDER hn4), (Fld.start ((fld_at eva_SLOW_SENDER).symm.trans (own_eqI hn5))), (Sta.start eva_DUPLICATE_ID (Or.inr ⟨(ww hw 2 rfl), (ww hw 15 rfl)⟩)), (Exa.start eva_DUPLICATE_ID hn6), (Fld.start ((fld_at eva_DUPLICATE_ID).symm.trans (own_eqI hn7))), (Sta.start eva_STALE (Or.inr ⟨(ww hw 2 rfl), (ww hw 17 rfl)⟩)), (Exa.start eva_STALE hn8), (Fld.start ((fld_at eva_STALE).symm.trans (own_eqI hn9))), (Sta.start eva_OWN (Or.inr ⟨(ww hw 2 rfl), (ww hw 19 rfl)⟩)), (Exa.start eva_OWN hn10), (Fld.start ((fld_at eva_OWN).symm.trans (own_eqI hn11))), (Sta.start eva_MALFORMED (Or.inr ⟨(ww hw 2 rfl), (ww hw 21 rfl)⟩)), (Exa.start eva_MALFORMED hn12), (Fld.start ((fld_at eva_MALFORMED).symm.trans (own_eqI hn13)))⟩ p e ha hc hk s m _ below hf ((Spec.applies_iff_loose hf).mp happ).1 ⟨rfl, State.Warmed39.refl s, rfl⟩ trivial
  refine ⟨n, _, h1, h2, h3, hpost _ _ _ _ _ _ ⟨Cond.after_iff.mpr rfl, Cond.after_iff.mpr (eq_i res_at (Term.int_eval (1)) rfl), trivial⟩ ⟨hq.1, hq.2.1, (hq.2.2.sift fun y hy => Or.inr (N y hy)).mono (by decide) (by decide)⟩⟩
theorem main_1_1 : Claimed_1_1 := comes_1 fun _ _ _ _ _ _ h hF => ⟨h.1, hF⟩
theorem main_1_2 : Claimed_1_2 := comes_1 fun _ _ _ _ _ _ h hF => ⟨h.2.1, hF⟩
end Jvm.Pilot.@@N@@
namespace Jvm.Pilot.@@N@@
open Jvm Jvm.ClassFile Sem Op Lib Jvm.Free Jvm.Stand Jvm.Pilot.@@N@@.Jvm.D
/-! MADE BY PROGRAM (witnessworld.py) out of the Statement's table words and the real class files: 12 classes; the members and pool entries that the words name. The judged class is class 1, her method 1. -/
namespace start1
open Jvm.ClassFile
def u (s : String) : CpInfo := .utf8 (stringToUtf16 s)
/-- a pool by its gaps: so many unusable entries, then the entry; so many at the end -/
def gap : Nat → List CpInfo → List CpInfo
  | 0, r => r
  | n + 1, r => .unusable :: gap n r
def poolList (es : List (Nat × CpInfo)) (last : Nat) : List CpInfo := es.foldr (fun e r => gap e.1 (e.2 :: r)) (gap last [])
def pool (es : List (Nat × CpInfo)) (last : Nat) : Array CpInfo := ⟨poolList es last⟩
def fileOf (pool : Array CpInfo) (this : Nat) (attrs : Array Attribute := #[]) (ms : Array MethodInfo := #[]) (fl : Nat := 33) (sup : Nat := 0) (ifs : Array Nat := #[]) (fds : Array FieldInfo := #[]) : ClassFile where
  minorVersion := 0
  majorVersion := 65
  constantPool := pool
  accessFlags := fl
  thisClass := this
  superClass := sup
  interfaces := ifs
  fields := fds
  methods := ms
  attributes := attrs
def plain (name : String) (sup : Option ClassId) : Class where
  name := name
  kind := .ordinary
  loader := none
  accessFlags := 33
  super := sup
  interfaces := #[]
  cf := none
  fields := #[]
  methods := #[]
  instanceTypes := #[]
  staticTypes := #[]
  resolved := #[]
  callSites := []
  init := .initialized
  statics := none
  mirror := none

def pool0 : Array CpInfo := pool [(5, u "<init>"), (0, u "()V"), (1, .class_ 10), (1, u "java/lang/Object")] 113

def k0m0 : Method := { name := "<init>", desc := "()V", sig := { parameters := [], returnType := none }, accessFlags := 1, code := none }
/-- java/lang/Object -/
def k0 : Class := { plain "java/lang/Object" none with
  accessFlags := 33
  interfaces := #[]
  cf := some (fileOf pool0 8 #[] #[{ accessFlags := 1, nameIndex := 5, descriptorIndex := 6, attributes := #[] }] 33 0 #[] #[])
  fields := #[]
  methods := #[k0m0]
  instanceTypes := #[]
  staticTypes := #[]
  resolved := Array.replicate 124 none
  statics := none }

def pool1 : Array CpInfo := pool [(2, .class_ 4), (1, u "java/lang/Object"), (0, u "<init>"), (0, u "()V"), (0, .integer 2147483647), (0, .fieldref 9 10), (0, .class_ 11), (0, .nameAndType 12 13), (0, u "com/example/vacant_throne/vacantthrone/core/Verdict"), (0, u "ACCEPTED"), (0, u "Lcom/example/vacant_throne/vacantthrone/core/Verdict;"), (0, .fieldref 9 15), (0, .nameAndType 16 13), (0, u "SLOW_SENDER"), (0, .fieldref 9 18), (0, .nameAndType 19 13), (0, u "MALFORMED"), (0, .fieldref 9 21), (0, .nameAndType 22 13), (0, u "OTHER_SET"), (0, .fieldref 9 24), (0, .nameAndType 25 13), (0, u "OWN"), (0, .fieldref 9 27), (0, .nameAndType 28 13), (0, u "DUPLICATE_ID"), (0, .fieldref 9 30), (0, .nameAndType 31 13), (0, u "STALE"), (0, .methodref 9 33), (0, .nameAndType 34 35), (0, u "isDropped"), (0, u "()Z"), (0, .class_ 37), (0, u "com/example/vacant_throne/vacantthrone/core/VerdictIsDroppedPinLaw"), (2, u "law"), (0, u "(I)Z")] 3

def k1m0 : Method := { name := "<init>", desc := "()V", sig := { parameters := [], returnType := none }, accessFlags := 1, code := none }
def k1c1 : Code := { maxStack := 2, maxLocals := 4, code := code, exceptionTable := #[], attributes := #[] }
def k1m1 : Method := { name := "law", desc := "(I)Z", sig := { parameters := [.int], returnType := some .boolean }, accessFlags := 9, code := some k1c1 }
/-- com/example/vacant_throne/vacantthrone/core/VerdictIsDroppedPinLaw -/
def k1 : Class := { plain "com/example/vacant_throne/vacantthrone/core/VerdictIsDroppedPinLaw" (some 0) with
  accessFlags := 49
  interfaces := #[]
  cf := some (fileOf pool1 36 #[] #[{ accessFlags := 1, nameIndex := 5, descriptorIndex := 6, attributes := #[] }, { accessFlags := 9, nameIndex := 40, descriptorIndex := 41, attributes := #[] }] 49 2 #[] #[])
  fields := #[]
  methods := #[k1m0, k1m1]
  instanceTypes := #[]
  staticTypes := #[]
  resolved := Array.replicate 45 none
  statics := none }

def pool2 : Array CpInfo := pool [(1, .class_ 2), (0, u "java/lang/constant/Constable"), (0, .class_ 4), (0, u "java/lang/Object")] 6

/-- java/lang/constant/Constable -/
def k2 : Class := { plain "java/lang/constant/Constable" (some 0) with
  accessFlags := 1537
  interfaces := #[]
  cf := some (fileOf pool2 1 #[] #[] 1537 3 #[] #[])
  fields := #[]
  methods := #[]
  instanceTypes := #[]
  staticTypes := #[]
  resolved := Array.replicate 11 none
  statics := none }

def pool3 : Array CpInfo := pool [(1, .class_ 2), (0, u "java/lang/Comparable"), (0, .class_ 4), (0, u "java/lang/Object")] 7

/-- java/lang/Comparable -/
def k3 : Class := { plain "java/lang/Comparable" (some 0) with
  accessFlags := 1537
  interfaces := #[]
  cf := some (fileOf pool3 1 #[] #[] 1537 3 #[] #[])
  fields := #[]
  methods := #[]
  instanceTypes := #[]
  staticTypes := #[]
  resolved := Array.replicate 12 none
  statics := none }

def pool4 : Array CpInfo := pool [(1, .class_ 2), (0, u "java/io/Serializable"), (0, .class_ 4), (0, u "java/lang/Object")] 2

/-- java/io/Serializable -/
def k4 : Class := { plain "java/io/Serializable" (some 0) with
  accessFlags := 1537
  interfaces := #[]
  cf := some (fileOf pool4 1 #[] #[] 1537 3 #[] #[])
  fields := #[]
  methods := #[]
  instanceTypes := #[]
  staticTypes := #[]
  resolved := Array.replicate 7 none
  statics := none }

def pool5 : Array CpInfo := pool [(2, .class_ 4), (1, u "java/lang/Enum"), (0, u "name"), (0, u "Ljava/lang/String;"), (2, u "ordinal"), (0, u "I"), (1, .class_ 14), (1, u "java/lang/Object"), (4, u "hash"), (86, .class_ 108), (1, u "java/lang/Enum$EnumDesc"), (2, .class_ 112), (0, u "java/lang/constant/Constable"), (0, .class_ 114), (0, u "java/lang/Comparable"), (0, .class_ 116), (0, u "java/io/Serializable")] 87

/-- java/lang/Enum -/
def k5 : Class := { plain "java/lang/Enum" (some 0) with
  accessFlags := 1057
  interfaces := #[2, 3, 4]
  cf := some (fileOf pool5 2 #[.nestMembers #[106]] #[] 1057 12 #[111, 113, 115] #[{ accessFlags := 18, nameIndex := 5, descriptorIndex := 6, attributes := #[] }, { accessFlags := 18, nameIndex := 9, descriptorIndex := 10, attributes := #[] }, { accessFlags := 2, nameIndex := 19, descriptorIndex := 10, attributes := #[] }])
  fields := #[{ name := "name", type := (.object "java/lang/String"), accessFlags := 18, slot := 0, constantValue := 0 }, { name := "ordinal", type := .int, accessFlags := 18, slot := 1, constantValue := 0 }, { name := "hash", type := .int, accessFlags := 2, slot := 2, constantValue := 0 }]
  methods := #[]
  instanceTypes := #[(.object "java/lang/String"), .int, .int]
  staticTypes := #[]
  resolved := Array.replicate 204 none
  statics := none }

def pool6 : Array CpInfo := pool [(1, .class_ 2), (0, u "com/example/vacant_throne/vacantthrone/core/Verdict"), (0, .fieldref 1 4), (0, .nameAndType 5 6), (0, u "ACCEPTED"), (0, u "Lcom/example/vacant_throne/vacantthrone/core/Verdict;"), (0, .fieldref 1 8), (0, .nameAndType 9 6), (0, u "SLOW_SENDER"), (2, u "MALFORMED"), (2, u "OTHER_SET"), (2, u "OWN"), (2, u "DUPLICATE_ID"), (2, u "STALE"), (2, u "$VALUES"), (0, u "[Lcom/example/vacant_throne/vacantthrone/core/Verdict;"), (6, .class_ 37), (1, u "java/lang/Enum"), (25, u "isDropped"), (0, u "()Z")] 5

def k6c0 : Code := { maxStack := 2, maxLocals := 1, code := prog_18_method_4_code, exceptionTable := #[], attributes := #[] }
def k6m0 : Method := { name := "isDropped", desc := "()Z", sig := { parameters := [], returnType := some .boolean }, accessFlags := 1, code := some k6c0 }
/-- com/example/vacant_throne/vacantthrone/core/Verdict -/
def k6 : Class := { plain "com/example/vacant_throne/vacantthrone/core/Verdict" (some 5) with
  accessFlags := 16433
  interfaces := #[]
  cf := some (fileOf pool6 1 #[] #[{ accessFlags := 1, nameIndex := 63, descriptorIndex := 64, attributes := #[] }] 16433 35 #[] #[{ accessFlags := 16409, nameIndex := 5, descriptorIndex := 6, attributes := #[] }, { accessFlags := 16409, nameIndex := 9, descriptorIndex := 6, attributes := #[] }, { accessFlags := 16409, nameIndex := 12, descriptorIndex := 6, attributes := #[] }, { accessFlags := 16409, nameIndex := 15, descriptorIndex := 6, attributes := #[] }, { accessFlags := 16409, nameIndex := 18, descriptorIndex := 6, attributes := #[] }, { accessFlags := 16409, nameIndex := 21, descriptorIndex := 6, attributes := #[] }, { accessFlags := 16409, nameIndex := 24, descriptorIndex := 6, attributes := #[] }, { accessFlags := 4122, nameIndex := 27, descriptorIndex := 28, attributes := #[] }])
  fields := #[{ name := "ACCEPTED", type := (.object "com/example/vacant_throne/vacantthrone/core/Verdict"), accessFlags := 16409, slot := 0, constantValue := 0 }, { name := "SLOW_SENDER", type := (.object "com/example/vacant_throne/vacantthrone/core/Verdict"), accessFlags := 16409, slot := 1, constantValue := 0 }, { name := "MALFORMED", type := (.object "com/example/vacant_throne/vacantthrone/core/Verdict"), accessFlags := 16409, slot := 2, constantValue := 0 }, { name := "OTHER_SET", type := (.object "com/example/vacant_throne/vacantthrone/core/Verdict"), accessFlags := 16409, slot := 3, constantValue := 0 }, { name := "OWN", type := (.object "com/example/vacant_throne/vacantthrone/core/Verdict"), accessFlags := 16409, slot := 4, constantValue := 0 }, { name := "DUPLICATE_ID", type := (.object "com/example/vacant_throne/vacantthrone/core/Verdict"), accessFlags := 16409, slot := 5, constantValue := 0 }, { name := "STALE", type := (.object "com/example/vacant_throne/vacantthrone/core/Verdict"), accessFlags := 16409, slot := 6, constantValue := 0 }, { name := "$VALUES", type := (.array (.object "com/example/vacant_throne/vacantthrone/core/Verdict")), accessFlags := 4122, slot := 7, constantValue := 0 }]
  methods := #[k6m0]
  instanceTypes := #[(.object "java/lang/String"), .int, .int]
  staticTypes := #[(.object "com/example/vacant_throne/vacantthrone/core/Verdict"), (.object "com/example/vacant_throne/vacantthrone/core/Verdict"), (.object "com/example/vacant_throne/vacantthrone/core/Verdict"), (.object "com/example/vacant_throne/vacantthrone/core/Verdict"), (.object "com/example/vacant_throne/vacantthrone/core/Verdict"), (.object "com/example/vacant_throne/vacantthrone/core/Verdict"), (.object "com/example/vacant_throne/vacantthrone/core/Verdict"), (.array (.object "com/example/vacant_throne/vacantthrone/core/Verdict"))]
  resolved := Array.replicate 70 none
  statics := some 0 }

def pool7 : Array CpInfo := pool [(1, u "java/lang/Cloneable"), (0, .class_ 1), (0, u "java/lang/Object"), (0, .class_ 3)] 3

/-- java/lang/Cloneable -/
def k7 : Class := { plain "java/lang/Cloneable" (some 0) with
  accessFlags := 1537
  interfaces := #[]
  cf := some (fileOf pool7 2 #[] #[] 1537 4 #[] #[])
  fields := #[]
  methods := #[]
  instanceTypes := #[]
  staticTypes := #[]
  resolved := Array.replicate 8 none
  statics := none }

/-- the primitive byte -/
def k8 : Class := { plain "byte" none with kind := .primitive 'B', accessFlags := 0x411 }
/-- [B -/
def k9 : Class := { plain "[B" (some 0) with kind := .array 8 .byte, interfaces := #[7, 4], accessFlags := 1041 }

/-- the primitive int -/
def k10 : Class := { plain "int" none with kind := .primitive 'I', accessFlags := 0x411 }
/-- [I -/
def k11 : Class := { plain "[I" (some 0) with kind := .array 10 .int, interfaces := #[7, 4], accessFlags := 1041 }

def heap : Heap := #[{ cls := 6, slots := #[.ref 1, .ref 3, .ref 7, .ref 2, .ref 6, .ref 4, .ref 5, .null], vm := .statics 6 },
  { cls := 6, slots := #[.null, .int 0, .int 0], vm := .none },
  { cls := 6, slots := #[.null, .int 3, .int 0], vm := .none },
  { cls := 6, slots := #[.null, .int 1, .int 0], vm := .none },
  { cls := 6, slots := #[.null, .int 5, .int 0], vm := .none },
  { cls := 6, slots := #[.null, .int 6, .int 0], vm := .none },
  { cls := 6, slots := #[.null, .int 4, .int 0], vm := .none },
  { cls := 6, slots := #[.null, .int 2, .int 0], vm := .none }]
def classes : Array Class := #[k0, k1, k2, k3, k4, k5, k6, k7, k8, k9, k10, k11]
def interned : List (Array UInt16 × Addr) := []
def slotsUsed : Nat := 29
def theMethod : MethodId := ⟨1, 1⟩
def args0 : Array Value := #[.int 5]
def aboutOver (below : List Frame) : State where
  vm := { classes := classes, interned := interned.toArray }
  heap := heap
  slotsUsed := slotsUsed
  threads := #[{ frames := .invoking theMethod args0 :: below }]
def below0 : List Frame := [.native { method := ⟨0, 0⟩, args := #[] }]
def about1 : State := aboutOver below0
def p0 : Program := .bare "" "" ""
def e0 : Env := launch0.env 0 0 0
theorem w_frames : about1.frames = Frame.invoking theMethod args0 :: below0 := rfl
set_option maxRecDepth 65536 in
theorem w_args : argsFit about1.vm theMethod args0 = true := by decide +kernel
set_option maxRecDepth 65536 in
theorem w_heap : heapFits about1 = true := by decide +kernel
set_option maxRecDepth 65536 in
theorem w_runnable : about1.curStatus? = some .runnable := by decide +kernel
set_option maxRecDepth 65536 in
theorem w_alone : about1.alone = true := by decide +kernel
set_option maxRecDepth 65536 in
theorem w_named : about1.methodNamed? x = some theMethod := by decide +kernel
set_option maxRecDepth 65536 in
theorem w_hears : about1.hears theMethod below0 = true := by decide +kernel
set_option maxRecDepth 65536 in
theorem w_ripe : about1.ripe theMethod args0 below0 = true := by decide +kernel
theorem w_running : about1.status = .running := rfl
set_option maxRecDepth 65536 in
theorem w_room : about1.hasRoom e0.platform room_1 = true :=
  launch0.hasRoom_least _ room_1 (by decide +kernel) (by decide +kernel) (by decide +kernel) (by decide +kernel) (by decide +kernel) (by decide +kernel)
theorem allAtoms_all (ts : List Jvm.Cond) (a : Array Jvm.Value) (st : Jvm.State) : (allAtoms ts).before a st = ts.all (fun c => c.before a st) := by
  induction ts with
  | nil => rfl
  | cons c t ih =>
    show (Jvm.Cond.and c (allAtoms t)).before a st = _
    rw [Jvm.Cond.before_and, ih, List.all_cons]
def words1 : List Jvm.Cond := Jvm.Cond.code x code maxLocals ret :: tables_1
/-- a 'code' word, met by the world's own term for the bytes: nothing is compared byte by byte -/
theorem code_word {y : MethodName} {bytes : ByteArray} {mx : Nat} {rt : Option FieldType} {a : Array Value} {s : State} {m : MethodId} {meth : Method} {c : Code} (h1 : s.methodNamed? y = some m) (h2 : s.vm.method? m = some meth) (h3 : meth.code = some c) (h4 : c.code = bytes)
    (h5 : (c.maxLocals == mx && c.exceptionTable.isEmpty && decide (c.maxStack ≤ mostOperands) && decide (meth.sig.returnType = rt) && !meth.locks && decide (parseMethodDescriptor y.desc = some meth.sig)) = true) : (Jvm.Cond.code y bytes mx rt).before a s = true := by
  simp only [Bool.and_eq_true, beq_iff_eq, Bool.not_eq_true', decide_eq_true_eq] at h5
  obtain ⟨⟨⟨⟨⟨g1, g2⟩, g3⟩, g4⟩, g5⟩, g6⟩ := h5
  simp [Cond.before, Cond.holds, Cond.value, h1, h2, h3, h4, g1, g2, g3, g4, g5, g6]
def isCode : Jvm.Cond → Bool
  | .code _ _ _ _ => true
  | _ => false
theorem all_split {L : List Jvm.Cond} {P : Jvm.Cond → Bool} (h1 : L.all (fun c => isCode c || P c) = true) (h2 : ∀ c ∈ L.filter isCode, P c = true) : L.all P = true := by
  refine List.all_eq_true.mpr fun c hc => ?_
  have h := List.all_eq_true.mp h1 c hc
  rcases Bool.eq_false_or_eq_true (isCode c) with hi | hi
  · exact h2 c (List.mem_filter.mpr ⟨hc, hi⟩)
  · simpa [hi] using h
set_option maxRecDepth 65536 in
theorem w_c0 : (Jvm.Cond.code x code maxLocals ret).before args0 about1 = true := code_word (m := ⟨1, 1⟩) (meth := k1m1) (c := k1c1) (by decide +kernel) rfl rfl rfl (by decide +kernel)
set_option maxRecDepth 65536 in
theorem w_c1 : (Jvm.Cond.code ({ cls := "com/example/vacant_throne/vacantthrone/core/Verdict", name := "isDropped", desc := "()Z" } : Jvm.MethodName) prog_18_method_4_code (1 : Nat) (Option.some Jvm.ClassFile.FieldType.boolean)).before args0 about1 = true := code_word (m := ⟨6, 0⟩) (meth := k6m0) (c := k6c0) (by decide +kernel) rfl rfl rfl (by decide +kernel)
def codes1 : List Jvm.Cond := [Jvm.Cond.code x code maxLocals ret, Jvm.Cond.code ({ cls := "com/example/vacant_throne/vacantthrone/core/Verdict", name := "isDropped", desc := "()Z" } : Jvm.MethodName) prog_18_method_4_code (1 : Nat) (Option.some Jvm.ClassFile.FieldType.boolean)]
set_option maxRecDepth 65536 in
theorem codes_eq : words1.filter isCode = codes1 := rfl
theorem w_codes : ∀ c ∈ words1.filter isCode, c.before args0 about1 = true := by
  rw [codes_eq]
  intro c hc
  simp only [codes1, List.mem_cons, List.not_mem_nil, or_false] at hc
  rcases hc with rfl | rfl
  · exact w_c0
  · exact w_c1
set_option maxRecDepth 65536 in
theorem w_t1 : words1.all (fun c => isCode c || c.before args0 about1) = true := by decide +kernel
theorem w_tables : (allAtoms (Jvm.Cond.code x code maxLocals ret :: tables_1)).before args0 about1 = true := by
  rw [allAtoms_all]
  show words1.all (fun c => c.before args0 about1) = true
  refine all_split ?_ w_codes
  rw [w_t1]
set_option maxRecDepth 65536 in
theorem w_case : (Jvm.Cond.and given_1 narrow_1).before args0 about1 = true := by decide +kernel
theorem w_applies : (headSpec (Jvm.Cond.code x code maxLocals ret :: tables_1) room_1).applies x e0.platform about1 = true :=
  (Spec.applies_iff w_frames).mpr ⟨w_running, w_runnable, w_alone, w_named, w_hears, w_ripe, w_room, w_tables⟩
theorem atStart : AtStart classFile x code maxLocals ret World_1 tables_1 room_1 Calls_1 rest_1 Pre_1 launch0 p0 e0 about1 theMethod args0 below0 :=
  ⟨lists_1, trivial, launch0.admits_env _ _ _, launch0.least_env, fairChoices_fair.cas, fairChoices_fair.clock, w_frames, w_args, w_heap, w_applies, trivial, trivial, w_case⟩
end start1
theorem witness_1 : WitnessClaimed_1 := ⟨start1.p0, start1.e0, start1.about1, start1.theMethod, start1.args0, start1.below0, start1.atStart⟩
end Jvm.Pilot.@@N@@
