import JvmDerived
import JvmDerived.Pilot.@@N@@Statement
import JvmDerived.Pilot.@@N@@Code
set_option linter.unusedVariables false
set_option linter.unusedSimpArgs false
namespace Jvm.Pilot.@@N@@
open Jvm Jvm.ClassFile Sem Op Lib Jvm.Free Jvm.Stand Jvm.LawKit Jvm.RoadKit Bundle Jvm.Pilot.@@N@@.Jvm.D
abbrev St (p : Program) (e : Env) (below : List Frame) (T : State) (g : JFrame) (t : State) : Prop := Steps p.tables e below (T.setTop g) t
theorem ww {Z : State} {a0 : Array Value} (hw : ∀ d ∈ tables_1, d.before a0 Z = true) {d : Jvm.Cond} (i : Nat) (h : tables_1[i]? = some d) : d.before a0 Z = true := hw _ (List.mem_of_getElem? h)
theorem ltI {a b : Int32} (h : a < b) : a.toInt < b.toInt := Int32.lt_iff_toInt_lt.mp h
theorem nltI {a b : Int32} (h : ¬ a < b) : ¬ a.toInt < b.toInt := mt Int32.lt_iff_toInt_lt.mpr h
theorem eqI {a b : Int32} (h : a = b) : a.toInt = b.toInt := congrArg Int32.toInt h
theorem neI {a b : Int32} (h : ¬ a = b) : ¬ a.toInt = b.toInt := mt Int32.toInt_inj.mp h
theorem ltJ {a b : Int64} (h : a < b) : a.toInt < b.toInt := Int64.lt_iff_toInt_lt.mp h
theorem nltJ {a b : Int64} (h : ¬ a < b) : ¬ a.toInt < b.toInt := mt Int64.lt_iff_toInt_lt.mpr h
theorem eqJ {a b : Int64} (h : a = b) : a.toInt = b.toInt := congrArg Int64.toInt h
theorem neJ {a b : Int64} (h : ¬ a = b) : ¬ a.toInt = b.toInt := mt Int64.toInt_inj.mp h
theorem own_eqI {args : Array Value} {s : State} {t : Term} {k : Int32} (h : (Jvm.Cond.eq t (.int k)).value args s none s [] = some true) : t.eval args s none [] s = some (.int k) := by
  obtain ⟨x, y, ex, ey, k1, k2⟩ := cmp_v (Or.inl h)
  obtain rfl : y = .int k := Option.some.inj (ey.symm.trans (Term.int_eval k))
  obtain ⟨z, rfl⟩ := k2
  rw [ex, gotT (Cond.eq_ints ex ey) h]
theorem own_eqJ {args : Array Value} {s : State} {t : Term} {k : Int64} (h : (Jvm.Cond.eq t (.long k)).value args s none s [] = some true) : t.eval args s none [] s = some (.long k) := by
  obtain ⟨x, y, ex, ey, k1, k2⟩ := cmp_v (Or.inl h)
  obtain rfl : y = .long k := Option.some.inj (ey.symm.trans (long_at k))
  obtain ⟨z, rfl⟩ := k2
  rw [ex, gotT (eq_L ex ey) h]
theorem own_eqR {args : Array Value} {s : State} {t u : Term} {b : Addr} (h : (Jvm.Cond.eq t u).value args s none s [] = some true) (hu : u.eval args s none [] s = some (.ref b)) : t.eval args s none [] s = some (.ref b) := by
  obtain ⟨x, y, ex, ey, k1, k2⟩ := cmp_v (Or.inl h)
  obtain rfl : y = .ref b := Option.some.inj (ey.symm.trans hu)
  have hx : x.isRef = true := k2.2
  rw [ex, gotT (eq_R ex ey hx rfl) h]
theorem own_len {args : Array Value} {s : State} {t : Term} {a : Addr} {cl : Cell} {ty : FieldType} {k : Int32} (ev : t.eval args s none [] s = some (.ref a)) (A : Arr s s.heap a cl ty) (h : (Term.length t).eval args s none [] s = some (.int k)) : cl.slots.size < 2 ^ 31 ∧ cl.slots.size.toInt32 = k := by
  have ha := A.fin (Vm.Alike.refl _)
  by_cases hl : cl.slots.size < 2 ^ 31
  · exact ⟨hl, Value.int.inj (Option.some.inj ((len_f ev ha hl).symm.trans h))⟩
  · exfalso; simp [Term.eval, ev, ha, hl] at h
theorem own_sel {Z : State} {a0 : Array Value} {y : MethodName} {n : Nat} (wi : (Jvm.Cond.instantiable y.cls n).before a0 Z = true) (wp : (Jvm.Cond.privateMethod y).before a0 Z = true) (wm : (Jvm.Cond.instanceMethod y).before a0 Z = true) (hy : y.cls ≠ "java/lang/invoke/MethodHandle" ∧ y.cls ≠ "java/lang/invoke/VarHandle") : (Jvm.Cond.selects y.cls y y).before a0 Z = true := by
  obtain ⟨c, k, h1, h2, h3, h4, -⟩ := Cond.instantiable_spec wi
  exact selects_self_of_private h1 h2 (by simp only [Bool.or_eq_false_iff] at h4; exact h4.1) (Cond.privateMethod_at wp) wm hy
def own_nz (x : Int64) : Int32 := if x = 0 then 0 else 1
theorem own_c_nz (x : Int64) : (x.toInt = 0 → (own_nz x).toInt = 0) ∧ (x.toInt ≠ 0 → (own_nz x).toInt = 1) := by
  unfold own_nz
  by_cases h : x = 0
  · subst h; exact ⟨fun _ => by decide, fun q => absurd (by decide) q⟩
  · rw [if_neg h]; exact ⟨fun q => absurd (Int64.toInt_inj.mp (q.trans (by decide : (0 : Int) = (0 : Int64).toInt))) h, fun _ => by decide⟩
theorem own_lrem {p : Program} {l : Launch} {e : Env} {R : Room} {s : State} {m : MethodId} {args : Array Value} {below : List Frame} {meth : Method} {c : Code} {T target : State} {locs : List Loc} {cells slots : Nat} {g : JFrame} (X : Stand p l e R s m args below meth c T locs cells slots) (hx : p.tables.exec = Jvm.exec) (hg : g.method = m) {x y : Int64} {rest : List Value} (hd : decode c.code g.pc = .ok (.lrem, 1)) (hs : g.stack = .long y :: .long x :: rest) (hy : y ≠ 0) (hr : Steps p.tables e below (T.setTop { g with pc := g.pc + 1, stack := .long (x % y) :: rest }) target) : Steps p.tables e below (T.setTop g) target :=
  XS.lrem X.here hx hg hd hs hy (by rw [lrem_mod]; exact hr)
theorem own_c_lrem (x y : Int64) (d : Int) (hy : y.toInt = d) : (0 ≤ x.toInt → (x % y).toInt = x.toInt % d) ∧ (x.toInt < 0 → (x % y).toInt = -((-x.toInt) % d)) := by
  rw [← lrem_mod]; exact c_lrem x y d hy
theorem own_old_le {Z : State} {n0 : Nat} {h : Heap} (O : Old Z n0 h) : n0 ≤ h.size := O.1 ▸ O.2.1
abbrev M0 : MethodName := ⟨"com/example/vacant_throne/vacantthrone/core/Ranges", "require", "(Ljava/lang/String;JJJ)J"⟩
abbrev M1 : MethodName := ⟨"com/example/vacant_throne/vacantthrone/core/Setting", "require", "(Ljava/lang/String;J)J"⟩
abbrev M2 : MethodName := ⟨"com/example/vacant_throne/vacantthrone/core/Setting", "require", "(J)J"⟩
abbrev M3 : MethodName := ⟨"com/example/vacant_throne/vacantthrone/core/NodeSettings", "<init>", "(JIIIII)V"⟩
abbrev M4 : MethodName := ⟨"com/example/vacant_throne/vacantthrone/core/NodeSettings", "outranks", "(IJ)Z"⟩
theorem lJ9223372036854775807 : (9223372036854775807 : Int64).toInt = 9223372036854775807 := by decide
theorem lJ0 : (0 : Int64).toInt = 0 := by decide
theorem lJ4294967295 : (4294967295 : Int64).toInt = 4294967295 := by decide
theorem lJ1 : (1 : Int64).toInt = 1 := by decide
theorem lI2147483647 : (2147483647 : Int32).toInt = 2147483647 := by decide
theorem lI65536 : (65536 : Int32).toInt = 65536 := by decide
theorem lI0 : (0 : Int32).toInt = 0 := by decide
theorem lI65535 : (65535 : Int32).toInt = 65535 := by decide
theorem lJ65535 : (65535 : Int64).toInt = 65535 := by decide
def Env1 (Z : State) (a_ID : Addr) (a_ID_key : Addr) (a_PRIORITY : Addr) (a_PRIORITY_key : Addr) (a_SET : Addr) (a_SET_key : Addr) (a_PERIOD_MS : Addr) (a_PERIOD_MS_key : Addr) (a_MISSING_MAX : Addr) (a_MISSING_MAX_key : Addr) (a_PROSPECT_PERIODS : Addr) (a_PROSPECT_PERIODS_key : Addr) : Prop := Sta Z Z.heap "com/example/vacant_throne/vacantthrone/core/Setting" "ID" "Lcom/example/vacant_throne/vacantthrone/core/Setting;" (.ref a_ID) ∧
  Exa Z Z.heap a_ID "com/example/vacant_throne/vacantthrone/core/Setting" ∧
  Fld Z Z.heap a_ID "com/example/vacant_throne/vacantthrone/core/Setting" "key" "Ljava/lang/String;" (.ref a_ID_key) ∧
  Exa Z Z.heap a_ID_key "java/lang/String" ∧
  Fld Z Z.heap a_ID "com/example/vacant_throne/vacantthrone/core/Setting" "min" "J" (.long (1 : Int64)) ∧
  Fld Z Z.heap a_ID "com/example/vacant_throne/vacantthrone/core/Setting" "max" "J" (.long (4294967295 : Int64)) ∧
  Sta Z Z.heap "com/example/vacant_throne/vacantthrone/core/Setting" "PRIORITY" "Lcom/example/vacant_throne/vacantthrone/core/Setting;" (.ref a_PRIORITY) ∧
  Exa Z Z.heap a_PRIORITY "com/example/vacant_throne/vacantthrone/core/Setting" ∧
  Fld Z Z.heap a_PRIORITY "com/example/vacant_throne/vacantthrone/core/Setting" "key" "Ljava/lang/String;" (.ref a_PRIORITY_key) ∧
  Exa Z Z.heap a_PRIORITY_key "java/lang/String" ∧
  Fld Z Z.heap a_PRIORITY "com/example/vacant_throne/vacantthrone/core/Setting" "min" "J" (.long (0 : Int64)) ∧
  Fld Z Z.heap a_PRIORITY "com/example/vacant_throne/vacantthrone/core/Setting" "max" "J" (.long (65535 : Int64)) ∧
  Sta Z Z.heap "com/example/vacant_throne/vacantthrone/core/Setting" "SET" "Lcom/example/vacant_throne/vacantthrone/core/Setting;" (.ref a_SET) ∧
  Exa Z Z.heap a_SET "com/example/vacant_throne/vacantthrone/core/Setting" ∧
  Fld Z Z.heap a_SET "com/example/vacant_throne/vacantthrone/core/Setting" "key" "Ljava/lang/String;" (.ref a_SET_key) ∧
  Exa Z Z.heap a_SET_key "java/lang/String" ∧
  Fld Z Z.heap a_SET "com/example/vacant_throne/vacantthrone/core/Setting" "min" "J" (.long (0 : Int64)) ∧
  Fld Z Z.heap a_SET "com/example/vacant_throne/vacantthrone/core/Setting" "max" "J" (.long (65535 : Int64)) ∧
  Sta Z Z.heap "com/example/vacant_throne/vacantthrone/core/Setting" "PERIOD_MS" "Lcom/example/vacant_throne/vacantthrone/core/Setting;" (.ref a_PERIOD_MS) ∧
  Exa Z Z.heap a_PERIOD_MS "com/example/vacant_throne/vacantthrone/core/Setting" ∧
  Fld Z Z.heap a_PERIOD_MS "com/example/vacant_throne/vacantthrone/core/Setting" "key" "Ljava/lang/String;" (.ref a_PERIOD_MS_key) ∧
  Exa Z Z.heap a_PERIOD_MS_key "java/lang/String" ∧
  Fld Z Z.heap a_PERIOD_MS "com/example/vacant_throne/vacantthrone/core/Setting" "min" "J" (.long (10 : Int64)) ∧
  Fld Z Z.heap a_PERIOD_MS "com/example/vacant_throne/vacantthrone/core/Setting" "max" "J" (.long (60000 : Int64)) ∧
  Sta Z Z.heap "com/example/vacant_throne/vacantthrone/core/Setting" "MISSING_MAX" "Lcom/example/vacant_throne/vacantthrone/core/Setting;" (.ref a_MISSING_MAX) ∧
  Exa Z Z.heap a_MISSING_MAX "com/example/vacant_throne/vacantthrone/core/Setting" ∧
  Fld Z Z.heap a_MISSING_MAX "com/example/vacant_throne/vacantthrone/core/Setting" "key" "Ljava/lang/String;" (.ref a_MISSING_MAX_key) ∧
  Exa Z Z.heap a_MISSING_MAX_key "java/lang/String" ∧
  Fld Z Z.heap a_MISSING_MAX "com/example/vacant_throne/vacantthrone/core/Setting" "min" "J" (.long (2 : Int64)) ∧
  Fld Z Z.heap a_MISSING_MAX "com/example/vacant_throne/vacantthrone/core/Setting" "max" "J" (.long (100 : Int64)) ∧
  Sta Z Z.heap "com/example/vacant_throne/vacantthrone/core/Setting" "PROSPECT_PERIODS" "Lcom/example/vacant_throne/vacantthrone/core/Setting;" (.ref a_PROSPECT_PERIODS) ∧
  Exa Z Z.heap a_PROSPECT_PERIODS "com/example/vacant_throne/vacantthrone/core/Setting" ∧
  Fld Z Z.heap a_PROSPECT_PERIODS "com/example/vacant_throne/vacantthrone/core/Setting" "key" "Ljava/lang/String;" (.ref a_PROSPECT_PERIODS_key) ∧
  Exa Z Z.heap a_PROSPECT_PERIODS_key "java/lang/String" ∧
  Fld Z Z.heap a_PROSPECT_PERIODS "com/example/vacant_throne/vacantthrone/core/Setting" "min" "J" (.long (2 : Int64)) ∧
  Fld Z Z.heap a_PROSPECT_PERIODS "com/example/vacant_throne/vacantthrone/core/Setting" "max" "J" (.long (100 : Int64))
theorem ef0 (m : MethodId) (x0 : Int64) (x1 : Int32) (x2 : Int32) (x3 : Int64) (x4 : Int32) : entryFrame m #[(.long x0), (.int x1), (.int x2), (.long x3), (.int x4)] maxLocals = mkF m 0 #[.val (.long x0), .second, .val (.int x1), .val (.int x2), .val (.long x3), .second, .val (.int x4), .unset, .unset, .unset, .unset, .unset, .unset, .unset, .unset, .unset, .unset] [] := by first | (simp [entryFrame, mkF, argsToLocals, Value.category, maxLocals]; done) | rfl
theorem pn0 : plainName "com/example/vacant_throne/vacantthrone/core/NodeSettingsOutranksPinLaw" = true := by first | (simp [plainName, overriddenIn]; done) | decide +kernel
theorem ef1 (m : MethodId) (x0 : Addr) (x1 : Int64) (x2 : Int32) (x3 : Int32) (x4 : Int32) (x5 : Int32) (x6 : Int32) : entryFrame m #[(.ref x0), (.long x1), (.int x2), (.int x3), (.int x4), (.int x5), (.int x6)] 8 = mkF m 0 #[.val (.ref x0), .val (.long x1), .second, .val (.int x2), .val (.int x3), .val (.int x4), .val (.int x5), .val (.int x6)] [] := by first | (simp [entryFrame, mkF, argsToLocals, Value.category]; done) | rfl
theorem pn1 : plainName "com/example/vacant_throne/vacantthrone/core/NodeSettings" = true := by first | (simp [plainName, overriddenIn]; done) | decide +kernel
theorem d1_0 : decode prog_10_method_2_code 0 = .ok (.aload_n 0, 1) := by decide +kernel
theorem d1_1 : decode prog_10_method_2_code 1 = .ok (.invokespecial 26, 3) := by decide +kernel
theorem d1_4 : decode prog_10_method_2_code 4 = .ok (.aload_n 0, 1) := by decide +kernel
theorem d1_5 : decode prog_10_method_2_code 5 = .ok (.getstatic 31, 3) := by decide +kernel
theorem d1_8 : decode prog_10_method_2_code 8 = .ok (.lload_n 1, 1) := by decide +kernel
theorem ef2 (m : MethodId) (x0 : Addr) (x1 : Int64) : entryFrame m #[(.ref x0), (.long x1)] 3 = mkF m 0 #[.val (.ref x0), .val (.long x1), .second] [] := by first | (simp [entryFrame, mkF, argsToLocals, Value.category]; done) | rfl
theorem pn2 : plainName "com/example/vacant_throne/vacantthrone/core/Setting" = true := by first | (simp [plainName, overriddenIn]; done) | decide +kernel
theorem d3_0 : decode prog_18_method_4_code 0 = .ok (.aload_n 0, 1) := by decide +kernel
theorem d3_1 : decode prog_18_method_4_code 1 = .ok (.aload_n 0, 1) := by decide +kernel
theorem d3_2 : decode prog_18_method_4_code 2 = .ok (.getfield 41, 3) := by decide +kernel
theorem d3_5 : decode prog_18_method_4_code 5 = .ok (.lload_n 1, 1) := by decide +kernel
theorem ef3 (m : MethodId) (x0 : Addr) (x1 : Addr) (x2 : Int64) : entryFrame m #[(.ref x0), (.ref x1), (.long x2)] 4 = mkF m 0 #[.val (.ref x0), .val (.ref x1), .val (.long x2), .second] [] := by first | (simp [entryFrame, mkF, argsToLocals, Value.category]; done) | rfl
theorem d4_0 : decode prog_18_method_5_code 0 = .ok (.aload_n 1, 1) := by decide +kernel
theorem d4_1 : decode prog_18_method_5_code 1 = .ok (.lload_n 2, 1) := by decide +kernel
theorem d4_2 : decode prog_18_method_5_code 2 = .ok (.aload_n 0, 1) := by decide +kernel
theorem d4_3 : decode prog_18_method_5_code 3 = .ok (.getfield 45, 3) := by decide +kernel
theorem d4_6 : decode prog_18_method_5_code 6 = .ok (.aload_n 0, 1) := by decide +kernel
theorem d4_7 : decode prog_18_method_5_code 7 = .ok (.getfield 49, 3) := by decide +kernel
theorem ef4 (m : MethodId) (x0 : Addr) (x1 : Int64) (x2 : Int64) (x3 : Int64) : entryFrame m #[(.ref x0), (.long x1), (.long x2), (.long x3)] 7 = mkF m 0 #[.val (.ref x0), .val (.long x1), .second, .val (.long x2), .second, .val (.long x3), .second] [] := by first | (simp [entryFrame, mkF, argsToLocals, Value.category]; done) | rfl
theorem pn3 : plainName "com/example/vacant_throne/vacantthrone/core/Ranges" = true := by first | (simp [plainName, overriddenIn]; done) | decide +kernel
theorem d5_0 : decode prog_14_method_2_code 0 = .ok (.lload_n 1, 1) := by decide +kernel
theorem d5_1 : decode prog_14_method_2_code 1 = .ok (.lload_n 3, 1) := by decide +kernel
theorem d5_2 : decode prog_14_method_2_code 2 = .ok (.lcmp, 1) := by decide +kernel
theorem d5_3 : decode prog_14_method_2_code 3 = .ok (.ifCond .lt 10, 3) := by decide +kernel
theorem d5_6 : decode prog_14_method_2_code 6 = .ok (.lload_n 1, 1) := by decide +kernel
theorem d5_7 : decode prog_14_method_2_code 7 = .ok (.lload 5, 2) := by decide +kernel
theorem d5_9 : decode prog_14_method_2_code 9 = .ok (.lcmp, 1) := by decide +kernel
theorem d5_10 : decode prog_14_method_2_code 10 = .ok (.ifCond .le 21, 3) := by decide +kernel
theorem d5_31 : decode prog_14_method_2_code 31 = .ok (.lload_n 1, 1) := by decide +kernel
theorem d5_32 : decode prog_14_method_2_code 32 = .ok (.lreturn, 1) := by decide +kernel
def Q5_3 (Z : State) (a_ID : Addr) (a_ID_key : Addr) (a_PRIORITY : Addr) (a_PRIORITY_key : Addr) (a_SET : Addr) (a_SET_key : Addr) (a_PERIOD_MS : Addr) (a_PERIOD_MS_key : Addr) (a_MISSING_MAX : Addr) (a_MISSING_MAX_key : Addr) (a_PROSPECT_PERIODS : Addr) (a_PROSPECT_PERIODS_key : Addr) (j0 : Int64) (h0 : Heap) (n0 : Nat) (v : Option Value) (h : Heap) (L : List Loc) : Prop := Fr n0 L ∧ h = h0 ∧ ((v = some (.long j0)))
set_option maxRecDepth 65536 in
set_option maxHeartbeats 40000000 in
theorem rm5_3 (l : Launch) (Z : State) (a0 : Array Value) (hw : ∀ d ∈ tables_1, d.before a0 Z = true) (ws : List Jvm.Cond) (a_ID : Addr) (a_ID_key : Addr) (a_PRIORITY : Addr) (a_PRIORITY_key : Addr) (a_SET : Addr) (a_SET_key : Addr) (a_PERIOD_MS : Addr) (a_PERIOD_MS_key : Addr) (a_MISSING_MAX : Addr) (a_MISSING_MAX_key : Addr) (a_PROSPECT_PERIODS : Addr) (a_PROSPECT_PERIODS_key : Addr) (j0 : Int64) (h0 : Heap) (n0 : Nat) (O0 : Old Z n0 h0) (HE : Env1 Z a_ID a_ID_key a_PRIORITY a_PRIORITY_key a_SET a_SET_key a_PERIOD_MS a_PERIOD_MS_key a_MISSING_MAX a_MISSING_MAX_key a_PROSPECT_PERIODS a_PROSPECT_PERIODS_key) (hp1 : ¬ (j0 < (1 : Int64))) (hp2 : ¬ ((4294967295 : Int64) < j0)) :
    MetFree l M0 (head1 (Jvm.Cond.code M0 prog_14_method_2_code 7 (some .long) :: ws) ({ frames := 0, cells := 0, slots := 0, locals := 0 } : Room)) (fun a U => a = #[(.ref a_ID_key), (.long j0), (.long (1 : Int64)), (.long (4294967295 : Int64))] ∧ Z.Warmed39 U.vm ∧ U.heap = h0) (fun _ _ _ _ _ => True) (fun _ U o U' => ∃ v L, o = .returned v ∧ Q5_3 Z a_ID a_ID_key a_PRIORITY a_PRIORITY_key a_SET a_SET_key a_PERIOD_MS a_PERIOD_MS_key a_MISSING_MAX a_MISSING_MAX_key a_PROSPECT_PERIODS a_PROSPECT_PERIODS_key j0 h0 n0 v U'.heap L ∧ FrameEnd U o U' L ({ frames := 0, cells := 0, slots := 0, locals := 0 } : Room).cells ({ frames := 0, cells := 0, slots := 0, locals := 0 } : Room).slots) := by
 refine MetFree.of_bodySF (plainFor_of_name pn3) hisR ?_
 intro p e s m args below meth c s₁ Bd hml0 hP hK
 obtain ⟨rfl, hZ, hh⟩ := hP
 have hx := Bd.exec
 have hby := Bd.bytes
 have hml : c.maxLocals = 7 := hml0
 have hown : s.vm.findClass "com/example/vacant_throne/vacantthrone/core/Ranges" = some m.cls := findClass_of_methodNamed Bd.named
 have hnm := (name_of_methodNamed Bd.named Bd.method).1
 have X0 : Stand p l e ({ frames := 0, cells := 0, slots := 0, locals := 0 } : Room) s m #[(.ref a_ID_key), (.long j0), (.long (1 : Int64)), (.long (4294967295 : Int64))] below meth c s₁ [] 0 0 := Stand.of_body Bd
 have e0 : s₁.heap = h0 := by rw [← hh, Bd.state]; rfl
 have N0 := Fr.nil n0
 let S0 : State → Prop := fun t => Steps p.tables e below (s₁.setTop (entryFrame m #[(.ref a_ID_key), (.long j0), (.long (1 : Int64)), (.long (4294967295 : Int64))] 7)) t
 let Ls1 : Array Slot := #[.val (.ref a_ID_key), .val (.long j0), .second, .val (.long (1 : Int64)), .second, .val (.long (4294967295 : Int64)), .second]
 have p0 : ∀ t, St p e below s₁ (mkF m 0 Ls1 []) t → S0 t := fun t k => castTop (ef4 m a_ID_key j0 (1 : Int64) (4294967295 : Int64)) k
 have HE' := HE
 obtain ⟨Sa_ID, Ea_ID, Fa_ID_key, Ea_ID_key, Fa_ID_min, Fa_ID_max, Sa_PRIORITY, Ea_PRIORITY, Fa_PRIORITY_key, Ea_PRIORITY_key, Fa_PRIORITY_min, Fa_PRIORITY_max, Sa_SET, Ea_SET, Fa_SET_key, Ea_SET_key, Fa_SET_min, Fa_SET_max, Sa_PERIOD_MS, Ea_PERIOD_MS, Fa_PERIOD_MS_key, Ea_PERIOD_MS_key, Fa_PERIOD_MS_min, Fa_PERIOD_MS_max, Sa_MISSING_MAX, Ea_MISSING_MAX, Fa_MISSING_MAX_key, Ea_MISSING_MAX_key, Fa_MISSING_MAX_min, Fa_MISSING_MAX_max, Sa_PROSPECT_PERIODS, Ea_PROSPECT_PERIODS, Fa_PROSPECT_PERIODS_key, Ea_PROSPECT_PERIODS_key, Fa_PROSPECT_PERIODS_min, Fa_PROSPECT_PERIODS_max⟩ := HE
 have p2 : ∀ t, St p e below s₁ (mkF m 3 Ls1 [(.int (lcmpW j0 (1 : Int64)))]) t → S0 t := fun t k => p0 t (by
   refine XS.lloadN X0.here hx rfl (hb hby d5_0) rfl ?_
   refine XS.lloadN X0.here hx rfl (hb hby d5_1) rfl ?_
   refine XS.lcmp X0.here hx rfl (hb hby d5_2) rfl ?_
   exact k)
 have p3 : ∀ t, St p e below s₁ (mkF m 10 Ls1 [(.int (lcmpW j0 (4294967295 : Int64)))]) t → S0 t := fun t k => p2 t (by
   refine XS.ifNo X0.here hx rfl (hb hby d5_3) rfl ((if0 _ _).trans (flt (mt (lw_lt _ _).mp hp1)).1) ?_
   refine XS.lloadN X0.here hx rfl (hb hby d5_6) rfl ?_
   refine XS.lload X0.here hx rfl (hb hby d5_7) rfl ?_
   refine XS.lcmp X0.here hx rfl (hb hby d5_9) rfl ?_
   exact k)
 have p4 : ∀ t, St p e below s₁ (mkF m 32 Ls1 [(.long j0)]) t → S0 t := fun t k => p3 t (by
   refine XS.ifYes X0.here hx rfl (pc0 := 10) (pc' := 31) rfl (hb hby d5_10) rfl ((if0 _ _).trans (flt (mt (lw_gt _ _).mp hp2)).2.2.2) (by decide) (by decide) ?_
   refine XS.lloadN X0.here hx rfl (hb hby d5_31) rfl ?_
   exact k)
 obtain ⟨fs, hr, hrun, hended, hW, hsame⟩ := X0.leave (v := some (.long j0)) (fun h => by rw [Bd.returns] at h; cases h)
 refine ⟨_, _, p4 _ ?_, hrun, hended, _, _, rfl, ?_, ⟨_, rfl⟩, hW, hsame.mono (by decide) (by decide)⟩
 · exact retOut X0 hx Bd.returns rfl (Or.inr (Or.inl ⟨rfl, rfl, _, rfl⟩)) (hb hby d5_32) hr
 · show Q5_3 Z a_ID a_ID_key a_PRIORITY a_PRIORITY_key a_SET a_SET_key a_PERIOD_MS a_PERIOD_MS_key a_MISSING_MAX a_MISSING_MAX_key a_PROSPECT_PERIODS a_PROSPECT_PERIODS_key j0 h0 n0 _ s₁.heap _
   exact ⟨N0, e0, rfl⟩
theorem pd0 : parseMethodDescriptor "(Ljava/lang/String;JJJ)J" = some ⟨[(.object "java/lang/String"), .long, .long, .long], some .long⟩ := by decide +kernel
theorem d4_10 : decode prog_18_method_5_code 10 = .ok (.invokestatic 60, 3) := by decide +kernel
theorem d4_13 : decode prog_18_method_5_code 13 = .ok (.lreturn, 1) := by decide +kernel
def Q4_2 (Z : State) (a_ID : Addr) (a_ID_key : Addr) (a_PRIORITY : Addr) (a_PRIORITY_key : Addr) (a_SET : Addr) (a_SET_key : Addr) (a_PERIOD_MS : Addr) (a_PERIOD_MS_key : Addr) (a_MISSING_MAX : Addr) (a_MISSING_MAX_key : Addr) (a_PROSPECT_PERIODS : Addr) (a_PROSPECT_PERIODS_key : Addr) (j0 : Int64) (h0 : Heap) (n0 : Nat) (v : Option Value) (h : Heap) (L : List Loc) : Prop := Fr n0 L ∧ h = h0 ∧ ((v = some (.long j0)))
set_option maxRecDepth 65536 in
set_option maxHeartbeats 40000000 in
theorem rm4_2 (l : Launch) (Z : State) (a0 : Array Value) (hw : ∀ d ∈ tables_1, d.before a0 Z = true) (ws : List Jvm.Cond) (a_ID : Addr) (a_ID_key : Addr) (a_PRIORITY : Addr) (a_PRIORITY_key : Addr) (a_SET : Addr) (a_SET_key : Addr) (a_PERIOD_MS : Addr) (a_PERIOD_MS_key : Addr) (a_MISSING_MAX : Addr) (a_MISSING_MAX_key : Addr) (a_PROSPECT_PERIODS : Addr) (a_PROSPECT_PERIODS_key : Addr) (j0 : Int64) (h0 : Heap) (n0 : Nat) (O0 : Old Z n0 h0) (HE : Env1 Z a_ID a_ID_key a_PRIORITY a_PRIORITY_key a_SET a_SET_key a_PERIOD_MS a_PERIOD_MS_key a_MISSING_MAX a_MISSING_MAX_key a_PROSPECT_PERIODS a_PROSPECT_PERIODS_key) (hp1 : ¬ (j0 < (1 : Int64))) (hp2 : ¬ ((4294967295 : Int64) < j0)) :
    MetFree l M1 (head1 (Jvm.Cond.code M1 prog_18_method_5_code 4 (some .long) :: ws) ({ frames := 1, cells := 0, slots := 0, locals := 18 } : Room)) (fun a U => a = #[(.ref a_ID), (.ref a_ID_key), (.long j0)] ∧ Z.Warmed39 U.vm ∧ U.heap = h0) (fun _ _ _ _ _ => True) (fun _ U o U' => ∃ v L, o = .returned v ∧ Q4_2 Z a_ID a_ID_key a_PRIORITY a_PRIORITY_key a_SET a_SET_key a_PERIOD_MS a_PERIOD_MS_key a_MISSING_MAX a_MISSING_MAX_key a_PROSPECT_PERIODS a_PROSPECT_PERIODS_key j0 h0 n0 v U'.heap L ∧ FrameEnd U o U' L ({ frames := 1, cells := 0, slots := 0, locals := 18 } : Room).cells ({ frames := 1, cells := 0, slots := 0, locals := 18 } : Room).slots) := by
 refine MetFree.of_bodySF (plainFor_of_name pn2) hisR ?_
 intro p e s m args below meth c s₁ Bd hml0 hP hK
 obtain ⟨rfl, hZ, hh⟩ := hP
 have hx := Bd.exec
 have hby := Bd.bytes
 have hml : c.maxLocals = 4 := hml0
 have hown : s.vm.findClass "com/example/vacant_throne/vacantthrone/core/Setting" = some m.cls := findClass_of_methodNamed Bd.named
 have hnm := (name_of_methodNamed Bd.named Bd.method).1
 have X0 : Stand p l e ({ frames := 1, cells := 0, slots := 0, locals := 18 } : Room) s m #[(.ref a_ID), (.ref a_ID_key), (.long j0)] below meth c s₁ [] 0 0 := Stand.of_body Bd
 have e0 : s₁.heap = h0 := by rw [← hh, Bd.state]; rfl
 have N0 := Fr.nil n0
 let S0 : State → Prop := fun t => Steps p.tables e below (s₁.setTop (entryFrame m #[(.ref a_ID), (.ref a_ID_key), (.long j0)] 4)) t
 let Ls1 : Array Slot := #[.val (.ref a_ID), .val (.ref a_ID_key), .val (.long j0), .second]
 have p0 : ∀ t, St p e below s₁ (mkF m 0 Ls1 []) t → S0 t := fun t k => castTop (ef3 m a_ID a_ID_key j0) k
 have HE' := HE
 obtain ⟨Sa_ID, Ea_ID, Fa_ID_key, Ea_ID_key, Fa_ID_min, Fa_ID_max, Sa_PRIORITY, Ea_PRIORITY, Fa_PRIORITY_key, Ea_PRIORITY_key, Fa_PRIORITY_min, Fa_PRIORITY_max, Sa_SET, Ea_SET, Fa_SET_key, Ea_SET_key, Fa_SET_min, Fa_SET_max, Sa_PERIOD_MS, Ea_PERIOD_MS, Fa_PERIOD_MS_key, Ea_PERIOD_MS_key, Fa_PERIOD_MS_min, Fa_PERIOD_MS_max, Sa_MISSING_MAX, Ea_MISSING_MAX, Fa_MISSING_MAX_key, Ea_MISSING_MAX_key, Fa_MISSING_MAX_min, Fa_MISSING_MAX_max, Sa_PROSPECT_PERIODS, Ea_PROSPECT_PERIODS, Fa_PROSPECT_PERIODS_key, Ea_PROSPECT_PERIODS_key, Fa_PROSPECT_PERIODS_min, Fa_PROSPECT_PERIODS_max⟩ := HE
 have p2 : ∀ t, St p e below s₁ (mkF m 3 Ls1 [(.ref a_ID), (.long j0), (.ref a_ID_key)]) t → S0 t := fun t k => p0 t (by
   refine XS.aloadN X0.here hx rfl (hb hby d4_0) rfl rfl ?_
   refine XS.lloadN X0.here hx rfl (hb hby d4_1) rfl ?_
   refine XS.aloadN X0.here hx rfl (hb hby d4_2) rfl rfl ?_
   exact k)
 obtain ⟨T3, X3, e3, st3⟩ := getF X0 hx hZ hown (host := "") (Or.inl (ww hw 28 rfl)) Via.refl e0 (Fa_ID_min.ext O0.2) (g := (mkF m 3 Ls1 [(.ref a_ID), (.long j0), (.ref a_ID_key)])) rfl rfl (hb hby d4_3)
 have p4 : ∀ t, St p e below T3 (mkF m 6 Ls1 [(.long (1 : Int64)), (.long j0), (.ref a_ID_key)]) t → S0 t := fun t k => p2 t (st3 t k)
 have p5 : ∀ t, St p e below T3 (mkF m 7 Ls1 [(.ref a_ID), (.long (1 : Int64)), (.long j0), (.ref a_ID_key)]) t → S0 t := fun t k => p4 t (by
   refine XS.aloadN X3.here hx rfl (hb hby d4_6) rfl rfl ?_
   exact k)
 obtain ⟨T6, X6, e6, st6⟩ := getF X3 hx hZ hown (host := "") (Or.inl (ww hw 30 rfl)) Via.refl e3 (Fa_ID_max.ext O0.2) (g := (mkF m 7 Ls1 [(.ref a_ID), (.long (1 : Int64)), (.long j0), (.ref a_ID_key)])) rfl rfl (hb hby d4_7)
 have p7 : ∀ t, St p e below T6 (mkF m 10 Ls1 [(.long (4294967295 : Int64)), (.long (1 : Int64)), (.long j0), (.ref a_ID_key)]) t → S0 t := fun t k => p5 t (st6 t k)
 obtain ⟨_, _, ⟨Tc8, Lc8, kc8, nc8⟩, -, Xc8, ⟨Lcc8, hQc8, lc8, yc8, zc8⟩, stc8⟩ := Jvm.LawKit.callS X6 hx (y := M0) hown (mvT hZ (ww hw 32 rfl)) (mvT hZ (ww hw 33 rfl)) (mvT hZ (ww hw 34 rfl)) (mvT hZ (ww hw 35 rfl)) (by decide) (backOf (W := 0) (rm5_3 l Z a0 hw [] a_ID a_ID_key a_PRIORITY a_PRIORITY_key a_SET a_SET_key a_PERIOD_MS a_PERIOD_MS_key a_MISSING_MAX a_MISSING_MAX_key a_PROSPECT_PERIODS a_PROSPECT_PERIODS_key j0 h0 n0 O0 HE' hp1 hp2) hZ (ww hw 35 rfl) (ww hw 34 rfl) (by decide) (by decide)) (g := (mkF m 10 Ls1 [(.long (4294967295 : Int64)), (.long (1 : Int64)), (.long j0), (.ref a_ID_key)])) rfl (by rw [hml]; rfl) (argsL := [(.ref a_ID_key), (.long j0), (.long (1 : Int64)), (.long (4294967295 : Int64))]) (rest := []) (lenOf pd0 rfl) rfl (by show 2 * 0 + _ ≤ _; exact Nat.le_of_eq rfl) (hb hby d4_10) (fun _ _ => ⟨rfl, e6, (by decide : 0 + 0 ≤ _), (by decide : 0 + 0 ≤ _)⟩)
 dsimp only [Pt.U, Pt.locs, Pt.cells, Pt.slots] at Xc8 lc8 yc8 zc8 stc8 hQc8
 subst lc8 yc8 zc8
 obtain ⟨Nqc8, ec8, hAc8⟩ := hQc8
 have Nc8 := Fr.app N0 Nqc8
 obtain rfl := hAc8
 have p9 : ∀ t, St p e below Tc8 (mkF m 13 Ls1 [(.long j0)]) t → S0 t := fun t k => p7 t (stc8 t k)
 obtain ⟨fs, hr, hrun, hended, hW, hsame⟩ := Xc8.leave (v := some (.long j0)) (fun h => by rw [Bd.returns] at h; cases h)
 refine ⟨_, _, p9 _ ?_, hrun, hended, _, _, rfl, ?_, ⟨_, rfl⟩, hW, hsame.mono (by decide) (by decide)⟩
 · exact retOut Xc8 hx Bd.returns rfl (Or.inr (Or.inl ⟨rfl, rfl, _, rfl⟩)) (hb hby d4_13) hr
 · show Q4_2 Z a_ID a_ID_key a_PRIORITY a_PRIORITY_key a_SET a_SET_key a_PERIOD_MS a_PERIOD_MS_key a_MISSING_MAX a_MISSING_MAX_key a_PROSPECT_PERIODS a_PROSPECT_PERIODS_key j0 h0 n0 _ Tc8.heap _
   exact ⟨Nc8, ec8, rfl⟩
theorem pd1 : parseMethodDescriptor "(Ljava/lang/String;J)J" = some ⟨[(.object "java/lang/String"), .long], some .long⟩ := by decide +kernel
theorem d3_6 : decode prog_18_method_4_code 6 = .ok (.invokevirtual 56, 3) := by decide +kernel
theorem d3_9 : decode prog_18_method_4_code 9 = .ok (.lreturn, 1) := by decide +kernel
def Q3_1 (Z : State) (a_ID : Addr) (a_ID_key : Addr) (a_PRIORITY : Addr) (a_PRIORITY_key : Addr) (a_SET : Addr) (a_SET_key : Addr) (a_PERIOD_MS : Addr) (a_PERIOD_MS_key : Addr) (a_MISSING_MAX : Addr) (a_MISSING_MAX_key : Addr) (a_PROSPECT_PERIODS : Addr) (a_PROSPECT_PERIODS_key : Addr) (j0 : Int64) (h0 : Heap) (n0 : Nat) (v : Option Value) (h : Heap) (L : List Loc) : Prop := Fr n0 L ∧ h = h0 ∧ ((v = some (.long j0)))
set_option maxRecDepth 65536 in
set_option maxHeartbeats 40000000 in
theorem rm3_1 (l : Launch) (Z : State) (a0 : Array Value) (hw : ∀ d ∈ tables_1, d.before a0 Z = true) (ws : List Jvm.Cond) (a_ID : Addr) (a_ID_key : Addr) (a_PRIORITY : Addr) (a_PRIORITY_key : Addr) (a_SET : Addr) (a_SET_key : Addr) (a_PERIOD_MS : Addr) (a_PERIOD_MS_key : Addr) (a_MISSING_MAX : Addr) (a_MISSING_MAX_key : Addr) (a_PROSPECT_PERIODS : Addr) (a_PROSPECT_PERIODS_key : Addr) (j0 : Int64) (h0 : Heap) (n0 : Nat) (O0 : Old Z n0 h0) (HE : Env1 Z a_ID a_ID_key a_PRIORITY a_PRIORITY_key a_SET a_SET_key a_PERIOD_MS a_PERIOD_MS_key a_MISSING_MAX a_MISSING_MAX_key a_PROSPECT_PERIODS a_PROSPECT_PERIODS_key) (hp1 : ¬ (j0 < (1 : Int64))) (hp2 : ¬ ((4294967295 : Int64) < j0)) :
    MetFree l M2 (head1 (Jvm.Cond.code M2 prog_18_method_4_code 3 (some .long) :: ws) ({ frames := 2, cells := 0, slots := 0, locals := 33 } : Room)) (fun a U => a = #[(.ref a_ID), (.long j0)] ∧ Z.Warmed39 U.vm ∧ U.heap = h0) (fun _ _ _ _ _ => True) (fun _ U o U' => ∃ v L, o = .returned v ∧ Q3_1 Z a_ID a_ID_key a_PRIORITY a_PRIORITY_key a_SET a_SET_key a_PERIOD_MS a_PERIOD_MS_key a_MISSING_MAX a_MISSING_MAX_key a_PROSPECT_PERIODS a_PROSPECT_PERIODS_key j0 h0 n0 v U'.heap L ∧ FrameEnd U o U' L ({ frames := 2, cells := 0, slots := 0, locals := 33 } : Room).cells ({ frames := 2, cells := 0, slots := 0, locals := 33 } : Room).slots) := by
 refine MetFree.of_bodySF (plainFor_of_name pn2) hisR ?_
 intro p e s m args below meth c s₁ Bd hml0 hP hK
 obtain ⟨rfl, hZ, hh⟩ := hP
 have hx := Bd.exec
 have hby := Bd.bytes
 have hml : c.maxLocals = 3 := hml0
 have hown : s.vm.findClass "com/example/vacant_throne/vacantthrone/core/Setting" = some m.cls := findClass_of_methodNamed Bd.named
 have hnm := (name_of_methodNamed Bd.named Bd.method).1
 have X0 : Stand p l e ({ frames := 2, cells := 0, slots := 0, locals := 33 } : Room) s m #[(.ref a_ID), (.long j0)] below meth c s₁ [] 0 0 := Stand.of_body Bd
 have e0 : s₁.heap = h0 := by rw [← hh, Bd.state]; rfl
 have N0 := Fr.nil n0
 let S0 : State → Prop := fun t => Steps p.tables e below (s₁.setTop (entryFrame m #[(.ref a_ID), (.long j0)] 3)) t
 have p0 : ∀ t, St p e below s₁ (mkF m 0 #[.val (.ref a_ID), .val (.long j0), .second] []) t → S0 t := fun t k => castTop (ef2 m a_ID j0) k
 have HE' := HE
 obtain ⟨Sa_ID, Ea_ID, Fa_ID_key, Ea_ID_key, Fa_ID_min, Fa_ID_max, Sa_PRIORITY, Ea_PRIORITY, Fa_PRIORITY_key, Ea_PRIORITY_key, Fa_PRIORITY_min, Fa_PRIORITY_max, Sa_SET, Ea_SET, Fa_SET_key, Ea_SET_key, Fa_SET_min, Fa_SET_max, Sa_PERIOD_MS, Ea_PERIOD_MS, Fa_PERIOD_MS_key, Ea_PERIOD_MS_key, Fa_PERIOD_MS_min, Fa_PERIOD_MS_max, Sa_MISSING_MAX, Ea_MISSING_MAX, Fa_MISSING_MAX_key, Ea_MISSING_MAX_key, Fa_MISSING_MAX_min, Fa_MISSING_MAX_max, Sa_PROSPECT_PERIODS, Ea_PROSPECT_PERIODS, Fa_PROSPECT_PERIODS_key, Ea_PROSPECT_PERIODS_key, Fa_PROSPECT_PERIODS_min, Fa_PROSPECT_PERIODS_max⟩ := HE
 have p1 : ∀ t, St p e below s₁ (mkF m 2 #[.val (.ref a_ID), .val (.long j0), .second] [(.ref a_ID), (.ref a_ID)]) t → S0 t := fun t k => p0 t (by
   refine XS.aloadN X0.here hx rfl (hb hby d3_0) rfl rfl ?_
   refine XS.aloadN X0.here hx rfl (hb hby d3_1) rfl rfl ?_
   exact k)
 obtain ⟨T2, X2, e2, st2⟩ := getF X0 hx hZ hown (host := "") (Or.inl (ww hw 21 rfl)) Via.refl e0 (Fa_ID_key.ext O0.2) (g := (mkF m 2 #[.val (.ref a_ID), .val (.long j0), .second] [(.ref a_ID), (.ref a_ID)])) rfl rfl (hb hby d3_2)
 have p3 : ∀ t, St p e below T2 (mkF m 5 #[.val (.ref a_ID), .val (.long j0), .second] [(.ref a_ID_key), (.ref a_ID)]) t → S0 t := fun t k => p1 t (st2 t k)
 have p4 : ∀ t, St p e below T2 (mkF m 6 #[.val (.ref a_ID), .val (.long j0), .second] [(.long j0), (.ref a_ID_key), (.ref a_ID)]) t → S0 t := fun t k => p3 t (by
   refine XS.lloadN X2.here hx rfl (hb hby d3_5) rfl ?_
   exact k)
 obtain ⟨cqc5, kqc5, qc5a, qc5b, qc5c⟩ := isOf hZ e2 (Ea_ID.ext O0.2)
 obtain ⟨_, _, ⟨Tc5, Lc5, kc5, nc5⟩, -, Xc5, ⟨Lcc5, hQc5, lc5, yc5, zc5⟩, stc5⟩ := X2.virtualBack hx (y := M1) (z := M1) hown (mvT hZ (ww hw 23 rfl)) (mvT hZ (ww hw 24 rfl)) (notFace_of_selects (args := #[]) (mvT hZ (ww hw 26 rfl))) (mvT hZ (ww hw 26 rfl)) (mvT hZ (ww hw 25 rfl)) (by decide) (backOf (W := 0) (rm4_2 l Z a0 hw [] a_ID a_ID_key a_PRIORITY a_PRIORITY_key a_SET a_SET_key a_PERIOD_MS a_PERIOD_MS_key a_MISSING_MAX a_MISSING_MAX_key a_PROSPECT_PERIODS a_PROSPECT_PERIODS_key j0 h0 n0 O0 HE' hp1 hp2) hZ (ww hw 27 rfl) (ww hw 14 rfl) (by decide) (by decide)) qc5a qc5c (g := (mkF m 6 #[.val (.ref a_ID), .val (.long j0), .second] [(.long j0), (.ref a_ID_key), (.ref a_ID)])) rfl (by rw [hml]; rfl) (Steps.refl _) (argsL := [(.ref a_ID_key), (.long j0)]) (rest := []) (lenOf pd1 rfl) rfl (by show 2 * 0 + _ ≤ _; exact Nat.le_of_eq rfl) (hb hby d3_6) (fun _ _ => ⟨rfl, e2, (by decide : 0 + 0 ≤ _), (by decide : 0 + 0 ≤ _)⟩)
 dsimp only [Pt.U, Pt.locs, Pt.cells, Pt.slots] at Xc5 lc5 yc5 zc5 stc5 hQc5
 subst lc5 yc5 zc5
 obtain ⟨Nqc5, ec5, hAc5⟩ := hQc5
 have Nc5 := Fr.app N0 Nqc5
 obtain rfl := hAc5
 have p6 : ∀ t, St p e below Tc5 (mkF m 9 #[.val (.ref a_ID), .val (.long j0), .second] [(.long j0)]) t → S0 t := fun t k => p4 t (stc5.trans k)
 obtain ⟨fs, hr, hrun, hended, hW, hsame⟩ := Xc5.leave (v := some (.long j0)) (fun h => by rw [Bd.returns] at h; cases h)
 refine ⟨_, _, p6 _ ?_, hrun, hended, _, _, rfl, ?_, ⟨_, rfl⟩, hW, hsame.mono (by decide) (by decide)⟩
 · exact retOut Xc5 hx Bd.returns rfl (Or.inr (Or.inl ⟨rfl, rfl, _, rfl⟩)) (hb hby d3_9) hr
 · show Q3_1 Z a_ID a_ID_key a_PRIORITY a_PRIORITY_key a_SET a_SET_key a_PERIOD_MS a_PERIOD_MS_key a_MISSING_MAX a_MISSING_MAX_key a_PROSPECT_PERIODS a_PROSPECT_PERIODS_key j0 h0 n0 _ Tc5.heap _
   exact ⟨Nc5, ec5, rfl⟩
theorem pd2 : parseMethodDescriptor "(J)J" = some ⟨[.long], some .long⟩ := by decide +kernel
theorem d1_9 : decode prog_10_method_2_code 9 = .ok (.invokevirtual 34, 3) := by decide +kernel
theorem d1_12 : decode prog_10_method_2_code 12 = .ok (.putfield 38, 3) := by decide +kernel
theorem sn0 {Z : State} {a0 : Array Value} (hw : ∀ d ∈ tables_1, d.before a0 Z = true) : Jvm.RoadKit.slotOf Z "com/example/vacant_throne/vacantthrone/core/NodeSettings" "priority" "I" ≠ Jvm.RoadKit.slotOf Z "com/example/vacant_throne/vacantthrone/core/NodeSettings" "id" "J" := slot_ne (Or.inr (ww hw 41 rfl)) (Or.inr (ww hw 37 rfl)) (by decide) (t := .int) (t' := .long) (by decide) (by decide)
theorem sn1 {Z : State} {a0 : Array Value} (hw : ∀ d ∈ tables_1, d.before a0 Z = true) : Jvm.RoadKit.slotOf Z "com/example/vacant_throne/vacantthrone/core/NodeSettings" "set" "I" ≠ Jvm.RoadKit.slotOf Z "com/example/vacant_throne/vacantthrone/core/NodeSettings" "id" "J" := slot_ne (Or.inr (ww hw 45 rfl)) (Or.inr (ww hw 37 rfl)) (by decide) (t := .int) (t' := .long) (by decide) (by decide)
theorem sn2 {Z : State} {a0 : Array Value} (hw : ∀ d ∈ tables_1, d.before a0 Z = true) : Jvm.RoadKit.slotOf Z "com/example/vacant_throne/vacantthrone/core/NodeSettings" "periodMs" "I" ≠ Jvm.RoadKit.slotOf Z "com/example/vacant_throne/vacantthrone/core/NodeSettings" "id" "J" := slot_ne (Or.inr (ww hw 49 rfl)) (Or.inr (ww hw 37 rfl)) (by decide) (t := .int) (t' := .long) (by decide) (by decide)
theorem sn3 {Z : State} {a0 : Array Value} (hw : ∀ d ∈ tables_1, d.before a0 Z = true) : Jvm.RoadKit.slotOf Z "com/example/vacant_throne/vacantthrone/core/NodeSettings" "missingMax" "I" ≠ Jvm.RoadKit.slotOf Z "com/example/vacant_throne/vacantthrone/core/NodeSettings" "id" "J" := slot_ne (Or.inr (ww hw 53 rfl)) (Or.inr (ww hw 37 rfl)) (by decide) (t := .int) (t' := .long) (by decide) (by decide)
theorem sn4 {Z : State} {a0 : Array Value} (hw : ∀ d ∈ tables_1, d.before a0 Z = true) : Jvm.RoadKit.slotOf Z "com/example/vacant_throne/vacantthrone/core/NodeSettings" "prospectPeriods" "I" ≠ Jvm.RoadKit.slotOf Z "com/example/vacant_throne/vacantthrone/core/NodeSettings" "id" "J" := slot_ne (Or.inr (ww hw 57 rfl)) (Or.inr (ww hw 37 rfl)) (by decide) (t := .int) (t' := .long) (by decide) (by decide)
theorem d1_15 : decode prog_10_method_2_code 15 = .ok (.aload_n 0, 1) := by decide +kernel
theorem d1_16 : decode prog_10_method_2_code 16 = .ok (.getstatic 42, 3) := by decide +kernel
theorem d1_19 : decode prog_10_method_2_code 19 = .ok (.iload_n 3, 1) := by decide +kernel
theorem d1_20 : decode prog_10_method_2_code 20 = .ok (.i2l, 1) := by decide +kernel
def Q5_6 (Z : State) (a_ID : Addr) (a_ID_key : Addr) (a_PRIORITY : Addr) (a_PRIORITY_key : Addr) (a_SET : Addr) (a_SET_key : Addr) (a_PERIOD_MS : Addr) (a_PERIOD_MS_key : Addr) (a_MISSING_MAX : Addr) (a_MISSING_MAX_key : Addr) (a_PROSPECT_PERIODS : Addr) (a_PROSPECT_PERIODS_key : Addr) (j0 : Int64) (h0 : Heap) (n0 : Nat) (v : Option Value) (h : Heap) (L : List Loc) : Prop := Fr n0 L ∧ h = h0 ∧ ((v = some (.long j0)))
set_option maxRecDepth 65536 in
set_option maxHeartbeats 40000000 in
theorem rm5_6 (l : Launch) (Z : State) (a0 : Array Value) (hw : ∀ d ∈ tables_1, d.before a0 Z = true) (ws : List Jvm.Cond) (a_ID : Addr) (a_ID_key : Addr) (a_PRIORITY : Addr) (a_PRIORITY_key : Addr) (a_SET : Addr) (a_SET_key : Addr) (a_PERIOD_MS : Addr) (a_PERIOD_MS_key : Addr) (a_MISSING_MAX : Addr) (a_MISSING_MAX_key : Addr) (a_PROSPECT_PERIODS : Addr) (a_PROSPECT_PERIODS_key : Addr) (j0 : Int64) (h0 : Heap) (n0 : Nat) (O0 : Old Z n0 h0) (HE : Env1 Z a_ID a_ID_key a_PRIORITY a_PRIORITY_key a_SET a_SET_key a_PERIOD_MS a_PERIOD_MS_key a_MISSING_MAX a_MISSING_MAX_key a_PROSPECT_PERIODS a_PROSPECT_PERIODS_key) (hp1 : ¬ (j0 < (0 : Int64))) (hp2 : ¬ ((65535 : Int64) < j0)) :
    MetFree l M0 (head1 (Jvm.Cond.code M0 prog_14_method_2_code 7 (some .long) :: ws) ({ frames := 0, cells := 0, slots := 0, locals := 0 } : Room)) (fun a U => a = #[(.ref a_PRIORITY_key), (.long j0), (.long (0 : Int64)), (.long (65535 : Int64))] ∧ Z.Warmed39 U.vm ∧ U.heap = h0) (fun _ _ _ _ _ => True) (fun _ U o U' => ∃ v L, o = .returned v ∧ Q5_6 Z a_ID a_ID_key a_PRIORITY a_PRIORITY_key a_SET a_SET_key a_PERIOD_MS a_PERIOD_MS_key a_MISSING_MAX a_MISSING_MAX_key a_PROSPECT_PERIODS a_PROSPECT_PERIODS_key j0 h0 n0 v U'.heap L ∧ FrameEnd U o U' L ({ frames := 0, cells := 0, slots := 0, locals := 0 } : Room).cells ({ frames := 0, cells := 0, slots := 0, locals := 0 } : Room).slots) := by
 refine MetFree.of_bodySF (plainFor_of_name pn3) hisR ?_
 intro p e s m args below meth c s₁ Bd hml0 hP hK
 obtain ⟨rfl, hZ, hh⟩ := hP
 have hx := Bd.exec
 have hby := Bd.bytes
 have hml : c.maxLocals = 7 := hml0
 have hown : s.vm.findClass "com/example/vacant_throne/vacantthrone/core/Ranges" = some m.cls := findClass_of_methodNamed Bd.named
 have hnm := (name_of_methodNamed Bd.named Bd.method).1
 have X0 : Stand p l e ({ frames := 0, cells := 0, slots := 0, locals := 0 } : Room) s m #[(.ref a_PRIORITY_key), (.long j0), (.long (0 : Int64)), (.long (65535 : Int64))] below meth c s₁ [] 0 0 := Stand.of_body Bd
 have e0 : s₁.heap = h0 := by rw [← hh, Bd.state]; rfl
 have N0 := Fr.nil n0
 let S0 : State → Prop := fun t => Steps p.tables e below (s₁.setTop (entryFrame m #[(.ref a_PRIORITY_key), (.long j0), (.long (0 : Int64)), (.long (65535 : Int64))] 7)) t
 let Ls1 : Array Slot := #[.val (.ref a_PRIORITY_key), .val (.long j0), .second, .val (.long (0 : Int64)), .second, .val (.long (65535 : Int64)), .second]
 have p0 : ∀ t, St p e below s₁ (mkF m 0 Ls1 []) t → S0 t := fun t k => castTop (ef4 m a_PRIORITY_key j0 (0 : Int64) (65535 : Int64)) k
 have HE' := HE
 obtain ⟨Sa_ID, Ea_ID, Fa_ID_key, Ea_ID_key, Fa_ID_min, Fa_ID_max, Sa_PRIORITY, Ea_PRIORITY, Fa_PRIORITY_key, Ea_PRIORITY_key, Fa_PRIORITY_min, Fa_PRIORITY_max, Sa_SET, Ea_SET, Fa_SET_key, Ea_SET_key, Fa_SET_min, Fa_SET_max, Sa_PERIOD_MS, Ea_PERIOD_MS, Fa_PERIOD_MS_key, Ea_PERIOD_MS_key, Fa_PERIOD_MS_min, Fa_PERIOD_MS_max, Sa_MISSING_MAX, Ea_MISSING_MAX, Fa_MISSING_MAX_key, Ea_MISSING_MAX_key, Fa_MISSING_MAX_min, Fa_MISSING_MAX_max, Sa_PROSPECT_PERIODS, Ea_PROSPECT_PERIODS, Fa_PROSPECT_PERIODS_key, Ea_PROSPECT_PERIODS_key, Fa_PROSPECT_PERIODS_min, Fa_PROSPECT_PERIODS_max⟩ := HE
 have p2 : ∀ t, St p e below s₁ (mkF m 3 Ls1 [(.int (lcmpW j0 (0 : Int64)))]) t → S0 t := fun t k => p0 t (by
   refine XS.lloadN X0.here hx rfl (hb hby d5_0) rfl ?_
   refine XS.lloadN X0.here hx rfl (hb hby d5_1) rfl ?_
   refine XS.lcmp X0.here hx rfl (hb hby d5_2) rfl ?_
   exact k)
 have p3 : ∀ t, St p e below s₁ (mkF m 10 Ls1 [(.int (lcmpW j0 (65535 : Int64)))]) t → S0 t := fun t k => p2 t (by
   refine XS.ifNo X0.here hx rfl (hb hby d5_3) rfl ((if0 _ _).trans (flt (mt (lw_lt _ _).mp hp1)).1) ?_
   refine XS.lloadN X0.here hx rfl (hb hby d5_6) rfl ?_
   refine XS.lload X0.here hx rfl (hb hby d5_7) rfl ?_
   refine XS.lcmp X0.here hx rfl (hb hby d5_9) rfl ?_
   exact k)
 have p4 : ∀ t, St p e below s₁ (mkF m 32 Ls1 [(.long j0)]) t → S0 t := fun t k => p3 t (by
   refine XS.ifYes X0.here hx rfl (pc0 := 10) (pc' := 31) rfl (hb hby d5_10) rfl ((if0 _ _).trans (flt (mt (lw_gt _ _).mp hp2)).2.2.2) (by decide) (by decide) ?_
   refine XS.lloadN X0.here hx rfl (hb hby d5_31) rfl ?_
   exact k)
 obtain ⟨fs, hr, hrun, hended, hW, hsame⟩ := X0.leave (v := some (.long j0)) (fun h => by rw [Bd.returns] at h; cases h)
 refine ⟨_, _, p4 _ ?_, hrun, hended, _, _, rfl, ?_, ⟨_, rfl⟩, hW, hsame.mono (by decide) (by decide)⟩
 · exact retOut X0 hx Bd.returns rfl (Or.inr (Or.inl ⟨rfl, rfl, _, rfl⟩)) (hb hby d5_32) hr
 · show Q5_6 Z a_ID a_ID_key a_PRIORITY a_PRIORITY_key a_SET a_SET_key a_PERIOD_MS a_PERIOD_MS_key a_MISSING_MAX a_MISSING_MAX_key a_PROSPECT_PERIODS a_PROSPECT_PERIODS_key j0 h0 n0 _ s₁.heap _
   exact ⟨N0, e0, rfl⟩
def Q4_5 (Z : State) (a_ID : Addr) (a_ID_key : Addr) (a_PRIORITY : Addr) (a_PRIORITY_key : Addr) (a_SET : Addr) (a_SET_key : Addr) (a_PERIOD_MS : Addr) (a_PERIOD_MS_key : Addr) (a_MISSING_MAX : Addr) (a_MISSING_MAX_key : Addr) (a_PROSPECT_PERIODS : Addr) (a_PROSPECT_PERIODS_key : Addr) (j0 : Int64) (h0 : Heap) (n0 : Nat) (v : Option Value) (h : Heap) (L : List Loc) : Prop := Fr n0 L ∧ h = h0 ∧ ((v = some (.long j0)))
set_option maxRecDepth 65536 in
set_option maxHeartbeats 40000000 in
theorem rm4_5 (l : Launch) (Z : State) (a0 : Array Value) (hw : ∀ d ∈ tables_1, d.before a0 Z = true) (ws : List Jvm.Cond) (a_ID : Addr) (a_ID_key : Addr) (a_PRIORITY : Addr) (a_PRIORITY_key : Addr) (a_SET : Addr) (a_SET_key : Addr) (a_PERIOD_MS : Addr) (a_PERIOD_MS_key : Addr) (a_MISSING_MAX : Addr) (a_MISSING_MAX_key : Addr) (a_PROSPECT_PERIODS : Addr) (a_PROSPECT_PERIODS_key : Addr) (j0 : Int64) (h0 : Heap) (n0 : Nat) (O0 : Old Z n0 h0) (HE : Env1 Z a_ID a_ID_key a_PRIORITY a_PRIORITY_key a_SET a_SET_key a_PERIOD_MS a_PERIOD_MS_key a_MISSING_MAX a_MISSING_MAX_key a_PROSPECT_PERIODS a_PROSPECT_PERIODS_key) (hp1 : ¬ (j0 < (0 : Int64))) (hp2 : ¬ ((65535 : Int64) < j0)) :
    MetFree l M1 (head1 (Jvm.Cond.code M1 prog_18_method_5_code 4 (some .long) :: ws) ({ frames := 1, cells := 0, slots := 0, locals := 18 } : Room)) (fun a U => a = #[(.ref a_PRIORITY), (.ref a_PRIORITY_key), (.long j0)] ∧ Z.Warmed39 U.vm ∧ U.heap = h0) (fun _ _ _ _ _ => True) (fun _ U o U' => ∃ v L, o = .returned v ∧ Q4_5 Z a_ID a_ID_key a_PRIORITY a_PRIORITY_key a_SET a_SET_key a_PERIOD_MS a_PERIOD_MS_key a_MISSING_MAX a_MISSING_MAX_key a_PROSPECT_PERIODS a_PROSPECT_PERIODS_key j0 h0 n0 v U'.heap L ∧ FrameEnd U o U' L ({ frames := 1, cells := 0, slots := 0, locals := 18 } : Room).cells ({ frames := 1, cells := 0, slots := 0, locals := 18 } : Room).slots) := by
 refine MetFree.of_bodySF (plainFor_of_name pn2) hisR ?_
 intro p e s m args below meth c s₁ Bd hml0 hP hK
 obtain ⟨rfl, hZ, hh⟩ := hP
 have hx := Bd.exec
 have hby := Bd.bytes
 have hml : c.maxLocals = 4 := hml0
 have hown : s.vm.findClass "com/example/vacant_throne/vacantthrone/core/Setting" = some m.cls := findClass_of_methodNamed Bd.named
 have hnm := (name_of_methodNamed Bd.named Bd.method).1
 have X0 : Stand p l e ({ frames := 1, cells := 0, slots := 0, locals := 18 } : Room) s m #[(.ref a_PRIORITY), (.ref a_PRIORITY_key), (.long j0)] below meth c s₁ [] 0 0 := Stand.of_body Bd
 have e0 : s₁.heap = h0 := by rw [← hh, Bd.state]; rfl
 have N0 := Fr.nil n0
 let S0 : State → Prop := fun t => Steps p.tables e below (s₁.setTop (entryFrame m #[(.ref a_PRIORITY), (.ref a_PRIORITY_key), (.long j0)] 4)) t
 let Ls1 : Array Slot := #[.val (.ref a_PRIORITY), .val (.ref a_PRIORITY_key), .val (.long j0), .second]
 have p0 : ∀ t, St p e below s₁ (mkF m 0 Ls1 []) t → S0 t := fun t k => castTop (ef3 m a_PRIORITY a_PRIORITY_key j0) k
 have HE' := HE
 obtain ⟨Sa_ID, Ea_ID, Fa_ID_key, Ea_ID_key, Fa_ID_min, Fa_ID_max, Sa_PRIORITY, Ea_PRIORITY, Fa_PRIORITY_key, Ea_PRIORITY_key, Fa_PRIORITY_min, Fa_PRIORITY_max, Sa_SET, Ea_SET, Fa_SET_key, Ea_SET_key, Fa_SET_min, Fa_SET_max, Sa_PERIOD_MS, Ea_PERIOD_MS, Fa_PERIOD_MS_key, Ea_PERIOD_MS_key, Fa_PERIOD_MS_min, Fa_PERIOD_MS_max, Sa_MISSING_MAX, Ea_MISSING_MAX, Fa_MISSING_MAX_key, Ea_MISSING_MAX_key, Fa_MISSING_MAX_min, Fa_MISSING_MAX_max, Sa_PROSPECT_PERIODS, Ea_PROSPECT_PERIODS, Fa_PROSPECT_PERIODS_key, Ea_PROSPECT_PERIODS_key, Fa_PROSPECT_PERIODS_min, Fa_PROSPECT_PERIODS_max⟩ := HE
 have p2 : ∀ t, St p e below s₁ (mkF m 3 Ls1 [(.ref a_PRIORITY), (.long j0), (.ref a_PRIORITY_key)]) t → S0 t := fun t k => p0 t (by
   refine XS.aloadN X0.here hx rfl (hb hby d4_0) rfl rfl ?_
   refine XS.lloadN X0.here hx rfl (hb hby d4_1) rfl ?_
   refine XS.aloadN X0.here hx rfl (hb hby d4_2) rfl rfl ?_
   exact k)
 obtain ⟨T3, X3, e3, st3⟩ := getF X0 hx hZ hown (host := "") (Or.inl (ww hw 28 rfl)) Via.refl e0 (Fa_PRIORITY_min.ext O0.2) (g := (mkF m 3 Ls1 [(.ref a_PRIORITY), (.long j0), (.ref a_PRIORITY_key)])) rfl rfl (hb hby d4_3)
 have p4 : ∀ t, St p e below T3 (mkF m 6 Ls1 [(.long (0 : Int64)), (.long j0), (.ref a_PRIORITY_key)]) t → S0 t := fun t k => p2 t (st3 t k)
 have p5 : ∀ t, St p e below T3 (mkF m 7 Ls1 [(.ref a_PRIORITY), (.long (0 : Int64)), (.long j0), (.ref a_PRIORITY_key)]) t → S0 t := fun t k => p4 t (by
   refine XS.aloadN X3.here hx rfl (hb hby d4_6) rfl rfl ?_
   exact k)
 obtain ⟨T6, X6, e6, st6⟩ := getF X3 hx hZ hown (host := "") (Or.inl (ww hw 30 rfl)) Via.refl e3 (Fa_PRIORITY_max.ext O0.2) (g := (mkF m 7 Ls1 [(.ref a_PRIORITY), (.long (0 : Int64)), (.long j0), (.ref a_PRIORITY_key)])) rfl rfl (hb hby d4_7)
 have p7 : ∀ t, St p e below T6 (mkF m 10 Ls1 [(.long (65535 : Int64)), (.long (0 : Int64)), (.long j0), (.ref a_PRIORITY_key)]) t → S0 t := fun t k => p5 t (st6 t k)
 obtain ⟨_, _, ⟨Tc8, Lc8, kc8, nc8⟩, -, Xc8, ⟨Lcc8, hQc8, lc8, yc8, zc8⟩, stc8⟩ := Jvm.LawKit.callS X6 hx (y := M0) hown (mvT hZ (ww hw 32 rfl)) (mvT hZ (ww hw 33 rfl)) (mvT hZ (ww hw 34 rfl)) (mvT hZ (ww hw 35 rfl)) (by decide) (backOf (W := 0) (rm5_6 l Z a0 hw [] a_ID a_ID_key a_PRIORITY a_PRIORITY_key a_SET a_SET_key a_PERIOD_MS a_PERIOD_MS_key a_MISSING_MAX a_MISSING_MAX_key a_PROSPECT_PERIODS a_PROSPECT_PERIODS_key j0 h0 n0 O0 HE' hp1 hp2) hZ (ww hw 35 rfl) (ww hw 34 rfl) (by decide) (by decide)) (g := (mkF m 10 Ls1 [(.long (65535 : Int64)), (.long (0 : Int64)), (.long j0), (.ref a_PRIORITY_key)])) rfl (by rw [hml]; rfl) (argsL := [(.ref a_PRIORITY_key), (.long j0), (.long (0 : Int64)), (.long (65535 : Int64))]) (rest := []) (lenOf pd0 rfl) rfl (by show 2 * 0 + _ ≤ _; exact Nat.le_of_eq rfl) (hb hby d4_10) (fun _ _ => ⟨rfl, e6, (by decide : 0 + 0 ≤ _), (by decide : 0 + 0 ≤ _)⟩)
 dsimp only [Pt.U, Pt.locs, Pt.cells, Pt.slots] at Xc8 lc8 yc8 zc8 stc8 hQc8
 subst lc8 yc8 zc8
 obtain ⟨Nqc8, ec8, hAc8⟩ := hQc8
 have Nc8 := Fr.app N0 Nqc8
 obtain rfl := hAc8
 have p9 : ∀ t, St p e below Tc8 (mkF m 13 Ls1 [(.long j0)]) t → S0 t := fun t k => p7 t (stc8 t k)
 obtain ⟨fs, hr, hrun, hended, hW, hsame⟩ := Xc8.leave (v := some (.long j0)) (fun h => by rw [Bd.returns] at h; cases h)
 refine ⟨_, _, p9 _ ?_, hrun, hended, _, _, rfl, ?_, ⟨_, rfl⟩, hW, hsame.mono (by decide) (by decide)⟩
 · exact retOut Xc8 hx Bd.returns rfl (Or.inr (Or.inl ⟨rfl, rfl, _, rfl⟩)) (hb hby d4_13) hr
 · show Q4_5 Z a_ID a_ID_key a_PRIORITY a_PRIORITY_key a_SET a_SET_key a_PERIOD_MS a_PERIOD_MS_key a_MISSING_MAX a_MISSING_MAX_key a_PROSPECT_PERIODS a_PROSPECT_PERIODS_key j0 h0 n0 _ Tc8.heap _
   exact ⟨Nc8, ec8, rfl⟩
def Q3_4 (Z : State) (a_ID : Addr) (a_ID_key : Addr) (a_PRIORITY : Addr) (a_PRIORITY_key : Addr) (a_SET : Addr) (a_SET_key : Addr) (a_PERIOD_MS : Addr) (a_PERIOD_MS_key : Addr) (a_MISSING_MAX : Addr) (a_MISSING_MAX_key : Addr) (a_PROSPECT_PERIODS : Addr) (a_PROSPECT_PERIODS_key : Addr) (j0 : Int64) (h0 : Heap) (n0 : Nat) (v : Option Value) (h : Heap) (L : List Loc) : Prop := Fr n0 L ∧ h = h0 ∧ ((v = some (.long j0)))
set_option maxRecDepth 65536 in
set_option maxHeartbeats 40000000 in
theorem rm3_4 (l : Launch) (Z : State) (a0 : Array Value) (hw : ∀ d ∈ tables_1, d.before a0 Z = true) (ws : List Jvm.Cond) (a_ID : Addr) (a_ID_key : Addr) (a_PRIORITY : Addr) (a_PRIORITY_key : Addr) (a_SET : Addr) (a_SET_key : Addr) (a_PERIOD_MS : Addr) (a_PERIOD_MS_key : Addr) (a_MISSING_MAX : Addr) (a_MISSING_MAX_key : Addr) (a_PROSPECT_PERIODS : Addr) (a_PROSPECT_PERIODS_key : Addr) (j0 : Int64) (h0 : Heap) (n0 : Nat) (O0 : Old Z n0 h0) (HE : Env1 Z a_ID a_ID_key a_PRIORITY a_PRIORITY_key a_SET a_SET_key a_PERIOD_MS a_PERIOD_MS_key a_MISSING_MAX a_MISSING_MAX_key a_PROSPECT_PERIODS a_PROSPECT_PERIODS_key) (hp1 : ¬ (j0 < (0 : Int64))) (hp2 : ¬ ((65535 : Int64) < j0)) :
    MetFree l M2 (head1 (Jvm.Cond.code M2 prog_18_method_4_code 3 (some .long) :: ws) ({ frames := 2, cells := 0, slots := 0, locals := 33 } : Room)) (fun a U => a = #[(.ref a_PRIORITY), (.long j0)] ∧ Z.Warmed39 U.vm ∧ U.heap = h0) (fun _ _ _ _ _ => True) (fun _ U o U' => ∃ v L, o = .returned v ∧ Q3_4 Z a_ID a_ID_key a_PRIORITY a_PRIORITY_key a_SET a_SET_key a_PERIOD_MS a_PERIOD_MS_key a_MISSING_MAX a_MISSING_MAX_key a_PROSPECT_PERIODS a_PROSPECT_PERIODS_key j0 h0 n0 v U'.heap L ∧ FrameEnd U o U' L ({ frames := 2, cells := 0, slots := 0, locals := 33 } : Room).cells ({ frames := 2, cells := 0, slots := 0, locals := 33 } : Room).slots) := by
 refine MetFree.of_bodySF (plainFor_of_name pn2) hisR ?_
 intro p e s m args below meth c s₁ Bd hml0 hP hK
 obtain ⟨rfl, hZ, hh⟩ := hP
 have hx := Bd.exec
 have hby := Bd.bytes
 have hml : c.maxLocals = 3 := hml0
 have hown : s.vm.findClass "com/example/vacant_throne/vacantthrone/core/Setting" = some m.cls := findClass_of_methodNamed Bd.named
 have hnm := (name_of_methodNamed Bd.named Bd.method).1
 have X0 : Stand p l e ({ frames := 2, cells := 0, slots := 0, locals := 33 } : Room) s m #[(.ref a_PRIORITY), (.long j0)] below meth c s₁ [] 0 0 := Stand.of_body Bd
 have e0 : s₁.heap = h0 := by rw [← hh, Bd.state]; rfl
 have N0 := Fr.nil n0
 let S0 : State → Prop := fun t => Steps p.tables e below (s₁.setTop (entryFrame m #[(.ref a_PRIORITY), (.long j0)] 3)) t
 have p0 : ∀ t, St p e below s₁ (mkF m 0 #[.val (.ref a_PRIORITY), .val (.long j0), .second] []) t → S0 t := fun t k => castTop (ef2 m a_PRIORITY j0) k
 have HE' := HE
 obtain ⟨Sa_ID, Ea_ID, Fa_ID_key, Ea_ID_key, Fa_ID_min, Fa_ID_max, Sa_PRIORITY, Ea_PRIORITY, Fa_PRIORITY_key, Ea_PRIORITY_key, Fa_PRIORITY_min, Fa_PRIORITY_max, Sa_SET, Ea_SET, Fa_SET_key, Ea_SET_key, Fa_SET_min, Fa_SET_max, Sa_PERIOD_MS, Ea_PERIOD_MS, Fa_PERIOD_MS_key, Ea_PERIOD_MS_key, Fa_PERIOD_MS_min, Fa_PERIOD_MS_max, Sa_MISSING_MAX, Ea_MISSING_MAX, Fa_MISSING_MAX_key, Ea_MISSING_MAX_key, Fa_MISSING_MAX_min, Fa_MISSING_MAX_max, Sa_PROSPECT_PERIODS, Ea_PROSPECT_PERIODS, Fa_PROSPECT_PERIODS_key, Ea_PROSPECT_PERIODS_key, Fa_PROSPECT_PERIODS_min, Fa_PROSPECT_PERIODS_max⟩ := HE
 have p1 : ∀ t, St p e below s₁ (mkF m 2 #[.val (.ref a_PRIORITY), .val (.long j0), .second] [(.ref a_PRIORITY), (.ref a_PRIORITY)]) t → S0 t := fun t k => p0 t (by
   refine XS.aloadN X0.here hx rfl (hb hby d3_0) rfl rfl ?_
   refine XS.aloadN X0.here hx rfl (hb hby d3_1) rfl rfl ?_
   exact k)
 obtain ⟨T2, X2, e2, st2⟩ := getF X0 hx hZ hown (host := "") (Or.inl (ww hw 21 rfl)) Via.refl e0 (Fa_PRIORITY_key.ext O0.2) (g := (mkF m 2 #[.val (.ref a_PRIORITY), .val (.long j0), .second] [(.ref a_PRIORITY), (.ref a_PRIORITY)])) rfl rfl (hb hby d3_2)
 have p3 : ∀ t, St p e below T2 (mkF m 5 #[.val (.ref a_PRIORITY), .val (.long j0), .second] [(.ref a_PRIORITY_key), (.ref a_PRIORITY)]) t → S0 t := fun t k => p1 t (st2 t k)
 have p4 : ∀ t, St p e below T2 (mkF m 6 #[.val (.ref a_PRIORITY), .val (.long j0), .second] [(.long j0), (.ref a_PRIORITY_key), (.ref a_PRIORITY)]) t → S0 t := fun t k => p3 t (by
   refine XS.lloadN X2.here hx rfl (hb hby d3_5) rfl ?_
   exact k)
 obtain ⟨cqc5, kqc5, qc5a, qc5b, qc5c⟩ := isOf hZ e2 (Ea_PRIORITY.ext O0.2)
 obtain ⟨_, _, ⟨Tc5, Lc5, kc5, nc5⟩, -, Xc5, ⟨Lcc5, hQc5, lc5, yc5, zc5⟩, stc5⟩ := X2.virtualBack hx (y := M1) (z := M1) hown (mvT hZ (ww hw 23 rfl)) (mvT hZ (ww hw 24 rfl)) (notFace_of_selects (args := #[]) (mvT hZ (ww hw 26 rfl))) (mvT hZ (ww hw 26 rfl)) (mvT hZ (ww hw 25 rfl)) (by decide) (backOf (W := 0) (rm4_5 l Z a0 hw [] a_ID a_ID_key a_PRIORITY a_PRIORITY_key a_SET a_SET_key a_PERIOD_MS a_PERIOD_MS_key a_MISSING_MAX a_MISSING_MAX_key a_PROSPECT_PERIODS a_PROSPECT_PERIODS_key j0 h0 n0 O0 HE' hp1 hp2) hZ (ww hw 27 rfl) (ww hw 14 rfl) (by decide) (by decide)) qc5a qc5c (g := (mkF m 6 #[.val (.ref a_PRIORITY), .val (.long j0), .second] [(.long j0), (.ref a_PRIORITY_key), (.ref a_PRIORITY)])) rfl (by rw [hml]; rfl) (Steps.refl _) (argsL := [(.ref a_PRIORITY_key), (.long j0)]) (rest := []) (lenOf pd1 rfl) rfl (by show 2 * 0 + _ ≤ _; exact Nat.le_of_eq rfl) (hb hby d3_6) (fun _ _ => ⟨rfl, e2, (by decide : 0 + 0 ≤ _), (by decide : 0 + 0 ≤ _)⟩)
 dsimp only [Pt.U, Pt.locs, Pt.cells, Pt.slots] at Xc5 lc5 yc5 zc5 stc5 hQc5
 subst lc5 yc5 zc5
 obtain ⟨Nqc5, ec5, hAc5⟩ := hQc5
 have Nc5 := Fr.app N0 Nqc5
 obtain rfl := hAc5
 have p6 : ∀ t, St p e below Tc5 (mkF m 9 #[.val (.ref a_PRIORITY), .val (.long j0), .second] [(.long j0)]) t → S0 t := fun t k => p4 t (stc5.trans k)
 obtain ⟨fs, hr, hrun, hended, hW, hsame⟩ := Xc5.leave (v := some (.long j0)) (fun h => by rw [Bd.returns] at h; cases h)
 refine ⟨_, _, p6 _ ?_, hrun, hended, _, _, rfl, ?_, ⟨_, rfl⟩, hW, hsame.mono (by decide) (by decide)⟩
 · exact retOut Xc5 hx Bd.returns rfl (Or.inr (Or.inl ⟨rfl, rfl, _, rfl⟩)) (hb hby d3_9) hr
 · show Q3_4 Z a_ID a_ID_key a_PRIORITY a_PRIORITY_key a_SET a_SET_key a_PERIOD_MS a_PERIOD_MS_key a_MISSING_MAX a_MISSING_MAX_key a_PROSPECT_PERIODS a_PROSPECT_PERIODS_key j0 h0 n0 _ Tc5.heap _
   exact ⟨Nc5, ec5, rfl⟩
theorem d1_21 : decode prog_10_method_2_code 21 = .ok (.invokevirtual 34, 3) := by decide +kernel
theorem d1_24 : decode prog_10_method_2_code 24 = .ok (.l2i, 1) := by decide +kernel
theorem d1_25 : decode prog_10_method_2_code 25 = .ok (.putfield 45, 3) := by decide +kernel
theorem sn5 {Z : State} {a0 : Array Value} (hw : ∀ d ∈ tables_1, d.before a0 Z = true) : Jvm.RoadKit.slotOf Z "com/example/vacant_throne/vacantthrone/core/NodeSettings" "id" "J" ≠ Jvm.RoadKit.slotOf Z "com/example/vacant_throne/vacantthrone/core/NodeSettings" "priority" "I" := slot_ne (Or.inr (ww hw 37 rfl)) (Or.inr (ww hw 41 rfl)) (by decide) (t := .long) (t' := .int) (by decide) (by decide)
theorem sn6 {Z : State} {a0 : Array Value} (hw : ∀ d ∈ tables_1, d.before a0 Z = true) : Jvm.RoadKit.slotOf Z "com/example/vacant_throne/vacantthrone/core/NodeSettings" "set" "I" ≠ Jvm.RoadKit.slotOf Z "com/example/vacant_throne/vacantthrone/core/NodeSettings" "priority" "I" := slot_ne (Or.inr (ww hw 45 rfl)) (Or.inr (ww hw 41 rfl)) (by decide) (t := .int) (t' := .int) (by decide) (by decide)
theorem sn7 {Z : State} {a0 : Array Value} (hw : ∀ d ∈ tables_1, d.before a0 Z = true) : Jvm.RoadKit.slotOf Z "com/example/vacant_throne/vacantthrone/core/NodeSettings" "periodMs" "I" ≠ Jvm.RoadKit.slotOf Z "com/example/vacant_throne/vacantthrone/core/NodeSettings" "priority" "I" := slot_ne (Or.inr (ww hw 49 rfl)) (Or.inr (ww hw 41 rfl)) (by decide) (t := .int) (t' := .int) (by decide) (by decide)
theorem sn8 {Z : State} {a0 : Array Value} (hw : ∀ d ∈ tables_1, d.before a0 Z = true) : Jvm.RoadKit.slotOf Z "com/example/vacant_throne/vacantthrone/core/NodeSettings" "missingMax" "I" ≠ Jvm.RoadKit.slotOf Z "com/example/vacant_throne/vacantthrone/core/NodeSettings" "priority" "I" := slot_ne (Or.inr (ww hw 53 rfl)) (Or.inr (ww hw 41 rfl)) (by decide) (t := .int) (t' := .int) (by decide) (by decide)
theorem sn9 {Z : State} {a0 : Array Value} (hw : ∀ d ∈ tables_1, d.before a0 Z = true) : Jvm.RoadKit.slotOf Z "com/example/vacant_throne/vacantthrone/core/NodeSettings" "prospectPeriods" "I" ≠ Jvm.RoadKit.slotOf Z "com/example/vacant_throne/vacantthrone/core/NodeSettings" "priority" "I" := slot_ne (Or.inr (ww hw 57 rfl)) (Or.inr (ww hw 41 rfl)) (by decide) (t := .int) (t' := .int) (by decide) (by decide)
theorem d1_28 : decode prog_10_method_2_code 28 = .ok (.aload_n 0, 1) := by decide +kernel
theorem d1_29 : decode prog_10_method_2_code 29 = .ok (.getstatic 1, 3) := by decide +kernel
theorem d1_32 : decode prog_10_method_2_code 32 = .ok (.iload 4, 2) := by decide +kernel
theorem d1_34 : decode prog_10_method_2_code 34 = .ok (.i2l, 1) := by decide +kernel
def Q5_9 (Z : State) (a_ID : Addr) (a_ID_key : Addr) (a_PRIORITY : Addr) (a_PRIORITY_key : Addr) (a_SET : Addr) (a_SET_key : Addr) (a_PERIOD_MS : Addr) (a_PERIOD_MS_key : Addr) (a_MISSING_MAX : Addr) (a_MISSING_MAX_key : Addr) (a_PROSPECT_PERIODS : Addr) (a_PROSPECT_PERIODS_key : Addr) (h0 : Heap) (n0 : Nat) (v : Option Value) (h : Heap) (L : List Loc) : Prop := Fr n0 L ∧ h = h0 ∧ ((v = some (.long (1 : Int64))))
set_option maxRecDepth 65536 in
set_option maxHeartbeats 40000000 in
theorem rm5_9 (l : Launch) (Z : State) (a0 : Array Value) (hw : ∀ d ∈ tables_1, d.before a0 Z = true) (ws : List Jvm.Cond) (a_ID : Addr) (a_ID_key : Addr) (a_PRIORITY : Addr) (a_PRIORITY_key : Addr) (a_SET : Addr) (a_SET_key : Addr) (a_PERIOD_MS : Addr) (a_PERIOD_MS_key : Addr) (a_MISSING_MAX : Addr) (a_MISSING_MAX_key : Addr) (a_PROSPECT_PERIODS : Addr) (a_PROSPECT_PERIODS_key : Addr) (h0 : Heap) (n0 : Nat) (O0 : Old Z n0 h0) (HE : Env1 Z a_ID a_ID_key a_PRIORITY a_PRIORITY_key a_SET a_SET_key a_PERIOD_MS a_PERIOD_MS_key a_MISSING_MAX a_MISSING_MAX_key a_PROSPECT_PERIODS a_PROSPECT_PERIODS_key)  :
    MetFree l M0 (head1 (Jvm.Cond.code M0 prog_14_method_2_code 7 (some .long) :: ws) ({ frames := 0, cells := 0, slots := 0, locals := 0 } : Room)) (fun a U => a = #[(.ref a_SET_key), (.long (1 : Int64)), (.long (0 : Int64)), (.long (65535 : Int64))] ∧ Z.Warmed39 U.vm ∧ U.heap = h0) (fun _ _ _ _ _ => True) (fun _ U o U' => ∃ v L, o = .returned v ∧ Q5_9 Z a_ID a_ID_key a_PRIORITY a_PRIORITY_key a_SET a_SET_key a_PERIOD_MS a_PERIOD_MS_key a_MISSING_MAX a_MISSING_MAX_key a_PROSPECT_PERIODS a_PROSPECT_PERIODS_key h0 n0 v U'.heap L ∧ FrameEnd U o U' L ({ frames := 0, cells := 0, slots := 0, locals := 0 } : Room).cells ({ frames := 0, cells := 0, slots := 0, locals := 0 } : Room).slots) := by
 refine MetFree.of_bodySF (plainFor_of_name pn3) hisR ?_
 intro p e s m args below meth c s₁ Bd hml0 hP hK
 obtain ⟨rfl, hZ, hh⟩ := hP
 have hx := Bd.exec
 have hby := Bd.bytes
 have hml : c.maxLocals = 7 := hml0
 have hown : s.vm.findClass "com/example/vacant_throne/vacantthrone/core/Ranges" = some m.cls := findClass_of_methodNamed Bd.named
 have hnm := (name_of_methodNamed Bd.named Bd.method).1
 have X0 : Stand p l e ({ frames := 0, cells := 0, slots := 0, locals := 0 } : Room) s m #[(.ref a_SET_key), (.long (1 : Int64)), (.long (0 : Int64)), (.long (65535 : Int64))] below meth c s₁ [] 0 0 := Stand.of_body Bd
 have e0 : s₁.heap = h0 := by rw [← hh, Bd.state]; rfl
 have N0 := Fr.nil n0
 let S0 : State → Prop := fun t => Steps p.tables e below (s₁.setTop (entryFrame m #[(.ref a_SET_key), (.long (1 : Int64)), (.long (0 : Int64)), (.long (65535 : Int64))] 7)) t
 let Ls1 : Array Slot := #[.val (.ref a_SET_key), .val (.long (1 : Int64)), .second, .val (.long (0 : Int64)), .second, .val (.long (65535 : Int64)), .second]
 have p0 : ∀ t, St p e below s₁ (mkF m 0 Ls1 []) t → S0 t := fun t k => castTop (ef4 m a_SET_key (1 : Int64) (0 : Int64) (65535 : Int64)) k
 have HE' := HE
 obtain ⟨Sa_ID, Ea_ID, Fa_ID_key, Ea_ID_key, Fa_ID_min, Fa_ID_max, Sa_PRIORITY, Ea_PRIORITY, Fa_PRIORITY_key, Ea_PRIORITY_key, Fa_PRIORITY_min, Fa_PRIORITY_max, Sa_SET, Ea_SET, Fa_SET_key, Ea_SET_key, Fa_SET_min, Fa_SET_max, Sa_PERIOD_MS, Ea_PERIOD_MS, Fa_PERIOD_MS_key, Ea_PERIOD_MS_key, Fa_PERIOD_MS_min, Fa_PERIOD_MS_max, Sa_MISSING_MAX, Ea_MISSING_MAX, Fa_MISSING_MAX_key, Ea_MISSING_MAX_key, Fa_MISSING_MAX_min, Fa_MISSING_MAX_max, Sa_PROSPECT_PERIODS, Ea_PROSPECT_PERIODS, Fa_PROSPECT_PERIODS_key, Ea_PROSPECT_PERIODS_key, Fa_PROSPECT_PERIODS_min, Fa_PROSPECT_PERIODS_max⟩ := HE
 have p2 : ∀ t, St p e below s₁ (mkF m 32 Ls1 [(.long (1 : Int64))]) t → S0 t := fun t k => p0 t (by
   refine XS.lloadN X0.here hx rfl (hb hby d5_0) rfl ?_
   refine XS.lloadN X0.here hx rfl (hb hby d5_1) rfl ?_
   refine XS.lcmp X0.here hx rfl (hb hby d5_2) rfl ?_
   refine XS.ifNo X0.here hx rfl (hb hby d5_3) rfl ((if0 _ _).trans (flt (by decide : ¬ ((1 : Int32) < (0 : Int32)))).1) ?_
   refine XS.lloadN X0.here hx rfl (hb hby d5_6) rfl ?_
   show St p e below s₁ (mkF m 7 Ls1 [(.long (1 : Int64))]) t
   refine XS.lload X0.here hx rfl (hb hby d5_7) rfl ?_
   refine XS.lcmp X0.here hx rfl (hb hby d5_9) rfl ?_
   refine XS.ifYes X0.here hx rfl (pc0 := 10) (pc' := 31) rfl (hb hby d5_10) rfl ((if0 _ _).trans (flt (by decide : ¬ ((0 : Int32) < (-1 : Int32)))).2.2.2) (by decide) (by decide) ?_
   refine XS.lloadN X0.here hx rfl (hb hby d5_31) rfl ?_
   exact k)
 obtain ⟨fs, hr, hrun, hended, hW, hsame⟩ := X0.leave (v := some (.long (1 : Int64))) (fun h => by rw [Bd.returns] at h; cases h)
 refine ⟨_, _, p2 _ ?_, hrun, hended, _, _, rfl, ?_, ⟨_, rfl⟩, hW, hsame.mono (by decide) (by decide)⟩
 · exact retOut X0 hx Bd.returns rfl (Or.inr (Or.inl ⟨rfl, rfl, _, rfl⟩)) (hb hby d5_32) hr
 · show Q5_9 Z a_ID a_ID_key a_PRIORITY a_PRIORITY_key a_SET a_SET_key a_PERIOD_MS a_PERIOD_MS_key a_MISSING_MAX a_MISSING_MAX_key a_PROSPECT_PERIODS a_PROSPECT_PERIODS_key h0 n0 _ s₁.heap _
   exact ⟨N0, e0, rfl⟩
def Q4_8 (Z : State) (a_ID : Addr) (a_ID_key : Addr) (a_PRIORITY : Addr) (a_PRIORITY_key : Addr) (a_SET : Addr) (a_SET_key : Addr) (a_PERIOD_MS : Addr) (a_PERIOD_MS_key : Addr) (a_MISSING_MAX : Addr) (a_MISSING_MAX_key : Addr) (a_PROSPECT_PERIODS : Addr) (a_PROSPECT_PERIODS_key : Addr) (h0 : Heap) (n0 : Nat) (v : Option Value) (h : Heap) (L : List Loc) : Prop := Fr n0 L ∧ h = h0 ∧ ((v = some (.long (1 : Int64))))
set_option maxRecDepth 65536 in
set_option maxHeartbeats 40000000 in
theorem rm4_8 (l : Launch) (Z : State) (a0 : Array Value) (hw : ∀ d ∈ tables_1, d.before a0 Z = true) (ws : List Jvm.Cond) (a_ID : Addr) (a_ID_key : Addr) (a_PRIORITY : Addr) (a_PRIORITY_key : Addr) (a_SET : Addr) (a_SET_key : Addr) (a_PERIOD_MS : Addr) (a_PERIOD_MS_key : Addr) (a_MISSING_MAX : Addr) (a_MISSING_MAX_key : Addr) (a_PROSPECT_PERIODS : Addr) (a_PROSPECT_PERIODS_key : Addr) (h0 : Heap) (n0 : Nat) (O0 : Old Z n0 h0) (HE : Env1 Z a_ID a_ID_key a_PRIORITY a_PRIORITY_key a_SET a_SET_key a_PERIOD_MS a_PERIOD_MS_key a_MISSING_MAX a_MISSING_MAX_key a_PROSPECT_PERIODS a_PROSPECT_PERIODS_key)  :
    MetFree l M1 (head1 (Jvm.Cond.code M1 prog_18_method_5_code 4 (some .long) :: ws) ({ frames := 1, cells := 0, slots := 0, locals := 18 } : Room)) (fun a U => a = #[(.ref a_SET), (.ref a_SET_key), (.long (1 : Int64))] ∧ Z.Warmed39 U.vm ∧ U.heap = h0) (fun _ _ _ _ _ => True) (fun _ U o U' => ∃ v L, o = .returned v ∧ Q4_8 Z a_ID a_ID_key a_PRIORITY a_PRIORITY_key a_SET a_SET_key a_PERIOD_MS a_PERIOD_MS_key a_MISSING_MAX a_MISSING_MAX_key a_PROSPECT_PERIODS a_PROSPECT_PERIODS_key h0 n0 v U'.heap L ∧ FrameEnd U o U' L ({ frames := 1, cells := 0, slots := 0, locals := 18 } : Room).cells ({ frames := 1, cells := 0, slots := 0, locals := 18 } : Room).slots) := by
 refine MetFree.of_bodySF (plainFor_of_name pn2) hisR ?_
 intro p e s m args below meth c s₁ Bd hml0 hP hK
 obtain ⟨rfl, hZ, hh⟩ := hP
 have hx := Bd.exec
 have hby := Bd.bytes
 have hml : c.maxLocals = 4 := hml0
 have hown : s.vm.findClass "com/example/vacant_throne/vacantthrone/core/Setting" = some m.cls := findClass_of_methodNamed Bd.named
 have hnm := (name_of_methodNamed Bd.named Bd.method).1
 have X0 : Stand p l e ({ frames := 1, cells := 0, slots := 0, locals := 18 } : Room) s m #[(.ref a_SET), (.ref a_SET_key), (.long (1 : Int64))] below meth c s₁ [] 0 0 := Stand.of_body Bd
 have e0 : s₁.heap = h0 := by rw [← hh, Bd.state]; rfl
 have N0 := Fr.nil n0
 let S0 : State → Prop := fun t => Steps p.tables e below (s₁.setTop (entryFrame m #[(.ref a_SET), (.ref a_SET_key), (.long (1 : Int64))] 4)) t
 let Ls1 : Array Slot := #[.val (.ref a_SET), .val (.ref a_SET_key), .val (.long (1 : Int64)), .second]
 have p0 : ∀ t, St p e below s₁ (mkF m 0 Ls1 []) t → S0 t := fun t k => castTop (ef3 m a_SET a_SET_key (1 : Int64)) k
 have HE' := HE
 obtain ⟨Sa_ID, Ea_ID, Fa_ID_key, Ea_ID_key, Fa_ID_min, Fa_ID_max, Sa_PRIORITY, Ea_PRIORITY, Fa_PRIORITY_key, Ea_PRIORITY_key, Fa_PRIORITY_min, Fa_PRIORITY_max, Sa_SET, Ea_SET, Fa_SET_key, Ea_SET_key, Fa_SET_min, Fa_SET_max, Sa_PERIOD_MS, Ea_PERIOD_MS, Fa_PERIOD_MS_key, Ea_PERIOD_MS_key, Fa_PERIOD_MS_min, Fa_PERIOD_MS_max, Sa_MISSING_MAX, Ea_MISSING_MAX, Fa_MISSING_MAX_key, Ea_MISSING_MAX_key, Fa_MISSING_MAX_min, Fa_MISSING_MAX_max, Sa_PROSPECT_PERIODS, Ea_PROSPECT_PERIODS, Fa_PROSPECT_PERIODS_key, Ea_PROSPECT_PERIODS_key, Fa_PROSPECT_PERIODS_min, Fa_PROSPECT_PERIODS_max⟩ := HE
 have p2 : ∀ t, St p e below s₁ (mkF m 3 Ls1 [(.ref a_SET), (.long (1 : Int64)), (.ref a_SET_key)]) t → S0 t := fun t k => p0 t (by
   refine XS.aloadN X0.here hx rfl (hb hby d4_0) rfl rfl ?_
   refine XS.lloadN X0.here hx rfl (hb hby d4_1) rfl ?_
   refine XS.aloadN X0.here hx rfl (hb hby d4_2) rfl rfl ?_
   exact k)
 obtain ⟨T3, X3, e3, st3⟩ := getF X0 hx hZ hown (host := "") (Or.inl (ww hw 28 rfl)) Via.refl e0 (Fa_SET_min.ext O0.2) (g := (mkF m 3 Ls1 [(.ref a_SET), (.long (1 : Int64)), (.ref a_SET_key)])) rfl rfl (hb hby d4_3)
 have p4 : ∀ t, St p e below T3 (mkF m 6 Ls1 [(.long (0 : Int64)), (.long (1 : Int64)), (.ref a_SET_key)]) t → S0 t := fun t k => p2 t (st3 t k)
 have p5 : ∀ t, St p e below T3 (mkF m 7 Ls1 [(.ref a_SET), (.long (0 : Int64)), (.long (1 : Int64)), (.ref a_SET_key)]) t → S0 t := fun t k => p4 t (by
   refine XS.aloadN X3.here hx rfl (hb hby d4_6) rfl rfl ?_
   exact k)
 obtain ⟨T6, X6, e6, st6⟩ := getF X3 hx hZ hown (host := "") (Or.inl (ww hw 30 rfl)) Via.refl e3 (Fa_SET_max.ext O0.2) (g := (mkF m 7 Ls1 [(.ref a_SET), (.long (0 : Int64)), (.long (1 : Int64)), (.ref a_SET_key)])) rfl rfl (hb hby d4_7)
 have p7 : ∀ t, St p e below T6 (mkF m 10 Ls1 [(.long (65535 : Int64)), (.long (0 : Int64)), (.long (1 : Int64)), (.ref a_SET_key)]) t → S0 t := fun t k => p5 t (st6 t k)
 obtain ⟨_, _, ⟨Tc8, Lc8, kc8, nc8⟩, -, Xc8, ⟨Lcc8, hQc8, lc8, yc8, zc8⟩, stc8⟩ := Jvm.LawKit.callS X6 hx (y := M0) hown (mvT hZ (ww hw 32 rfl)) (mvT hZ (ww hw 33 rfl)) (mvT hZ (ww hw 34 rfl)) (mvT hZ (ww hw 35 rfl)) (by decide) (backOf (W := 0) (rm5_9 l Z a0 hw [] a_ID a_ID_key a_PRIORITY a_PRIORITY_key a_SET a_SET_key a_PERIOD_MS a_PERIOD_MS_key a_MISSING_MAX a_MISSING_MAX_key a_PROSPECT_PERIODS a_PROSPECT_PERIODS_key h0 n0 O0 HE' ) hZ (ww hw 35 rfl) (ww hw 34 rfl) (by decide) (by decide)) (g := (mkF m 10 Ls1 [(.long (65535 : Int64)), (.long (0 : Int64)), (.long (1 : Int64)), (.ref a_SET_key)])) rfl (by rw [hml]; rfl) (argsL := [(.ref a_SET_key), (.long (1 : Int64)), (.long (0 : Int64)), (.long (65535 : Int64))]) (rest := []) (lenOf pd0 rfl) rfl (by show 2 * 0 + _ ≤ _; exact Nat.le_of_eq rfl) (hb hby d4_10) (fun _ _ => ⟨rfl, e6, (by decide : 0 + 0 ≤ _), (by decide : 0 + 0 ≤ _)⟩)
 dsimp only [Pt.U, Pt.locs, Pt.cells, Pt.slots] at Xc8 lc8 yc8 zc8 stc8 hQc8
 subst lc8 yc8 zc8
 obtain ⟨Nqc8, ec8, hAc8⟩ := hQc8
 have Nc8 := Fr.app N0 Nqc8
 obtain rfl := hAc8
 have p9 : ∀ t, St p e below Tc8 (mkF m 13 Ls1 [(.long (1 : Int64))]) t → S0 t := fun t k => p7 t (stc8 t k)
 obtain ⟨fs, hr, hrun, hended, hW, hsame⟩ := Xc8.leave (v := some (.long (1 : Int64))) (fun h => by rw [Bd.returns] at h; cases h)
 refine ⟨_, _, p9 _ ?_, hrun, hended, _, _, rfl, ?_, ⟨_, rfl⟩, hW, hsame.mono (by decide) (by decide)⟩
 · exact retOut Xc8 hx Bd.returns rfl (Or.inr (Or.inl ⟨rfl, rfl, _, rfl⟩)) (hb hby d4_13) hr
 · show Q4_8 Z a_ID a_ID_key a_PRIORITY a_PRIORITY_key a_SET a_SET_key a_PERIOD_MS a_PERIOD_MS_key a_MISSING_MAX a_MISSING_MAX_key a_PROSPECT_PERIODS a_PROSPECT_PERIODS_key h0 n0 _ Tc8.heap _
   exact ⟨Nc8, ec8, rfl⟩
def Q3_7 (Z : State) (a_ID : Addr) (a_ID_key : Addr) (a_PRIORITY : Addr) (a_PRIORITY_key : Addr) (a_SET : Addr) (a_SET_key : Addr) (a_PERIOD_MS : Addr) (a_PERIOD_MS_key : Addr) (a_MISSING_MAX : Addr) (a_MISSING_MAX_key : Addr) (a_PROSPECT_PERIODS : Addr) (a_PROSPECT_PERIODS_key : Addr) (h0 : Heap) (n0 : Nat) (v : Option Value) (h : Heap) (L : List Loc) : Prop := Fr n0 L ∧ h = h0 ∧ ((v = some (.long (1 : Int64))))
set_option maxRecDepth 65536 in
set_option maxHeartbeats 40000000 in
theorem rm3_7 (l : Launch) (Z : State) (a0 : Array Value) (hw : ∀ d ∈ tables_1, d.before a0 Z = true) (ws : List Jvm.Cond) (a_ID : Addr) (a_ID_key : Addr) (a_PRIORITY : Addr) (a_PRIORITY_key : Addr) (a_SET : Addr) (a_SET_key : Addr) (a_PERIOD_MS : Addr) (a_PERIOD_MS_key : Addr) (a_MISSING_MAX : Addr) (a_MISSING_MAX_key : Addr) (a_PROSPECT_PERIODS : Addr) (a_PROSPECT_PERIODS_key : Addr) (h0 : Heap) (n0 : Nat) (O0 : Old Z n0 h0) (HE : Env1 Z a_ID a_ID_key a_PRIORITY a_PRIORITY_key a_SET a_SET_key a_PERIOD_MS a_PERIOD_MS_key a_MISSING_MAX a_MISSING_MAX_key a_PROSPECT_PERIODS a_PROSPECT_PERIODS_key)  :
    MetFree l M2 (head1 (Jvm.Cond.code M2 prog_18_method_4_code 3 (some .long) :: ws) ({ frames := 2, cells := 0, slots := 0, locals := 33 } : Room)) (fun a U => a = #[(.ref a_SET), (.long (1 : Int64))] ∧ Z.Warmed39 U.vm ∧ U.heap = h0) (fun _ _ _ _ _ => True) (fun _ U o U' => ∃ v L, o = .returned v ∧ Q3_7 Z a_ID a_ID_key a_PRIORITY a_PRIORITY_key a_SET a_SET_key a_PERIOD_MS a_PERIOD_MS_key a_MISSING_MAX a_MISSING_MAX_key a_PROSPECT_PERIODS a_PROSPECT_PERIODS_key h0 n0 v U'.heap L ∧ FrameEnd U o U' L ({ frames := 2, cells := 0, slots := 0, locals := 33 } : Room).cells ({ frames := 2, cells := 0, slots := 0, locals := 33 } : Room).slots) := by
 refine MetFree.of_bodySF (plainFor_of_name pn2) hisR ?_
 intro p e s m args below meth c s₁ Bd hml0 hP hK
 obtain ⟨rfl, hZ, hh⟩ := hP
 have hx := Bd.exec
 have hby := Bd.bytes
 have hml : c.maxLocals = 3 := hml0
 have hown : s.vm.findClass "com/example/vacant_throne/vacantthrone/core/Setting" = some m.cls := findClass_of_methodNamed Bd.named
 have hnm := (name_of_methodNamed Bd.named Bd.method).1
 have X0 : Stand p l e ({ frames := 2, cells := 0, slots := 0, locals := 33 } : Room) s m #[(.ref a_SET), (.long (1 : Int64))] below meth c s₁ [] 0 0 := Stand.of_body Bd
 have e0 : s₁.heap = h0 := by rw [← hh, Bd.state]; rfl
 have N0 := Fr.nil n0
 let S0 : State → Prop := fun t => Steps p.tables e below (s₁.setTop (entryFrame m #[(.ref a_SET), (.long (1 : Int64))] 3)) t
 have p0 : ∀ t, St p e below s₁ (mkF m 0 #[.val (.ref a_SET), .val (.long (1 : Int64)), .second] []) t → S0 t := fun t k => castTop (ef2 m a_SET (1 : Int64)) k
 have HE' := HE
 obtain ⟨Sa_ID, Ea_ID, Fa_ID_key, Ea_ID_key, Fa_ID_min, Fa_ID_max, Sa_PRIORITY, Ea_PRIORITY, Fa_PRIORITY_key, Ea_PRIORITY_key, Fa_PRIORITY_min, Fa_PRIORITY_max, Sa_SET, Ea_SET, Fa_SET_key, Ea_SET_key, Fa_SET_min, Fa_SET_max, Sa_PERIOD_MS, Ea_PERIOD_MS, Fa_PERIOD_MS_key, Ea_PERIOD_MS_key, Fa_PERIOD_MS_min, Fa_PERIOD_MS_max, Sa_MISSING_MAX, Ea_MISSING_MAX, Fa_MISSING_MAX_key, Ea_MISSING_MAX_key, Fa_MISSING_MAX_min, Fa_MISSING_MAX_max, Sa_PROSPECT_PERIODS, Ea_PROSPECT_PERIODS, Fa_PROSPECT_PERIODS_key, Ea_PROSPECT_PERIODS_key, Fa_PROSPECT_PERIODS_min, Fa_PROSPECT_PERIODS_max⟩ := HE
 have p1 : ∀ t, St p e below s₁ (mkF m 2 #[.val (.ref a_SET), .val (.long (1 : Int64)), .second] [(.ref a_SET), (.ref a_SET)]) t → S0 t := fun t k => p0 t (by
   refine XS.aloadN X0.here hx rfl (hb hby d3_0) rfl rfl ?_
   refine XS.aloadN X0.here hx rfl (hb hby d3_1) rfl rfl ?_
   exact k)
 obtain ⟨T2, X2, e2, st2⟩ := getF X0 hx hZ hown (host := "") (Or.inl (ww hw 21 rfl)) Via.refl e0 (Fa_SET_key.ext O0.2) (g := (mkF m 2 #[.val (.ref a_SET), .val (.long (1 : Int64)), .second] [(.ref a_SET), (.ref a_SET)])) rfl rfl (hb hby d3_2)
 have p3 : ∀ t, St p e below T2 (mkF m 5 #[.val (.ref a_SET), .val (.long (1 : Int64)), .second] [(.ref a_SET_key), (.ref a_SET)]) t → S0 t := fun t k => p1 t (st2 t k)
 have p4 : ∀ t, St p e below T2 (mkF m 6 #[.val (.ref a_SET), .val (.long (1 : Int64)), .second] [(.long (1 : Int64)), (.ref a_SET_key), (.ref a_SET)]) t → S0 t := fun t k => p3 t (by
   refine XS.lloadN X2.here hx rfl (hb hby d3_5) rfl ?_
   exact k)
 obtain ⟨cqc5, kqc5, qc5a, qc5b, qc5c⟩ := isOf hZ e2 (Ea_SET.ext O0.2)
 obtain ⟨_, _, ⟨Tc5, Lc5, kc5, nc5⟩, -, Xc5, ⟨Lcc5, hQc5, lc5, yc5, zc5⟩, stc5⟩ := X2.virtualBack hx (y := M1) (z := M1) hown (mvT hZ (ww hw 23 rfl)) (mvT hZ (ww hw 24 rfl)) (notFace_of_selects (args := #[]) (mvT hZ (ww hw 26 rfl))) (mvT hZ (ww hw 26 rfl)) (mvT hZ (ww hw 25 rfl)) (by decide) (backOf (W := 0) (rm4_8 l Z a0 hw [] a_ID a_ID_key a_PRIORITY a_PRIORITY_key a_SET a_SET_key a_PERIOD_MS a_PERIOD_MS_key a_MISSING_MAX a_MISSING_MAX_key a_PROSPECT_PERIODS a_PROSPECT_PERIODS_key h0 n0 O0 HE' ) hZ (ww hw 27 rfl) (ww hw 14 rfl) (by decide) (by decide)) qc5a qc5c (g := (mkF m 6 #[.val (.ref a_SET), .val (.long (1 : Int64)), .second] [(.long (1 : Int64)), (.ref a_SET_key), (.ref a_SET)])) rfl (by rw [hml]; rfl) (Steps.refl _) (argsL := [(.ref a_SET_key), (.long (1 : Int64))]) (rest := []) (lenOf pd1 rfl) rfl (by show 2 * 0 + _ ≤ _; exact Nat.le_of_eq rfl) (hb hby d3_6) (fun _ _ => ⟨rfl, e2, (by decide : 0 + 0 ≤ _), (by decide : 0 + 0 ≤ _)⟩)
 dsimp only [Pt.U, Pt.locs, Pt.cells, Pt.slots] at Xc5 lc5 yc5 zc5 stc5 hQc5
 subst lc5 yc5 zc5
 obtain ⟨Nqc5, ec5, hAc5⟩ := hQc5
 have Nc5 := Fr.app N0 Nqc5
 obtain rfl := hAc5
 have p6 : ∀ t, St p e below Tc5 (mkF m 9 #[.val (.ref a_SET), .val (.long (1 : Int64)), .second] [(.long (1 : Int64))]) t → S0 t := fun t k => p4 t (stc5.trans k)
 obtain ⟨fs, hr, hrun, hended, hW, hsame⟩ := Xc5.leave (v := some (.long (1 : Int64))) (fun h => by rw [Bd.returns] at h; cases h)
 refine ⟨_, _, p6 _ ?_, hrun, hended, _, _, rfl, ?_, ⟨_, rfl⟩, hW, hsame.mono (by decide) (by decide)⟩
 · exact retOut Xc5 hx Bd.returns rfl (Or.inr (Or.inl ⟨rfl, rfl, _, rfl⟩)) (hb hby d3_9) hr
 · show Q3_7 Z a_ID a_ID_key a_PRIORITY a_PRIORITY_key a_SET a_SET_key a_PERIOD_MS a_PERIOD_MS_key a_MISSING_MAX a_MISSING_MAX_key a_PROSPECT_PERIODS a_PROSPECT_PERIODS_key h0 n0 _ Tc5.heap _
   exact ⟨Nc5, ec5, rfl⟩
theorem d1_35 : decode prog_10_method_2_code 35 = .ok (.invokevirtual 34, 3) := by decide +kernel
theorem d1_38 : decode prog_10_method_2_code 38 = .ok (.l2i, 1) := by decide +kernel
theorem d1_39 : decode prog_10_method_2_code 39 = .ok (.putfield 49, 3) := by decide +kernel
theorem sn10 {Z : State} {a0 : Array Value} (hw : ∀ d ∈ tables_1, d.before a0 Z = true) : Jvm.RoadKit.slotOf Z "com/example/vacant_throne/vacantthrone/core/NodeSettings" "id" "J" ≠ Jvm.RoadKit.slotOf Z "com/example/vacant_throne/vacantthrone/core/NodeSettings" "set" "I" := slot_ne (Or.inr (ww hw 37 rfl)) (Or.inr (ww hw 45 rfl)) (by decide) (t := .long) (t' := .int) (by decide) (by decide)
theorem sn11 {Z : State} {a0 : Array Value} (hw : ∀ d ∈ tables_1, d.before a0 Z = true) : Jvm.RoadKit.slotOf Z "com/example/vacant_throne/vacantthrone/core/NodeSettings" "priority" "I" ≠ Jvm.RoadKit.slotOf Z "com/example/vacant_throne/vacantthrone/core/NodeSettings" "set" "I" := slot_ne (Or.inr (ww hw 41 rfl)) (Or.inr (ww hw 45 rfl)) (by decide) (t := .int) (t' := .int) (by decide) (by decide)
theorem sn12 {Z : State} {a0 : Array Value} (hw : ∀ d ∈ tables_1, d.before a0 Z = true) : Jvm.RoadKit.slotOf Z "com/example/vacant_throne/vacantthrone/core/NodeSettings" "periodMs" "I" ≠ Jvm.RoadKit.slotOf Z "com/example/vacant_throne/vacantthrone/core/NodeSettings" "set" "I" := slot_ne (Or.inr (ww hw 49 rfl)) (Or.inr (ww hw 45 rfl)) (by decide) (t := .int) (t' := .int) (by decide) (by decide)
theorem sn13 {Z : State} {a0 : Array Value} (hw : ∀ d ∈ tables_1, d.before a0 Z = true) : Jvm.RoadKit.slotOf Z "com/example/vacant_throne/vacantthrone/core/NodeSettings" "missingMax" "I" ≠ Jvm.RoadKit.slotOf Z "com/example/vacant_throne/vacantthrone/core/NodeSettings" "set" "I" := slot_ne (Or.inr (ww hw 53 rfl)) (Or.inr (ww hw 45 rfl)) (by decide) (t := .int) (t' := .int) (by decide) (by decide)
theorem sn14 {Z : State} {a0 : Array Value} (hw : ∀ d ∈ tables_1, d.before a0 Z = true) : Jvm.RoadKit.slotOf Z "com/example/vacant_throne/vacantthrone/core/NodeSettings" "prospectPeriods" "I" ≠ Jvm.RoadKit.slotOf Z "com/example/vacant_throne/vacantthrone/core/NodeSettings" "set" "I" := slot_ne (Or.inr (ww hw 57 rfl)) (Or.inr (ww hw 45 rfl)) (by decide) (t := .int) (t' := .int) (by decide) (by decide)
theorem d1_42 : decode prog_10_method_2_code 42 = .ok (.aload_n 0, 1) := by decide +kernel
theorem d1_43 : decode prog_10_method_2_code 43 = .ok (.getstatic 13, 3) := by decide +kernel
theorem d1_46 : decode prog_10_method_2_code 46 = .ok (.iload 5, 2) := by decide +kernel
theorem d1_48 : decode prog_10_method_2_code 48 = .ok (.i2l, 1) := by decide +kernel
def Q5_12 (Z : State) (a_ID : Addr) (a_ID_key : Addr) (a_PRIORITY : Addr) (a_PRIORITY_key : Addr) (a_SET : Addr) (a_SET_key : Addr) (a_PERIOD_MS : Addr) (a_PERIOD_MS_key : Addr) (a_MISSING_MAX : Addr) (a_MISSING_MAX_key : Addr) (a_PROSPECT_PERIODS : Addr) (a_PROSPECT_PERIODS_key : Addr) (h0 : Heap) (n0 : Nat) (v : Option Value) (h : Heap) (L : List Loc) : Prop := Fr n0 L ∧ h = h0 ∧ ((v = some (.long (100 : Int64))))
set_option maxRecDepth 65536 in
set_option maxHeartbeats 40000000 in
theorem rm5_12 (l : Launch) (Z : State) (a0 : Array Value) (hw : ∀ d ∈ tables_1, d.before a0 Z = true) (ws : List Jvm.Cond) (a_ID : Addr) (a_ID_key : Addr) (a_PRIORITY : Addr) (a_PRIORITY_key : Addr) (a_SET : Addr) (a_SET_key : Addr) (a_PERIOD_MS : Addr) (a_PERIOD_MS_key : Addr) (a_MISSING_MAX : Addr) (a_MISSING_MAX_key : Addr) (a_PROSPECT_PERIODS : Addr) (a_PROSPECT_PERIODS_key : Addr) (h0 : Heap) (n0 : Nat) (O0 : Old Z n0 h0) (HE : Env1 Z a_ID a_ID_key a_PRIORITY a_PRIORITY_key a_SET a_SET_key a_PERIOD_MS a_PERIOD_MS_key a_MISSING_MAX a_MISSING_MAX_key a_PROSPECT_PERIODS a_PROSPECT_PERIODS_key)  :
    MetFree l M0 (head1 (Jvm.Cond.code M0 prog_14_method_2_code 7 (some .long) :: ws) ({ frames := 0, cells := 0, slots := 0, locals := 0 } : Room)) (fun a U => a = #[(.ref a_PERIOD_MS_key), (.long (100 : Int64)), (.long (10 : Int64)), (.long (60000 : Int64))] ∧ Z.Warmed39 U.vm ∧ U.heap = h0) (fun _ _ _ _ _ => True) (fun _ U o U' => ∃ v L, o = .returned v ∧ Q5_12 Z a_ID a_ID_key a_PRIORITY a_PRIORITY_key a_SET a_SET_key a_PERIOD_MS a_PERIOD_MS_key a_MISSING_MAX a_MISSING_MAX_key a_PROSPECT_PERIODS a_PROSPECT_PERIODS_key h0 n0 v U'.heap L ∧ FrameEnd U o U' L ({ frames := 0, cells := 0, slots := 0, locals := 0 } : Room).cells ({ frames := 0, cells := 0, slots := 0, locals := 0 } : Room).slots) := by
 refine MetFree.of_bodySF (plainFor_of_name pn3) hisR ?_
 intro p e s m args below meth c s₁ Bd hml0 hP hK
 obtain ⟨rfl, hZ, hh⟩ := hP
 have hx := Bd.exec
 have hby := Bd.bytes
 have hml : c.maxLocals = 7 := hml0
 have hown : s.vm.findClass "com/example/vacant_throne/vacantthrone/core/Ranges" = some m.cls := findClass_of_methodNamed Bd.named
 have hnm := (name_of_methodNamed Bd.named Bd.method).1
 have X0 : Stand p l e ({ frames := 0, cells := 0, slots := 0, locals := 0 } : Room) s m #[(.ref a_PERIOD_MS_key), (.long (100 : Int64)), (.long (10 : Int64)), (.long (60000 : Int64))] below meth c s₁ [] 0 0 := Stand.of_body Bd
 have e0 : s₁.heap = h0 := by rw [← hh, Bd.state]; rfl
 have N0 := Fr.nil n0
 let S0 : State → Prop := fun t => Steps p.tables e below (s₁.setTop (entryFrame m #[(.ref a_PERIOD_MS_key), (.long (100 : Int64)), (.long (10 : Int64)), (.long (60000 : Int64))] 7)) t
 let Ls1 : Array Slot := #[.val (.ref a_PERIOD_MS_key), .val (.long (100 : Int64)), .second, .val (.long (10 : Int64)), .second, .val (.long (60000 : Int64)), .second]
 have p0 : ∀ t, St p e below s₁ (mkF m 0 Ls1 []) t → S0 t := fun t k => castTop (ef4 m a_PERIOD_MS_key (100 : Int64) (10 : Int64) (60000 : Int64)) k
 have HE' := HE
 obtain ⟨Sa_ID, Ea_ID, Fa_ID_key, Ea_ID_key, Fa_ID_min, Fa_ID_max, Sa_PRIORITY, Ea_PRIORITY, Fa_PRIORITY_key, Ea_PRIORITY_key, Fa_PRIORITY_min, Fa_PRIORITY_max, Sa_SET, Ea_SET, Fa_SET_key, Ea_SET_key, Fa_SET_min, Fa_SET_max, Sa_PERIOD_MS, Ea_PERIOD_MS, Fa_PERIOD_MS_key, Ea_PERIOD_MS_key, Fa_PERIOD_MS_min, Fa_PERIOD_MS_max, Sa_MISSING_MAX, Ea_MISSING_MAX, Fa_MISSING_MAX_key, Ea_MISSING_MAX_key, Fa_MISSING_MAX_min, Fa_MISSING_MAX_max, Sa_PROSPECT_PERIODS, Ea_PROSPECT_PERIODS, Fa_PROSPECT_PERIODS_key, Ea_PROSPECT_PERIODS_key, Fa_PROSPECT_PERIODS_min, Fa_PROSPECT_PERIODS_max⟩ := HE
 have p2 : ∀ t, St p e below s₁ (mkF m 32 Ls1 [(.long (100 : Int64))]) t → S0 t := fun t k => p0 t (by
   refine XS.lloadN X0.here hx rfl (hb hby d5_0) rfl ?_
   refine XS.lloadN X0.here hx rfl (hb hby d5_1) rfl ?_
   refine XS.lcmp X0.here hx rfl (hb hby d5_2) rfl ?_
   refine XS.ifNo X0.here hx rfl (hb hby d5_3) rfl ((if0 _ _).trans (flt (by decide : ¬ ((1 : Int32) < (0 : Int32)))).1) ?_
   refine XS.lloadN X0.here hx rfl (hb hby d5_6) rfl ?_
   show St p e below s₁ (mkF m 7 Ls1 [(.long (100 : Int64))]) t
   refine XS.lload X0.here hx rfl (hb hby d5_7) rfl ?_
   refine XS.lcmp X0.here hx rfl (hb hby d5_9) rfl ?_
   refine XS.ifYes X0.here hx rfl (pc0 := 10) (pc' := 31) rfl (hb hby d5_10) rfl ((if0 _ _).trans (flt (by decide : ¬ ((0 : Int32) < (-1 : Int32)))).2.2.2) (by decide) (by decide) ?_
   refine XS.lloadN X0.here hx rfl (hb hby d5_31) rfl ?_
   exact k)
 obtain ⟨fs, hr, hrun, hended, hW, hsame⟩ := X0.leave (v := some (.long (100 : Int64))) (fun h => by rw [Bd.returns] at h; cases h)
 refine ⟨_, _, p2 _ ?_, hrun, hended, _, _, rfl, ?_, ⟨_, rfl⟩, hW, hsame.mono (by decide) (by decide)⟩
 · exact retOut X0 hx Bd.returns rfl (Or.inr (Or.inl ⟨rfl, rfl, _, rfl⟩)) (hb hby d5_32) hr
 · show Q5_12 Z a_ID a_ID_key a_PRIORITY a_PRIORITY_key a_SET a_SET_key a_PERIOD_MS a_PERIOD_MS_key a_MISSING_MAX a_MISSING_MAX_key a_PROSPECT_PERIODS a_PROSPECT_PERIODS_key h0 n0 _ s₁.heap _
   exact ⟨N0, e0, rfl⟩
def Q4_11 (Z : State) (a_ID : Addr) (a_ID_key : Addr) (a_PRIORITY : Addr) (a_PRIORITY_key : Addr) (a_SET : Addr) (a_SET_key : Addr) (a_PERIOD_MS : Addr) (a_PERIOD_MS_key : Addr) (a_MISSING_MAX : Addr) (a_MISSING_MAX_key : Addr) (a_PROSPECT_PERIODS : Addr) (a_PROSPECT_PERIODS_key : Addr) (h0 : Heap) (n0 : Nat) (v : Option Value) (h : Heap) (L : List Loc) : Prop := Fr n0 L ∧ h = h0 ∧ ((v = some (.long (100 : Int64))))
set_option maxRecDepth 65536 in
set_option maxHeartbeats 40000000 in
theorem rm4_11 (l : Launch) (Z : State) (a0 : Array Value) (hw : ∀ d ∈ tables_1, d.before a0 Z = true) (ws : List Jvm.Cond) (a_ID : Addr) (a_ID_key : Addr) (a_PRIORITY : Addr) (a_PRIORITY_key : Addr) (a_SET : Addr) (a_SET_key : Addr) (a_PERIOD_MS : Addr) (a_PERIOD_MS_key : Addr) (a_MISSING_MAX : Addr) (a_MISSING_MAX_key : Addr) (a_PROSPECT_PERIODS : Addr) (a_PROSPECT_PERIODS_key : Addr) (h0 : Heap) (n0 : Nat) (O0 : Old Z n0 h0) (HE : Env1 Z a_ID a_ID_key a_PRIORITY a_PRIORITY_key a_SET a_SET_key a_PERIOD_MS a_PERIOD_MS_key a_MISSING_MAX a_MISSING_MAX_key a_PROSPECT_PERIODS a_PROSPECT_PERIODS_key)  :
    MetFree l M1 (head1 (Jvm.Cond.code M1 prog_18_method_5_code 4 (some .long) :: ws) ({ frames := 1, cells := 0, slots := 0, locals := 18 } : Room)) (fun a U => a = #[(.ref a_PERIOD_MS), (.ref a_PERIOD_MS_key), (.long (100 : Int64))] ∧ Z.Warmed39 U.vm ∧ U.heap = h0) (fun _ _ _ _ _ => True) (fun _ U o U' => ∃ v L, o = .returned v ∧ Q4_11 Z a_ID a_ID_key a_PRIORITY a_PRIORITY_key a_SET a_SET_key a_PERIOD_MS a_PERIOD_MS_key a_MISSING_MAX a_MISSING_MAX_key a_PROSPECT_PERIODS a_PROSPECT_PERIODS_key h0 n0 v U'.heap L ∧ FrameEnd U o U' L ({ frames := 1, cells := 0, slots := 0, locals := 18 } : Room).cells ({ frames := 1, cells := 0, slots := 0, locals := 18 } : Room).slots) := by
 refine MetFree.of_bodySF (plainFor_of_name pn2) hisR ?_
 intro p e s m args below meth c s₁ Bd hml0 hP hK
 obtain ⟨rfl, hZ, hh⟩ := hP
 have hx := Bd.exec
 have hby := Bd.bytes
 have hml : c.maxLocals = 4 := hml0
 have hown : s.vm.findClass "com/example/vacant_throne/vacantthrone/core/Setting" = some m.cls := findClass_of_methodNamed Bd.named
 have hnm := (name_of_methodNamed Bd.named Bd.method).1
 have X0 : Stand p l e ({ frames := 1, cells := 0, slots := 0, locals := 18 } : Room) s m #[(.ref a_PERIOD_MS), (.ref a_PERIOD_MS_key), (.long (100 : Int64))] below meth c s₁ [] 0 0 := Stand.of_body Bd
 have e0 : s₁.heap = h0 := by rw [← hh, Bd.state]; rfl
 have N0 := Fr.nil n0
 let S0 : State → Prop := fun t => Steps p.tables e below (s₁.setTop (entryFrame m #[(.ref a_PERIOD_MS), (.ref a_PERIOD_MS_key), (.long (100 : Int64))] 4)) t
 let Ls1 : Array Slot := #[.val (.ref a_PERIOD_MS), .val (.ref a_PERIOD_MS_key), .val (.long (100 : Int64)), .second]
 have p0 : ∀ t, St p e below s₁ (mkF m 0 Ls1 []) t → S0 t := fun t k => castTop (ef3 m a_PERIOD_MS a_PERIOD_MS_key (100 : Int64)) k
 have HE' := HE
 obtain ⟨Sa_ID, Ea_ID, Fa_ID_key, Ea_ID_key, Fa_ID_min, Fa_ID_max, Sa_PRIORITY, Ea_PRIORITY, Fa_PRIORITY_key, Ea_PRIORITY_key, Fa_PRIORITY_min, Fa_PRIORITY_max, Sa_SET, Ea_SET, Fa_SET_key, Ea_SET_key, Fa_SET_min, Fa_SET_max, Sa_PERIOD_MS, Ea_PERIOD_MS, Fa_PERIOD_MS_key, Ea_PERIOD_MS_key, Fa_PERIOD_MS_min, Fa_PERIOD_MS_max, Sa_MISSING_MAX, Ea_MISSING_MAX, Fa_MISSING_MAX_key, Ea_MISSING_MAX_key, Fa_MISSING_MAX_min, Fa_MISSING_MAX_max, Sa_PROSPECT_PERIODS, Ea_PROSPECT_PERIODS, Fa_PROSPECT_PERIODS_key, Ea_PROSPECT_PERIODS_key, Fa_PROSPECT_PERIODS_min, Fa_PROSPECT_PERIODS_max⟩ := HE
 have p2 : ∀ t, St p e below s₁ (mkF m 3 Ls1 [(.ref a_PERIOD_MS), (.long (100 : Int64)), (.ref a_PERIOD_MS_key)]) t → S0 t := fun t k => p0 t (by
   refine XS.aloadN X0.here hx rfl (hb hby d4_0) rfl rfl ?_
   refine XS.lloadN X0.here hx rfl (hb hby d4_1) rfl ?_
   refine XS.aloadN X0.here hx rfl (hb hby d4_2) rfl rfl ?_
   exact k)
 obtain ⟨T3, X3, e3, st3⟩ := getF X0 hx hZ hown (host := "") (Or.inl (ww hw 28 rfl)) Via.refl e0 (Fa_PERIOD_MS_min.ext O0.2) (g := (mkF m 3 Ls1 [(.ref a_PERIOD_MS), (.long (100 : Int64)), (.ref a_PERIOD_MS_key)])) rfl rfl (hb hby d4_3)
 have p4 : ∀ t, St p e below T3 (mkF m 6 Ls1 [(.long (10 : Int64)), (.long (100 : Int64)), (.ref a_PERIOD_MS_key)]) t → S0 t := fun t k => p2 t (st3 t k)
 have p5 : ∀ t, St p e below T3 (mkF m 7 Ls1 [(.ref a_PERIOD_MS), (.long (10 : Int64)), (.long (100 : Int64)), (.ref a_PERIOD_MS_key)]) t → S0 t := fun t k => p4 t (by
   refine XS.aloadN X3.here hx rfl (hb hby d4_6) rfl rfl ?_
   exact k)
 obtain ⟨T6, X6, e6, st6⟩ := getF X3 hx hZ hown (host := "") (Or.inl (ww hw 30 rfl)) Via.refl e3 (Fa_PERIOD_MS_max.ext O0.2) (g := (mkF m 7 Ls1 [(.ref a_PERIOD_MS), (.long (10 : Int64)), (.long (100 : Int64)), (.ref a_PERIOD_MS_key)])) rfl rfl (hb hby d4_7)
 have p7 : ∀ t, St p e below T6 (mkF m 10 Ls1 [(.long (60000 : Int64)), (.long (10 : Int64)), (.long (100 : Int64)), (.ref a_PERIOD_MS_key)]) t → S0 t := fun t k => p5 t (st6 t k)
 obtain ⟨_, _, ⟨Tc8, Lc8, kc8, nc8⟩, -, Xc8, ⟨Lcc8, hQc8, lc8, yc8, zc8⟩, stc8⟩ := Jvm.LawKit.callS X6 hx (y := M0) hown (mvT hZ (ww hw 32 rfl)) (mvT hZ (ww hw 33 rfl)) (mvT hZ (ww hw 34 rfl)) (mvT hZ (ww hw 35 rfl)) (by decide) (backOf (W := 0) (rm5_12 l Z a0 hw [] a_ID a_ID_key a_PRIORITY a_PRIORITY_key a_SET a_SET_key a_PERIOD_MS a_PERIOD_MS_key a_MISSING_MAX a_MISSING_MAX_key a_PROSPECT_PERIODS a_PROSPECT_PERIODS_key h0 n0 O0 HE' ) hZ (ww hw 35 rfl) (ww hw 34 rfl) (by decide) (by decide)) (g := (mkF m 10 Ls1 [(.long (60000 : Int64)), (.long (10 : Int64)), (.long (100 : Int64)), (.ref a_PERIOD_MS_key)])) rfl (by rw [hml]; rfl) (argsL := [(.ref a_PERIOD_MS_key), (.long (100 : Int64)), (.long (10 : Int64)), (.long (60000 : Int64))]) (rest := []) (lenOf pd0 rfl) rfl (by show 2 * 0 + _ ≤ _; exact Nat.le_of_eq rfl) (hb hby d4_10) (fun _ _ => ⟨rfl, e6, (by decide : 0 + 0 ≤ _), (by decide : 0 + 0 ≤ _)⟩)
 dsimp only [Pt.U, Pt.locs, Pt.cells, Pt.slots] at Xc8 lc8 yc8 zc8 stc8 hQc8
 subst lc8 yc8 zc8
 obtain ⟨Nqc8, ec8, hAc8⟩ := hQc8
 have Nc8 := Fr.app N0 Nqc8
 obtain rfl := hAc8
 have p9 : ∀ t, St p e below Tc8 (mkF m 13 Ls1 [(.long (100 : Int64))]) t → S0 t := fun t k => p7 t (stc8 t k)
 obtain ⟨fs, hr, hrun, hended, hW, hsame⟩ := Xc8.leave (v := some (.long (100 : Int64))) (fun h => by rw [Bd.returns] at h; cases h)
 refine ⟨_, _, p9 _ ?_, hrun, hended, _, _, rfl, ?_, ⟨_, rfl⟩, hW, hsame.mono (by decide) (by decide)⟩
 · exact retOut Xc8 hx Bd.returns rfl (Or.inr (Or.inl ⟨rfl, rfl, _, rfl⟩)) (hb hby d4_13) hr
 · show Q4_11 Z a_ID a_ID_key a_PRIORITY a_PRIORITY_key a_SET a_SET_key a_PERIOD_MS a_PERIOD_MS_key a_MISSING_MAX a_MISSING_MAX_key a_PROSPECT_PERIODS a_PROSPECT_PERIODS_key h0 n0 _ Tc8.heap _
   exact ⟨Nc8, ec8, rfl⟩
def Q3_10 (Z : State) (a_ID : Addr) (a_ID_key : Addr) (a_PRIORITY : Addr) (a_PRIORITY_key : Addr) (a_SET : Addr) (a_SET_key : Addr) (a_PERIOD_MS : Addr) (a_PERIOD_MS_key : Addr) (a_MISSING_MAX : Addr) (a_MISSING_MAX_key : Addr) (a_PROSPECT_PERIODS : Addr) (a_PROSPECT_PERIODS_key : Addr) (h0 : Heap) (n0 : Nat) (v : Option Value) (h : Heap) (L : List Loc) : Prop := Fr n0 L ∧ h = h0 ∧ ((v = some (.long (100 : Int64))))
set_option maxRecDepth 65536 in
set_option maxHeartbeats 40000000 in
theorem rm3_10 (l : Launch) (Z : State) (a0 : Array Value) (hw : ∀ d ∈ tables_1, d.before a0 Z = true) (ws : List Jvm.Cond) (a_ID : Addr) (a_ID_key : Addr) (a_PRIORITY : Addr) (a_PRIORITY_key : Addr) (a_SET : Addr) (a_SET_key : Addr) (a_PERIOD_MS : Addr) (a_PERIOD_MS_key : Addr) (a_MISSING_MAX : Addr) (a_MISSING_MAX_key : Addr) (a_PROSPECT_PERIODS : Addr) (a_PROSPECT_PERIODS_key : Addr) (h0 : Heap) (n0 : Nat) (O0 : Old Z n0 h0) (HE : Env1 Z a_ID a_ID_key a_PRIORITY a_PRIORITY_key a_SET a_SET_key a_PERIOD_MS a_PERIOD_MS_key a_MISSING_MAX a_MISSING_MAX_key a_PROSPECT_PERIODS a_PROSPECT_PERIODS_key)  :
    MetFree l M2 (head1 (Jvm.Cond.code M2 prog_18_method_4_code 3 (some .long) :: ws) ({ frames := 2, cells := 0, slots := 0, locals := 33 } : Room)) (fun a U => a = #[(.ref a_PERIOD_MS), (.long (100 : Int64))] ∧ Z.Warmed39 U.vm ∧ U.heap = h0) (fun _ _ _ _ _ => True) (fun _ U o U' => ∃ v L, o = .returned v ∧ Q3_10 Z a_ID a_ID_key a_PRIORITY a_PRIORITY_key a_SET a_SET_key a_PERIOD_MS a_PERIOD_MS_key a_MISSING_MAX a_MISSING_MAX_key a_PROSPECT_PERIODS a_PROSPECT_PERIODS_key h0 n0 v U'.heap L ∧ FrameEnd U o U' L ({ frames := 2, cells := 0, slots := 0, locals := 33 } : Room).cells ({ frames := 2, cells := 0, slots := 0, locals := 33 } : Room).slots) := by
 refine MetFree.of_bodySF (plainFor_of_name pn2) hisR ?_
 intro p e s m args below meth c s₁ Bd hml0 hP hK
 obtain ⟨rfl, hZ, hh⟩ := hP
 have hx := Bd.exec
 have hby := Bd.bytes
 have hml : c.maxLocals = 3 := hml0
 have hown : s.vm.findClass "com/example/vacant_throne/vacantthrone/core/Setting" = some m.cls := findClass_of_methodNamed Bd.named
 have hnm := (name_of_methodNamed Bd.named Bd.method).1
 have X0 : Stand p l e ({ frames := 2, cells := 0, slots := 0, locals := 33 } : Room) s m #[(.ref a_PERIOD_MS), (.long (100 : Int64))] below meth c s₁ [] 0 0 := Stand.of_body Bd
 have e0 : s₁.heap = h0 := by rw [← hh, Bd.state]; rfl
 have N0 := Fr.nil n0
 let S0 : State → Prop := fun t => Steps p.tables e below (s₁.setTop (entryFrame m #[(.ref a_PERIOD_MS), (.long (100 : Int64))] 3)) t
 let Ls1 : Array Slot := #[.val (.ref a_PERIOD_MS), .val (.long (100 : Int64)), .second]
 have p0 : ∀ t, St p e below s₁ (mkF m 0 Ls1 []) t → S0 t := fun t k => castTop (ef2 m a_PERIOD_MS (100 : Int64)) k
 have HE' := HE
 obtain ⟨Sa_ID, Ea_ID, Fa_ID_key, Ea_ID_key, Fa_ID_min, Fa_ID_max, Sa_PRIORITY, Ea_PRIORITY, Fa_PRIORITY_key, Ea_PRIORITY_key, Fa_PRIORITY_min, Fa_PRIORITY_max, Sa_SET, Ea_SET, Fa_SET_key, Ea_SET_key, Fa_SET_min, Fa_SET_max, Sa_PERIOD_MS, Ea_PERIOD_MS, Fa_PERIOD_MS_key, Ea_PERIOD_MS_key, Fa_PERIOD_MS_min, Fa_PERIOD_MS_max, Sa_MISSING_MAX, Ea_MISSING_MAX, Fa_MISSING_MAX_key, Ea_MISSING_MAX_key, Fa_MISSING_MAX_min, Fa_MISSING_MAX_max, Sa_PROSPECT_PERIODS, Ea_PROSPECT_PERIODS, Fa_PROSPECT_PERIODS_key, Ea_PROSPECT_PERIODS_key, Fa_PROSPECT_PERIODS_min, Fa_PROSPECT_PERIODS_max⟩ := HE
 have p2 : ∀ t, St p e below s₁ (mkF m 2 Ls1 [(.ref a_PERIOD_MS), (.ref a_PERIOD_MS)]) t → S0 t := fun t k => p0 t (by
   refine XS.aloadN X0.here hx rfl (hb hby d3_0) rfl rfl ?_
   refine XS.aloadN X0.here hx rfl (hb hby d3_1) rfl rfl ?_
   exact k)
 obtain ⟨T3, X3, e3, st3⟩ := getF X0 hx hZ hown (host := "") (Or.inl (ww hw 21 rfl)) Via.refl e0 (Fa_PERIOD_MS_key.ext O0.2) (g := (mkF m 2 Ls1 [(.ref a_PERIOD_MS), (.ref a_PERIOD_MS)])) rfl rfl (hb hby d3_2)
 have p4 : ∀ t, St p e below T3 (mkF m 5 Ls1 [(.ref a_PERIOD_MS_key), (.ref a_PERIOD_MS)]) t → S0 t := fun t k => p2 t (st3 t k)
 have p5 : ∀ t, St p e below T3 (mkF m 6 Ls1 [(.long (100 : Int64)), (.ref a_PERIOD_MS_key), (.ref a_PERIOD_MS)]) t → S0 t := fun t k => p4 t (by
   refine XS.lloadN X3.here hx rfl (hb hby d3_5) rfl ?_
   exact k)
 obtain ⟨cqc6, kqc6, qc6a, qc6b, qc6c⟩ := isOf hZ e3 (Ea_PERIOD_MS.ext O0.2)
 obtain ⟨_, _, ⟨Tc6, Lc6, kc6, nc6⟩, -, Xc6, ⟨Lcc6, hQc6, lc6, yc6, zc6⟩, stc6⟩ := X3.virtualBack hx (y := M1) (z := M1) hown (mvT hZ (ww hw 23 rfl)) (mvT hZ (ww hw 24 rfl)) (notFace_of_selects (args := #[]) (mvT hZ (ww hw 26 rfl))) (mvT hZ (ww hw 26 rfl)) (mvT hZ (ww hw 25 rfl)) (by decide) (backOf (W := 0) (rm4_11 l Z a0 hw [] a_ID a_ID_key a_PRIORITY a_PRIORITY_key a_SET a_SET_key a_PERIOD_MS a_PERIOD_MS_key a_MISSING_MAX a_MISSING_MAX_key a_PROSPECT_PERIODS a_PROSPECT_PERIODS_key h0 n0 O0 HE' ) hZ (ww hw 27 rfl) (ww hw 14 rfl) (by decide) (by decide)) qc6a qc6c (g := (mkF m 6 Ls1 [(.long (100 : Int64)), (.ref a_PERIOD_MS_key), (.ref a_PERIOD_MS)])) rfl (by rw [hml]; rfl) (Steps.refl _) (argsL := [(.ref a_PERIOD_MS_key), (.long (100 : Int64))]) (rest := []) (lenOf pd1 rfl) rfl (by show 2 * 0 + _ ≤ _; exact Nat.le_of_eq rfl) (hb hby d3_6) (fun _ _ => ⟨rfl, e3, (by decide : 0 + 0 ≤ _), (by decide : 0 + 0 ≤ _)⟩)
 dsimp only [Pt.U, Pt.locs, Pt.cells, Pt.slots] at Xc6 lc6 yc6 zc6 stc6 hQc6
 subst lc6 yc6 zc6
 obtain ⟨Nqc6, ec6, hAc6⟩ := hQc6
 have Nc6 := Fr.app N0 Nqc6
 obtain rfl := hAc6
 have p7 : ∀ t, St p e below Tc6 (mkF m 9 Ls1 [(.long (100 : Int64))]) t → S0 t := fun t k => p5 t (stc6.trans k)
 obtain ⟨fs, hr, hrun, hended, hW, hsame⟩ := Xc6.leave (v := some (.long (100 : Int64))) (fun h => by rw [Bd.returns] at h; cases h)
 refine ⟨_, _, p7 _ ?_, hrun, hended, _, _, rfl, ?_, ⟨_, rfl⟩, hW, hsame.mono (by decide) (by decide)⟩
 · exact retOut Xc6 hx Bd.returns rfl (Or.inr (Or.inl ⟨rfl, rfl, _, rfl⟩)) (hb hby d3_9) hr
 · show Q3_10 Z a_ID a_ID_key a_PRIORITY a_PRIORITY_key a_SET a_SET_key a_PERIOD_MS a_PERIOD_MS_key a_MISSING_MAX a_MISSING_MAX_key a_PROSPECT_PERIODS a_PROSPECT_PERIODS_key h0 n0 _ Tc6.heap _
   exact ⟨Nc6, ec6, rfl⟩
theorem d1_49 : decode prog_10_method_2_code 49 = .ok (.invokevirtual 34, 3) := by decide +kernel
theorem d1_52 : decode prog_10_method_2_code 52 = .ok (.l2i, 1) := by decide +kernel
theorem d1_53 : decode prog_10_method_2_code 53 = .ok (.putfield 52, 3) := by decide +kernel
theorem sn15 {Z : State} {a0 : Array Value} (hw : ∀ d ∈ tables_1, d.before a0 Z = true) : Jvm.RoadKit.slotOf Z "com/example/vacant_throne/vacantthrone/core/NodeSettings" "id" "J" ≠ Jvm.RoadKit.slotOf Z "com/example/vacant_throne/vacantthrone/core/NodeSettings" "periodMs" "I" := slot_ne (Or.inr (ww hw 37 rfl)) (Or.inr (ww hw 49 rfl)) (by decide) (t := .long) (t' := .int) (by decide) (by decide)
theorem sn16 {Z : State} {a0 : Array Value} (hw : ∀ d ∈ tables_1, d.before a0 Z = true) : Jvm.RoadKit.slotOf Z "com/example/vacant_throne/vacantthrone/core/NodeSettings" "priority" "I" ≠ Jvm.RoadKit.slotOf Z "com/example/vacant_throne/vacantthrone/core/NodeSettings" "periodMs" "I" := slot_ne (Or.inr (ww hw 41 rfl)) (Or.inr (ww hw 49 rfl)) (by decide) (t := .int) (t' := .int) (by decide) (by decide)
theorem sn17 {Z : State} {a0 : Array Value} (hw : ∀ d ∈ tables_1, d.before a0 Z = true) : Jvm.RoadKit.slotOf Z "com/example/vacant_throne/vacantthrone/core/NodeSettings" "set" "I" ≠ Jvm.RoadKit.slotOf Z "com/example/vacant_throne/vacantthrone/core/NodeSettings" "periodMs" "I" := slot_ne (Or.inr (ww hw 45 rfl)) (Or.inr (ww hw 49 rfl)) (by decide) (t := .int) (t' := .int) (by decide) (by decide)
theorem sn18 {Z : State} {a0 : Array Value} (hw : ∀ d ∈ tables_1, d.before a0 Z = true) : Jvm.RoadKit.slotOf Z "com/example/vacant_throne/vacantthrone/core/NodeSettings" "missingMax" "I" ≠ Jvm.RoadKit.slotOf Z "com/example/vacant_throne/vacantthrone/core/NodeSettings" "periodMs" "I" := slot_ne (Or.inr (ww hw 53 rfl)) (Or.inr (ww hw 49 rfl)) (by decide) (t := .int) (t' := .int) (by decide) (by decide)
theorem sn19 {Z : State} {a0 : Array Value} (hw : ∀ d ∈ tables_1, d.before a0 Z = true) : Jvm.RoadKit.slotOf Z "com/example/vacant_throne/vacantthrone/core/NodeSettings" "prospectPeriods" "I" ≠ Jvm.RoadKit.slotOf Z "com/example/vacant_throne/vacantthrone/core/NodeSettings" "periodMs" "I" := slot_ne (Or.inr (ww hw 57 rfl)) (Or.inr (ww hw 49 rfl)) (by decide) (t := .int) (t' := .int) (by decide) (by decide)
theorem d1_56 : decode prog_10_method_2_code 56 = .ok (.aload_n 0, 1) := by decide +kernel
theorem d1_57 : decode prog_10_method_2_code 57 = .ok (.getstatic 16, 3) := by decide +kernel
theorem d1_60 : decode prog_10_method_2_code 60 = .ok (.iload 6, 2) := by decide +kernel
theorem d1_62 : decode prog_10_method_2_code 62 = .ok (.i2l, 1) := by decide +kernel
def Q5_15 (Z : State) (a_ID : Addr) (a_ID_key : Addr) (a_PRIORITY : Addr) (a_PRIORITY_key : Addr) (a_SET : Addr) (a_SET_key : Addr) (a_PERIOD_MS : Addr) (a_PERIOD_MS_key : Addr) (a_MISSING_MAX : Addr) (a_MISSING_MAX_key : Addr) (a_PROSPECT_PERIODS : Addr) (a_PROSPECT_PERIODS_key : Addr) (h0 : Heap) (n0 : Nat) (v : Option Value) (h : Heap) (L : List Loc) : Prop := Fr n0 L ∧ h = h0 ∧ ((v = some (.long (2 : Int64))))
set_option maxRecDepth 65536 in
set_option maxHeartbeats 40000000 in
theorem rm5_15 (l : Launch) (Z : State) (a0 : Array Value) (hw : ∀ d ∈ tables_1, d.before a0 Z = true) (ws : List Jvm.Cond) (a_ID : Addr) (a_ID_key : Addr) (a_PRIORITY : Addr) (a_PRIORITY_key : Addr) (a_SET : Addr) (a_SET_key : Addr) (a_PERIOD_MS : Addr) (a_PERIOD_MS_key : Addr) (a_MISSING_MAX : Addr) (a_MISSING_MAX_key : Addr) (a_PROSPECT_PERIODS : Addr) (a_PROSPECT_PERIODS_key : Addr) (h0 : Heap) (n0 : Nat) (O0 : Old Z n0 h0) (HE : Env1 Z a_ID a_ID_key a_PRIORITY a_PRIORITY_key a_SET a_SET_key a_PERIOD_MS a_PERIOD_MS_key a_MISSING_MAX a_MISSING_MAX_key a_PROSPECT_PERIODS a_PROSPECT_PERIODS_key)  :
    MetFree l M0 (head1 (Jvm.Cond.code M0 prog_14_method_2_code 7 (some .long) :: ws) ({ frames := 0, cells := 0, slots := 0, locals := 0 } : Room)) (fun a U => a = #[(.ref a_MISSING_MAX_key), (.long (2 : Int64)), (.long (2 : Int64)), (.long (100 : Int64))] ∧ Z.Warmed39 U.vm ∧ U.heap = h0) (fun _ _ _ _ _ => True) (fun _ U o U' => ∃ v L, o = .returned v ∧ Q5_15 Z a_ID a_ID_key a_PRIORITY a_PRIORITY_key a_SET a_SET_key a_PERIOD_MS a_PERIOD_MS_key a_MISSING_MAX a_MISSING_MAX_key a_PROSPECT_PERIODS a_PROSPECT_PERIODS_key h0 n0 v U'.heap L ∧ FrameEnd U o U' L ({ frames := 0, cells := 0, slots := 0, locals := 0 } : Room).cells ({ frames := 0, cells := 0, slots := 0, locals := 0 } : Room).slots) := by
 refine MetFree.of_bodySF (plainFor_of_name pn3) hisR ?_
 intro p e s m args below meth c s₁ Bd hml0 hP hK
 obtain ⟨rfl, hZ, hh⟩ := hP
 have hx := Bd.exec
 have hby := Bd.bytes
 have hml : c.maxLocals = 7 := hml0
 have hown : s.vm.findClass "com/example/vacant_throne/vacantthrone/core/Ranges" = some m.cls := findClass_of_methodNamed Bd.named
 have hnm := (name_of_methodNamed Bd.named Bd.method).1
 have X0 : Stand p l e ({ frames := 0, cells := 0, slots := 0, locals := 0 } : Room) s m #[(.ref a_MISSING_MAX_key), (.long (2 : Int64)), (.long (2 : Int64)), (.long (100 : Int64))] below meth c s₁ [] 0 0 := Stand.of_body Bd
 have e0 : s₁.heap = h0 := by rw [← hh, Bd.state]; rfl
 have N0 := Fr.nil n0
 let S0 : State → Prop := fun t => Steps p.tables e below (s₁.setTop (entryFrame m #[(.ref a_MISSING_MAX_key), (.long (2 : Int64)), (.long (2 : Int64)), (.long (100 : Int64))] 7)) t
 let Ls1 : Array Slot := #[.val (.ref a_MISSING_MAX_key), .val (.long (2 : Int64)), .second, .val (.long (2 : Int64)), .second, .val (.long (100 : Int64)), .second]
 have p0 : ∀ t, St p e below s₁ (mkF m 0 Ls1 []) t → S0 t := fun t k => castTop (ef4 m a_MISSING_MAX_key (2 : Int64) (2 : Int64) (100 : Int64)) k
 have HE' := HE
 obtain ⟨Sa_ID, Ea_ID, Fa_ID_key, Ea_ID_key, Fa_ID_min, Fa_ID_max, Sa_PRIORITY, Ea_PRIORITY, Fa_PRIORITY_key, Ea_PRIORITY_key, Fa_PRIORITY_min, Fa_PRIORITY_max, Sa_SET, Ea_SET, Fa_SET_key, Ea_SET_key, Fa_SET_min, Fa_SET_max, Sa_PERIOD_MS, Ea_PERIOD_MS, Fa_PERIOD_MS_key, Ea_PERIOD_MS_key, Fa_PERIOD_MS_min, Fa_PERIOD_MS_max, Sa_MISSING_MAX, Ea_MISSING_MAX, Fa_MISSING_MAX_key, Ea_MISSING_MAX_key, Fa_MISSING_MAX_min, Fa_MISSING_MAX_max, Sa_PROSPECT_PERIODS, Ea_PROSPECT_PERIODS, Fa_PROSPECT_PERIODS_key, Ea_PROSPECT_PERIODS_key, Fa_PROSPECT_PERIODS_min, Fa_PROSPECT_PERIODS_max⟩ := HE
 have p2 : ∀ t, St p e below s₁ (mkF m 32 Ls1 [(.long (2 : Int64))]) t → S0 t := fun t k => p0 t (by
   refine XS.lloadN X0.here hx rfl (hb hby d5_0) rfl ?_
   refine XS.lloadN X0.here hx rfl (hb hby d5_1) rfl ?_
   refine XS.lcmp X0.here hx rfl (hb hby d5_2) rfl ?_
   refine XS.ifNo X0.here hx rfl (hb hby d5_3) rfl ((if0 _ _).trans (flt (by decide : ¬ ((0 : Int32) < (0 : Int32)))).1) ?_
   refine XS.lloadN X0.here hx rfl (hb hby d5_6) rfl ?_
   show St p e below s₁ (mkF m 7 Ls1 [(.long (2 : Int64))]) t
   refine XS.lload X0.here hx rfl (hb hby d5_7) rfl ?_
   refine XS.lcmp X0.here hx rfl (hb hby d5_9) rfl ?_
   refine XS.ifYes X0.here hx rfl (pc0 := 10) (pc' := 31) rfl (hb hby d5_10) rfl ((if0 _ _).trans (flt (by decide : ¬ ((0 : Int32) < (-1 : Int32)))).2.2.2) (by decide) (by decide) ?_
   refine XS.lloadN X0.here hx rfl (hb hby d5_31) rfl ?_
   exact k)
 obtain ⟨fs, hr, hrun, hended, hW, hsame⟩ := X0.leave (v := some (.long (2 : Int64))) (fun h => by rw [Bd.returns] at h; cases h)
 refine ⟨_, _, p2 _ ?_, hrun, hended, _, _, rfl, ?_, ⟨_, rfl⟩, hW, hsame.mono (by decide) (by decide)⟩
 · exact retOut X0 hx Bd.returns rfl (Or.inr (Or.inl ⟨rfl, rfl, _, rfl⟩)) (hb hby d5_32) hr
 · show Q5_15 Z a_ID a_ID_key a_PRIORITY a_PRIORITY_key a_SET a_SET_key a_PERIOD_MS a_PERIOD_MS_key a_MISSING_MAX a_MISSING_MAX_key a_PROSPECT_PERIODS a_PROSPECT_PERIODS_key h0 n0 _ s₁.heap _
   exact ⟨N0, e0, rfl⟩
def Q4_14 (Z : State) (a_ID : Addr) (a_ID_key : Addr) (a_PRIORITY : Addr) (a_PRIORITY_key : Addr) (a_SET : Addr) (a_SET_key : Addr) (a_PERIOD_MS : Addr) (a_PERIOD_MS_key : Addr) (a_MISSING_MAX : Addr) (a_MISSING_MAX_key : Addr) (a_PROSPECT_PERIODS : Addr) (a_PROSPECT_PERIODS_key : Addr) (h0 : Heap) (n0 : Nat) (v : Option Value) (h : Heap) (L : List Loc) : Prop := Fr n0 L ∧ h = h0 ∧ ((v = some (.long (2 : Int64))))
set_option maxRecDepth 65536 in
set_option maxHeartbeats 40000000 in
theorem rm4_14 (l : Launch) (Z : State) (a0 : Array Value) (hw : ∀ d ∈ tables_1, d.before a0 Z = true) (ws : List Jvm.Cond) (a_ID : Addr) (a_ID_key : Addr) (a_PRIORITY : Addr) (a_PRIORITY_key : Addr) (a_SET : Addr) (a_SET_key : Addr) (a_PERIOD_MS : Addr) (a_PERIOD_MS_key : Addr) (a_MISSING_MAX : Addr) (a_MISSING_MAX_key : Addr) (a_PROSPECT_PERIODS : Addr) (a_PROSPECT_PERIODS_key : Addr) (h0 : Heap) (n0 : Nat) (O0 : Old Z n0 h0) (HE : Env1 Z a_ID a_ID_key a_PRIORITY a_PRIORITY_key a_SET a_SET_key a_PERIOD_MS a_PERIOD_MS_key a_MISSING_MAX a_MISSING_MAX_key a_PROSPECT_PERIODS a_PROSPECT_PERIODS_key)  :
    MetFree l M1 (head1 (Jvm.Cond.code M1 prog_18_method_5_code 4 (some .long) :: ws) ({ frames := 1, cells := 0, slots := 0, locals := 18 } : Room)) (fun a U => a = #[(.ref a_MISSING_MAX), (.ref a_MISSING_MAX_key), (.long (2 : Int64))] ∧ Z.Warmed39 U.vm ∧ U.heap = h0) (fun _ _ _ _ _ => True) (fun _ U o U' => ∃ v L, o = .returned v ∧ Q4_14 Z a_ID a_ID_key a_PRIORITY a_PRIORITY_key a_SET a_SET_key a_PERIOD_MS a_PERIOD_MS_key a_MISSING_MAX a_MISSING_MAX_key a_PROSPECT_PERIODS a_PROSPECT_PERIODS_key h0 n0 v U'.heap L ∧ FrameEnd U o U' L ({ frames := 1, cells := 0, slots := 0, locals := 18 } : Room).cells ({ frames := 1, cells := 0, slots := 0, locals := 18 } : Room).slots) := by
 refine MetFree.of_bodySF (plainFor_of_name pn2) hisR ?_
 intro p e s m args below meth c s₁ Bd hml0 hP hK
 obtain ⟨rfl, hZ, hh⟩ := hP
 have hx := Bd.exec
 have hby := Bd.bytes
 have hml : c.maxLocals = 4 := hml0
 have hown : s.vm.findClass "com/example/vacant_throne/vacantthrone/core/Setting" = some m.cls := findClass_of_methodNamed Bd.named
 have hnm := (name_of_methodNamed Bd.named Bd.method).1
 have X0 : Stand p l e ({ frames := 1, cells := 0, slots := 0, locals := 18 } : Room) s m #[(.ref a_MISSING_MAX), (.ref a_MISSING_MAX_key), (.long (2 : Int64))] below meth c s₁ [] 0 0 := Stand.of_body Bd
 have e0 : s₁.heap = h0 := by rw [← hh, Bd.state]; rfl
 have N0 := Fr.nil n0
 let S0 : State → Prop := fun t => Steps p.tables e below (s₁.setTop (entryFrame m #[(.ref a_MISSING_MAX), (.ref a_MISSING_MAX_key), (.long (2 : Int64))] 4)) t
 let Ls1 : Array Slot := #[.val (.ref a_MISSING_MAX), .val (.ref a_MISSING_MAX_key), .val (.long (2 : Int64)), .second]
 have p0 : ∀ t, St p e below s₁ (mkF m 0 Ls1 []) t → S0 t := fun t k => castTop (ef3 m a_MISSING_MAX a_MISSING_MAX_key (2 : Int64)) k
 have HE' := HE
 obtain ⟨Sa_ID, Ea_ID, Fa_ID_key, Ea_ID_key, Fa_ID_min, Fa_ID_max, Sa_PRIORITY, Ea_PRIORITY, Fa_PRIORITY_key, Ea_PRIORITY_key, Fa_PRIORITY_min, Fa_PRIORITY_max, Sa_SET, Ea_SET, Fa_SET_key, Ea_SET_key, Fa_SET_min, Fa_SET_max, Sa_PERIOD_MS, Ea_PERIOD_MS, Fa_PERIOD_MS_key, Ea_PERIOD_MS_key, Fa_PERIOD_MS_min, Fa_PERIOD_MS_max, Sa_MISSING_MAX, Ea_MISSING_MAX, Fa_MISSING_MAX_key, Ea_MISSING_MAX_key, Fa_MISSING_MAX_min, Fa_MISSING_MAX_max, Sa_PROSPECT_PERIODS, Ea_PROSPECT_PERIODS, Fa_PROSPECT_PERIODS_key, Ea_PROSPECT_PERIODS_key, Fa_PROSPECT_PERIODS_min, Fa_PROSPECT_PERIODS_max⟩ := HE
 have p2 : ∀ t, St p e below s₁ (mkF m 3 Ls1 [(.ref a_MISSING_MAX), (.long (2 : Int64)), (.ref a_MISSING_MAX_key)]) t → S0 t := fun t k => p0 t (by
   refine XS.aloadN X0.here hx rfl (hb hby d4_0) rfl rfl ?_
   refine XS.lloadN X0.here hx rfl (hb hby d4_1) rfl ?_
   refine XS.aloadN X0.here hx rfl (hb hby d4_2) rfl rfl ?_
   exact k)
 obtain ⟨T3, X3, e3, st3⟩ := getF X0 hx hZ hown (host := "") (Or.inl (ww hw 28 rfl)) Via.refl e0 (Fa_MISSING_MAX_min.ext O0.2) (g := (mkF m 3 Ls1 [(.ref a_MISSING_MAX), (.long (2 : Int64)), (.ref a_MISSING_MAX_key)])) rfl rfl (hb hby d4_3)
 have p4 : ∀ t, St p e below T3 (mkF m 6 Ls1 [(.long (2 : Int64)), (.long (2 : Int64)), (.ref a_MISSING_MAX_key)]) t → S0 t := fun t k => p2 t (st3 t k)
 have p5 : ∀ t, St p e below T3 (mkF m 7 Ls1 [(.ref a_MISSING_MAX), (.long (2 : Int64)), (.long (2 : Int64)), (.ref a_MISSING_MAX_key)]) t → S0 t := fun t k => p4 t (by
   refine XS.aloadN X3.here hx rfl (hb hby d4_6) rfl rfl ?_
   exact k)
 obtain ⟨T6, X6, e6, st6⟩ := getF X3 hx hZ hown (host := "") (Or.inl (ww hw 30 rfl)) Via.refl e3 (Fa_MISSING_MAX_max.ext O0.2) (g := (mkF m 7 Ls1 [(.ref a_MISSING_MAX), (.long (2 : Int64)), (.long (2 : Int64)), (.ref a_MISSING_MAX_key)])) rfl rfl (hb hby d4_7)
 have p7 : ∀ t, St p e below T6 (mkF m 10 Ls1 [(.long (100 : Int64)), (.long (2 : Int64)), (.long (2 : Int64)), (.ref a_MISSING_MAX_key)]) t → S0 t := fun t k => p5 t (st6 t k)
 obtain ⟨_, _, ⟨Tc8, Lc8, kc8, nc8⟩, -, Xc8, ⟨Lcc8, hQc8, lc8, yc8, zc8⟩, stc8⟩ := Jvm.LawKit.callS X6 hx (y := M0) hown (mvT hZ (ww hw 32 rfl)) (mvT hZ (ww hw 33 rfl)) (mvT hZ (ww hw 34 rfl)) (mvT hZ (ww hw 35 rfl)) (by decide) (backOf (W := 0) (rm5_15 l Z a0 hw [] a_ID a_ID_key a_PRIORITY a_PRIORITY_key a_SET a_SET_key a_PERIOD_MS a_PERIOD_MS_key a_MISSING_MAX a_MISSING_MAX_key a_PROSPECT_PERIODS a_PROSPECT_PERIODS_key h0 n0 O0 HE' ) hZ (ww hw 35 rfl) (ww hw 34 rfl) (by decide) (by decide)) (g := (mkF m 10 Ls1 [(.long (100 : Int64)), (.long (2 : Int64)), (.long (2 : Int64)), (.ref a_MISSING_MAX_key)])) rfl (by rw [hml]; rfl) (argsL := [(.ref a_MISSING_MAX_key), (.long (2 : Int64)), (.long (2 : Int64)), (.long (100 : Int64))]) (rest := []) (lenOf pd0 rfl) rfl (by show 2 * 0 + _ ≤ _; exact Nat.le_of_eq rfl) (hb hby d4_10) (fun _ _ => ⟨rfl, e6, (by decide : 0 + 0 ≤ _), (by decide : 0 + 0 ≤ _)⟩)
 dsimp only [Pt.U, Pt.locs, Pt.cells, Pt.slots] at Xc8 lc8 yc8 zc8 stc8 hQc8
 subst lc8 yc8 zc8
 obtain ⟨Nqc8, ec8, hAc8⟩ := hQc8
 have Nc8 := Fr.app N0 Nqc8
 obtain rfl := hAc8
 have p9 : ∀ t, St p e below Tc8 (mkF m 13 Ls1 [(.long (2 : Int64))]) t → S0 t := fun t k => p7 t (stc8 t k)
 obtain ⟨fs, hr, hrun, hended, hW, hsame⟩ := Xc8.leave (v := some (.long (2 : Int64))) (fun h => by rw [Bd.returns] at h; cases h)
 refine ⟨_, _, p9 _ ?_, hrun, hended, _, _, rfl, ?_, ⟨_, rfl⟩, hW, hsame.mono (by decide) (by decide)⟩
 · exact retOut Xc8 hx Bd.returns rfl (Or.inr (Or.inl ⟨rfl, rfl, _, rfl⟩)) (hb hby d4_13) hr
 · show Q4_14 Z a_ID a_ID_key a_PRIORITY a_PRIORITY_key a_SET a_SET_key a_PERIOD_MS a_PERIOD_MS_key a_MISSING_MAX a_MISSING_MAX_key a_PROSPECT_PERIODS a_PROSPECT_PERIODS_key h0 n0 _ Tc8.heap _
   exact ⟨Nc8, ec8, rfl⟩
def Q3_13 (Z : State) (a_ID : Addr) (a_ID_key : Addr) (a_PRIORITY : Addr) (a_PRIORITY_key : Addr) (a_SET : Addr) (a_SET_key : Addr) (a_PERIOD_MS : Addr) (a_PERIOD_MS_key : Addr) (a_MISSING_MAX : Addr) (a_MISSING_MAX_key : Addr) (a_PROSPECT_PERIODS : Addr) (a_PROSPECT_PERIODS_key : Addr) (h0 : Heap) (n0 : Nat) (v : Option Value) (h : Heap) (L : List Loc) : Prop := Fr n0 L ∧ h = h0 ∧ ((v = some (.long (2 : Int64))))
set_option maxRecDepth 65536 in
set_option maxHeartbeats 40000000 in
theorem rm3_13 (l : Launch) (Z : State) (a0 : Array Value) (hw : ∀ d ∈ tables_1, d.before a0 Z = true) (ws : List Jvm.Cond) (a_ID : Addr) (a_ID_key : Addr) (a_PRIORITY : Addr) (a_PRIORITY_key : Addr) (a_SET : Addr) (a_SET_key : Addr) (a_PERIOD_MS : Addr) (a_PERIOD_MS_key : Addr) (a_MISSING_MAX : Addr) (a_MISSING_MAX_key : Addr) (a_PROSPECT_PERIODS : Addr) (a_PROSPECT_PERIODS_key : Addr) (h0 : Heap) (n0 : Nat) (O0 : Old Z n0 h0) (HE : Env1 Z a_ID a_ID_key a_PRIORITY a_PRIORITY_key a_SET a_SET_key a_PERIOD_MS a_PERIOD_MS_key a_MISSING_MAX a_MISSING_MAX_key a_PROSPECT_PERIODS a_PROSPECT_PERIODS_key)  :
    MetFree l M2 (head1 (Jvm.Cond.code M2 prog_18_method_4_code 3 (some .long) :: ws) ({ frames := 2, cells := 0, slots := 0, locals := 33 } : Room)) (fun a U => a = #[(.ref a_MISSING_MAX), (.long (2 : Int64))] ∧ Z.Warmed39 U.vm ∧ U.heap = h0) (fun _ _ _ _ _ => True) (fun _ U o U' => ∃ v L, o = .returned v ∧ Q3_13 Z a_ID a_ID_key a_PRIORITY a_PRIORITY_key a_SET a_SET_key a_PERIOD_MS a_PERIOD_MS_key a_MISSING_MAX a_MISSING_MAX_key a_PROSPECT_PERIODS a_PROSPECT_PERIODS_key h0 n0 v U'.heap L ∧ FrameEnd U o U' L ({ frames := 2, cells := 0, slots := 0, locals := 33 } : Room).cells ({ frames := 2, cells := 0, slots := 0, locals := 33 } : Room).slots) := by
 refine MetFree.of_bodySF (plainFor_of_name pn2) hisR ?_
 intro p e s m args below meth c s₁ Bd hml0 hP hK
 obtain ⟨rfl, hZ, hh⟩ := hP
 have hx := Bd.exec
 have hby := Bd.bytes
 have hml : c.maxLocals = 3 := hml0
 have hown : s.vm.findClass "com/example/vacant_throne/vacantthrone/core/Setting" = some m.cls := findClass_of_methodNamed Bd.named
 have hnm := (name_of_methodNamed Bd.named Bd.method).1
 have X0 : Stand p l e ({ frames := 2, cells := 0, slots := 0, locals := 33 } : Room) s m #[(.ref a_MISSING_MAX), (.long (2 : Int64))] below meth c s₁ [] 0 0 := Stand.of_body Bd
 have e0 : s₁.heap = h0 := by rw [← hh, Bd.state]; rfl
 have N0 := Fr.nil n0
 let S0 : State → Prop := fun t => Steps p.tables e below (s₁.setTop (entryFrame m #[(.ref a_MISSING_MAX), (.long (2 : Int64))] 3)) t
 let Ls1 : Array Slot := #[.val (.ref a_MISSING_MAX), .val (.long (2 : Int64)), .second]
 have p0 : ∀ t, St p e below s₁ (mkF m 0 Ls1 []) t → S0 t := fun t k => castTop (ef2 m a_MISSING_MAX (2 : Int64)) k
 have HE' := HE
 obtain ⟨Sa_ID, Ea_ID, Fa_ID_key, Ea_ID_key, Fa_ID_min, Fa_ID_max, Sa_PRIORITY, Ea_PRIORITY, Fa_PRIORITY_key, Ea_PRIORITY_key, Fa_PRIORITY_min, Fa_PRIORITY_max, Sa_SET, Ea_SET, Fa_SET_key, Ea_SET_key, Fa_SET_min, Fa_SET_max, Sa_PERIOD_MS, Ea_PERIOD_MS, Fa_PERIOD_MS_key, Ea_PERIOD_MS_key, Fa_PERIOD_MS_min, Fa_PERIOD_MS_max, Sa_MISSING_MAX, Ea_MISSING_MAX, Fa_MISSING_MAX_key, Ea_MISSING_MAX_key, Fa_MISSING_MAX_min, Fa_MISSING_MAX_max, Sa_PROSPECT_PERIODS, Ea_PROSPECT_PERIODS, Fa_PROSPECT_PERIODS_key, Ea_PROSPECT_PERIODS_key, Fa_PROSPECT_PERIODS_min, Fa_PROSPECT_PERIODS_max⟩ := HE
 have p2 : ∀ t, St p e below s₁ (mkF m 2 Ls1 [(.ref a_MISSING_MAX), (.ref a_MISSING_MAX)]) t → S0 t := fun t k => p0 t (by
   refine XS.aloadN X0.here hx rfl (hb hby d3_0) rfl rfl ?_
   refine XS.aloadN X0.here hx rfl (hb hby d3_1) rfl rfl ?_
   exact k)
 obtain ⟨T3, X3, e3, st3⟩ := getF X0 hx hZ hown (host := "") (Or.inl (ww hw 21 rfl)) Via.refl e0 (Fa_MISSING_MAX_key.ext O0.2) (g := (mkF m 2 Ls1 [(.ref a_MISSING_MAX), (.ref a_MISSING_MAX)])) rfl rfl (hb hby d3_2)
 have p4 : ∀ t, St p e below T3 (mkF m 5 Ls1 [(.ref a_MISSING_MAX_key), (.ref a_MISSING_MAX)]) t → S0 t := fun t k => p2 t (st3 t k)
 have p5 : ∀ t, St p e below T3 (mkF m 6 Ls1 [(.long (2 : Int64)), (.ref a_MISSING_MAX_key), (.ref a_MISSING_MAX)]) t → S0 t := fun t k => p4 t (by
   refine XS.lloadN X3.here hx rfl (hb hby d3_5) rfl ?_
   exact k)
 obtain ⟨cqc6, kqc6, qc6a, qc6b, qc6c⟩ := isOf hZ e3 (Ea_MISSING_MAX.ext O0.2)
 obtain ⟨_, _, ⟨Tc6, Lc6, kc6, nc6⟩, -, Xc6, ⟨Lcc6, hQc6, lc6, yc6, zc6⟩, stc6⟩ := X3.virtualBack hx (y := M1) (z := M1) hown (mvT hZ (ww hw 23 rfl)) (mvT hZ (ww hw 24 rfl)) (notFace_of_selects (args := #[]) (mvT hZ (ww hw 26 rfl))) (mvT hZ (ww hw 26 rfl)) (mvT hZ (ww hw 25 rfl)) (by decide) (backOf (W := 0) (rm4_14 l Z a0 hw [] a_ID a_ID_key a_PRIORITY a_PRIORITY_key a_SET a_SET_key a_PERIOD_MS a_PERIOD_MS_key a_MISSING_MAX a_MISSING_MAX_key a_PROSPECT_PERIODS a_PROSPECT_PERIODS_key h0 n0 O0 HE' ) hZ (ww hw 27 rfl) (ww hw 14 rfl) (by decide) (by decide)) qc6a qc6c (g := (mkF m 6 Ls1 [(.long (2 : Int64)), (.ref a_MISSING_MAX_key), (.ref a_MISSING_MAX)])) rfl (by rw [hml]; rfl) (Steps.refl _) (argsL := [(.ref a_MISSING_MAX_key), (.long (2 : Int64))]) (rest := []) (lenOf pd1 rfl) rfl (by show 2 * 0 + _ ≤ _; exact Nat.le_of_eq rfl) (hb hby d3_6) (fun _ _ => ⟨rfl, e3, (by decide : 0 + 0 ≤ _), (by decide : 0 + 0 ≤ _)⟩)
 dsimp only [Pt.U, Pt.locs, Pt.cells, Pt.slots] at Xc6 lc6 yc6 zc6 stc6 hQc6
 subst lc6 yc6 zc6
 obtain ⟨Nqc6, ec6, hAc6⟩ := hQc6
 have Nc6 := Fr.app N0 Nqc6
 obtain rfl := hAc6
 have p7 : ∀ t, St p e below Tc6 (mkF m 9 Ls1 [(.long (2 : Int64))]) t → S0 t := fun t k => p5 t (stc6.trans k)
 obtain ⟨fs, hr, hrun, hended, hW, hsame⟩ := Xc6.leave (v := some (.long (2 : Int64))) (fun h => by rw [Bd.returns] at h; cases h)
 refine ⟨_, _, p7 _ ?_, hrun, hended, _, _, rfl, ?_, ⟨_, rfl⟩, hW, hsame.mono (by decide) (by decide)⟩
 · exact retOut Xc6 hx Bd.returns rfl (Or.inr (Or.inl ⟨rfl, rfl, _, rfl⟩)) (hb hby d3_9) hr
 · show Q3_13 Z a_ID a_ID_key a_PRIORITY a_PRIORITY_key a_SET a_SET_key a_PERIOD_MS a_PERIOD_MS_key a_MISSING_MAX a_MISSING_MAX_key a_PROSPECT_PERIODS a_PROSPECT_PERIODS_key h0 n0 _ Tc6.heap _
   exact ⟨Nc6, ec6, rfl⟩
theorem d1_63 : decode prog_10_method_2_code 63 = .ok (.invokevirtual 34, 3) := by decide +kernel
theorem d1_66 : decode prog_10_method_2_code 66 = .ok (.l2i, 1) := by decide +kernel
theorem d1_67 : decode prog_10_method_2_code 67 = .ok (.putfield 55, 3) := by decide +kernel
theorem sn20 {Z : State} {a0 : Array Value} (hw : ∀ d ∈ tables_1, d.before a0 Z = true) : Jvm.RoadKit.slotOf Z "com/example/vacant_throne/vacantthrone/core/NodeSettings" "id" "J" ≠ Jvm.RoadKit.slotOf Z "com/example/vacant_throne/vacantthrone/core/NodeSettings" "missingMax" "I" := slot_ne (Or.inr (ww hw 37 rfl)) (Or.inr (ww hw 53 rfl)) (by decide) (t := .long) (t' := .int) (by decide) (by decide)
theorem sn21 {Z : State} {a0 : Array Value} (hw : ∀ d ∈ tables_1, d.before a0 Z = true) : Jvm.RoadKit.slotOf Z "com/example/vacant_throne/vacantthrone/core/NodeSettings" "priority" "I" ≠ Jvm.RoadKit.slotOf Z "com/example/vacant_throne/vacantthrone/core/NodeSettings" "missingMax" "I" := slot_ne (Or.inr (ww hw 41 rfl)) (Or.inr (ww hw 53 rfl)) (by decide) (t := .int) (t' := .int) (by decide) (by decide)
theorem sn22 {Z : State} {a0 : Array Value} (hw : ∀ d ∈ tables_1, d.before a0 Z = true) : Jvm.RoadKit.slotOf Z "com/example/vacant_throne/vacantthrone/core/NodeSettings" "set" "I" ≠ Jvm.RoadKit.slotOf Z "com/example/vacant_throne/vacantthrone/core/NodeSettings" "missingMax" "I" := slot_ne (Or.inr (ww hw 45 rfl)) (Or.inr (ww hw 53 rfl)) (by decide) (t := .int) (t' := .int) (by decide) (by decide)
theorem sn23 {Z : State} {a0 : Array Value} (hw : ∀ d ∈ tables_1, d.before a0 Z = true) : Jvm.RoadKit.slotOf Z "com/example/vacant_throne/vacantthrone/core/NodeSettings" "periodMs" "I" ≠ Jvm.RoadKit.slotOf Z "com/example/vacant_throne/vacantthrone/core/NodeSettings" "missingMax" "I" := slot_ne (Or.inr (ww hw 49 rfl)) (Or.inr (ww hw 53 rfl)) (by decide) (t := .int) (t' := .int) (by decide) (by decide)
theorem sn24 {Z : State} {a0 : Array Value} (hw : ∀ d ∈ tables_1, d.before a0 Z = true) : Jvm.RoadKit.slotOf Z "com/example/vacant_throne/vacantthrone/core/NodeSettings" "prospectPeriods" "I" ≠ Jvm.RoadKit.slotOf Z "com/example/vacant_throne/vacantthrone/core/NodeSettings" "missingMax" "I" := slot_ne (Or.inr (ww hw 57 rfl)) (Or.inr (ww hw 53 rfl)) (by decide) (t := .int) (t' := .int) (by decide) (by decide)
theorem d1_70 : decode prog_10_method_2_code 70 = .ok (.aload_n 0, 1) := by decide +kernel
theorem d1_71 : decode prog_10_method_2_code 71 = .ok (.getstatic 19, 3) := by decide +kernel
theorem d1_74 : decode prog_10_method_2_code 74 = .ok (.iload 7, 2) := by decide +kernel
theorem d1_76 : decode prog_10_method_2_code 76 = .ok (.i2l, 1) := by decide +kernel
def Q5_18 (Z : State) (a_ID : Addr) (a_ID_key : Addr) (a_PRIORITY : Addr) (a_PRIORITY_key : Addr) (a_SET : Addr) (a_SET_key : Addr) (a_PERIOD_MS : Addr) (a_PERIOD_MS_key : Addr) (a_MISSING_MAX : Addr) (a_MISSING_MAX_key : Addr) (a_PROSPECT_PERIODS : Addr) (a_PROSPECT_PERIODS_key : Addr) (h0 : Heap) (n0 : Nat) (v : Option Value) (h : Heap) (L : List Loc) : Prop := Fr n0 L ∧ h = h0 ∧ ((v = some (.long (2 : Int64))))
set_option maxRecDepth 65536 in
set_option maxHeartbeats 40000000 in
theorem rm5_18 (l : Launch) (Z : State) (a0 : Array Value) (hw : ∀ d ∈ tables_1, d.before a0 Z = true) (ws : List Jvm.Cond) (a_ID : Addr) (a_ID_key : Addr) (a_PRIORITY : Addr) (a_PRIORITY_key : Addr) (a_SET : Addr) (a_SET_key : Addr) (a_PERIOD_MS : Addr) (a_PERIOD_MS_key : Addr) (a_MISSING_MAX : Addr) (a_MISSING_MAX_key : Addr) (a_PROSPECT_PERIODS : Addr) (a_PROSPECT_PERIODS_key : Addr) (h0 : Heap) (n0 : Nat) (O0 : Old Z n0 h0) (HE : Env1 Z a_ID a_ID_key a_PRIORITY a_PRIORITY_key a_SET a_SET_key a_PERIOD_MS a_PERIOD_MS_key a_MISSING_MAX a_MISSING_MAX_key a_PROSPECT_PERIODS a_PROSPECT_PERIODS_key)  :
    MetFree l M0 (head1 (Jvm.Cond.code M0 prog_14_method_2_code 7 (some .long) :: ws) ({ frames := 0, cells := 0, slots := 0, locals := 0 } : Room)) (fun a U => a = #[(.ref a_PROSPECT_PERIODS_key), (.long (2 : Int64)), (.long (2 : Int64)), (.long (100 : Int64))] ∧ Z.Warmed39 U.vm ∧ U.heap = h0) (fun _ _ _ _ _ => True) (fun _ U o U' => ∃ v L, o = .returned v ∧ Q5_18 Z a_ID a_ID_key a_PRIORITY a_PRIORITY_key a_SET a_SET_key a_PERIOD_MS a_PERIOD_MS_key a_MISSING_MAX a_MISSING_MAX_key a_PROSPECT_PERIODS a_PROSPECT_PERIODS_key h0 n0 v U'.heap L ∧ FrameEnd U o U' L ({ frames := 0, cells := 0, slots := 0, locals := 0 } : Room).cells ({ frames := 0, cells := 0, slots := 0, locals := 0 } : Room).slots) := by
 refine MetFree.of_bodySF (plainFor_of_name pn3) hisR ?_
 intro p e s m args below meth c s₁ Bd hml0 hP hK
 obtain ⟨rfl, hZ, hh⟩ := hP
 have hx := Bd.exec
 have hby := Bd.bytes
 have hml : c.maxLocals = 7 := hml0
 have hown : s.vm.findClass "com/example/vacant_throne/vacantthrone/core/Ranges" = some m.cls := findClass_of_methodNamed Bd.named
 have hnm := (name_of_methodNamed Bd.named Bd.method).1
 have X0 : Stand p l e ({ frames := 0, cells := 0, slots := 0, locals := 0 } : Room) s m #[(.ref a_PROSPECT_PERIODS_key), (.long (2 : Int64)), (.long (2 : Int64)), (.long (100 : Int64))] below meth c s₁ [] 0 0 := Stand.of_body Bd
 have e0 : s₁.heap = h0 := by rw [← hh, Bd.state]; rfl
 have N0 := Fr.nil n0
 let S0 : State → Prop := fun t => Steps p.tables e below (s₁.setTop (entryFrame m #[(.ref a_PROSPECT_PERIODS_key), (.long (2 : Int64)), (.long (2 : Int64)), (.long (100 : Int64))] 7)) t
 let Ls1 : Array Slot := #[.val (.ref a_PROSPECT_PERIODS_key), .val (.long (2 : Int64)), .second, .val (.long (2 : Int64)), .second, .val (.long (100 : Int64)), .second]
 have p0 : ∀ t, St p e below s₁ (mkF m 0 Ls1 []) t → S0 t := fun t k => castTop (ef4 m a_PROSPECT_PERIODS_key (2 : Int64) (2 : Int64) (100 : Int64)) k
 have HE' := HE
 obtain ⟨Sa_ID, Ea_ID, Fa_ID_key, Ea_ID_key, Fa_ID_min, Fa_ID_max, Sa_PRIORITY, Ea_PRIORITY, Fa_PRIORITY_key, Ea_PRIORITY_key, Fa_PRIORITY_min, Fa_PRIORITY_max, Sa_SET, Ea_SET, Fa_SET_key, Ea_SET_key, Fa_SET_min, Fa_SET_max, Sa_PERIOD_MS, Ea_PERIOD_MS, Fa_PERIOD_MS_key, Ea_PERIOD_MS_key, Fa_PERIOD_MS_min, Fa_PERIOD_MS_max, Sa_MISSING_MAX, Ea_MISSING_MAX, Fa_MISSING_MAX_key, Ea_MISSING_MAX_key, Fa_MISSING_MAX_min, Fa_MISSING_MAX_max, Sa_PROSPECT_PERIODS, Ea_PROSPECT_PERIODS, Fa_PROSPECT_PERIODS_key, Ea_PROSPECT_PERIODS_key, Fa_PROSPECT_PERIODS_min, Fa_PROSPECT_PERIODS_max⟩ := HE
 have p2 : ∀ t, St p e below s₁ (mkF m 32 Ls1 [(.long (2 : Int64))]) t → S0 t := fun t k => p0 t (by
   refine XS.lloadN X0.here hx rfl (hb hby d5_0) rfl ?_
   refine XS.lloadN X0.here hx rfl (hb hby d5_1) rfl ?_
   refine XS.lcmp X0.here hx rfl (hb hby d5_2) rfl ?_
   refine XS.ifNo X0.here hx rfl (hb hby d5_3) rfl ((if0 _ _).trans (flt (by decide : ¬ ((0 : Int32) < (0 : Int32)))).1) ?_
   refine XS.lloadN X0.here hx rfl (hb hby d5_6) rfl ?_
   show St p e below s₁ (mkF m 7 Ls1 [(.long (2 : Int64))]) t
   refine XS.lload X0.here hx rfl (hb hby d5_7) rfl ?_
   refine XS.lcmp X0.here hx rfl (hb hby d5_9) rfl ?_
   refine XS.ifYes X0.here hx rfl (pc0 := 10) (pc' := 31) rfl (hb hby d5_10) rfl ((if0 _ _).trans (flt (by decide : ¬ ((0 : Int32) < (-1 : Int32)))).2.2.2) (by decide) (by decide) ?_
   refine XS.lloadN X0.here hx rfl (hb hby d5_31) rfl ?_
   exact k)
 obtain ⟨fs, hr, hrun, hended, hW, hsame⟩ := X0.leave (v := some (.long (2 : Int64))) (fun h => by rw [Bd.returns] at h; cases h)
 refine ⟨_, _, p2 _ ?_, hrun, hended, _, _, rfl, ?_, ⟨_, rfl⟩, hW, hsame.mono (by decide) (by decide)⟩
 · exact retOut X0 hx Bd.returns rfl (Or.inr (Or.inl ⟨rfl, rfl, _, rfl⟩)) (hb hby d5_32) hr
 · show Q5_18 Z a_ID a_ID_key a_PRIORITY a_PRIORITY_key a_SET a_SET_key a_PERIOD_MS a_PERIOD_MS_key a_MISSING_MAX a_MISSING_MAX_key a_PROSPECT_PERIODS a_PROSPECT_PERIODS_key h0 n0 _ s₁.heap _
   exact ⟨N0, e0, rfl⟩
def Q4_17 (Z : State) (a_ID : Addr) (a_ID_key : Addr) (a_PRIORITY : Addr) (a_PRIORITY_key : Addr) (a_SET : Addr) (a_SET_key : Addr) (a_PERIOD_MS : Addr) (a_PERIOD_MS_key : Addr) (a_MISSING_MAX : Addr) (a_MISSING_MAX_key : Addr) (a_PROSPECT_PERIODS : Addr) (a_PROSPECT_PERIODS_key : Addr) (h0 : Heap) (n0 : Nat) (v : Option Value) (h : Heap) (L : List Loc) : Prop := Fr n0 L ∧ h = h0 ∧ ((v = some (.long (2 : Int64))))
set_option maxRecDepth 65536 in
set_option maxHeartbeats 40000000 in
theorem rm4_17 (l : Launch) (Z : State) (a0 : Array Value) (hw : ∀ d ∈ tables_1, d.before a0 Z = true) (ws : List Jvm.Cond) (a_ID : Addr) (a_ID_key : Addr) (a_PRIORITY : Addr) (a_PRIORITY_key : Addr) (a_SET : Addr) (a_SET_key : Addr) (a_PERIOD_MS : Addr) (a_PERIOD_MS_key : Addr) (a_MISSING_MAX : Addr) (a_MISSING_MAX_key : Addr) (a_PROSPECT_PERIODS : Addr) (a_PROSPECT_PERIODS_key : Addr) (h0 : Heap) (n0 : Nat) (O0 : Old Z n0 h0) (HE : Env1 Z a_ID a_ID_key a_PRIORITY a_PRIORITY_key a_SET a_SET_key a_PERIOD_MS a_PERIOD_MS_key a_MISSING_MAX a_MISSING_MAX_key a_PROSPECT_PERIODS a_PROSPECT_PERIODS_key)  :
    MetFree l M1 (head1 (Jvm.Cond.code M1 prog_18_method_5_code 4 (some .long) :: ws) ({ frames := 1, cells := 0, slots := 0, locals := 18 } : Room)) (fun a U => a = #[(.ref a_PROSPECT_PERIODS), (.ref a_PROSPECT_PERIODS_key), (.long (2 : Int64))] ∧ Z.Warmed39 U.vm ∧ U.heap = h0) (fun _ _ _ _ _ => True) (fun _ U o U' => ∃ v L, o = .returned v ∧ Q4_17 Z a_ID a_ID_key a_PRIORITY a_PRIORITY_key a_SET a_SET_key a_PERIOD_MS a_PERIOD_MS_key a_MISSING_MAX a_MISSING_MAX_key a_PROSPECT_PERIODS a_PROSPECT_PERIODS_key h0 n0 v U'.heap L ∧ FrameEnd U o U' L ({ frames := 1, cells := 0, slots := 0, locals := 18 } : Room).cells ({ frames := 1, cells := 0, slots := 0, locals := 18 } : Room).slots) := by
 refine MetFree.of_bodySF (plainFor_of_name pn2) hisR ?_
 intro p e s m args below meth c s₁ Bd hml0 hP hK
 obtain ⟨rfl, hZ, hh⟩ := hP
 have hx := Bd.exec
 have hby := Bd.bytes
 have hml : c.maxLocals = 4 := hml0
 have hown : s.vm.findClass "com/example/vacant_throne/vacantthrone/core/Setting" = some m.cls := findClass_of_methodNamed Bd.named
 have hnm := (name_of_methodNamed Bd.named Bd.method).1
 have X0 : Stand p l e ({ frames := 1, cells := 0, slots := 0, locals := 18 } : Room) s m #[(.ref a_PROSPECT_PERIODS), (.ref a_PROSPECT_PERIODS_key), (.long (2 : Int64))] below meth c s₁ [] 0 0 := Stand.of_body Bd
 have e0 : s₁.heap = h0 := by rw [← hh, Bd.state]; rfl
 have N0 := Fr.nil n0
 let S0 : State → Prop := fun t => Steps p.tables e below (s₁.setTop (entryFrame m #[(.ref a_PROSPECT_PERIODS), (.ref a_PROSPECT_PERIODS_key), (.long (2 : Int64))] 4)) t
 let Ls1 : Array Slot := #[.val (.ref a_PROSPECT_PERIODS), .val (.ref a_PROSPECT_PERIODS_key), .val (.long (2 : Int64)), .second]
 have p0 : ∀ t, St p e below s₁ (mkF m 0 Ls1 []) t → S0 t := fun t k => castTop (ef3 m a_PROSPECT_PERIODS a_PROSPECT_PERIODS_key (2 : Int64)) k
 have HE' := HE
 obtain ⟨Sa_ID, Ea_ID, Fa_ID_key, Ea_ID_key, Fa_ID_min, Fa_ID_max, Sa_PRIORITY, Ea_PRIORITY, Fa_PRIORITY_key, Ea_PRIORITY_key, Fa_PRIORITY_min, Fa_PRIORITY_max, Sa_SET, Ea_SET, Fa_SET_key, Ea_SET_key, Fa_SET_min, Fa_SET_max, Sa_PERIOD_MS, Ea_PERIOD_MS, Fa_PERIOD_MS_key, Ea_PERIOD_MS_key, Fa_PERIOD_MS_min, Fa_PERIOD_MS_max, Sa_MISSING_MAX, Ea_MISSING_MAX, Fa_MISSING_MAX_key, Ea_MISSING_MAX_key, Fa_MISSING_MAX_min, Fa_MISSING_MAX_max, Sa_PROSPECT_PERIODS, Ea_PROSPECT_PERIODS, Fa_PROSPECT_PERIODS_key, Ea_PROSPECT_PERIODS_key, Fa_PROSPECT_PERIODS_min, Fa_PROSPECT_PERIODS_max⟩ := HE
 have p2 : ∀ t, St p e below s₁ (mkF m 3 Ls1 [(.ref a_PROSPECT_PERIODS), (.long (2 : Int64)), (.ref a_PROSPECT_PERIODS_key)]) t → S0 t := fun t k => p0 t (by
   refine XS.aloadN X0.here hx rfl (hb hby d4_0) rfl rfl ?_
   refine XS.lloadN X0.here hx rfl (hb hby d4_1) rfl ?_
   refine XS.aloadN X0.here hx rfl (hb hby d4_2) rfl rfl ?_
   exact k)
 obtain ⟨T3, X3, e3, st3⟩ := getF X0 hx hZ hown (host := "") (Or.inl (ww hw 28 rfl)) Via.refl e0 (Fa_PROSPECT_PERIODS_min.ext O0.2) (g := (mkF m 3 Ls1 [(.ref a_PROSPECT_PERIODS), (.long (2 : Int64)), (.ref a_PROSPECT_PERIODS_key)])) rfl rfl (hb hby d4_3)
 have p4 : ∀ t, St p e below T3 (mkF m 6 Ls1 [(.long (2 : Int64)), (.long (2 : Int64)), (.ref a_PROSPECT_PERIODS_key)]) t → S0 t := fun t k => p2 t (st3 t k)
 have p5 : ∀ t, St p e below T3 (mkF m 7 Ls1 [(.ref a_PROSPECT_PERIODS), (.long (2 : Int64)), (.long (2 : Int64)), (.ref a_PROSPECT_PERIODS_key)]) t → S0 t := fun t k => p4 t (by
   refine XS.aloadN X3.here hx rfl (hb hby d4_6) rfl rfl ?_
   exact k)
 obtain ⟨T6, X6, e6, st6⟩ := getF X3 hx hZ hown (host := "") (Or.inl (ww hw 30 rfl)) Via.refl e3 (Fa_PROSPECT_PERIODS_max.ext O0.2) (g := (mkF m 7 Ls1 [(.ref a_PROSPECT_PERIODS), (.long (2 : Int64)), (.long (2 : Int64)), (.ref a_PROSPECT_PERIODS_key)])) rfl rfl (hb hby d4_7)
 have p7 : ∀ t, St p e below T6 (mkF m 10 Ls1 [(.long (100 : Int64)), (.long (2 : Int64)), (.long (2 : Int64)), (.ref a_PROSPECT_PERIODS_key)]) t → S0 t := fun t k => p5 t (st6 t k)
 obtain ⟨_, _, ⟨Tc8, Lc8, kc8, nc8⟩, -, Xc8, ⟨Lcc8, hQc8, lc8, yc8, zc8⟩, stc8⟩ := Jvm.LawKit.callS X6 hx (y := M0) hown (mvT hZ (ww hw 32 rfl)) (mvT hZ (ww hw 33 rfl)) (mvT hZ (ww hw 34 rfl)) (mvT hZ (ww hw 35 rfl)) (by decide) (backOf (W := 0) (rm5_18 l Z a0 hw [] a_ID a_ID_key a_PRIORITY a_PRIORITY_key a_SET a_SET_key a_PERIOD_MS a_PERIOD_MS_key a_MISSING_MAX a_MISSING_MAX_key a_PROSPECT_PERIODS a_PROSPECT_PERIODS_key h0 n0 O0 HE' ) hZ (ww hw 35 rfl) (ww hw 34 rfl) (by decide) (by decide)) (g := (mkF m 10 Ls1 [(.long (100 : Int64)), (.long (2 : Int64)), (.long (2 : Int64)), (.ref a_PROSPECT_PERIODS_key)])) rfl (by rw [hml]; rfl) (argsL := [(.ref a_PROSPECT_PERIODS_key), (.long (2 : Int64)), (.long (2 : Int64)), (.long (100 : Int64))]) (rest := []) (lenOf pd0 rfl) rfl (by show 2 * 0 + _ ≤ _; exact Nat.le_of_eq rfl) (hb hby d4_10) (fun _ _ => ⟨rfl, e6, (by decide : 0 + 0 ≤ _), (by decide : 0 + 0 ≤ _)⟩)
 dsimp only [Pt.U, Pt.locs, Pt.cells, Pt.slots] at Xc8 lc8 yc8 zc8 stc8 hQc8
 subst lc8 yc8 zc8
 obtain ⟨Nqc8, ec8, hAc8⟩ := hQc8
 have Nc8 := Fr.app N0 Nqc8
 obtain rfl := hAc8
 have p9 : ∀ t, St p e below Tc8 (mkF m 13 Ls1 [(.long (2 : Int64))]) t → S0 t := fun t k => p7 t (stc8 t k)
 obtain ⟨fs, hr, hrun, hended, hW, hsame⟩ := Xc8.leave (v := some (.long (2 : Int64))) (fun h => by rw [Bd.returns] at h; cases h)
 refine ⟨_, _, p9 _ ?_, hrun, hended, _, _, rfl, ?_, ⟨_, rfl⟩, hW, hsame.mono (by decide) (by decide)⟩
 · exact retOut Xc8 hx Bd.returns rfl (Or.inr (Or.inl ⟨rfl, rfl, _, rfl⟩)) (hb hby d4_13) hr
 · show Q4_17 Z a_ID a_ID_key a_PRIORITY a_PRIORITY_key a_SET a_SET_key a_PERIOD_MS a_PERIOD_MS_key a_MISSING_MAX a_MISSING_MAX_key a_PROSPECT_PERIODS a_PROSPECT_PERIODS_key h0 n0 _ Tc8.heap _
   exact ⟨Nc8, ec8, rfl⟩
def Q3_16 (Z : State) (a_ID : Addr) (a_ID_key : Addr) (a_PRIORITY : Addr) (a_PRIORITY_key : Addr) (a_SET : Addr) (a_SET_key : Addr) (a_PERIOD_MS : Addr) (a_PERIOD_MS_key : Addr) (a_MISSING_MAX : Addr) (a_MISSING_MAX_key : Addr) (a_PROSPECT_PERIODS : Addr) (a_PROSPECT_PERIODS_key : Addr) (h0 : Heap) (n0 : Nat) (v : Option Value) (h : Heap) (L : List Loc) : Prop := Fr n0 L ∧ h = h0 ∧ ((v = some (.long (2 : Int64))))
set_option maxRecDepth 65536 in
set_option maxHeartbeats 40000000 in
theorem rm3_16 (l : Launch) (Z : State) (a0 : Array Value) (hw : ∀ d ∈ tables_1, d.before a0 Z = true) (ws : List Jvm.Cond) (a_ID : Addr) (a_ID_key : Addr) (a_PRIORITY : Addr) (a_PRIORITY_key : Addr) (a_SET : Addr) (a_SET_key : Addr) (a_PERIOD_MS : Addr) (a_PERIOD_MS_key : Addr) (a_MISSING_MAX : Addr) (a_MISSING_MAX_key : Addr) (a_PROSPECT_PERIODS : Addr) (a_PROSPECT_PERIODS_key : Addr) (h0 : Heap) (n0 : Nat) (O0 : Old Z n0 h0) (HE : Env1 Z a_ID a_ID_key a_PRIORITY a_PRIORITY_key a_SET a_SET_key a_PERIOD_MS a_PERIOD_MS_key a_MISSING_MAX a_MISSING_MAX_key a_PROSPECT_PERIODS a_PROSPECT_PERIODS_key)  :
    MetFree l M2 (head1 (Jvm.Cond.code M2 prog_18_method_4_code 3 (some .long) :: ws) ({ frames := 2, cells := 0, slots := 0, locals := 33 } : Room)) (fun a U => a = #[(.ref a_PROSPECT_PERIODS), (.long (2 : Int64))] ∧ Z.Warmed39 U.vm ∧ U.heap = h0) (fun _ _ _ _ _ => True) (fun _ U o U' => ∃ v L, o = .returned v ∧ Q3_16 Z a_ID a_ID_key a_PRIORITY a_PRIORITY_key a_SET a_SET_key a_PERIOD_MS a_PERIOD_MS_key a_MISSING_MAX a_MISSING_MAX_key a_PROSPECT_PERIODS a_PROSPECT_PERIODS_key h0 n0 v U'.heap L ∧ FrameEnd U o U' L ({ frames := 2, cells := 0, slots := 0, locals := 33 } : Room).cells ({ frames := 2, cells := 0, slots := 0, locals := 33 } : Room).slots) := by
 refine MetFree.of_bodySF (plainFor_of_name pn2) hisR ?_
 intro p e s m args below meth c s₁ Bd hml0 hP hK
 obtain ⟨rfl, hZ, hh⟩ := hP
 have hx := Bd.exec
 have hby := Bd.bytes
 have hml : c.maxLocals = 3 := hml0
 have hown : s.vm.findClass "com/example/vacant_throne/vacantthrone/core/Setting" = some m.cls := findClass_of_methodNamed Bd.named
 have hnm := (name_of_methodNamed Bd.named Bd.method).1
 have X0 : Stand p l e ({ frames := 2, cells := 0, slots := 0, locals := 33 } : Room) s m #[(.ref a_PROSPECT_PERIODS), (.long (2 : Int64))] below meth c s₁ [] 0 0 := Stand.of_body Bd
 have e0 : s₁.heap = h0 := by rw [← hh, Bd.state]; rfl
 have N0 := Fr.nil n0
 let S0 : State → Prop := fun t => Steps p.tables e below (s₁.setTop (entryFrame m #[(.ref a_PROSPECT_PERIODS), (.long (2 : Int64))] 3)) t
 let Ls1 : Array Slot := #[.val (.ref a_PROSPECT_PERIODS), .val (.long (2 : Int64)), .second]
 have p0 : ∀ t, St p e below s₁ (mkF m 0 Ls1 []) t → S0 t := fun t k => castTop (ef2 m a_PROSPECT_PERIODS (2 : Int64)) k
 have HE' := HE
 obtain ⟨Sa_ID, Ea_ID, Fa_ID_key, Ea_ID_key, Fa_ID_min, Fa_ID_max, Sa_PRIORITY, Ea_PRIORITY, Fa_PRIORITY_key, Ea_PRIORITY_key, Fa_PRIORITY_min, Fa_PRIORITY_max, Sa_SET, Ea_SET, Fa_SET_key, Ea_SET_key, Fa_SET_min, Fa_SET_max, Sa_PERIOD_MS, Ea_PERIOD_MS, Fa_PERIOD_MS_key, Ea_PERIOD_MS_key, Fa_PERIOD_MS_min, Fa_PERIOD_MS_max, Sa_MISSING_MAX, Ea_MISSING_MAX, Fa_MISSING_MAX_key, Ea_MISSING_MAX_key, Fa_MISSING_MAX_min, Fa_MISSING_MAX_max, Sa_PROSPECT_PERIODS, Ea_PROSPECT_PERIODS, Fa_PROSPECT_PERIODS_key, Ea_PROSPECT_PERIODS_key, Fa_PROSPECT_PERIODS_min, Fa_PROSPECT_PERIODS_max⟩ := HE
 have p2 : ∀ t, St p e below s₁ (mkF m 2 Ls1 [(.ref a_PROSPECT_PERIODS), (.ref a_PROSPECT_PERIODS)]) t → S0 t := fun t k => p0 t (by
   refine XS.aloadN X0.here hx rfl (hb hby d3_0) rfl rfl ?_
   refine XS.aloadN X0.here hx rfl (hb hby d3_1) rfl rfl ?_
   exact k)
 obtain ⟨T3, X3, e3, st3⟩ := getF X0 hx hZ hown (host := "") (Or.inl (ww hw 21 rfl)) Via.refl e0 (Fa_PROSPECT_PERIODS_key.ext O0.2) (g := (mkF m 2 Ls1 [(.ref a_PROSPECT_PERIODS), (.ref a_PROSPECT_PERIODS)])) rfl rfl (hb hby d3_2)
 have p4 : ∀ t, St p e below T3 (mkF m 5 Ls1 [(.ref a_PROSPECT_PERIODS_key), (.ref a_PROSPECT_PERIODS)]) t → S0 t := fun t k => p2 t (st3 t k)
 have p5 : ∀ t, St p e below T3 (mkF m 6 Ls1 [(.long (2 : Int64)), (.ref a_PROSPECT_PERIODS_key), (.ref a_PROSPECT_PERIODS)]) t → S0 t := fun t k => p4 t (by
   refine XS.lloadN X3.here hx rfl (hb hby d3_5) rfl ?_
   exact k)
 obtain ⟨cqc6, kqc6, qc6a, qc6b, qc6c⟩ := isOf hZ e3 (Ea_PROSPECT_PERIODS.ext O0.2)
 obtain ⟨_, _, ⟨Tc6, Lc6, kc6, nc6⟩, -, Xc6, ⟨Lcc6, hQc6, lc6, yc6, zc6⟩, stc6⟩ := X3.virtualBack hx (y := M1) (z := M1) hown (mvT hZ (ww hw 23 rfl)) (mvT hZ (ww hw 24 rfl)) (notFace_of_selects (args := #[]) (mvT hZ (ww hw 26 rfl))) (mvT hZ (ww hw 26 rfl)) (mvT hZ (ww hw 25 rfl)) (by decide) (backOf (W := 0) (rm4_17 l Z a0 hw [] a_ID a_ID_key a_PRIORITY a_PRIORITY_key a_SET a_SET_key a_PERIOD_MS a_PERIOD_MS_key a_MISSING_MAX a_MISSING_MAX_key a_PROSPECT_PERIODS a_PROSPECT_PERIODS_key h0 n0 O0 HE' ) hZ (ww hw 27 rfl) (ww hw 14 rfl) (by decide) (by decide)) qc6a qc6c (g := (mkF m 6 Ls1 [(.long (2 : Int64)), (.ref a_PROSPECT_PERIODS_key), (.ref a_PROSPECT_PERIODS)])) rfl (by rw [hml]; rfl) (Steps.refl _) (argsL := [(.ref a_PROSPECT_PERIODS_key), (.long (2 : Int64))]) (rest := []) (lenOf pd1 rfl) rfl (by show 2 * 0 + _ ≤ _; exact Nat.le_of_eq rfl) (hb hby d3_6) (fun _ _ => ⟨rfl, e3, (by decide : 0 + 0 ≤ _), (by decide : 0 + 0 ≤ _)⟩)
 dsimp only [Pt.U, Pt.locs, Pt.cells, Pt.slots] at Xc6 lc6 yc6 zc6 stc6 hQc6
 subst lc6 yc6 zc6
 obtain ⟨Nqc6, ec6, hAc6⟩ := hQc6
 have Nc6 := Fr.app N0 Nqc6
 obtain rfl := hAc6
 have p7 : ∀ t, St p e below Tc6 (mkF m 9 Ls1 [(.long (2 : Int64))]) t → S0 t := fun t k => p5 t (stc6.trans k)
 obtain ⟨fs, hr, hrun, hended, hW, hsame⟩ := Xc6.leave (v := some (.long (2 : Int64))) (fun h => by rw [Bd.returns] at h; cases h)
 refine ⟨_, _, p7 _ ?_, hrun, hended, _, _, rfl, ?_, ⟨_, rfl⟩, hW, hsame.mono (by decide) (by decide)⟩
 · exact retOut Xc6 hx Bd.returns rfl (Or.inr (Or.inl ⟨rfl, rfl, _, rfl⟩)) (hb hby d3_9) hr
 · show Q3_16 Z a_ID a_ID_key a_PRIORITY a_PRIORITY_key a_SET a_SET_key a_PERIOD_MS a_PERIOD_MS_key a_MISSING_MAX a_MISSING_MAX_key a_PROSPECT_PERIODS a_PROSPECT_PERIODS_key h0 n0 _ Tc6.heap _
   exact ⟨Nc6, ec6, rfl⟩
theorem d1_77 : decode prog_10_method_2_code 77 = .ok (.invokevirtual 34, 3) := by decide +kernel
theorem d1_80 : decode prog_10_method_2_code 80 = .ok (.l2i, 1) := by decide +kernel
theorem d1_81 : decode prog_10_method_2_code 81 = .ok (.putfield 58, 3) := by decide +kernel
theorem sn25 {Z : State} {a0 : Array Value} (hw : ∀ d ∈ tables_1, d.before a0 Z = true) : Jvm.RoadKit.slotOf Z "com/example/vacant_throne/vacantthrone/core/NodeSettings" "id" "J" ≠ Jvm.RoadKit.slotOf Z "com/example/vacant_throne/vacantthrone/core/NodeSettings" "prospectPeriods" "I" := slot_ne (Or.inr (ww hw 37 rfl)) (Or.inr (ww hw 57 rfl)) (by decide) (t := .long) (t' := .int) (by decide) (by decide)
theorem sn26 {Z : State} {a0 : Array Value} (hw : ∀ d ∈ tables_1, d.before a0 Z = true) : Jvm.RoadKit.slotOf Z "com/example/vacant_throne/vacantthrone/core/NodeSettings" "priority" "I" ≠ Jvm.RoadKit.slotOf Z "com/example/vacant_throne/vacantthrone/core/NodeSettings" "prospectPeriods" "I" := slot_ne (Or.inr (ww hw 41 rfl)) (Or.inr (ww hw 57 rfl)) (by decide) (t := .int) (t' := .int) (by decide) (by decide)
theorem sn27 {Z : State} {a0 : Array Value} (hw : ∀ d ∈ tables_1, d.before a0 Z = true) : Jvm.RoadKit.slotOf Z "com/example/vacant_throne/vacantthrone/core/NodeSettings" "set" "I" ≠ Jvm.RoadKit.slotOf Z "com/example/vacant_throne/vacantthrone/core/NodeSettings" "prospectPeriods" "I" := slot_ne (Or.inr (ww hw 45 rfl)) (Or.inr (ww hw 57 rfl)) (by decide) (t := .int) (t' := .int) (by decide) (by decide)
theorem sn28 {Z : State} {a0 : Array Value} (hw : ∀ d ∈ tables_1, d.before a0 Z = true) : Jvm.RoadKit.slotOf Z "com/example/vacant_throne/vacantthrone/core/NodeSettings" "periodMs" "I" ≠ Jvm.RoadKit.slotOf Z "com/example/vacant_throne/vacantthrone/core/NodeSettings" "prospectPeriods" "I" := slot_ne (Or.inr (ww hw 49 rfl)) (Or.inr (ww hw 57 rfl)) (by decide) (t := .int) (t' := .int) (by decide) (by decide)
theorem sn29 {Z : State} {a0 : Array Value} (hw : ∀ d ∈ tables_1, d.before a0 Z = true) : Jvm.RoadKit.slotOf Z "com/example/vacant_throne/vacantthrone/core/NodeSettings" "missingMax" "I" ≠ Jvm.RoadKit.slotOf Z "com/example/vacant_throne/vacantthrone/core/NodeSettings" "prospectPeriods" "I" := slot_ne (Or.inr (ww hw 53 rfl)) (Or.inr (ww hw 57 rfl)) (by decide) (t := .int) (t' := .int) (by decide) (by decide)
theorem d1_84 : decode prog_10_method_2_code 84 = .ok (.return_, 1) := by decide +kernel
def Q1_0 (Z : State) (a_ID : Addr) (a_ID_key : Addr) (a_PRIORITY : Addr) (a_PRIORITY_key : Addr) (a_SET : Addr) (a_SET_key : Addr) (a_PERIOD_MS : Addr) (a_PERIOD_MS_key : Addr) (a_MISSING_MAX : Addr) (a_MISSING_MAX_key : Addr) (a_PROSPECT_PERIODS : Addr) (a_PROSPECT_PERIODS_key : Addr) (j0 : Int64) (i1 : Int32) (b0 : Addr) (h0 : Heap) (n0 : Nat) (v : Option Value) (h : Heap) (L : List Loc) : Prop := Fr n0 L ∧ ((v = none ∧ Keep h0 h [b0] ∧ Exa Z h b0 "com/example/vacant_throne/vacantthrone/core/NodeSettings" ∧ Fld Z h b0 "com/example/vacant_throne/vacantthrone/core/NodeSettings" "id" "J" (.long j0) ∧ Fld Z h b0 "com/example/vacant_throne/vacantthrone/core/NodeSettings" "priority" "I" (.int ((i1.toInt64).toInt32)) ∧ Fld Z h b0 "com/example/vacant_throne/vacantthrone/core/NodeSettings" "set" "I" (.int (1 : Int32)) ∧ Fld Z h b0 "com/example/vacant_throne/vacantthrone/core/NodeSettings" "periodMs" "I" (.int (100 : Int32)) ∧ Fld Z h b0 "com/example/vacant_throne/vacantthrone/core/NodeSettings" "missingMax" "I" (.int (2 : Int32)) ∧ Fld Z h b0 "com/example/vacant_throne/vacantthrone/core/NodeSettings" "prospectPeriods" "I" (.int (2 : Int32))))
set_option maxRecDepth 65536 in
set_option maxHeartbeats 40000000 in
theorem rm1_0 (l : Launch) (Z : State) (a0 : Array Value) (hw : ∀ d ∈ tables_1, d.before a0 Z = true) (ws : List Jvm.Cond) (a_ID : Addr) (a_ID_key : Addr) (a_PRIORITY : Addr) (a_PRIORITY_key : Addr) (a_SET : Addr) (a_SET_key : Addr) (a_PERIOD_MS : Addr) (a_PERIOD_MS_key : Addr) (a_MISSING_MAX : Addr) (a_MISSING_MAX_key : Addr) (a_PROSPECT_PERIODS : Addr) (a_PROSPECT_PERIODS_key : Addr) (j0 : Int64) (i1 : Int32) (b0 : Addr) (h0 : Heap) (n0 : Nat) (O0 : Old Z n0 h0) (HE : Env1 Z a_ID a_ID_key a_PRIORITY a_PRIORITY_key a_SET a_SET_key a_PERIOD_MS a_PERIOD_MS_key a_MISSING_MAX a_MISSING_MAX_key a_PROSPECT_PERIODS a_PROSPECT_PERIODS_key) (g_b0 : n0 ≤ b0) (f0 : Exa Z h0 b0 "com/example/vacant_throne/vacantthrone/core/NodeSettings") (f1 : Fld Z h0 b0 "com/example/vacant_throne/vacantthrone/core/NodeSettings" "id" "J" (.long (0 : Int64))) (f2 : Fld Z h0 b0 "com/example/vacant_throne/vacantthrone/core/NodeSettings" "priority" "I" (.int (0 : Int32))) (f3 : Fld Z h0 b0 "com/example/vacant_throne/vacantthrone/core/NodeSettings" "set" "I" (.int (0 : Int32))) (f4 : Fld Z h0 b0 "com/example/vacant_throne/vacantthrone/core/NodeSettings" "periodMs" "I" (.int (0 : Int32))) (f5 : Fld Z h0 b0 "com/example/vacant_throne/vacantthrone/core/NodeSettings" "missingMax" "I" (.int (0 : Int32))) (f6 : Fld Z h0 b0 "com/example/vacant_throne/vacantthrone/core/NodeSettings" "prospectPeriods" "I" (.int (0 : Int32))) (hp1 : ¬ (j0 < (1 : Int64))) (hp2 : ¬ ((4294967295 : Int64) < j0)) (hp3 : ¬ ((i1.toInt64) < (0 : Int64))) (hp4 : ¬ ((65535 : Int64) < (i1.toInt64))) :
    MetFree l M3 (head1 (Jvm.Cond.code M3 prog_10_method_2_code 8 none :: ws) ({ frames := 3, cells := 0, slots := 0, locals := 48 } : Room)) (fun a U => a = #[(.ref b0), (.long j0), (.int i1), (.int (1 : Int32)), (.int (100 : Int32)), (.int (2 : Int32)), (.int (2 : Int32))] ∧ Z.Warmed39 U.vm ∧ U.heap = h0) (fun _ _ _ _ _ => True) (fun _ U o U' => ∃ v L, o = .returned v ∧ Q1_0 Z a_ID a_ID_key a_PRIORITY a_PRIORITY_key a_SET a_SET_key a_PERIOD_MS a_PERIOD_MS_key a_MISSING_MAX a_MISSING_MAX_key a_PROSPECT_PERIODS a_PROSPECT_PERIODS_key j0 i1 b0 h0 n0 v U'.heap L ∧ FrameEnd U o U' L ({ frames := 3, cells := 0, slots := 0, locals := 48 } : Room).cells ({ frames := 3, cells := 0, slots := 0, locals := 48 } : Room).slots) := by
 refine MetFree.of_bodySF (plainFor_of_name pn1) hisR ?_
 intro p e s m args below meth c s₁ Bd hml0 hP hK
 obtain ⟨rfl, hZ, hh⟩ := hP
 have hx := Bd.exec
 have hby := Bd.bytes
 have hml : c.maxLocals = 8 := hml0
 have hown : s.vm.findClass "com/example/vacant_throne/vacantthrone/core/NodeSettings" = some m.cls := findClass_of_methodNamed Bd.named
 have hnm := (name_of_methodNamed Bd.named Bd.method).1
 have X0 : Stand p l e ({ frames := 3, cells := 0, slots := 0, locals := 48 } : Room) s m #[(.ref b0), (.long j0), (.int i1), (.int (1 : Int32)), (.int (100 : Int32)), (.int (2 : Int32)), (.int (2 : Int32))] below meth c s₁ [] 0 0 := Stand.of_body Bd
 have e0 : s₁.heap = h0 := by rw [← hh, Bd.state]; rfl
 have N0 := Fr.nil n0
 let S0 : State → Prop := fun t => Steps p.tables e below (s₁.setTop (entryFrame m #[(.ref b0), (.long j0), (.int i1), (.int (1 : Int32)), (.int (100 : Int32)), (.int (2 : Int32)), (.int (2 : Int32))] 8)) t
 let Ls1 : Array Slot := #[.val (.ref b0), .val (.long j0), .second, .val (.int i1), .val (.int (1 : Int32)), .val (.int (100 : Int32)), .val (.int (2 : Int32)), .val (.int (2 : Int32))]
 have p0 : ∀ t, St p e below s₁ (mkF m 0 Ls1 []) t → S0 t := fun t k => castTop (ef1 m b0 j0 i1 (1 : Int32) (100 : Int32) (2 : Int32) (2 : Int32)) k
 have HE' := HE
 obtain ⟨Sa_ID, Ea_ID, Fa_ID_key, Ea_ID_key, Fa_ID_min, Fa_ID_max, Sa_PRIORITY, Ea_PRIORITY, Fa_PRIORITY_key, Ea_PRIORITY_key, Fa_PRIORITY_min, Fa_PRIORITY_max, Sa_SET, Ea_SET, Fa_SET_key, Ea_SET_key, Fa_SET_min, Fa_SET_max, Sa_PERIOD_MS, Ea_PERIOD_MS, Fa_PERIOD_MS_key, Ea_PERIOD_MS_key, Fa_PERIOD_MS_min, Fa_PERIOD_MS_max, Sa_MISSING_MAX, Ea_MISSING_MAX, Fa_MISSING_MAX_key, Ea_MISSING_MAX_key, Fa_MISSING_MAX_min, Fa_MISSING_MAX_max, Sa_PROSPECT_PERIODS, Ea_PROSPECT_PERIODS, Fa_PROSPECT_PERIODS_key, Ea_PROSPECT_PERIODS_key, Fa_PROSPECT_PERIODS_min, Fa_PROSPECT_PERIODS_max⟩ := HE
 have p2 : ∀ t, St p e below s₁ (mkF m 1 Ls1 [(.ref b0)]) t → S0 t := fun t k => p0 t (by
   refine XS.aloadN X0.here hx rfl (hb hby d1_0) rfl rfl ?_
   exact k)
 obtain ⟨T3, X3, e3, st3⟩ := initO X0 hx hZ hown (ww hw 10 rfl) (ww hw 11 rfl) (ww hw 12 rfl) e0 (g := (mkF m 1 Ls1 [(.ref b0)])) rfl (by rw [hml]; rfl) rfl (hb hby d1_1) (by decide) (W := 0) (by show 2 * 0 + _ ≤ _; exact Nat.le_of_eq rfl) (by decide)
 have p4 : ∀ t, St p e below T3 (mkF m 4 Ls1 []) t → S0 t := fun t k => p2 t (st3 t k)
 have p5 : ∀ t, St p e below T3 (mkF m 5 Ls1 [(.ref b0)]) t → S0 t := fun t k => p4 t (by
   refine XS.aloadN X3.here hx rfl (hb hby d1_4) rfl rfl ?_
   exact k)
 obtain ⟨T6, X6, e6, st6⟩ := getS2 X3 hx hZ hown (host := "") (Or.inl (ww hw 13 rfl)) Via.refl e3 (Sa_ID.ext O0.2) (g := (mkF m 5 Ls1 [(.ref b0)])) rfl (hb hby d1_5)
 have p7 : ∀ t, St p e below T6 (mkF m 8 Ls1 [(.ref a_ID), (.ref b0)]) t → S0 t := fun t k => p5 t (st6 t k)
 have p8 : ∀ t, St p e below T6 (mkF m 9 Ls1 [(.long j0), (.ref a_ID), (.ref b0)]) t → S0 t := fun t k => p7 t (by
   refine XS.lloadN X6.here hx rfl (hb hby d1_8) rfl ?_
   exact k)
 obtain ⟨cqc9, kqc9, qc9a, qc9b, qc9c⟩ := isOf hZ e6 (Ea_ID.ext O0.2)
 obtain ⟨_, _, ⟨Tc9, Lc9, kc9, nc9⟩, -, Xc9, ⟨Lcc9, hQc9, lc9, yc9, zc9⟩, stc9⟩ := X6.virtualBack hx (y := M2) (z := M2) hown (mvT hZ (ww hw 16 rfl)) (mvT hZ (ww hw 17 rfl)) (notFace_of_selects (args := #[]) (mvT hZ (ww hw 19 rfl))) (mvT hZ (ww hw 19 rfl)) (mvT hZ (ww hw 18 rfl)) (by decide) (backOf (W := 1) (rm3_1 l Z a0 hw [] a_ID a_ID_key a_PRIORITY a_PRIORITY_key a_SET a_SET_key a_PERIOD_MS a_PERIOD_MS_key a_MISSING_MAX a_MISSING_MAX_key a_PROSPECT_PERIODS a_PROSPECT_PERIODS_key j0 h0 n0 O0 HE' hp1 hp2) hZ (ww hw 20 rfl) (ww hw 14 rfl) (by decide) (by decide)) qc9a qc9c (g := (mkF m 9 Ls1 [(.long j0), (.ref a_ID), (.ref b0)])) rfl (by rw [hml]; rfl) (Steps.refl _) (argsL := [(.long j0)]) (rest := [(.ref b0)]) (lenOf pd2 rfl) rfl (by show 2 * 0 + _ ≤ _; exact Nat.le_of_eq rfl) (hb hby d1_9) (fun _ _ => ⟨rfl, e6, (by decide : 0 + 0 ≤ _), (by decide : 0 + 0 ≤ _)⟩)
 dsimp only [Pt.U, Pt.locs, Pt.cells, Pt.slots] at Xc9 lc9 yc9 zc9 stc9 hQc9
 subst lc9 yc9 zc9
 obtain ⟨Nqc9, ec9, hAc9⟩ := hQc9
 have Nc9 := Fr.app N0 Nqc9
 obtain rfl := hAc9
 have p10 : ∀ t, St p e below Tc9 (mkF m 12 Ls1 [(.long j0), (.ref b0)]) t → S0 t := fun t k => p8 t (stc9.trans k)
 obtain ⟨T11, h11, X11, e11, W11, st11⟩ := putF Xc9 hx hZ hown (host := "") (Or.inl (ww hw 36 rfl)) Via.refl ec9 f1 f0 (Or.inr ⟨(ww hw 37 rfl), rfl, hnm⟩) (ww hw 5 rfl) (ty := .long) (by decide) rfl rfl (g := (mkF m 12 Ls1 [(.long j0), (.ref b0)])) rfl rfl (hb hby d1_12)
 have E_12 := f0.wr W11
 have F_13 := f2.other W11 (Or.inr (sn0 hw))
 have F_14 := f3.other W11 (Or.inr (sn1 hw))
 have F_15 := f4.other W11 (Or.inr (sn2 hw))
 have F_16 := f5.other W11 (Or.inr (sn3 hw))
 have F_17 := f6.other W11 (Or.inr (sn4 hw))
 have O18 := O0.wr W11 g_b0
 have K19 := (Keep.refl h0 [b0]).wr W11 (Or.inl (List.mem_of_getElem? (i := 0) rfl))
 have F_20 : Fld Z h11 b0 "com/example/vacant_throne/vacantthrone/core/NodeSettings" "id" "J" (.long j0) := f1.same W11
 have N21 := Fr.snoc X11 Nc9 g_b0
 have p22 : ∀ t, St p e below T11 (mkF m 15 Ls1 []) t → S0 t := fun t k => p10 t (st11 t k)
 have p23 : ∀ t, St p e below T11 (mkF m 16 Ls1 [(.ref b0)]) t → S0 t := fun t k => p22 t (by
   refine XS.aloadN X11.here hx rfl (hb hby d1_15) rfl rfl ?_
   exact k)
 obtain ⟨T24, X24, e24, st24⟩ := getS2 X11 hx hZ hown (host := "") (Or.inl (ww hw 38 rfl)) Via.refl e11 (Sa_PRIORITY.ext O18.2) (g := (mkF m 16 Ls1 [(.ref b0)])) rfl (hb hby d1_16)
 have p25 : ∀ t, St p e below T24 (mkF m 19 Ls1 [(.ref a_PRIORITY), (.ref b0)]) t → S0 t := fun t k => p23 t (st24 t k)
 have p26 : ∀ t, St p e below T24 (mkF m 21 Ls1 [(.long (i1.toInt64)), (.ref a_PRIORITY), (.ref b0)]) t → S0 t := fun t k => p25 t (by
   refine XS.iloadN X24.here hx rfl (hb hby d1_19) rfl ?_
   refine XS.i2l X24.here hx rfl (hb hby d1_20) rfl ?_
   exact k)
 obtain ⟨cqc27, kqc27, qc27a, qc27b, qc27c⟩ := isOf hZ e24 (Ea_PRIORITY.ext O18.2)
 obtain ⟨_, _, ⟨Tc27, Lc27, kc27, nc27⟩, -, Xc27, ⟨Lcc27, hQc27, lc27, yc27, zc27⟩, stc27⟩ := X24.virtualBack hx (y := M2) (z := M2) hown (mvT hZ (ww hw 16 rfl)) (mvT hZ (ww hw 17 rfl)) (notFace_of_selects (args := #[]) (mvT hZ (ww hw 19 rfl))) (mvT hZ (ww hw 19 rfl)) (mvT hZ (ww hw 18 rfl)) (by decide) (backOf (W := 1) (rm3_4 l Z a0 hw [] a_ID a_ID_key a_PRIORITY a_PRIORITY_key a_SET a_SET_key a_PERIOD_MS a_PERIOD_MS_key a_MISSING_MAX a_MISSING_MAX_key a_PROSPECT_PERIODS a_PROSPECT_PERIODS_key (i1.toInt64) h11 n0 O18 HE' hp3 hp4) hZ (ww hw 20 rfl) (ww hw 14 rfl) (by decide) (by decide)) qc27a qc27c (g := (mkF m 21 Ls1 [(.long (i1.toInt64)), (.ref a_PRIORITY), (.ref b0)])) rfl (by rw [hml]; rfl) (Steps.refl _) (argsL := [(.long (i1.toInt64))]) (rest := [(.ref b0)]) (lenOf pd2 rfl) rfl (by show 2 * 0 + _ ≤ _; exact Nat.le_of_eq rfl) (hb hby d1_21) (fun _ _ => ⟨rfl, e24, (by decide : 0 + 0 ≤ _), (by decide : 0 + 0 ≤ _)⟩)
 dsimp only [Pt.U, Pt.locs, Pt.cells, Pt.slots] at Xc27 lc27 yc27 zc27 stc27 hQc27
 subst lc27 yc27 zc27
 obtain ⟨Nqc27, ec27, hAc27⟩ := hQc27
 have Nc27 := Fr.app N21 Nqc27
 obtain rfl := hAc27
 have p28 : ∀ t, St p e below Tc27 (mkF m 24 Ls1 [(.long (i1.toInt64)), (.ref b0)]) t → S0 t := fun t k => p26 t (stc27.trans k)
 have p29 : ∀ t, St p e below Tc27 (mkF m 25 Ls1 [(.int ((i1.toInt64).toInt32)), (.ref b0)]) t → S0 t := fun t k => p28 t (by
   refine XS.l2i Xc27.here hx rfl (hb hby d1_24) rfl ?_
   exact k)
 obtain ⟨T30, h30, X30, e30, W30, st30⟩ := putF Xc27 hx hZ hown (host := "") (Or.inl (ww hw 40 rfl)) Via.refl ec27 F_13 E_12 (Or.inr ⟨(ww hw 41 rfl), rfl, hnm⟩) (ww hw 5 rfl) (ty := .int) (by decide) rfl rfl (g := (mkF m 25 Ls1 [(.int ((i1.toInt64).toInt32)), (.ref b0)])) rfl rfl (hb hby d1_25)
 have E_31 := E_12.wr W30
 have F_32 := F_20.other W30 (Or.inr (sn5 hw))
 have F_33 := F_14.other W30 (Or.inr (sn6 hw))
 have F_34 := F_15.other W30 (Or.inr (sn7 hw))
 have F_35 := F_16.other W30 (Or.inr (sn8 hw))
 have F_36 := F_17.other W30 (Or.inr (sn9 hw))
 have O37 := O18.wr W30 g_b0
 have K38 := K19.wr W30 (Or.inl (List.mem_of_getElem? (i := 0) rfl))
 have F_39 : Fld Z h30 b0 "com/example/vacant_throne/vacantthrone/core/NodeSettings" "priority" "I" (.int ((i1.toInt64).toInt32)) := F_13.same W30
 have N40 := Fr.snoc X30 Nc27 g_b0
 have p41 : ∀ t, St p e below T30 (mkF m 28 Ls1 []) t → S0 t := fun t k => p29 t (st30 t k)
 have p42 : ∀ t, St p e below T30 (mkF m 29 Ls1 [(.ref b0)]) t → S0 t := fun t k => p41 t (by
   refine XS.aloadN X30.here hx rfl (hb hby d1_28) rfl rfl ?_
   exact k)
 obtain ⟨T43, X43, e43, st43⟩ := getS2 X30 hx hZ hown (host := "") (Or.inl (ww hw 42 rfl)) Via.refl e30 (Sa_SET.ext O37.2) (g := (mkF m 29 Ls1 [(.ref b0)])) rfl (hb hby d1_29)
 have p44 : ∀ t, St p e below T43 (mkF m 32 Ls1 [(.ref a_SET), (.ref b0)]) t → S0 t := fun t k => p42 t (st43 t k)
 have p45 : ∀ t, St p e below T43 (mkF m 35 Ls1 [(.long (1 : Int64)), (.ref a_SET), (.ref b0)]) t → S0 t := fun t k => p44 t (by
   refine XS.iload X43.here hx rfl (hb hby d1_32) rfl ?_
   refine XS.i2l X43.here hx rfl (hb hby d1_34) rfl ?_
   exact k)
 obtain ⟨cqc46, kqc46, qc46a, qc46b, qc46c⟩ := isOf hZ e43 (Ea_SET.ext O37.2)
 obtain ⟨_, _, ⟨Tc46, Lc46, kc46, nc46⟩, -, Xc46, ⟨Lcc46, hQc46, lc46, yc46, zc46⟩, stc46⟩ := X43.virtualBack hx (y := M2) (z := M2) hown (mvT hZ (ww hw 16 rfl)) (mvT hZ (ww hw 17 rfl)) (notFace_of_selects (args := #[]) (mvT hZ (ww hw 19 rfl))) (mvT hZ (ww hw 19 rfl)) (mvT hZ (ww hw 18 rfl)) (by decide) (backOf (W := 1) (rm3_7 l Z a0 hw [] a_ID a_ID_key a_PRIORITY a_PRIORITY_key a_SET a_SET_key a_PERIOD_MS a_PERIOD_MS_key a_MISSING_MAX a_MISSING_MAX_key a_PROSPECT_PERIODS a_PROSPECT_PERIODS_key h30 n0 O37 HE' ) hZ (ww hw 20 rfl) (ww hw 14 rfl) (by decide) (by decide)) qc46a qc46c (g := (mkF m 35 Ls1 [(.long (1 : Int64)), (.ref a_SET), (.ref b0)])) rfl (by rw [hml]; rfl) (Steps.refl _) (argsL := [(.long (1 : Int64))]) (rest := [(.ref b0)]) (lenOf pd2 rfl) rfl (by show 2 * 0 + _ ≤ _; exact Nat.le_of_eq rfl) (hb hby d1_35) (fun _ _ => ⟨rfl, e43, (by decide : 0 + 0 ≤ _), (by decide : 0 + 0 ≤ _)⟩)
 dsimp only [Pt.U, Pt.locs, Pt.cells, Pt.slots] at Xc46 lc46 yc46 zc46 stc46 hQc46
 subst lc46 yc46 zc46
 obtain ⟨Nqc46, ec46, hAc46⟩ := hQc46
 have Nc46 := Fr.app N40 Nqc46
 obtain rfl := hAc46
 have p47 : ∀ t, St p e below Tc46 (mkF m 38 Ls1 [(.long (1 : Int64)), (.ref b0)]) t → S0 t := fun t k => p45 t (stc46.trans k)
 have p48 : ∀ t, St p e below Tc46 (mkF m 39 Ls1 [(.int (1 : Int32)), (.ref b0)]) t → S0 t := fun t k => p47 t (by
   refine XS.l2i Xc46.here hx rfl (hb hby d1_38) rfl ?_
   exact k)
 obtain ⟨T49, h49, X49, e49, W49, st49⟩ := putF Xc46 hx hZ hown (host := "") (Or.inl (ww hw 44 rfl)) Via.refl ec46 F_33 E_31 (Or.inr ⟨(ww hw 45 rfl), rfl, hnm⟩) (ww hw 5 rfl) (ty := .int) (by decide) rfl rfl (g := (mkF m 39 Ls1 [(.int (1 : Int32)), (.ref b0)])) rfl rfl (hb hby d1_39)
 have E_50 := E_31.wr W49
 have F_51 := F_32.other W49 (Or.inr (sn10 hw))
 have F_52 := F_39.other W49 (Or.inr (sn11 hw))
 have F_53 := F_34.other W49 (Or.inr (sn12 hw))
 have F_54 := F_35.other W49 (Or.inr (sn13 hw))
 have F_55 := F_36.other W49 (Or.inr (sn14 hw))
 have O56 := O37.wr W49 g_b0
 have K57 := K38.wr W49 (Or.inl (List.mem_of_getElem? (i := 0) rfl))
 have F_58 : Fld Z h49 b0 "com/example/vacant_throne/vacantthrone/core/NodeSettings" "set" "I" (.int (1 : Int32)) := F_33.same W49
 have N59 := Fr.snoc X49 Nc46 g_b0
 have p60 : ∀ t, St p e below T49 (mkF m 42 Ls1 []) t → S0 t := fun t k => p48 t (st49 t k)
 have p61 : ∀ t, St p e below T49 (mkF m 43 Ls1 [(.ref b0)]) t → S0 t := fun t k => p60 t (by
   refine XS.aloadN X49.here hx rfl (hb hby d1_42) rfl rfl ?_
   exact k)
 obtain ⟨T62, X62, e62, st62⟩ := getS2 X49 hx hZ hown (host := "") (Or.inl (ww hw 46 rfl)) Via.refl e49 (Sa_PERIOD_MS.ext O56.2) (g := (mkF m 43 Ls1 [(.ref b0)])) rfl (hb hby d1_43)
 have p63 : ∀ t, St p e below T62 (mkF m 46 Ls1 [(.ref a_PERIOD_MS), (.ref b0)]) t → S0 t := fun t k => p61 t (st62 t k)
 have p64 : ∀ t, St p e below T62 (mkF m 49 Ls1 [(.long (100 : Int64)), (.ref a_PERIOD_MS), (.ref b0)]) t → S0 t := fun t k => p63 t (by
   refine XS.iload X62.here hx rfl (hb hby d1_46) rfl ?_
   refine XS.i2l X62.here hx rfl (hb hby d1_48) rfl ?_
   exact k)
 obtain ⟨cqc65, kqc65, qc65a, qc65b, qc65c⟩ := isOf hZ e62 (Ea_PERIOD_MS.ext O56.2)
 obtain ⟨_, _, ⟨Tc65, Lc65, kc65, nc65⟩, -, Xc65, ⟨Lcc65, hQc65, lc65, yc65, zc65⟩, stc65⟩ := X62.virtualBack hx (y := M2) (z := M2) hown (mvT hZ (ww hw 16 rfl)) (mvT hZ (ww hw 17 rfl)) (notFace_of_selects (args := #[]) (mvT hZ (ww hw 19 rfl))) (mvT hZ (ww hw 19 rfl)) (mvT hZ (ww hw 18 rfl)) (by decide) (backOf (W := 1) (rm3_10 l Z a0 hw [] a_ID a_ID_key a_PRIORITY a_PRIORITY_key a_SET a_SET_key a_PERIOD_MS a_PERIOD_MS_key a_MISSING_MAX a_MISSING_MAX_key a_PROSPECT_PERIODS a_PROSPECT_PERIODS_key h49 n0 O56 HE' ) hZ (ww hw 20 rfl) (ww hw 14 rfl) (by decide) (by decide)) qc65a qc65c (g := (mkF m 49 Ls1 [(.long (100 : Int64)), (.ref a_PERIOD_MS), (.ref b0)])) rfl (by rw [hml]; rfl) (Steps.refl _) (argsL := [(.long (100 : Int64))]) (rest := [(.ref b0)]) (lenOf pd2 rfl) rfl (by show 2 * 0 + _ ≤ _; exact Nat.le_of_eq rfl) (hb hby d1_49) (fun _ _ => ⟨rfl, e62, (by decide : 0 + 0 ≤ _), (by decide : 0 + 0 ≤ _)⟩)
 dsimp only [Pt.U, Pt.locs, Pt.cells, Pt.slots] at Xc65 lc65 yc65 zc65 stc65 hQc65
 subst lc65 yc65 zc65
 obtain ⟨Nqc65, ec65, hAc65⟩ := hQc65
 have Nc65 := Fr.app N59 Nqc65
 obtain rfl := hAc65
 have p66 : ∀ t, St p e below Tc65 (mkF m 52 Ls1 [(.long (100 : Int64)), (.ref b0)]) t → S0 t := fun t k => p64 t (stc65.trans k)
 have p67 : ∀ t, St p e below Tc65 (mkF m 53 Ls1 [(.int (100 : Int32)), (.ref b0)]) t → S0 t := fun t k => p66 t (by
   refine XS.l2i Xc65.here hx rfl (hb hby d1_52) rfl ?_
   exact k)
 obtain ⟨T68, h68, X68, e68, W68, st68⟩ := putF Xc65 hx hZ hown (host := "") (Or.inl (ww hw 48 rfl)) Via.refl ec65 F_53 E_50 (Or.inr ⟨(ww hw 49 rfl), rfl, hnm⟩) (ww hw 5 rfl) (ty := .int) (by decide) rfl rfl (g := (mkF m 53 Ls1 [(.int (100 : Int32)), (.ref b0)])) rfl rfl (hb hby d1_53)
 have E_69 := E_50.wr W68
 have F_70 := F_51.other W68 (Or.inr (sn15 hw))
 have F_71 := F_52.other W68 (Or.inr (sn16 hw))
 have F_72 := F_58.other W68 (Or.inr (sn17 hw))
 have F_73 := F_54.other W68 (Or.inr (sn18 hw))
 have F_74 := F_55.other W68 (Or.inr (sn19 hw))
 have O75 := O56.wr W68 g_b0
 have K76 := K57.wr W68 (Or.inl (List.mem_of_getElem? (i := 0) rfl))
 have F_77 : Fld Z h68 b0 "com/example/vacant_throne/vacantthrone/core/NodeSettings" "periodMs" "I" (.int (100 : Int32)) := F_53.same W68
 have N78 := Fr.snoc X68 Nc65 g_b0
 have p79 : ∀ t, St p e below T68 (mkF m 56 Ls1 []) t → S0 t := fun t k => p67 t (st68 t k)
 have p80 : ∀ t, St p e below T68 (mkF m 57 Ls1 [(.ref b0)]) t → S0 t := fun t k => p79 t (by
   refine XS.aloadN X68.here hx rfl (hb hby d1_56) rfl rfl ?_
   exact k)
 obtain ⟨T81, X81, e81, st81⟩ := getS2 X68 hx hZ hown (host := "") (Or.inl (ww hw 50 rfl)) Via.refl e68 (Sa_MISSING_MAX.ext O75.2) (g := (mkF m 57 Ls1 [(.ref b0)])) rfl (hb hby d1_57)
 have p82 : ∀ t, St p e below T81 (mkF m 60 Ls1 [(.ref a_MISSING_MAX), (.ref b0)]) t → S0 t := fun t k => p80 t (st81 t k)
 have p83 : ∀ t, St p e below T81 (mkF m 63 Ls1 [(.long (2 : Int64)), (.ref a_MISSING_MAX), (.ref b0)]) t → S0 t := fun t k => p82 t (by
   refine XS.iload X81.here hx rfl (hb hby d1_60) rfl ?_
   refine XS.i2l X81.here hx rfl (hb hby d1_62) rfl ?_
   exact k)
 obtain ⟨cqc84, kqc84, qc84a, qc84b, qc84c⟩ := isOf hZ e81 (Ea_MISSING_MAX.ext O75.2)
 obtain ⟨_, _, ⟨Tc84, Lc84, kc84, nc84⟩, -, Xc84, ⟨Lcc84, hQc84, lc84, yc84, zc84⟩, stc84⟩ := X81.virtualBack hx (y := M2) (z := M2) hown (mvT hZ (ww hw 16 rfl)) (mvT hZ (ww hw 17 rfl)) (notFace_of_selects (args := #[]) (mvT hZ (ww hw 19 rfl))) (mvT hZ (ww hw 19 rfl)) (mvT hZ (ww hw 18 rfl)) (by decide) (backOf (W := 1) (rm3_13 l Z a0 hw [] a_ID a_ID_key a_PRIORITY a_PRIORITY_key a_SET a_SET_key a_PERIOD_MS a_PERIOD_MS_key a_MISSING_MAX a_MISSING_MAX_key a_PROSPECT_PERIODS a_PROSPECT_PERIODS_key h68 n0 O75 HE' ) hZ (ww hw 20 rfl) (ww hw 14 rfl) (by decide) (by decide)) qc84a qc84c (g := (mkF m 63 Ls1 [(.long (2 : Int64)), (.ref a_MISSING_MAX), (.ref b0)])) rfl (by rw [hml]; rfl) (Steps.refl _) (argsL := [(.long (2 : Int64))]) (rest := [(.ref b0)]) (lenOf pd2 rfl) rfl (by show 2 * 0 + _ ≤ _; exact Nat.le_of_eq rfl) (hb hby d1_63) (fun _ _ => ⟨rfl, e81, (by decide : 0 + 0 ≤ _), (by decide : 0 + 0 ≤ _)⟩)
 dsimp only [Pt.U, Pt.locs, Pt.cells, Pt.slots] at Xc84 lc84 yc84 zc84 stc84 hQc84
 subst lc84 yc84 zc84
 obtain ⟨Nqc84, ec84, hAc84⟩ := hQc84
 have Nc84 := Fr.app N78 Nqc84
 obtain rfl := hAc84
 have p85 : ∀ t, St p e below Tc84 (mkF m 66 Ls1 [(.long (2 : Int64)), (.ref b0)]) t → S0 t := fun t k => p83 t (stc84.trans k)
 have p86 : ∀ t, St p e below Tc84 (mkF m 67 Ls1 [(.int (2 : Int32)), (.ref b0)]) t → S0 t := fun t k => p85 t (by
   refine XS.l2i Xc84.here hx rfl (hb hby d1_66) rfl ?_
   exact k)
 obtain ⟨T87, h87, X87, e87, W87, st87⟩ := putF Xc84 hx hZ hown (host := "") (Or.inl (ww hw 52 rfl)) Via.refl ec84 F_73 E_69 (Or.inr ⟨(ww hw 53 rfl), rfl, hnm⟩) (ww hw 5 rfl) (ty := .int) (by decide) rfl rfl (g := (mkF m 67 Ls1 [(.int (2 : Int32)), (.ref b0)])) rfl rfl (hb hby d1_67)
 have E_88 := E_69.wr W87
 have F_89 := F_70.other W87 (Or.inr (sn20 hw))
 have F_90 := F_71.other W87 (Or.inr (sn21 hw))
 have F_91 := F_72.other W87 (Or.inr (sn22 hw))
 have F_92 := F_77.other W87 (Or.inr (sn23 hw))
 have F_93 := F_74.other W87 (Or.inr (sn24 hw))
 have O94 := O75.wr W87 g_b0
 have K95 := K76.wr W87 (Or.inl (List.mem_of_getElem? (i := 0) rfl))
 have F_96 : Fld Z h87 b0 "com/example/vacant_throne/vacantthrone/core/NodeSettings" "missingMax" "I" (.int (2 : Int32)) := F_73.same W87
 have N97 := Fr.snoc X87 Nc84 g_b0
 have p98 : ∀ t, St p e below T87 (mkF m 70 Ls1 []) t → S0 t := fun t k => p86 t (st87 t k)
 have p99 : ∀ t, St p e below T87 (mkF m 71 Ls1 [(.ref b0)]) t → S0 t := fun t k => p98 t (by
   refine XS.aloadN X87.here hx rfl (hb hby d1_70) rfl rfl ?_
   exact k)
 obtain ⟨T100, X100, e100, st100⟩ := getS2 X87 hx hZ hown (host := "") (Or.inl (ww hw 54 rfl)) Via.refl e87 (Sa_PROSPECT_PERIODS.ext O94.2) (g := (mkF m 71 Ls1 [(.ref b0)])) rfl (hb hby d1_71)
 have p101 : ∀ t, St p e below T100 (mkF m 74 Ls1 [(.ref a_PROSPECT_PERIODS), (.ref b0)]) t → S0 t := fun t k => p99 t (st100 t k)
 have p102 : ∀ t, St p e below T100 (mkF m 77 Ls1 [(.long (2 : Int64)), (.ref a_PROSPECT_PERIODS), (.ref b0)]) t → S0 t := fun t k => p101 t (by
   refine XS.iload X100.here hx rfl (hb hby d1_74) rfl ?_
   refine XS.i2l X100.here hx rfl (hb hby d1_76) rfl ?_
   exact k)
 obtain ⟨cqc103, kqc103, qc103a, qc103b, qc103c⟩ := isOf hZ e100 (Ea_PROSPECT_PERIODS.ext O94.2)
 obtain ⟨_, _, ⟨Tc103, Lc103, kc103, nc103⟩, -, Xc103, ⟨Lcc103, hQc103, lc103, yc103, zc103⟩, stc103⟩ := X100.virtualBack hx (y := M2) (z := M2) hown (mvT hZ (ww hw 16 rfl)) (mvT hZ (ww hw 17 rfl)) (notFace_of_selects (args := #[]) (mvT hZ (ww hw 19 rfl))) (mvT hZ (ww hw 19 rfl)) (mvT hZ (ww hw 18 rfl)) (by decide) (backOf (W := 1) (rm3_16 l Z a0 hw [] a_ID a_ID_key a_PRIORITY a_PRIORITY_key a_SET a_SET_key a_PERIOD_MS a_PERIOD_MS_key a_MISSING_MAX a_MISSING_MAX_key a_PROSPECT_PERIODS a_PROSPECT_PERIODS_key h87 n0 O94 HE' ) hZ (ww hw 20 rfl) (ww hw 14 rfl) (by decide) (by decide)) qc103a qc103c (g := (mkF m 77 Ls1 [(.long (2 : Int64)), (.ref a_PROSPECT_PERIODS), (.ref b0)])) rfl (by rw [hml]; rfl) (Steps.refl _) (argsL := [(.long (2 : Int64))]) (rest := [(.ref b0)]) (lenOf pd2 rfl) rfl (by show 2 * 0 + _ ≤ _; exact Nat.le_of_eq rfl) (hb hby d1_77) (fun _ _ => ⟨rfl, e100, (by decide : 0 + 0 ≤ _), (by decide : 0 + 0 ≤ _)⟩)
 dsimp only [Pt.U, Pt.locs, Pt.cells, Pt.slots] at Xc103 lc103 yc103 zc103 stc103 hQc103
 subst lc103 yc103 zc103
 obtain ⟨Nqc103, ec103, hAc103⟩ := hQc103
 have Nc103 := Fr.app N97 Nqc103
 obtain rfl := hAc103
 have p104 : ∀ t, St p e below Tc103 (mkF m 80 Ls1 [(.long (2 : Int64)), (.ref b0)]) t → S0 t := fun t k => p102 t (stc103.trans k)
 have p105 : ∀ t, St p e below Tc103 (mkF m 81 Ls1 [(.int (2 : Int32)), (.ref b0)]) t → S0 t := fun t k => p104 t (by
   refine XS.l2i Xc103.here hx rfl (hb hby d1_80) rfl ?_
   exact k)
 obtain ⟨T106, h106, X106, e106, W106, st106⟩ := putF Xc103 hx hZ hown (host := "") (Or.inl (ww hw 56 rfl)) Via.refl ec103 F_93 E_88 (Or.inr ⟨(ww hw 57 rfl), rfl, hnm⟩) (ww hw 5 rfl) (ty := .int) (by decide) rfl rfl (g := (mkF m 81 Ls1 [(.int (2 : Int32)), (.ref b0)])) rfl rfl (hb hby d1_81)
 have E_107 := E_88.wr W106
 have F_108 := F_89.other W106 (Or.inr (sn25 hw))
 have F_109 := F_90.other W106 (Or.inr (sn26 hw))
 have F_110 := F_91.other W106 (Or.inr (sn27 hw))
 have F_111 := F_92.other W106 (Or.inr (sn28 hw))
 have F_112 := F_96.other W106 (Or.inr (sn29 hw))
 have O113 := O94.wr W106 g_b0
 have K114 := K95.wr W106 (Or.inl (List.mem_of_getElem? (i := 0) rfl))
 have F_115 : Fld Z h106 b0 "com/example/vacant_throne/vacantthrone/core/NodeSettings" "prospectPeriods" "I" (.int (2 : Int32)) := F_93.same W106
 have N116 := Fr.snoc X106 Nc103 g_b0
 have p117 : ∀ t, St p e below T106 (mkF m 84 Ls1 []) t → S0 t := fun t k => p105 t (st106 t k)
 obtain ⟨fs, hr, hrun, hended, hW, hsame⟩ := X106.leave (v := none) (fun _ => rfl)
 refine ⟨_, _, p117 _ ?_, hrun, hended, _, _, rfl, ?_, ⟨_, rfl⟩, hW, hsame.mono (by decide) (by decide)⟩
 · exact X106.returnOut hx Bd.returns (hb hby d1_84) hr
 · show Q1_0 Z a_ID a_ID_key a_PRIORITY a_PRIORITY_key a_SET a_SET_key a_PERIOD_MS a_PERIOD_MS_key a_MISSING_MAX a_MISSING_MAX_key a_PROSPECT_PERIODS a_PROSPECT_PERIODS_key j0 i1 b0 h0 n0 _ T106.heap _
   rw [e106]
   exact ⟨N116, ⟨rfl, K114, E_107, F_108, F_109, F_110, F_111, F_112, F_115⟩⟩
theorem pd3 : parseMethodDescriptor "(JIIIII)V" = some ⟨[.long, .int, .int, .int, .int, .int], none⟩ := by decide +kernel
theorem ef5 (m : MethodId) (x0 : Addr) (x1 : Int32) (x2 : Int64) : entryFrame m #[(.ref x0), (.int x1), (.long x2)] 4 = mkF m 0 #[.val (.ref x0), .val (.int x1), .val (.long x2), .second] [] := by first | (simp [entryFrame, mkF, argsToLocals, Value.category]; done) | rfl
theorem d6_0 : decode prog_10_method_9_code 0 = .ok (.aload_n 0, 1) := by decide +kernel
theorem d6_1 : decode prog_10_method_9_code 1 = .ok (.getfield 45, 3) := by decide +kernel
theorem d6_4 : decode prog_10_method_9_code 4 = .ok (.iload_n 1, 1) := by decide +kernel
theorem d6_5 : decode prog_10_method_9_code 5 = .ok (.if_icmp .gt 20, 3) := by decide +kernel
theorem d6_25 : decode prog_10_method_9_code 25 = .ok (.iconst 1, 1) := by decide +kernel
theorem d6_26 : decode prog_10_method_9_code 26 = .ok (.goto 4, 3) := by decide +kernel
theorem d6_30 : decode prog_10_method_9_code 30 = .ok (.ireturn, 1) := by decide +kernel
theorem d6_8 : decode prog_10_method_9_code 8 = .ok (.aload_n 0, 1) := by decide +kernel
theorem d6_9 : decode prog_10_method_9_code 9 = .ok (.getfield 45, 3) := by decide +kernel
theorem d6_12 : decode prog_10_method_9_code 12 = .ok (.iload_n 1, 1) := by decide +kernel
theorem d6_13 : decode prog_10_method_9_code 13 = .ok (.if_icmp .ne 16, 3) := by decide +kernel
theorem d6_16 : decode prog_10_method_9_code 16 = .ok (.aload_n 0, 1) := by decide +kernel
theorem d6_17 : decode prog_10_method_9_code 17 = .ok (.getfield 38, 3) := by decide +kernel
theorem d6_20 : decode prog_10_method_9_code 20 = .ok (.lload_n 2, 1) := by decide +kernel
theorem d6_21 : decode prog_10_method_9_code 21 = .ok (.lcmp, 1) := by decide +kernel
theorem d6_22 : decode prog_10_method_9_code 22 = .ok (.ifCond .le 7, 3) := by decide +kernel
theorem d6_29 : decode prog_10_method_9_code 29 = .ok (.iconst 0, 1) := by decide +kernel
def Q6_19 (Z : State) (a_ID : Addr) (a_ID_key : Addr) (a_PRIORITY : Addr) (a_PRIORITY_key : Addr) (a_SET : Addr) (a_SET_key : Addr) (a_PERIOD_MS : Addr) (a_PERIOD_MS_key : Addr) (a_MISSING_MAX : Addr) (a_MISSING_MAX_key : Addr) (a_PROSPECT_PERIODS : Addr) (a_PROSPECT_PERIODS_key : Addr) (i0 : Int32) (j1 : Int64) (j2 : Int64) (i3 : Int32) (b0 : Addr) (h0 : Heap) (n0 : Nat) (v : Option Value) (h : Heap) (L : List Loc) : Prop := Fr n0 L ∧ h = h0 ∧ ((v = some (.int (1 : Int32)) ∧ i0 < i3) ∨ (v = some (.int (1 : Int32)) ∧ ¬ (i0 < i3) ∧ i3 = i0 ∧ j1 < j2) ∨ (v = some (.int (0 : Int32)) ∧ ¬ (i0 < i3) ∧ i3 = i0 ∧ ¬ (j1 < j2)) ∨ (v = some (.int (0 : Int32)) ∧ ¬ (i0 < i3) ∧ ¬ (i3 = i0)))
set_option maxRecDepth 65536 in
set_option maxHeartbeats 40000000 in
theorem rm6_19 (l : Launch) (Z : State) (a0 : Array Value) (hw : ∀ d ∈ tables_1, d.before a0 Z = true) (ws : List Jvm.Cond) (a_ID : Addr) (a_ID_key : Addr) (a_PRIORITY : Addr) (a_PRIORITY_key : Addr) (a_SET : Addr) (a_SET_key : Addr) (a_PERIOD_MS : Addr) (a_PERIOD_MS_key : Addr) (a_MISSING_MAX : Addr) (a_MISSING_MAX_key : Addr) (a_PROSPECT_PERIODS : Addr) (a_PROSPECT_PERIODS_key : Addr) (i0 : Int32) (j1 : Int64) (j2 : Int64) (i3 : Int32) (b0 : Addr) (h0 : Heap) (n0 : Nat) (O0 : Old Z n0 h0) (HE : Env1 Z a_ID a_ID_key a_PRIORITY a_PRIORITY_key a_SET a_SET_key a_PERIOD_MS a_PERIOD_MS_key a_MISSING_MAX a_MISSING_MAX_key a_PROSPECT_PERIODS a_PROSPECT_PERIODS_key) (g_b0 : n0 ≤ b0) (f0 : Exa Z h0 b0 "com/example/vacant_throne/vacantthrone/core/NodeSettings") (f1 : Fld Z h0 b0 "com/example/vacant_throne/vacantthrone/core/NodeSettings" "id" "J" (.long j2)) (f2 : Fld Z h0 b0 "com/example/vacant_throne/vacantthrone/core/NodeSettings" "priority" "I" (.int i3)) (f3 : Fld Z h0 b0 "com/example/vacant_throne/vacantthrone/core/NodeSettings" "set" "I" (.int (1 : Int32))) (f4 : Fld Z h0 b0 "com/example/vacant_throne/vacantthrone/core/NodeSettings" "periodMs" "I" (.int (100 : Int32))) (f5 : Fld Z h0 b0 "com/example/vacant_throne/vacantthrone/core/NodeSettings" "missingMax" "I" (.int (2 : Int32))) (f6 : Fld Z h0 b0 "com/example/vacant_throne/vacantthrone/core/NodeSettings" "prospectPeriods" "I" (.int (2 : Int32))) :
    MetFree l M4 (head1 (Jvm.Cond.code M4 prog_10_method_9_code 4 (some .boolean) :: ws) ({ frames := 0, cells := 0, slots := 0, locals := 0 } : Room)) (fun a U => a = #[(.ref b0), (.int i0), (.long j1)] ∧ Z.Warmed39 U.vm ∧ U.heap = h0) (fun _ _ _ _ _ => True) (fun _ U o U' => ∃ v L, o = .returned v ∧ Q6_19 Z a_ID a_ID_key a_PRIORITY a_PRIORITY_key a_SET a_SET_key a_PERIOD_MS a_PERIOD_MS_key a_MISSING_MAX a_MISSING_MAX_key a_PROSPECT_PERIODS a_PROSPECT_PERIODS_key i0 j1 j2 i3 b0 h0 n0 v U'.heap L ∧ FrameEnd U o U' L ({ frames := 0, cells := 0, slots := 0, locals := 0 } : Room).cells ({ frames := 0, cells := 0, slots := 0, locals := 0 } : Room).slots) := by
 refine MetFree.of_bodySF (plainFor_of_name pn1) hisR ?_
 intro p e s m args below meth c s₁ Bd hml0 hP hK
 obtain ⟨rfl, hZ, hh⟩ := hP
 have hx := Bd.exec
 have hby := Bd.bytes
 have hml : c.maxLocals = 4 := hml0
 have hown : s.vm.findClass "com/example/vacant_throne/vacantthrone/core/NodeSettings" = some m.cls := findClass_of_methodNamed Bd.named
 have hnm := (name_of_methodNamed Bd.named Bd.method).1
 have X0 : Stand p l e ({ frames := 0, cells := 0, slots := 0, locals := 0 } : Room) s m #[(.ref b0), (.int i0), (.long j1)] below meth c s₁ [] 0 0 := Stand.of_body Bd
 have e0 : s₁.heap = h0 := by rw [← hh, Bd.state]; rfl
 have N0 := Fr.nil n0
 let S0 : State → Prop := fun t => Steps p.tables e below (s₁.setTop (entryFrame m #[(.ref b0), (.int i0), (.long j1)] 4)) t
 have p0 : ∀ t, St p e below s₁ (mkF m 0 #[.val (.ref b0), .val (.int i0), .val (.long j1), .second] []) t → S0 t := fun t k => castTop (ef5 m b0 i0 j1) k
 have HE' := HE
 obtain ⟨Sa_ID, Ea_ID, Fa_ID_key, Ea_ID_key, Fa_ID_min, Fa_ID_max, Sa_PRIORITY, Ea_PRIORITY, Fa_PRIORITY_key, Ea_PRIORITY_key, Fa_PRIORITY_min, Fa_PRIORITY_max, Sa_SET, Ea_SET, Fa_SET_key, Ea_SET_key, Fa_SET_min, Fa_SET_max, Sa_PERIOD_MS, Ea_PERIOD_MS, Fa_PERIOD_MS_key, Ea_PERIOD_MS_key, Fa_PERIOD_MS_min, Fa_PERIOD_MS_max, Sa_MISSING_MAX, Ea_MISSING_MAX, Fa_MISSING_MAX_key, Ea_MISSING_MAX_key, Fa_MISSING_MAX_min, Fa_MISSING_MAX_max, Sa_PROSPECT_PERIODS, Ea_PROSPECT_PERIODS, Fa_PROSPECT_PERIODS_key, Ea_PROSPECT_PERIODS_key, Fa_PROSPECT_PERIODS_min, Fa_PROSPECT_PERIODS_max⟩ := HE
 have p1 : ∀ t, St p e below s₁ (mkF m 1 #[.val (.ref b0), .val (.int i0), .val (.long j1), .second] [(.ref b0)]) t → S0 t := fun t k => p0 t (by
   refine XS.aloadN X0.here hx rfl (hb hby d6_0) rfl rfl ?_
   exact k)
 obtain ⟨T2, X2, e2, st2⟩ := getF X0 hx hZ hown (host := "") (Or.inl (ww hw 40 rfl)) Via.refl e0 f2 (g := (mkF m 1 #[.val (.ref b0), .val (.int i0), .val (.long j1), .second] [(.ref b0)])) rfl rfl (hb hby d6_1)
 have p3 : ∀ t, St p e below T2 (mkF m 4 #[.val (.ref b0), .val (.int i0), .val (.long j1), .second] [(.int i3)]) t → S0 t := fun t k => p1 t (st2 t k)
 have p4 : ∀ t, St p e below T2 (mkF m 5 #[.val (.ref b0), .val (.int i0), .val (.long j1), .second] [(.int i0), (.int i3)]) t → S0 t := fun t k => p3 t (by
   refine XS.iloadN X2.here hx rfl (hb hby d6_4) rfl ?_
   exact k)
 by_cases g5 : i0 < i3
 ·
  have p6 : ∀ t, St p e below T2 (mkF m 30 #[.val (.ref b0), .val (.int i0), .val (.long j1), .second] [(.int (1 : Int32))]) t → S0 t := fun t k => p4 t (by
    refine XS.icmpYes X2.here hx rfl (pc0 := 5) (pc' := 25) rfl (hb hby d6_5) rfl (tlt g5).2.2.1 (by decide) (by decide) ?_
    refine XT.iconstV X2.here hx rfl (1 : Int32) (hb hby d6_25) (by decide) ?_
    refine XS.goto X2.here hx rfl (pc0 := 26) (pc' := 30) rfl (hb hby d6_26) (by decide) (by decide) ?_
    exact k)
  obtain ⟨fs, hr, hrun, hended, hW, hsame⟩ := X2.leave (v := some (.int (1 : Int32))) (fun h => by rw [Bd.returns] at h; cases h)
  refine ⟨_, _, p6 _ ?_, hrun, hended, _, _, rfl, ?_, ⟨_, rfl⟩, hW, hsame.mono (by decide) (by decide)⟩
  · exact retOut X2 hx Bd.returns rfl (Or.inl ⟨rfl, by simp, _, rfl⟩) (hb hby d6_30) hr
  · show Q6_19 Z a_ID a_ID_key a_PRIORITY a_PRIORITY_key a_SET a_SET_key a_PERIOD_MS a_PERIOD_MS_key a_MISSING_MAX a_MISSING_MAX_key a_PROSPECT_PERIODS a_PROSPECT_PERIODS_key i0 j1 j2 i3 b0 h0 n0 _ T2.heap _
    exact ⟨N0, e2, (Or.inl ⟨rfl, g5⟩)⟩
 ·
  have p7 : ∀ t, St p e below T2 (mkF m 9 #[.val (.ref b0), .val (.int i0), .val (.long j1), .second] [(.ref b0)]) t → S0 t := fun t k => p4 t (by
    refine XS.icmpNo X2.here hx rfl (hb hby d6_5) rfl (flt g5).2.2.1 ?_
    refine XS.aloadN X2.here hx rfl (hb hby d6_8) rfl rfl ?_
    exact k)
  obtain ⟨T8, X8, e8, st8⟩ := getF X2 hx hZ hown (host := "") (Or.inl (ww hw 40 rfl)) Via.refl e2 f2 (g := (mkF m 9 #[.val (.ref b0), .val (.int i0), .val (.long j1), .second] [(.ref b0)])) rfl rfl (hb hby d6_9)
  have p9 : ∀ t, St p e below T8 (mkF m 12 #[.val (.ref b0), .val (.int i0), .val (.long j1), .second] [(.int i3)]) t → S0 t := fun t k => p7 t (st8 t k)
  have p10 : ∀ t, St p e below T8 (mkF m 13 #[.val (.ref b0), .val (.int i0), .val (.long j1), .second] [(.int i0), (.int i3)]) t → S0 t := fun t k => p9 t (by
    refine XS.iloadN X8.here hx rfl (hb hby d6_12) rfl ?_
    exact k)
  by_cases g11 : i3 = i0
  ·
   have p12 : ∀ t, St p e below T8 (mkF m 17 #[.val (.ref b0), .val (.int i0), .val (.long j1), .second] [(.ref b0)]) t → S0 t := fun t k => p10 t (by
     refine XS.icmpNo X8.here hx rfl (hb hby d6_13) rfl (teq g11).2 ?_
     refine XS.aloadN X8.here hx rfl (hb hby d6_16) rfl rfl ?_
     exact k)
   obtain ⟨T13, X13, e13, st13⟩ := getF X8 hx hZ hown (host := "") (Or.inl (ww hw 36 rfl)) Via.refl e8 f1 (g := (mkF m 17 #[.val (.ref b0), .val (.int i0), .val (.long j1), .second] [(.ref b0)])) rfl rfl (hb hby d6_17)
   have p14 : ∀ t, St p e below T13 (mkF m 20 #[.val (.ref b0), .val (.int i0), .val (.long j1), .second] [(.long j2)]) t → S0 t := fun t k => p12 t (st13 t k)
   have p15 : ∀ t, St p e below T13 (mkF m 22 #[.val (.ref b0), .val (.int i0), .val (.long j1), .second] [(.int (lcmpW j2 j1))]) t → S0 t := fun t k => p14 t (by
     refine XS.lloadN X13.here hx rfl (hb hby d6_20) rfl ?_
     refine XS.lcmp X13.here hx rfl (hb hby d6_21) rfl ?_
     exact k)
   by_cases g16 : j1 < j2
   ·
    have p17 : ∀ t, St p e below T13 (mkF m 30 #[.val (.ref b0), .val (.int i0), .val (.long j1), .second] [(.int (1 : Int32))]) t → S0 t := fun t k => p15 t (by
      refine XS.ifNo X13.here hx rfl (hb hby d6_22) rfl ((if0 _ _).trans (tlt ((lw_gt _ _).mpr g16)).2.2.2) ?_
      refine XT.iconstV X13.here hx rfl (1 : Int32) (hb hby d6_25) (by decide) ?_
      refine XS.goto X13.here hx rfl (pc0 := 26) (pc' := 30) rfl (hb hby d6_26) (by decide) (by decide) ?_
      exact k)
    obtain ⟨fs, hr, hrun, hended, hW, hsame⟩ := X13.leave (v := some (.int (1 : Int32))) (fun h => by rw [Bd.returns] at h; cases h)
    refine ⟨_, _, p17 _ ?_, hrun, hended, _, _, rfl, ?_, ⟨_, rfl⟩, hW, hsame.mono (by decide) (by decide)⟩
    · exact retOut X13 hx Bd.returns rfl (Or.inl ⟨rfl, by simp, _, rfl⟩) (hb hby d6_30) hr
    · show Q6_19 Z a_ID a_ID_key a_PRIORITY a_PRIORITY_key a_SET a_SET_key a_PERIOD_MS a_PERIOD_MS_key a_MISSING_MAX a_MISSING_MAX_key a_PROSPECT_PERIODS a_PROSPECT_PERIODS_key i0 j1 j2 i3 b0 h0 n0 _ T13.heap _
      exact ⟨N0, e13, (Or.inr (Or.inl ⟨rfl, g5, g11, g16⟩))⟩
   ·
    have p18 : ∀ t, St p e below T13 (mkF m 30 #[.val (.ref b0), .val (.int i0), .val (.long j1), .second] [(.int (0 : Int32))]) t → S0 t := fun t k => p15 t (by
      refine XS.ifYes X13.here hx rfl (pc0 := 22) (pc' := 29) rfl (hb hby d6_22) rfl ((if0 _ _).trans (flt (mt (lw_gt _ _).mp g16)).2.2.2) (by decide) (by decide) ?_
      refine XT.iconstV X13.here hx rfl (0 : Int32) (hb hby d6_29) (by decide) ?_
      exact k)
    obtain ⟨fs, hr, hrun, hended, hW, hsame⟩ := X13.leave (v := some (.int (0 : Int32))) (fun h => by rw [Bd.returns] at h; cases h)
    refine ⟨_, _, p18 _ ?_, hrun, hended, _, _, rfl, ?_, ⟨_, rfl⟩, hW, hsame.mono (by decide) (by decide)⟩
    · exact retOut X13 hx Bd.returns rfl (Or.inl ⟨rfl, by simp, _, rfl⟩) (hb hby d6_30) hr
    · show Q6_19 Z a_ID a_ID_key a_PRIORITY a_PRIORITY_key a_SET a_SET_key a_PERIOD_MS a_PERIOD_MS_key a_MISSING_MAX a_MISSING_MAX_key a_PROSPECT_PERIODS a_PROSPECT_PERIODS_key i0 j1 j2 i3 b0 h0 n0 _ T13.heap _
      exact ⟨N0, e13, (Or.inr (Or.inr (Or.inl ⟨rfl, g5, g11, g16⟩)))⟩
  ·
   have p19 : ∀ t, St p e below T8 (mkF m 30 #[.val (.ref b0), .val (.int i0), .val (.long j1), .second] [(.int (0 : Int32))]) t → S0 t := fun t k => p10 t (by
     refine XS.icmpYes X8.here hx rfl (pc0 := 13) (pc' := 29) rfl (hb hby d6_13) rfl (feq g11).2 (by decide) (by decide) ?_
     refine XT.iconstV X8.here hx rfl (0 : Int32) (hb hby d6_29) (by decide) ?_
     exact k)
   obtain ⟨fs, hr, hrun, hended, hW, hsame⟩ := X8.leave (v := some (.int (0 : Int32))) (fun h => by rw [Bd.returns] at h; cases h)
   refine ⟨_, _, p19 _ ?_, hrun, hended, _, _, rfl, ?_, ⟨_, rfl⟩, hW, hsame.mono (by decide) (by decide)⟩
   · exact retOut X8 hx Bd.returns rfl (Or.inl ⟨rfl, by simp, _, rfl⟩) (hb hby d6_30) hr
   · show Q6_19 Z a_ID a_ID_key a_PRIORITY a_PRIORITY_key a_SET a_SET_key a_PERIOD_MS a_PERIOD_MS_key a_MISSING_MAX a_MISSING_MAX_key a_PROSPECT_PERIODS a_PROSPECT_PERIODS_key i0 j1 j2 i3 b0 h0 n0 _ T8.heap _
     exact ⟨N0, e8, (Or.inr (Or.inr (Or.inr (⟨rfl, g5, g11⟩))))⟩
theorem pd4 : parseMethodDescriptor "(IJ)Z" = some ⟨[.int, .long], some .boolean⟩ := by decide +kernel
def Q0 (Z : State) (a_ID : Addr) (a_ID_key : Addr) (a_PRIORITY : Addr) (a_PRIORITY_key : Addr) (a_SET : Addr) (a_SET_key : Addr) (a_PERIOD_MS : Addr) (a_PERIOD_MS_key : Addr) (a_MISSING_MAX : Addr) (a_MISSING_MAX_key : Addr) (a_PROSPECT_PERIODS : Addr) (a_PROSPECT_PERIODS_key : Addr) (j0 : Int64) (i1 : Int32) (i2 : Int32) (j3 : Int64) (i4 : Int32) (h0 : Heap) (n0 : Nat) (v : Option Value) (h : Heap) (L : List Loc) : Prop := v = some (.int 1) ∧ Fr n0 L
set_option maxRecDepth 65536 in
set_option maxHeartbeats 40000000 in
theorem rm0 (l : Launch) (Z : State) (a0 : Array Value) (hw : ∀ d ∈ tables_1, d.before a0 Z = true) (ws : List Jvm.Cond) (a_ID : Addr) (a_ID_key : Addr) (a_PRIORITY : Addr) (a_PRIORITY_key : Addr) (a_SET : Addr) (a_SET_key : Addr) (a_PERIOD_MS : Addr) (a_PERIOD_MS_key : Addr) (a_MISSING_MAX : Addr) (a_MISSING_MAX_key : Addr) (a_PROSPECT_PERIODS : Addr) (a_PROSPECT_PERIODS_key : Addr) (j0 : Int64) (i1 : Int32) (i2 : Int32) (j3 : Int64) (i4 : Int32) (h0 : Heap) (n0 : Nat) (O0 : Old Z n0 h0) (HE : Env1 Z a_ID a_ID_key a_PRIORITY a_PRIORITY_key a_SET a_SET_key a_PERIOD_MS a_PERIOD_MS_key a_MISSING_MAX a_MISSING_MAX_key a_PROSPECT_PERIODS a_PROSPECT_PERIODS_key)  :
    MetFree l x (head1 (Jvm.Cond.code x code maxLocals ret :: ws) room_1) (fun a U => a = #[(.long j0), (.int i1), (.int i2), (.long j3), (.int i4)] ∧ Z.Warmed39 U.vm ∧ U.heap = h0) (fun _ _ _ _ _ => True) (fun _ U o U' => ∃ v L, o = .returned v ∧ Q0 Z a_ID a_ID_key a_PRIORITY a_PRIORITY_key a_SET a_SET_key a_PERIOD_MS a_PERIOD_MS_key a_MISSING_MAX a_MISSING_MAX_key a_PROSPECT_PERIODS a_PROSPECT_PERIODS_key j0 i1 i2 j3 i4 h0 n0 v U'.heap L ∧ FrameEnd U o U' L 16 128) := by
 refine MetFree.of_bodySF (plainFor_of_name pn0) hisR ?_
 intro p e s m args below meth c s₁ Bd hml0 hP hK
 obtain ⟨rfl, hZ, hh⟩ := hP
 have hx := Bd.exec
 have hby := Bd.bytes
 have hml : c.maxLocals = 17 := hml0
 have hown : s.vm.findClass "com/example/vacant_throne/vacantthrone/core/NodeSettingsOutranksPinLaw" = some m.cls := findClass_of_methodNamed Bd.named
 have hnm := (name_of_methodNamed Bd.named Bd.method).1
 have X0 : Stand p l e room_1 s m #[(.long j0), (.int i1), (.int i2), (.long j3), (.int i4)] below meth c s₁ [] 0 0 := Stand.of_body Bd
 have e0 : s₁.heap = h0 := by rw [← hh, Bd.state]; rfl
 have N0 := Fr.nil n0
 let S0 : State → Prop := fun t => Steps p.tables e below (s₁.setTop (entryFrame m #[(.long j0), (.int i1), (.int i2), (.long j3), (.int i4)] maxLocals)) t
 let Ls1 : Array Slot := #[.val (.long j0), .second, .val (.int i1), .val (.int i2), .val (.long j3), .second, .val (.int i4), .unset, .unset, .unset, .unset, .unset, .unset, .unset, .unset, .unset, .unset]
 have p0 : ∀ t, St p e below s₁ (mkF m 0 Ls1 []) t → S0 t := fun t k => castTop (ef0 m j0 i1 i2 j3 i4) k
 have HE' := HE
 obtain ⟨Sa_ID, Ea_ID, Fa_ID_key, Ea_ID_key, Fa_ID_min, Fa_ID_max, Sa_PRIORITY, Ea_PRIORITY, Fa_PRIORITY_key, Ea_PRIORITY_key, Fa_PRIORITY_min, Fa_PRIORITY_max, Sa_SET, Ea_SET, Fa_SET_key, Ea_SET_key, Fa_SET_min, Fa_SET_max, Sa_PERIOD_MS, Ea_PERIOD_MS, Fa_PERIOD_MS_key, Ea_PERIOD_MS_key, Fa_PERIOD_MS_min, Fa_PERIOD_MS_max, Sa_MISSING_MAX, Ea_MISSING_MAX, Fa_MISSING_MAX_key, Ea_MISSING_MAX_key, Fa_MISSING_MAX_min, Fa_MISSING_MAX_max, Sa_PROSPECT_PERIODS, Ea_PROSPECT_PERIODS, Fa_PROSPECT_PERIODS_key, Ea_PROSPECT_PERIODS_key, Fa_PROSPECT_PERIODS_min, Fa_PROSPECT_PERIODS_max⟩ := HE
 have p2 : ∀ t, St p e below s₁ (mkF m 6 Ls1 [(.long (j0 &&& (9223372036854775807 : Int64))), (.long (1 : Int64))]) t → S0 t := fun t k => p0 t (by
   refine XT.lconstV X0.here hx rfl (1 : Int64) (hb hby at_0) (by decide) ?_
   refine XS.lloadN X0.here hx rfl (hb hby at_1) rfl ?_
   refine X0.ldc2J hx hown (mvT hZ (ww hw 0 rfl)) rfl (hb hby at_2) ?_
   refine XS.land X0.here hx rfl (hb hby at_5) rfl ?_
   exact k)
 have q4 : ¬ ((j0 &&& (9223372036854775807 : Int64)) < (0 : Int64)) := by
  intro r5
  have q1_ := ltJ r5
  have l2_ := rng64 j0
  have l3_ := lJ9223372036854775807
  have l4_ : (j0 &&& (9223372036854775807 : Int64)).toInt = j0.toInt % 9223372036854775808 := c_maskL j0 (9223372036854775807 : Int64) 63 (by decide) (by decide)
  have l5_ := lJ0
  omega
 obtain ⟨w3, w3_eq⟩ : ∃ z : Int64, z = (j0 &&& (9223372036854775807 : Int64)) := ⟨_, rfl⟩
 have p6 : ∀ t, St p e below s₁ (mkF m 6 Ls1 [(.long w3), (.long (1 : Int64))]) t → S0 t := fun t k => p2 t (by show St p e below s₁ (mkF m 6 #[.val (.long j0), .second, .val (.int i1), .val (.int i2), .val (.long j3), .second, .val (.int i4), .unset, .unset, .unset, .unset, .unset, .unset, .unset, .unset, .unset, .unset] [(.long (j0 &&& (9223372036854775807 : Int64))), (.long (1 : Int64))]) t; rw [← w3_eq]; exact k)
 have g7 : ¬ (w3 < (0 : Int64)) := by rw [w3_eq]; exact q4
 have p8 : ∀ t, St p e below s₁ (mkF m 10 Ls1 [(.long (w3 % (4294967295 : Int64))), (.long (1 : Int64))]) t → S0 t := fun t k => p6 t (by
   refine X0.ldc2J hx hown (mvT hZ (ww hw 1 rfl)) rfl (hb hby at_6) ?_
   refine own_lrem X0 hx rfl (hb hby at_9) rfl (by decide : ¬ ((4294967295 : Int64) = (0 : Int64))) ?_
   exact k)
 have q10 : ¬ ((w3 % (4294967295 : Int64)) < (0 : Int64)) := by
  intro r11
  have q1_ := nltJ g7
  have q2_ := ltJ r11
  have l3_ := rng64 w3
  have l4_ := lJ0
  have l5_ := lJ4294967295
  have l6_ := own_c_lrem w3 (4294967295 : Int64) 4294967295 (by decide)
  omega
 have q12 : (w3 % (4294967295 : Int64)) < (4294967295 : Int64) := by
  refine Decidable.byContradiction fun r13 => ?_
  have q1_ := nltJ g7
  have q2_ := nltJ r13
  have l3_ := rng64 w3
  have l4_ := lJ0
  have l5_ := lJ4294967295
  have l6_ := own_c_lrem w3 (4294967295 : Int64) 4294967295 (by decide)
  omega
 obtain ⟨w9, w9_eq⟩ : ∃ z : Int64, z = (w3 % (4294967295 : Int64)) := ⟨_, rfl⟩
 have p14 : ∀ t, St p e below s₁ (mkF m 10 Ls1 [(.long w9), (.long (1 : Int64))]) t → S0 t := fun t k => p8 t (by show St p e below s₁ (mkF m 10 #[.val (.long j0), .second, .val (.int i1), .val (.int i2), .val (.long j3), .second, .val (.int i4), .unset, .unset, .unset, .unset, .unset, .unset, .unset, .unset, .unset, .unset] [(.long (w3 % (4294967295 : Int64))), (.long (1 : Int64))]) t; rw [← w9_eq]; exact k)
 have g15 : ¬ (w9 < (0 : Int64)) := by rw [w9_eq]; exact q10
 have g16 : w9 < (4294967295 : Int64) := by rw [w9_eq]; exact q12
 let Ls17 : Array Slot := #[.val (.long j0), .second, .val (.int i1), .val (.int i2), .val (.long j3), .second, .val (.int i4), .val (.long ((1 : Int64) + w9)), .second, .unset, .unset, .unset, .unset, .unset, .unset, .unset, .unset]
 have p18 : ∀ t, St p e below s₁ (mkF m 13 Ls17 []) t → S0 t := fun t k => p14 t (by
   refine XS.ladd X0.here hx rfl (hb hby at_10) rfl ?_
   refine XS.lstore X0.here hx rfl (hb hby at_11) rfl (l' := Ls17) rfl ?_
   exact k)
 have q20 : ¬ (((1 : Int64) + w9) < (1 : Int64)) := by
  intro r21
  have q1_ := nltJ g15
  have q2_ := ltJ g16
  have q3_ := ltJ r21
  have l4_ := rng64 w9
  have l5_ := lJ0
  have l6_ := lJ4294967295
  have l7_ := lJ1
  have l8_ := c_ladd (1 : Int64) w9
  have l8b_ := rng64 ((1 : Int64) + w9)
  omega
 have q22 : ¬ ((4294967295 : Int64) < ((1 : Int64) + w9)) := by
  intro r23
  have q1_ := nltJ g15
  have q2_ := ltJ g16
  have q3_ := ltJ r23
  have l4_ := rng64 w9
  have l5_ := lJ0
  have l6_ := lJ4294967295
  have l7_ := lJ1
  have l8_ := c_ladd (1 : Int64) w9
  have l8b_ := rng64 ((1 : Int64) + w9)
  omega
 obtain ⟨w19, w19_eq⟩ : ∃ z : Int64, z = ((1 : Int64) + w9) := ⟨_, rfl⟩
 let Ls25 : Array Slot := #[.val (.long j0), .second, .val (.int i1), .val (.int i2), .val (.long j3), .second, .val (.int i4), .val (.long w19), .second, .unset, .unset, .unset, .unset, .unset, .unset, .unset, .unset]
 have p24 : ∀ t, St p e below s₁ (mkF m 13 Ls25 []) t → S0 t := fun t k => p18 t (by show St p e below s₁ (mkF m 13 #[.val (.long j0), .second, .val (.int i1), .val (.int i2), .val (.long j3), .second, .val (.int i4), .val (.long ((1 : Int64) + w9)), .second, .unset, .unset, .unset, .unset, .unset, .unset, .unset, .unset] []) t; rw [← w19_eq]; exact k)
 have g26 : ¬ (w19 < (1 : Int64)) := by rw [w19_eq]; exact q20
 have g27 : ¬ ((4294967295 : Int64) < w19) := by rw [w19_eq]; exact q22
 let Ls28 : Array Slot := #[.val (.long j0), .second, .val (.int i1), .val (.int i2), .val (.long j3), .second, .val (.int i4), .val (.long w19), .second, .val (.int ((i1 &&& (2147483647 : Int32)) % (65536 : Int32))), .unset, .unset, .unset, .unset, .unset, .unset, .unset]
 have p29 : ∀ t, St p e below s₁ (mkF m 22 Ls28 []) t → S0 t := fun t k => p24 t (by
   refine XS.iloadN X0.here hx rfl (hb hby at_13) rfl ?_
   refine X0.ldcI hx hown (mvT hZ (ww hw 2 rfl)) rfl (hb hby at_14) ?_
   refine XS.iand X0.here hx rfl (hb hby at_16) rfl ?_
   refine X0.ldcI hx hown (mvT hZ (ww hw 3 rfl)) rfl (hb hby at_17) ?_
   refine iremM X0 hx rfl (hb hby at_19) rfl (by decide : ¬ ((65536 : Int32) = (0 : Int32))) ?_
   show St p e below s₁ (mkF m 20 Ls25 [(.int ((i1 &&& (2147483647 : Int32)) % (65536 : Int32)))]) t
   refine XS.istore X0.here hx rfl (hb hby at_20) rfl (l' := Ls28) rfl ?_
   exact k)
 have q31 : ¬ (((i1 &&& (2147483647 : Int32)) % (65536 : Int32)) < (0 : Int32)) := by
  intro r32
  have q1_ := ltI r32
  have l2_ := rng32 i1
  have l3_ := lI2147483647
  have l4_ : (i1 &&& (2147483647 : Int32)).toInt = i1.toInt % 2147483648 := c_mask i1 (2147483647 : Int32) 31 (by decide) (by decide)
  have l5_ := lI65536
  have l6_ := c_irem (i1 &&& (2147483647 : Int32)) (65536 : Int32) 65536 (by decide)
  have l7_ := lI0
  omega
 have q33 : ¬ ((65535 : Int32) < ((i1 &&& (2147483647 : Int32)) % (65536 : Int32))) := by
  intro r34
  have q1_ := ltI r34
  have l2_ := lI65535
  have l3_ := rng32 i1
  have l4_ := lI2147483647
  have l5_ : (i1 &&& (2147483647 : Int32)).toInt = i1.toInt % 2147483648 := c_mask i1 (2147483647 : Int32) 31 (by decide) (by decide)
  have l6_ := lI65536
  have l7_ := c_irem (i1 &&& (2147483647 : Int32)) (65536 : Int32) 65536 (by decide)
  omega
 obtain ⟨w30, w30_eq⟩ : ∃ z : Int32, z = ((i1 &&& (2147483647 : Int32)) % (65536 : Int32)) := ⟨_, rfl⟩
 let Ls36 : Array Slot := #[.val (.long j0), .second, .val (.int i1), .val (.int i2), .val (.long j3), .second, .val (.int i4), .val (.long w19), .second, .val (.int w30), .unset, .unset, .unset, .unset, .unset, .unset, .unset]
 have p35 : ∀ t, St p e below s₁ (mkF m 22 Ls36 []) t → S0 t := fun t k => p29 t (by show St p e below s₁ (mkF m 22 #[.val (.long j0), .second, .val (.int i1), .val (.int i2), .val (.long j3), .second, .val (.int i4), .val (.long w19), .second, .val (.int ((i1 &&& (2147483647 : Int32)) % (65536 : Int32))), .unset, .unset, .unset, .unset, .unset, .unset, .unset] []) t; rw [← w30_eq]; exact k)
 have g37 : ¬ (w30 < (0 : Int32)) := by rw [w30_eq]; exact q31
 have g38 : ¬ ((65535 : Int32) < w30) := by rw [w30_eq]; exact q33
 obtain ⟨T39, h39, X39, e39, E39, A39, D39, -, st39⟩ := newO X0 hx hZ hown (ww hw 4 rfl) (ww hw 5 rfl) (ww hw 6 rfl) e0 (g := (mkF m 22 Ls36 [])) rfl (hb hby at_22) (by decide) (by decide)
 obtain ⟨o39, gq39⟩ : ∃ z, z = (h0).size := ⟨_, rfl⟩
 rw [← gq39] at A39 D39 st39
 have gb_o39 : n0 ≤ o39 := Nat.le_trans (own_old_le O0) (Nat.le_of_eq gq39.symm)
 have sz_o39 : h0.size ≤ o39 := Nat.le_trans ((Keep.refl h0 [])).1 (Nat.le_of_eq gq39.symm)
 have O40 := O0.ext E39
 have K41 := (Keep.refl h0 []).ext E39
 have E_42 : Exa Z h39 o39 "com/example/vacant_throne/vacantthrone/core/NodeSettings" := A39
 have F_43 : Fld Z h39 o39 "com/example/vacant_throne/vacantthrone/core/NodeSettings" "id" "J" (.long (0 : Int64)) := D39 (Or.inr (ww hw 37 rfl)) (ty := .long) (by decide)
 have F_44 : Fld Z h39 o39 "com/example/vacant_throne/vacantthrone/core/NodeSettings" "priority" "I" (.int (0 : Int32)) := D39 (Or.inr (ww hw 41 rfl)) (ty := .int) (by decide)
 have F_45 : Fld Z h39 o39 "com/example/vacant_throne/vacantthrone/core/NodeSettings" "set" "I" (.int (0 : Int32)) := D39 (Or.inr (ww hw 45 rfl)) (ty := .int) (by decide)
 have F_46 : Fld Z h39 o39 "com/example/vacant_throne/vacantthrone/core/NodeSettings" "periodMs" "I" (.int (0 : Int32)) := D39 (Or.inr (ww hw 49 rfl)) (ty := .int) (by decide)
 have F_47 : Fld Z h39 o39 "com/example/vacant_throne/vacantthrone/core/NodeSettings" "missingMax" "I" (.int (0 : Int32)) := D39 (Or.inr (ww hw 53 rfl)) (ty := .int) (by decide)
 have F_48 : Fld Z h39 o39 "com/example/vacant_throne/vacantthrone/core/NodeSettings" "prospectPeriods" "I" (.int (0 : Int32)) := D39 (Or.inr (ww hw 57 rfl)) (ty := .int) (by decide)
 have p49 : ∀ t, St p e below T39 (mkF m 25 Ls36 [(.ref o39)]) t → S0 t := fun t k => p35 t (st39 t k)
 have p50 : ∀ t, St p e below T39 (mkF m 35 Ls36 [(.int (2 : Int32)), (.int (2 : Int32)), (.int (100 : Int32)), (.int (1 : Int32)), (.int w30), (.long w19), (.ref o39), (.ref o39)]) t → S0 t := fun t k => p49 t (by
   refine XS.dup X39.here hx rfl (hb hby at_25) rfl rfl ?_
   refine XS.lload X39.here hx rfl (hb hby at_26) rfl ?_
   refine XS.iload X39.here hx rfl (hb hby at_28) rfl ?_
   refine XT.iconstV X39.here hx rfl (1 : Int32) (hb hby at_30) (by decide) ?_
   refine XT.bipushV X39.here hx rfl (100 : Int32) (hb hby at_31) (by decide) ?_
   show St p e below T39 (mkF m 33 Ls36 [(.int (100 : Int32)), (.int (1 : Int32)), (.int w30), (.long w19), (.ref o39), (.ref o39)]) t
   refine XT.iconstV X39.here hx rfl (2 : Int32) (hb hby at_33) (by decide) ?_
   refine XT.iconstV X39.here hx rfl (2 : Int32) (hb hby at_34) (by decide) ?_
   exact k)
 have q51 : ¬ ((w30.toInt64) < (0 : Int64)) := by
  intro r52
  have q1_ := nltI g37
  have q2_ := nltI g38
  have q3_ := ltJ r52
  have l4_ := rng32 w30
  have l5_ := lI0
  have l6_ := lI65535
  have l7_ := c_i2l w30
  have l8_ := lJ0
  omega
 have q53 : ¬ ((65535 : Int64) < (w30.toInt64)) := by
  intro r54
  have q1_ := nltI g37
  have q2_ := nltI g38
  have q3_ := nltJ q51
  have q4_ := ltJ r54
  have l5_ := rng32 w30
  have l6_ := lI0
  have l7_ := lI65535
  have l8_ := c_i2l w30
  have l9_ := lJ0
  have l10_ := lJ65535
  omega
 obtain ⟨_, _, ⟨Tc55, Lc55, kc55, nc55⟩, -, Xc55, ⟨Lcc55, hQc55, lc55, yc55, zc55⟩, stc55⟩ := X39.specialBack hx (y := M3) rfl hown (mvT hZ (ww hw 7 rfl)) (mvT hZ (ww hw 8 rfl)) (mvT hZ (ww hw 9 rfl)) (by decide) (backOf (W := 1) (rm1_0 l Z a0 hw [] a_ID a_ID_key a_PRIORITY a_PRIORITY_key a_SET a_SET_key a_PERIOD_MS a_PERIOD_MS_key a_MISSING_MAX a_MISSING_MAX_key a_PROSPECT_PERIODS a_PROSPECT_PERIODS_key w19 w30 o39 h39 n0 O40 HE' gb_o39 E_42 F_43 F_44 F_45 F_46 F_47 F_48 g26 g27 q51 q53) hZ (ww hw 9 rfl) (ww hw 6 rfl) (by decide) (by decide)) (g := (mkF m 35 Ls36 [(.int (2 : Int32)), (.int (2 : Int32)), (.int (100 : Int32)), (.int (1 : Int32)), (.int w30), (.long w19), (.ref o39), (.ref o39)])) rfl (by rw [hml]; rfl) (Steps.refl _) (a := o39) (argsL := [(.long w19), (.int w30), (.int (1 : Int32)), (.int (100 : Int32)), (.int (2 : Int32)), (.int (2 : Int32))]) (rest := [(.ref o39)]) (lenOf pd3 rfl) rfl (by show 2 * 0 + _ ≤ _; exact Nat.le_of_eq rfl) (hb hby at_35) (fun _ _ => ⟨rfl, e39, (by decide : 1 + 0 ≤ _), (by decide : 6 + 0 ≤ _)⟩)
 dsimp only [Pt.U, Pt.locs, Pt.cells, Pt.slots] at Xc55 lc55 yc55 zc55 stc55 hQc55
 subst lc55 yc55 zc55
 obtain ⟨Nqc55, hAc55⟩ := hQc55
 have Nc55 := Fr.app N0 Nqc55
 obtain ⟨rfl, Kcc55, f_56, f_57, f_58, f_59, f_60, f_61, f_62⟩ := hAc55
 have O63 := O40.keep Kcc55 (allS gb_o39 all0)
 have K64 := Keep.trans K41 Kcc55 (allS (Or.inr sz_o39) all0)
 have p65 : ∀ t, St p e below Tc55 (mkF m 38 Ls36 [(.ref o39)]) t → S0 t := fun t k => p50 t (stc55.trans k)
 let Ls66 : Array Slot := #[.val (.long j0), .second, .val (.int i1), .val (.int i2), .val (.long j3), .second, .val (.int i4), .val (.long w19), .second, .val (.int w30), .val (.ref o39), .unset, .unset, .unset, .unset, .unset, .unset]
 let Ls67 : Array Slot := #[.val (.long j0), .second, .val (.int i1), .val (.int i2), .val (.long j3), .second, .val (.int i4), .val (.long w19), .second, .val (.int w30), .val (.ref o39), .val (.int (i4 &&& (3 : Int32))), .unset, .unset, .unset, .unset, .unset]
 have p68 : ∀ t, St p e below Tc55 (mkF m 46 Ls67 []) t → S0 t := fun t k => p65 t (by
   refine XS.astore Xc55.here hx rfl (hb hby at_38) rfl rfl (l' := Ls66) rfl ?_
   refine XS.iload Xc55.here hx rfl (hb hby at_40) rfl ?_
   refine XT.iconstV Xc55.here hx rfl (3 : Int32) (hb hby at_42) (by decide) ?_
   refine XS.iand Xc55.here hx rfl (hb hby at_43) rfl ?_
   refine XS.istore Xc55.here hx rfl (hb hby at_44) rfl (l' := Ls67) rfl ?_
   exact k)
 obtain ⟨w69, Tj70, Lj70, Xj70, ej70, Nj70, pj70⟩ : ∃ (w69 : Int32) (Tj70 : State) (Lj70 : List Loc), Stand p l e room_1 s m #[(.long j0), (.int i1), (.int i2), (.long j3), (.int i4)] below meth c Tj70 Lj70 1 6 ∧ Tj70.heap = Tc55.heap ∧ Fr n0 Lj70 ∧ ∀ t, St p e below Tj70 (mkF m 91 #[.val (.long j0), .second, .val (.int i1), .val (.int i2), .val (.long j3), .second, .val (.int i4), .val (.long w19), .second, .val (.int w30), .val (.ref o39), .val (.int (i4 &&& (3 : Int32))), .val (.int w69), .unset, .unset, .unset, .unset] []) t → S0 t := by
  have p71 : ∀ t, St p e below Tc55 (mkF m 48 Ls67 [(.int (i4 &&& (3 : Int32)))]) t → S0 t := fun t k => p68 t (by
    refine XS.iload Xc55.here hx rfl (hb hby at_46) rfl ?_
    exact k)
  by_cases g72 : (i4 &&& (3 : Int32)) = (0 : Int32)
  ·
   let Ls73 : Array Slot := #[.val (.long j0), .second, .val (.int i1), .val (.int i2), .val (.long j3), .second, .val (.int i4), .val (.long w19), .second, .val (.int w30), .val (.ref o39), .val (.int (i4 &&& (3 : Int32))), .val (.int i2), .unset, .unset, .unset, .unset]
   have p74 : ∀ t, St p e below Tc55 (mkF m 91 Ls73 []) t → S0 t := fun t k => p71 t (by
     refine XS.ifNo Xc55.here hx rfl (hb hby at_48) rfl ((if0 _ _).trans (teq g72).2) ?_
     refine XS.iloadN Xc55.here hx rfl (hb hby at_51) rfl ?_
     refine XS.istore Xc55.here hx rfl (hb hby at_52) rfl (l' := Ls73) rfl ?_
     refine XS.goto Xc55.here hx rfl (pc0 := 54) (pc' := 91) rfl (hb hby at_54) (by decide) (by decide) ?_
     exact k)
   exact ⟨i2, _, _, Xc55, rfl, Nc55, p74⟩
  ·
   have p75 : ∀ t, St p e below Tc55 (mkF m 60 Ls67 [(.int (1 : Int32)), (.int (i4 &&& (3 : Int32)))]) t → S0 t := fun t k => p71 t (by
     refine XS.ifYes Xc55.here hx rfl (pc0 := 48) (pc' := 57) rfl (hb hby at_48) rfl ((if0 _ _).trans (feq g72).2) (by decide) (by decide) ?_
     refine XS.iload Xc55.here hx rfl (hb hby at_57) rfl ?_
     refine XT.iconstV Xc55.here hx rfl (1 : Int32) (hb hby at_59) (by decide) ?_
     exact k)
   by_cases g76 : (i4 &&& (3 : Int32)) = (1 : Int32)
   ·
    let Ls77 : Array Slot := #[.val (.long j0), .second, .val (.int i1), .val (.int i2), .val (.long j3), .second, .val (.int i4), .val (.long w19), .second, .val (.int w30), .val (.ref o39), .val (.int (i4 &&& (3 : Int32))), .val (.int w30), .unset, .unset, .unset, .unset]
    have p78 : ∀ t, St p e below Tc55 (mkF m 91 Ls77 []) t → S0 t := fun t k => p75 t (by
      refine XS.icmpNo Xc55.here hx rfl (hb hby at_60) rfl (teq g76).2 ?_
      refine XS.iload Xc55.here hx rfl (hb hby at_63) rfl ?_
      refine XS.istore Xc55.here hx rfl (hb hby at_65) rfl (l' := Ls77) rfl ?_
      refine XS.goto Xc55.here hx rfl (pc0 := 67) (pc' := 91) rfl (hb hby at_67) (by decide) (by decide) ?_
      exact k)
    exact ⟨w30, _, _, Xc55, rfl, Nc55, p78⟩
   ·
    have p79 : ∀ t, St p e below Tc55 (mkF m 73 Ls67 [(.int (2 : Int32)), (.int (i4 &&& (3 : Int32)))]) t → S0 t := fun t k => p75 t (by
      refine XS.icmpYes Xc55.here hx rfl (pc0 := 60) (pc' := 70) rfl (hb hby at_60) rfl (feq g76).2 (by decide) (by decide) ?_
      refine XS.iload Xc55.here hx rfl (hb hby at_70) rfl ?_
      refine XT.iconstV Xc55.here hx rfl (2 : Int32) (hb hby at_72) (by decide) ?_
      exact k)
    by_cases g80 : (i4 &&& (3 : Int32)) = (2 : Int32)
    ·
     let Ls81 : Array Slot := #[.val (.long j0), .second, .val (.int i1), .val (.int i2), .val (.long j3), .second, .val (.int i4), .val (.long w19), .second, .val (.int w30), .val (.ref o39), .val (.int (i4 &&& (3 : Int32))), .val (.int (w30 + (1 : Int32))), .unset, .unset, .unset, .unset]
     have p82 : ∀ t, St p e below Tc55 (mkF m 91 Ls81 []) t → S0 t := fun t k => p79 t (by
       refine XS.icmpNo Xc55.here hx rfl (hb hby at_73) rfl (teq g80).2 ?_
       refine XS.iload Xc55.here hx rfl (hb hby at_76) rfl ?_
       refine XT.iconstV Xc55.here hx rfl (1 : Int32) (hb hby at_78) (by decide) ?_
       refine XS.iadd Xc55.here hx rfl (hb hby at_79) rfl ?_
       refine XS.istore Xc55.here hx rfl (hb hby at_80) rfl (l' := Ls81) rfl ?_
       show St p e below Tc55 (mkF m 82 Ls81 []) t
       refine XS.goto Xc55.here hx rfl (pc0 := 82) (pc' := 91) rfl (hb hby at_82) (by decide) (by decide) ?_
       exact k)
     exact ⟨(w30 + (1 : Int32)), _, _, Xc55, rfl, Nc55, p82⟩
    ·
     let Ls83 : Array Slot := #[.val (.long j0), .second, .val (.int i1), .val (.int i2), .val (.long j3), .second, .val (.int i4), .val (.long w19), .second, .val (.int w30), .val (.ref o39), .val (.int (i4 &&& (3 : Int32))), .val (.int (w30 - (1 : Int32))), .unset, .unset, .unset, .unset]
     have p84 : ∀ t, St p e below Tc55 (mkF m 91 Ls83 []) t → S0 t := fun t k => p79 t (by
       refine XS.icmpYes Xc55.here hx rfl (pc0 := 73) (pc' := 85) rfl (hb hby at_73) rfl (feq g80).2 (by decide) (by decide) ?_
       refine XS.iload Xc55.here hx rfl (hb hby at_85) rfl ?_
       refine XT.iconstV Xc55.here hx rfl (1 : Int32) (hb hby at_87) (by decide) ?_
       refine XS.isub Xc55.here hx rfl (hb hby at_88) rfl ?_
       refine XS.istore Xc55.here hx rfl (hb hby at_89) rfl (l' := Ls83) rfl ?_
       exact k)
     exact ⟨(w30 - (1 : Int32)), _, _, Xc55, rfl, Nc55, p84⟩
 let Ls85 : Array Slot := #[.val (.long j0), .second, .val (.int i1), .val (.int i2), .val (.long j3), .second, .val (.int i4), .val (.long w19), .second, .val (.int w30), .val (.ref o39), .val (.int (i4 &&& (3 : Int32))), .val (.int w69), .unset, .unset, .unset, .unset]
 let Ls86 : Array Slot := #[.val (.long j0), .second, .val (.int i1), .val (.int i2), .val (.long j3), .second, .val (.int i4), .val (.long w19), .second, .val (.int w30), .val (.ref o39), .val (.int (i4 &&& (3 : Int32))), .val (.int w69), .val (.int (((i4.toUInt32 >>> ((2 : Int32) &&& 31).toUInt32).toInt32) &&& (3 : Int32))), .unset, .unset, .unset]
 have p87 : ∀ t, St p e below Tj70 (mkF m 99 Ls86 []) t → S0 t := fun t k => pj70 t (by
   refine XS.iload Xj70.here hx rfl (hb hby at_91) rfl ?_
   refine XT.iconstV Xj70.here hx rfl (2 : Int32) (hb hby at_93) (by decide) ?_
   refine XS.iushr Xj70.here hx rfl (hb hby at_94) rfl ?_
   refine XT.iconstV Xj70.here hx rfl (3 : Int32) (hb hby at_95) (by decide) ?_
   refine XS.iand Xj70.here hx rfl (hb hby at_96) rfl ?_
   show St p e below Tj70 (mkF m 97 Ls85 [(.int (((i4.toUInt32 >>> ((2 : Int32) &&& 31).toUInt32).toInt32) &&& (3 : Int32)))]) t
   refine XS.istore Xj70.here hx rfl (hb hby at_97) rfl (l' := Ls86) rfl ?_
   exact k)
 obtain ⟨w88, Tj89, Lj89, Xj89, ej89, Nj89, pj89⟩ : ∃ (w88 : Int64) (Tj89 : State) (Lj89 : List Loc), Stand p l e room_1 s m #[(.long j0), (.int i1), (.int i2), (.long j3), (.int i4)] below meth c Tj89 Lj89 1 6 ∧ Tj89.heap = Tc55.heap ∧ Fr n0 Lj89 ∧ ∀ t, St p e below Tj89 (mkF m 145 #[.val (.long j0), .second, .val (.int i1), .val (.int i2), .val (.long j3), .second, .val (.int i4), .val (.long w19), .second, .val (.int w30), .val (.ref o39), .val (.int (i4 &&& (3 : Int32))), .val (.int w69), .val (.int (((i4.toUInt32 >>> ((2 : Int32) &&& 31).toUInt32).toInt32) &&& (3 : Int32))), .val (.long w88), .second, .unset] []) t → S0 t := by
  have p90 : ∀ t, St p e below Tj70 (mkF m 101 Ls86 [(.int (((i4.toUInt32 >>> ((2 : Int32) &&& 31).toUInt32).toInt32) &&& (3 : Int32)))]) t → S0 t := fun t k => p87 t (by
    refine XS.iload Xj70.here hx rfl (hb hby at_99) rfl ?_
    exact k)
  by_cases g91 : (((i4.toUInt32 >>> ((2 : Int32) &&& 31).toUInt32).toInt32) &&& (3 : Int32)) = (0 : Int32)
  ·
   let Ls92 : Array Slot := #[.val (.long j0), .second, .val (.int i1), .val (.int i2), .val (.long j3), .second, .val (.int i4), .val (.long w19), .second, .val (.int w30), .val (.ref o39), .val (.int (i4 &&& (3 : Int32))), .val (.int w69), .val (.int (((i4.toUInt32 >>> ((2 : Int32) &&& 31).toUInt32).toInt32) &&& (3 : Int32))), .val (.long j3), .second, .unset]
   have p93 : ∀ t, St p e below Tj70 (mkF m 145 Ls92 []) t → S0 t := fun t k => p90 t (by
     refine XS.ifNo Xj70.here hx rfl (hb hby at_101) rfl ((if0 _ _).trans (teq g91).2) ?_
     refine XS.lload Xj70.here hx rfl (hb hby at_104) rfl ?_
     refine XS.lstore Xj70.here hx rfl (hb hby at_106) rfl (l' := Ls92) rfl ?_
     refine XS.goto Xj70.here hx rfl (pc0 := 108) (pc' := 145) rfl (hb hby at_108) (by decide) (by decide) ?_
     exact k)
   exact ⟨j3, _, _, Xj70, ej70, Nj70, p93⟩
  ·
   have p94 : ∀ t, St p e below Tj70 (mkF m 114 Ls86 [(.int (1 : Int32)), (.int (((i4.toUInt32 >>> ((2 : Int32) &&& 31).toUInt32).toInt32) &&& (3 : Int32)))]) t → S0 t := fun t k => p90 t (by
     refine XS.ifYes Xj70.here hx rfl (pc0 := 101) (pc' := 111) rfl (hb hby at_101) rfl ((if0 _ _).trans (feq g91).2) (by decide) (by decide) ?_
     refine XS.iload Xj70.here hx rfl (hb hby at_111) rfl ?_
     refine XT.iconstV Xj70.here hx rfl (1 : Int32) (hb hby at_113) (by decide) ?_
     exact k)
   by_cases g95 : (((i4.toUInt32 >>> ((2 : Int32) &&& 31).toUInt32).toInt32) &&& (3 : Int32)) = (1 : Int32)
   ·
    let Ls96 : Array Slot := #[.val (.long j0), .second, .val (.int i1), .val (.int i2), .val (.long j3), .second, .val (.int i4), .val (.long w19), .second, .val (.int w30), .val (.ref o39), .val (.int (i4 &&& (3 : Int32))), .val (.int w69), .val (.int (((i4.toUInt32 >>> ((2 : Int32) &&& 31).toUInt32).toInt32) &&& (3 : Int32))), .val (.long w19), .second, .unset]
    have p97 : ∀ t, St p e below Tj70 (mkF m 145 Ls96 []) t → S0 t := fun t k => p94 t (by
      refine XS.icmpNo Xj70.here hx rfl (hb hby at_114) rfl (teq g95).2 ?_
      refine XS.lload Xj70.here hx rfl (hb hby at_117) rfl ?_
      refine XS.lstore Xj70.here hx rfl (hb hby at_119) rfl (l' := Ls96) rfl ?_
      refine XS.goto Xj70.here hx rfl (pc0 := 121) (pc' := 145) rfl (hb hby at_121) (by decide) (by decide) ?_
      exact k)
    exact ⟨w19, _, _, Xj70, ej70, Nj70, p97⟩
   ·
    have p98 : ∀ t, St p e below Tj70 (mkF m 127 Ls86 [(.int (2 : Int32)), (.int (((i4.toUInt32 >>> ((2 : Int32) &&& 31).toUInt32).toInt32) &&& (3 : Int32)))]) t → S0 t := fun t k => p94 t (by
      refine XS.icmpYes Xj70.here hx rfl (pc0 := 114) (pc' := 124) rfl (hb hby at_114) rfl (feq g95).2 (by decide) (by decide) ?_
      refine XS.iload Xj70.here hx rfl (hb hby at_124) rfl ?_
      refine XT.iconstV Xj70.here hx rfl (2 : Int32) (hb hby at_126) (by decide) ?_
      exact k)
    by_cases g99 : (((i4.toUInt32 >>> ((2 : Int32) &&& 31).toUInt32).toInt32) &&& (3 : Int32)) = (2 : Int32)
    ·
     let Ls100 : Array Slot := #[.val (.long j0), .second, .val (.int i1), .val (.int i2), .val (.long j3), .second, .val (.int i4), .val (.long w19), .second, .val (.int w30), .val (.ref o39), .val (.int (i4 &&& (3 : Int32))), .val (.int w69), .val (.int (((i4.toUInt32 >>> ((2 : Int32) &&& 31).toUInt32).toInt32) &&& (3 : Int32))), .val (.long (w19 + (1 : Int64))), .second, .unset]
     have p101 : ∀ t, St p e below Tj70 (mkF m 145 Ls100 []) t → S0 t := fun t k => p98 t (by
       refine XS.icmpNo Xj70.here hx rfl (hb hby at_127) rfl (teq g99).2 ?_
       refine XS.lload Xj70.here hx rfl (hb hby at_130) rfl ?_
       refine XT.lconstV Xj70.here hx rfl (1 : Int64) (hb hby at_132) (by decide) ?_
       refine XS.ladd Xj70.here hx rfl (hb hby at_133) rfl ?_
       refine XS.lstore Xj70.here hx rfl (hb hby at_134) rfl (l' := Ls100) rfl ?_
       show St p e below Tj70 (mkF m 136 Ls100 []) t
       refine XS.goto Xj70.here hx rfl (pc0 := 136) (pc' := 145) rfl (hb hby at_136) (by decide) (by decide) ?_
       exact k)
     exact ⟨(w19 + (1 : Int64)), _, _, Xj70, ej70, Nj70, p101⟩
    ·
     let Ls102 : Array Slot := #[.val (.long j0), .second, .val (.int i1), .val (.int i2), .val (.long j3), .second, .val (.int i4), .val (.long w19), .second, .val (.int w30), .val (.ref o39), .val (.int (i4 &&& (3 : Int32))), .val (.int w69), .val (.int (((i4.toUInt32 >>> ((2 : Int32) &&& 31).toUInt32).toInt32) &&& (3 : Int32))), .val (.long (w19 - (1 : Int64))), .second, .unset]
     have p103 : ∀ t, St p e below Tj70 (mkF m 145 Ls102 []) t → S0 t := fun t k => p98 t (by
       refine XS.icmpYes Xj70.here hx rfl (pc0 := 127) (pc' := 139) rfl (hb hby at_127) rfl (feq g99).2 (by decide) (by decide) ?_
       refine XS.lload Xj70.here hx rfl (hb hby at_139) rfl ?_
       refine XT.lconstV Xj70.here hx rfl (1 : Int64) (hb hby at_141) (by decide) ?_
       refine XS.lsub Xj70.here hx rfl (hb hby at_142) rfl ?_
       refine XS.lstore Xj70.here hx rfl (hb hby at_143) rfl (l' := Ls102) rfl ?_
       exact k)
     exact ⟨(w19 - (1 : Int64)), _, _, Xj70, ej70, Nj70, p103⟩
 let Ls104 : Array Slot := #[.val (.long j0), .second, .val (.int i1), .val (.int i2), .val (.long j3), .second, .val (.int i4), .val (.long w19), .second, .val (.int w30), .val (.ref o39), .val (.int (i4 &&& (3 : Int32))), .val (.int w69), .val (.int (((i4.toUInt32 >>> ((2 : Int32) &&& 31).toUInt32).toInt32) &&& (3 : Int32))), .val (.long w88), .second, .unset]
 have p105 : ∀ t, St p e below Tj89 (mkF m 149 Ls104 [(.int w69), (.int w30)]) t → S0 t := fun t k => pj89 t (by
   refine XS.iload Xj89.here hx rfl (hb hby at_145) rfl ?_
   refine XS.iload Xj89.here hx rfl (hb hby at_147) rfl ?_
   exact k)
 by_cases g106 : w30 = w69
 ·
  have p107 : ∀ t, St p e below Tj89 (mkF m 174 Ls104 [(.int (lcmpW w19 w88))]) t → S0 t := fun t k => p105 t (by
    refine XS.icmpYes Xj89.here hx rfl (pc0 := 149) (pc' := 169) rfl (hb hby at_149) rfl (teq g106).1 (by decide) (by decide) ?_
    refine XS.lload Xj89.here hx rfl (hb hby at_169) rfl ?_
    refine XS.lload Xj89.here hx rfl (hb hby at_171) rfl ?_
    refine XS.lcmp Xj89.here hx rfl (hb hby at_173) rfl ?_
    exact k)
  by_cases g108 : w88 < w19
  ·
   let Ls109 : Array Slot := #[.val (.long j0), .second, .val (.int i1), .val (.int i2), .val (.long j3), .second, .val (.int i4), .val (.long w19), .second, .val (.int w30), .val (.ref o39), .val (.int (i4 &&& (3 : Int32))), .val (.int w69), .val (.int (((i4.toUInt32 >>> ((2 : Int32) &&& 31).toUInt32).toInt32) &&& (3 : Int32))), .val (.long w88), .second, .val (.int (1 : Int32))]
   have p110 : ∀ t, St p e below Tj89 (mkF m 190 Ls109 [(.long w88), (.int w69), (.ref o39)]) t → S0 t := fun t k => p107 t (by
     refine XS.ifNo Xj89.here hx rfl (hb hby at_174) rfl ((if0 _ _).trans (tlt ((lw_gt _ _).mpr g108)).2.2.2) ?_
     refine XT.iconstV Xj89.here hx rfl (1 : Int32) (hb hby at_177) (by decide) ?_
     refine XS.goto Xj89.here hx rfl (pc0 := 178) (pc' := 182) rfl (hb hby at_178) (by decide) (by decide) ?_
     refine XS.istore Xj89.here hx rfl (hb hby at_182) rfl (l' := Ls109) rfl ?_
     refine XS.aload Xj89.here hx rfl (hb hby at_184) rfl rfl ?_
     show St p e below Tj89 (mkF m 186 Ls109 [(.ref o39)]) t
     refine XS.iload Xj89.here hx rfl (hb hby at_186) rfl ?_
     refine XS.lload Xj89.here hx rfl (hb hby at_188) rfl ?_
     exact k)
   obtain ⟨cqc111, kqc111, qc111a, qc111b, qc111c⟩ := isOf hZ ej89 f_56
   obtain ⟨_, _, ⟨Tc111, Lc111, kc111, nc111⟩, -, Xc111, ⟨Lcc111, hQc111, lc111, yc111, zc111⟩, stc111⟩ := Xj89.virtualBack hx (y := M4) (z := M4) hown (mvT hZ (ww hw 58 rfl)) (mvT hZ (ww hw 59 rfl)) (notFace_of_selects (args := #[]) (mvT hZ (ww hw 61 rfl))) (mvT hZ (ww hw 61 rfl)) (mvT hZ (ww hw 60 rfl)) (by decide) (backOf (W := 0) (rm6_19 l Z a0 hw [] a_ID a_ID_key a_PRIORITY a_PRIORITY_key a_SET a_SET_key a_PERIOD_MS a_PERIOD_MS_key a_MISSING_MAX a_MISSING_MAX_key a_PROSPECT_PERIODS a_PROSPECT_PERIODS_key w69 w88 w19 ((w30.toInt64).toInt32) o39 Tc55.heap n0 O63 HE' gb_o39 f_56 f_57 f_58 f_59 f_60 f_61 f_62) hZ (ww hw 62 rfl) (ww hw 6 rfl) (by decide) (by decide)) qc111a qc111c (g := (mkF m 190 Ls109 [(.long w88), (.int w69), (.ref o39)])) rfl (by rw [hml]; rfl) (Steps.refl _) (argsL := [(.int w69), (.long w88)]) (rest := []) (lenOf pd4 rfl) rfl (by show 2 * 0 + _ ≤ _; exact Nat.le_of_eq rfl) (hb hby at_190) (fun _ _ => ⟨rfl, ej89, (by decide : 1 + 0 ≤ _), (by decide : 6 + 0 ≤ _)⟩)
   dsimp only [Pt.U, Pt.locs, Pt.cells, Pt.slots] at Xc111 lc111 yc111 zc111 stc111 hQc111
   subst lc111 yc111 zc111
   obtain ⟨Nqc111, ec111, hAc111⟩ := hQc111
   have Nc111 := Fr.app Nj89 Nqc111
   rcases hAc111 with ⟨rfl, g112⟩ | ⟨rfl, g113, g114, g115⟩ | ⟨rfl, g116, g117, g118⟩ | ⟨rfl, g119, g120⟩
   ·
    exfalso
    have q1_ := nltI g37
    have q2_ := nltI g38
    have q3_ := nltJ q51
    have q4_ := nltJ q53
    have q5_ := eqI g106
    have q6_ := ltI g112
    have l7_ := rng32 w30
    have l8_ := lI0
    have l9_ := lI65535
    have l10_ := c_i2l w30
    have l11_ := lJ0
    have l12_ := lJ65535
    have l13_ := rng32 w69
    have l14_ := c_l2i (w30.toInt64)
    have l14b_ := rng32 ((w30.toInt64).toInt32)
    omega
   ·
    have p121 : ∀ t, St p e below Tc111 (mkF m 193 Ls109 [(.int (1 : Int32))]) t → S0 t := fun t k => p110 t (stc111.trans k)
    have p122 : ∀ t, St p e below Tc111 (mkF m 203 Ls109 [(.int (1 : Int32))]) t → S0 t := fun t k => p121 t (by
      refine XS.iload Xc111.here hx rfl (hb hby at_193) rfl ?_
      refine XS.icmpNo Xc111.here hx rfl (hb hby at_195) rfl (teq (by decide : (1 : Int32) = (1 : Int32))).2 ?_
      refine XT.iconstV Xc111.here hx rfl (1 : Int32) (hb hby at_198) (by decide) ?_
      refine XS.goto Xc111.here hx rfl (pc0 := 199) (pc' := 203) rfl (hb hby at_199) (by decide) (by decide) ?_
      exact k)
    obtain ⟨fs, hr, hrun, hended, hW, hsame⟩ := Xc111.leave (v := some (.int (1 : Int32))) (fun h => by rw [Bd.returns] at h; cases h)
    refine ⟨_, _, p122 _ ?_, hrun, hended, _, _, rfl, ?_, ⟨_, rfl⟩, hW, hsame.mono (by decide) (by decide)⟩
    · exact retOut Xc111 hx Bd.returns rfl (Or.inl ⟨rfl, by simp, _, rfl⟩) (hb hby at_203) hr
    · exact ⟨rfl, Nc111⟩
   ·
    exfalso
    have q1_ := nltJ g26
    have q2_ := nltJ g27
    have q3_ := nltI g37
    have q4_ := nltI g38
    have q5_ := nltJ q51
    have q6_ := nltJ q53
    have q7_ := eqI g106
    have q8_ := ltJ g108
    have q9_ := nltI g116
    have q10_ := eqI g117
    have q11_ := nltJ g118
    have l12_ := rng64 w19
    have l13_ := lJ1
    have l14_ := lJ4294967295
    have l15_ := rng32 w30
    have l16_ := lI0
    have l17_ := lI65535
    have l18_ := c_i2l w30
    have l19_ := lJ0
    have l20_ := lJ65535
    have l21_ := rng32 w69
    have l22_ := rng64 w88
    have l23_ := c_l2i (w30.toInt64)
    have l23b_ := rng32 ((w30.toInt64).toInt32)
    omega
   ·
    exfalso
    have q1_ := nltI g37
    have q2_ := nltI g38
    have q3_ := nltJ q51
    have q4_ := nltJ q53
    have q5_ := eqI g106
    have q6_ := nltI g119
    have q7_ := neI g120
    have l8_ := rng32 w30
    have l9_ := lI0
    have l10_ := lI65535
    have l11_ := c_i2l w30
    have l12_ := lJ0
    have l13_ := lJ65535
    have l14_ := rng32 w69
    have l15_ := c_l2i (w30.toInt64)
    have l15b_ := rng32 ((w30.toInt64).toInt32)
    omega
  ·
   let Ls123 : Array Slot := #[.val (.long j0), .second, .val (.int i1), .val (.int i2), .val (.long j3), .second, .val (.int i4), .val (.long w19), .second, .val (.int w30), .val (.ref o39), .val (.int (i4 &&& (3 : Int32))), .val (.int w69), .val (.int (((i4.toUInt32 >>> ((2 : Int32) &&& 31).toUInt32).toInt32) &&& (3 : Int32))), .val (.long w88), .second, .val (.int (0 : Int32))]
   have p124 : ∀ t, St p e below Tj89 (mkF m 190 Ls123 [(.long w88), (.int w69), (.ref o39)]) t → S0 t := fun t k => p107 t (by
     refine XS.ifYes Xj89.here hx rfl (pc0 := 174) (pc' := 181) rfl (hb hby at_174) rfl ((if0 _ _).trans (flt (mt (lw_gt _ _).mp g108)).2.2.2) (by decide) (by decide) ?_
     refine XT.iconstV Xj89.here hx rfl (0 : Int32) (hb hby at_181) (by decide) ?_
     refine XS.istore Xj89.here hx rfl (hb hby at_182) rfl (l' := Ls123) rfl ?_
     refine XS.aload Xj89.here hx rfl (hb hby at_184) rfl rfl ?_
     refine XS.iload Xj89.here hx rfl (hb hby at_186) rfl ?_
     show St p e below Tj89 (mkF m 188 Ls123 [(.int w69), (.ref o39)]) t
     refine XS.lload Xj89.here hx rfl (hb hby at_188) rfl ?_
     exact k)
   obtain ⟨cqc125, kqc125, qc125a, qc125b, qc125c⟩ := isOf hZ ej89 f_56
   obtain ⟨_, _, ⟨Tc125, Lc125, kc125, nc125⟩, -, Xc125, ⟨Lcc125, hQc125, lc125, yc125, zc125⟩, stc125⟩ := Xj89.virtualBack hx (y := M4) (z := M4) hown (mvT hZ (ww hw 58 rfl)) (mvT hZ (ww hw 59 rfl)) (notFace_of_selects (args := #[]) (mvT hZ (ww hw 61 rfl))) (mvT hZ (ww hw 61 rfl)) (mvT hZ (ww hw 60 rfl)) (by decide) (backOf (W := 0) (rm6_19 l Z a0 hw [] a_ID a_ID_key a_PRIORITY a_PRIORITY_key a_SET a_SET_key a_PERIOD_MS a_PERIOD_MS_key a_MISSING_MAX a_MISSING_MAX_key a_PROSPECT_PERIODS a_PROSPECT_PERIODS_key w69 w88 w19 ((w30.toInt64).toInt32) o39 Tc55.heap n0 O63 HE' gb_o39 f_56 f_57 f_58 f_59 f_60 f_61 f_62) hZ (ww hw 62 rfl) (ww hw 6 rfl) (by decide) (by decide)) qc125a qc125c (g := (mkF m 190 Ls123 [(.long w88), (.int w69), (.ref o39)])) rfl (by rw [hml]; rfl) (Steps.refl _) (argsL := [(.int w69), (.long w88)]) (rest := []) (lenOf pd4 rfl) rfl (by show 2 * 0 + _ ≤ _; exact Nat.le_of_eq rfl) (hb hby at_190) (fun _ _ => ⟨rfl, ej89, (by decide : 1 + 0 ≤ _), (by decide : 6 + 0 ≤ _)⟩)
   dsimp only [Pt.U, Pt.locs, Pt.cells, Pt.slots] at Xc125 lc125 yc125 zc125 stc125 hQc125
   subst lc125 yc125 zc125
   obtain ⟨Nqc125, ec125, hAc125⟩ := hQc125
   have Nc125 := Fr.app Nj89 Nqc125
   rcases hAc125 with ⟨rfl, g126⟩ | ⟨rfl, g127, g128, g129⟩ | ⟨rfl, g130, g131, g132⟩ | ⟨rfl, g133, g134⟩
   ·
    exfalso
    have q1_ := nltI g37
    have q2_ := nltI g38
    have q3_ := nltJ q51
    have q4_ := nltJ q53
    have q5_ := eqI g106
    have q6_ := ltI g126
    have l7_ := rng32 w30
    have l8_ := lI0
    have l9_ := lI65535
    have l10_ := c_i2l w30
    have l11_ := lJ0
    have l12_ := lJ65535
    have l13_ := rng32 w69
    have l14_ := c_l2i (w30.toInt64)
    have l14b_ := rng32 ((w30.toInt64).toInt32)
    omega
   ·
    exfalso
    have q1_ := nltJ g26
    have q2_ := nltJ g27
    have q3_ := nltI g37
    have q4_ := nltI g38
    have q5_ := nltJ q51
    have q6_ := nltJ q53
    have q7_ := eqI g106
    have q8_ := nltJ g108
    have q9_ := nltI g127
    have q10_ := eqI g128
    have q11_ := ltJ g129
    have l12_ := rng64 w19
    have l13_ := lJ1
    have l14_ := lJ4294967295
    have l15_ := rng32 w30
    have l16_ := lI0
    have l17_ := lI65535
    have l18_ := c_i2l w30
    have l19_ := lJ0
    have l20_ := lJ65535
    have l21_ := rng32 w69
    have l22_ := rng64 w88
    have l23_ := c_l2i (w30.toInt64)
    have l23b_ := rng32 ((w30.toInt64).toInt32)
    omega
   ·
    have p135 : ∀ t, St p e below Tc125 (mkF m 193 Ls123 [(.int (0 : Int32))]) t → S0 t := fun t k => p124 t (stc125.trans k)
    have p136 : ∀ t, St p e below Tc125 (mkF m 203 Ls123 [(.int (1 : Int32))]) t → S0 t := fun t k => p135 t (by
      refine XS.iload Xc125.here hx rfl (hb hby at_193) rfl ?_
      refine XS.icmpNo Xc125.here hx rfl (hb hby at_195) rfl (teq (by decide : (0 : Int32) = (0 : Int32))).2 ?_
      refine XT.iconstV Xc125.here hx rfl (1 : Int32) (hb hby at_198) (by decide) ?_
      refine XS.goto Xc125.here hx rfl (pc0 := 199) (pc' := 203) rfl (hb hby at_199) (by decide) (by decide) ?_
      exact k)
    obtain ⟨fs, hr, hrun, hended, hW, hsame⟩ := Xc125.leave (v := some (.int (1 : Int32))) (fun h => by rw [Bd.returns] at h; cases h)
    refine ⟨_, _, p136 _ ?_, hrun, hended, _, _, rfl, ?_, ⟨_, rfl⟩, hW, hsame.mono (by decide) (by decide)⟩
    · exact retOut Xc125 hx Bd.returns rfl (Or.inl ⟨rfl, by simp, _, rfl⟩) (hb hby at_203) hr
    · exact ⟨rfl, Nc125⟩
   ·
    exfalso
    have q1_ := nltI g37
    have q2_ := nltI g38
    have q3_ := nltJ q51
    have q4_ := nltJ q53
    have q5_ := eqI g106
    have q6_ := nltI g133
    have q7_ := neI g134
    have l8_ := rng32 w30
    have l9_ := lI0
    have l10_ := lI65535
    have l11_ := c_i2l w30
    have l12_ := lJ0
    have l13_ := lJ65535
    have l14_ := rng32 w69
    have l15_ := c_l2i (w30.toInt64)
    have l15b_ := rng32 ((w30.toInt64).toInt32)
    omega
 ·
  have p137 : ∀ t, St p e below Tj89 (mkF m 156 Ls104 [(.int w69), (.int w30)]) t → S0 t := fun t k => p105 t (by
    refine XS.icmpNo Xj89.here hx rfl (hb hby at_149) rfl (feq g106).1 ?_
    refine XS.iload Xj89.here hx rfl (hb hby at_152) rfl ?_
    refine XS.iload Xj89.here hx rfl (hb hby at_154) rfl ?_
    exact k)
  by_cases g138 : w69 < w30
  ·
   let Ls139 : Array Slot := #[.val (.long j0), .second, .val (.int i1), .val (.int i2), .val (.long j3), .second, .val (.int i4), .val (.long w19), .second, .val (.int w30), .val (.ref o39), .val (.int (i4 &&& (3 : Int32))), .val (.int w69), .val (.int (((i4.toUInt32 >>> ((2 : Int32) &&& 31).toUInt32).toInt32) &&& (3 : Int32))), .val (.long w88), .second, .val (.int (1 : Int32))]
   have p140 : ∀ t, St p e below Tj89 (mkF m 190 Ls139 [(.long w88), (.int w69), (.ref o39)]) t → S0 t := fun t k => p137 t (by
     refine XS.icmpNo Xj89.here hx rfl (hb hby at_156) rfl (tlt g138).2.2.2 ?_
     refine XT.iconstV Xj89.here hx rfl (1 : Int32) (hb hby at_159) (by decide) ?_
     refine XS.goto Xj89.here hx rfl (pc0 := 160) (pc' := 164) rfl (hb hby at_160) (by decide) (by decide) ?_
     refine XS.istore Xj89.here hx rfl (hb hby at_164) rfl (l' := Ls139) rfl ?_
     refine XS.goto Xj89.here hx rfl (pc0 := 166) (pc' := 184) rfl (hb hby at_166) (by decide) (by decide) ?_
     show St p e below Tj89 (mkF m 184 Ls139 []) t
     refine XS.aload Xj89.here hx rfl (hb hby at_184) rfl rfl ?_
     refine XS.iload Xj89.here hx rfl (hb hby at_186) rfl ?_
     refine XS.lload Xj89.here hx rfl (hb hby at_188) rfl ?_
     exact k)
   obtain ⟨cqc141, kqc141, qc141a, qc141b, qc141c⟩ := isOf hZ ej89 f_56
   obtain ⟨_, _, ⟨Tc141, Lc141, kc141, nc141⟩, -, Xc141, ⟨Lcc141, hQc141, lc141, yc141, zc141⟩, stc141⟩ := Xj89.virtualBack hx (y := M4) (z := M4) hown (mvT hZ (ww hw 58 rfl)) (mvT hZ (ww hw 59 rfl)) (notFace_of_selects (args := #[]) (mvT hZ (ww hw 61 rfl))) (mvT hZ (ww hw 61 rfl)) (mvT hZ (ww hw 60 rfl)) (by decide) (backOf (W := 0) (rm6_19 l Z a0 hw [] a_ID a_ID_key a_PRIORITY a_PRIORITY_key a_SET a_SET_key a_PERIOD_MS a_PERIOD_MS_key a_MISSING_MAX a_MISSING_MAX_key a_PROSPECT_PERIODS a_PROSPECT_PERIODS_key w69 w88 w19 ((w30.toInt64).toInt32) o39 Tc55.heap n0 O63 HE' gb_o39 f_56 f_57 f_58 f_59 f_60 f_61 f_62) hZ (ww hw 62 rfl) (ww hw 6 rfl) (by decide) (by decide)) qc141a qc141c (g := (mkF m 190 Ls139 [(.long w88), (.int w69), (.ref o39)])) rfl (by rw [hml]; rfl) (Steps.refl _) (argsL := [(.int w69), (.long w88)]) (rest := []) (lenOf pd4 rfl) rfl (by show 2 * 0 + _ ≤ _; exact Nat.le_of_eq rfl) (hb hby at_190) (fun _ _ => ⟨rfl, ej89, (by decide : 1 + 0 ≤ _), (by decide : 6 + 0 ≤ _)⟩)
   dsimp only [Pt.U, Pt.locs, Pt.cells, Pt.slots] at Xc141 lc141 yc141 zc141 stc141 hQc141
   subst lc141 yc141 zc141
   obtain ⟨Nqc141, ec141, hAc141⟩ := hQc141
   have Nc141 := Fr.app Nj89 Nqc141
   rcases hAc141 with ⟨rfl, g142⟩ | ⟨rfl, g143, g144, g145⟩ | ⟨rfl, g146, g147, g148⟩ | ⟨rfl, g149, g150⟩
   ·
    have p151 : ∀ t, St p e below Tc141 (mkF m 193 Ls139 [(.int (1 : Int32))]) t → S0 t := fun t k => p140 t (stc141.trans k)
    have p152 : ∀ t, St p e below Tc141 (mkF m 203 Ls139 [(.int (1 : Int32))]) t → S0 t := fun t k => p151 t (by
      refine XS.iload Xc141.here hx rfl (hb hby at_193) rfl ?_
      refine XS.icmpNo Xc141.here hx rfl (hb hby at_195) rfl (teq (by decide : (1 : Int32) = (1 : Int32))).2 ?_
      refine XT.iconstV Xc141.here hx rfl (1 : Int32) (hb hby at_198) (by decide) ?_
      refine XS.goto Xc141.here hx rfl (pc0 := 199) (pc' := 203) rfl (hb hby at_199) (by decide) (by decide) ?_
      exact k)
    obtain ⟨fs, hr, hrun, hended, hW, hsame⟩ := Xc141.leave (v := some (.int (1 : Int32))) (fun h => by rw [Bd.returns] at h; cases h)
    refine ⟨_, _, p152 _ ?_, hrun, hended, _, _, rfl, ?_, ⟨_, rfl⟩, hW, hsame.mono (by decide) (by decide)⟩
    · exact retOut Xc141 hx Bd.returns rfl (Or.inl ⟨rfl, by simp, _, rfl⟩) (hb hby at_203) hr
    · exact ⟨rfl, Nc141⟩
   ·
    exfalso
    have q1_ := nltJ g26
    have q2_ := nltJ g27
    have q3_ := nltI g37
    have q4_ := nltI g38
    have q5_ := nltJ q51
    have q6_ := nltJ q53
    have q7_ := neI g106
    have q8_ := ltI g138
    have q9_ := nltI g143
    have q10_ := eqI g144
    have q11_ := ltJ g145
    have l12_ := rng64 w19
    have l13_ := lJ1
    have l14_ := lJ4294967295
    have l15_ := rng32 w30
    have l16_ := lI0
    have l17_ := lI65535
    have l18_ := c_i2l w30
    have l19_ := lJ0
    have l20_ := lJ65535
    have l21_ := rng32 w69
    have l22_ := c_l2i (w30.toInt64)
    have l22b_ := rng32 ((w30.toInt64).toInt32)
    have l23_ := rng64 w88
    omega
   ·
    exfalso
    have q1_ := nltJ g26
    have q2_ := nltJ g27
    have q3_ := nltI g37
    have q4_ := nltI g38
    have q5_ := nltJ q51
    have q6_ := nltJ q53
    have q7_ := neI g106
    have q8_ := ltI g138
    have q9_ := nltI g146
    have q10_ := eqI g147
    have q11_ := nltJ g148
    have l12_ := rng64 w19
    have l13_ := lJ1
    have l14_ := lJ4294967295
    have l15_ := rng32 w30
    have l16_ := lI0
    have l17_ := lI65535
    have l18_ := c_i2l w30
    have l19_ := lJ0
    have l20_ := lJ65535
    have l21_ := rng32 w69
    have l22_ := c_l2i (w30.toInt64)
    have l22b_ := rng32 ((w30.toInt64).toInt32)
    have l23_ := rng64 w88
    omega
   ·
    exfalso
    have q1_ := nltI g37
    have q2_ := nltI g38
    have q3_ := nltJ q51
    have q4_ := nltJ q53
    have q5_ := neI g106
    have q6_ := ltI g138
    have q7_ := nltI g149
    have q8_ := neI g150
    have l9_ := rng32 w30
    have l10_ := lI0
    have l11_ := lI65535
    have l12_ := c_i2l w30
    have l13_ := lJ0
    have l14_ := lJ65535
    have l15_ := rng32 w69
    have l16_ := c_l2i (w30.toInt64)
    have l16b_ := rng32 ((w30.toInt64).toInt32)
    omega
  ·
   let Ls153 : Array Slot := #[.val (.long j0), .second, .val (.int i1), .val (.int i2), .val (.long j3), .second, .val (.int i4), .val (.long w19), .second, .val (.int w30), .val (.ref o39), .val (.int (i4 &&& (3 : Int32))), .val (.int w69), .val (.int (((i4.toUInt32 >>> ((2 : Int32) &&& 31).toUInt32).toInt32) &&& (3 : Int32))), .val (.long w88), .second, .val (.int (0 : Int32))]
   have p154 : ∀ t, St p e below Tj89 (mkF m 190 Ls153 [(.long w88), (.int w69), (.ref o39)]) t → S0 t := fun t k => p137 t (by
     refine XS.icmpYes Xj89.here hx rfl (pc0 := 156) (pc' := 163) rfl (hb hby at_156) rfl (flt g138).2.2.2 (by decide) (by decide) ?_
     refine XT.iconstV Xj89.here hx rfl (0 : Int32) (hb hby at_163) (by decide) ?_
     refine XS.istore Xj89.here hx rfl (hb hby at_164) rfl (l' := Ls153) rfl ?_
     refine XS.goto Xj89.here hx rfl (pc0 := 166) (pc' := 184) rfl (hb hby at_166) (by decide) (by decide) ?_
     refine XS.aload Xj89.here hx rfl (hb hby at_184) rfl rfl ?_
     show St p e below Tj89 (mkF m 186 Ls153 [(.ref o39)]) t
     refine XS.iload Xj89.here hx rfl (hb hby at_186) rfl ?_
     refine XS.lload Xj89.here hx rfl (hb hby at_188) rfl ?_
     exact k)
   obtain ⟨cqc155, kqc155, qc155a, qc155b, qc155c⟩ := isOf hZ ej89 f_56
   obtain ⟨_, _, ⟨Tc155, Lc155, kc155, nc155⟩, -, Xc155, ⟨Lcc155, hQc155, lc155, yc155, zc155⟩, stc155⟩ := Xj89.virtualBack hx (y := M4) (z := M4) hown (mvT hZ (ww hw 58 rfl)) (mvT hZ (ww hw 59 rfl)) (notFace_of_selects (args := #[]) (mvT hZ (ww hw 61 rfl))) (mvT hZ (ww hw 61 rfl)) (mvT hZ (ww hw 60 rfl)) (by decide) (backOf (W := 0) (rm6_19 l Z a0 hw [] a_ID a_ID_key a_PRIORITY a_PRIORITY_key a_SET a_SET_key a_PERIOD_MS a_PERIOD_MS_key a_MISSING_MAX a_MISSING_MAX_key a_PROSPECT_PERIODS a_PROSPECT_PERIODS_key w69 w88 w19 ((w30.toInt64).toInt32) o39 Tc55.heap n0 O63 HE' gb_o39 f_56 f_57 f_58 f_59 f_60 f_61 f_62) hZ (ww hw 62 rfl) (ww hw 6 rfl) (by decide) (by decide)) qc155a qc155c (g := (mkF m 190 Ls153 [(.long w88), (.int w69), (.ref o39)])) rfl (by rw [hml]; rfl) (Steps.refl _) (argsL := [(.int w69), (.long w88)]) (rest := []) (lenOf pd4 rfl) rfl (by show 2 * 0 + _ ≤ _; exact Nat.le_of_eq rfl) (hb hby at_190) (fun _ _ => ⟨rfl, ej89, (by decide : 1 + 0 ≤ _), (by decide : 6 + 0 ≤ _)⟩)
   dsimp only [Pt.U, Pt.locs, Pt.cells, Pt.slots] at Xc155 lc155 yc155 zc155 stc155 hQc155
   subst lc155 yc155 zc155
   obtain ⟨Nqc155, ec155, hAc155⟩ := hQc155
   have Nc155 := Fr.app Nj89 Nqc155
   rcases hAc155 with ⟨rfl, g156⟩ | ⟨rfl, g157, g158, g159⟩ | ⟨rfl, g160, g161, g162⟩ | ⟨rfl, g163, g164⟩
   ·
    exfalso
    have q1_ := nltI g37
    have q2_ := nltI g38
    have q3_ := nltJ q51
    have q4_ := nltJ q53
    have q5_ := neI g106
    have q6_ := nltI g138
    have q7_ := ltI g156
    have l8_ := rng32 w30
    have l9_ := lI0
    have l10_ := lI65535
    have l11_ := c_i2l w30
    have l12_ := lJ0
    have l13_ := lJ65535
    have l14_ := rng32 w69
    have l15_ := c_l2i (w30.toInt64)
    have l15b_ := rng32 ((w30.toInt64).toInt32)
    omega
   ·
    exfalso
    have q1_ := nltJ g26
    have q2_ := nltJ g27
    have q3_ := nltI g37
    have q4_ := nltI g38
    have q5_ := nltJ q51
    have q6_ := nltJ q53
    have q7_ := neI g106
    have q8_ := nltI g138
    have q9_ := nltI g157
    have q10_ := eqI g158
    have q11_ := ltJ g159
    have l12_ := rng64 w19
    have l13_ := lJ1
    have l14_ := lJ4294967295
    have l15_ := rng32 w30
    have l16_ := lI0
    have l17_ := lI65535
    have l18_ := c_i2l w30
    have l19_ := lJ0
    have l20_ := lJ65535
    have l21_ := rng32 w69
    have l22_ := c_l2i (w30.toInt64)
    have l22b_ := rng32 ((w30.toInt64).toInt32)
    have l23_ := rng64 w88
    omega
   ·
    exfalso
    have q1_ := nltJ g26
    have q2_ := nltJ g27
    have q3_ := nltI g37
    have q4_ := nltI g38
    have q5_ := nltJ q51
    have q6_ := nltJ q53
    have q7_ := neI g106
    have q8_ := nltI g138
    have q9_ := nltI g160
    have q10_ := eqI g161
    have q11_ := nltJ g162
    have l12_ := rng64 w19
    have l13_ := lJ1
    have l14_ := lJ4294967295
    have l15_ := rng32 w30
    have l16_ := lI0
    have l17_ := lI65535
    have l18_ := c_i2l w30
    have l19_ := lJ0
    have l20_ := lJ65535
    have l21_ := rng32 w69
    have l22_ := c_l2i (w30.toInt64)
    have l22b_ := rng32 ((w30.toInt64).toInt32)
    have l23_ := rng64 w88
    omega
   ·
    have p165 : ∀ t, St p e below Tc155 (mkF m 193 Ls153 [(.int (0 : Int32))]) t → S0 t := fun t k => p154 t (stc155.trans k)
    have p166 : ∀ t, St p e below Tc155 (mkF m 203 Ls153 [(.int (1 : Int32))]) t → S0 t := fun t k => p165 t (by
      refine XS.iload Xc155.here hx rfl (hb hby at_193) rfl ?_
      refine XS.icmpNo Xc155.here hx rfl (hb hby at_195) rfl (teq (by decide : (0 : Int32) = (0 : Int32))).2 ?_
      refine XT.iconstV Xc155.here hx rfl (1 : Int32) (hb hby at_198) (by decide) ?_
      refine XS.goto Xc155.here hx rfl (pc0 := 199) (pc' := 203) rfl (hb hby at_199) (by decide) (by decide) ?_
      exact k)
    obtain ⟨fs, hr, hrun, hended, hW, hsame⟩ := Xc155.leave (v := some (.int (1 : Int32))) (fun h => by rw [Bd.returns] at h; cases h)
    refine ⟨_, _, p166 _ ?_, hrun, hended, _, _, rfl, ?_, ⟨_, rfl⟩, hW, hsame.mono (by decide) (by decide)⟩
    · exact retOut Xc155 hx Bd.returns rfl (Or.inl ⟨rfl, by simp, _, rfl⟩) (hb hby at_203) hr
    · exact ⟨rfl, Nc155⟩
set_option maxRecDepth 65536 in
set_option maxHeartbeats 40000000 in
theorem comes_1 {Post : Tables → Env → Array Value → State → Outcome → State → Prop} (hpost : ∀ tb e args s v u, (limb_1_1.after args s (.returned v) u = true ∧ limb_1_2.after args s (.returned v) u = true ∧ True) → FrameEnd s (.returned v) u (Jvm.fieldLocs frame_1_writes args s ++ Jvm.arrayLocs frame_1_arrays args s ++ Jvm.staticLocs frame_1_statics s) 16 128 → Post tb e args s (.returned v) u) :
    ArmFor flags0 classFile x code maxLocals ret World_1 tables_1 room_1 Calls_1 rest_1 Pre_1 Post := by
  intro l hfl _ _ p e ha hc hk s m args below hf hA hF happ hP
  obtain ⟨hcalls, hrest, hpre⟩ := hP
  obtain ⟨-, -, -, hnamed, -, -, -, hat⟩ := (Spec.applies_iff hf).mp happ
  obtain ⟨hg, hn⟩ := and_e (Cond.before_iff.mp (show (Jvm.Cond.and given_1 narrow_1).before args s = true from hpre))
  obtain ⟨hj1a, hj1b⟩ := and_e hg
  obtain ⟨hj2a, hj2b⟩ := and_e hj1b
  obtain ⟨hj3a, hj3b⟩ := and_e hj2b
  obtain ⟨hj4a, hj4b⟩ := and_e hj3b
  obtain ⟨hj5a, hj5b⟩ := and_e hj4b
  obtain ⟨w0, w1, w2, w3, w4, rfl⟩ : ∃ w0 w1 w2 w3 w4 : Value, args = #[w0, w1, w2, w3, w4] := by
    have hs : args.size = 5 := by simpa [Cond.value, given_1] using hj1a
    obtain ⟨L⟩ := args
    match L, hs with
    | [w0, w1, w2, w3, w4], _ => exact ⟨w0, w1, w2, w3, w4, rfl⟩
  have hw := fun d (hd : d ∈ tables_1) => atoms_spec (ws := Jvm.Cond.code x code maxLocals ret :: tables_1) hat d (List.mem_cons_of_mem _ hd)
  have hfit : Fit s := fun {y c} hc i hi => by
    obtain ⟨ha, rfl⟩ := Array.getElem?_eq_some_iff.mp hc
    have q := List.all_eq_true.mp ((Array.all_eq_true_iff_forall_mem.mp hF) _ (Array.getElem_mem ha)) i (List.mem_range.mpr hi)
    simpa [Array.getElem?_eq_getElem hi] using q
  obtain ⟨j0, ei0⟩ := isL_v hj2a
  obtain rfl : w0 = (.long j0) := Option.some.inj ei0
  obtain ⟨i1, ei1⟩ := is_v hj3a
  obtain rfl : w1 = (.int i1) := Option.some.inj ei1
  obtain ⟨i2, ei2⟩ := is_v hj4a
  obtain rfl : w2 = (.int i2) := Option.some.inj ei2
  obtain ⟨j3, ei3⟩ := isL_v hj5a
  obtain rfl : w3 = (.long j3) := Option.some.inj ei3
  obtain ⟨i4, ei4⟩ := is_v hj5b
  obtain rfl : w4 = (.int i4) := Option.some.inj ei4
  obtain ⟨hj6a, hj6b⟩ := and_e hn
  obtain ⟨hj7a, hj7b⟩ := and_e hj6b
  obtain ⟨hj8a, hj8b⟩ := and_e hj7b
  obtain ⟨hj9a, hj9b⟩ := and_e hj8b
  obtain ⟨hj10a, hj10b⟩ := and_e hj9b
  obtain ⟨hj11a, hj11b⟩ := and_e hj10b
  obtain ⟨hj12a, hj12b⟩ := and_e hj11b
  obtain ⟨hj13a, hj13b⟩ := and_e hj12b
  obtain ⟨hj14a, hj14b⟩ := and_e hj13b
  obtain ⟨hj15a, hj15b⟩ := and_e hj14b
  obtain ⟨hj16a, hj16b⟩ := and_e hj15b
  obtain ⟨hj17a, hj17b⟩ := and_e hj16b
  obtain ⟨hj18a, hj18b⟩ := and_e hj17b
  obtain ⟨hj19a, hj19b⟩ := and_e hj18b
  obtain ⟨hj20a, hj20b⟩ := and_e hj19b
  obtain ⟨hj21a, hj21b⟩ := and_e hj20b
  obtain ⟨hj22a, hj22b⟩ := and_e hj21b
  obtain ⟨hj23a, hj23b⟩ := and_e hj22b
  obtain ⟨hj24a, hj24b⟩ := and_e hj23b
  obtain ⟨hj25a, hj25b⟩ := and_e hj24b
  obtain ⟨hj26a, hj26b⟩ := and_e hj25b
  obtain ⟨hj27a, hj27b⟩ := and_e hj26b
  obtain ⟨hj28a, hj28b⟩ := and_e hj27b
  have hn0 := hj6a
  have hn1 := hj7a
  have hn2 := hj8a
  have hn3 := hj9a
  have hn4 := hj10a
  have hn5 := hj11a
  have hn6 := hj12a
  have hn7 := hj13a
  have hn8 := hj14a
  have hn9 := hj15a
  have hn10 := hj16a
  have hn11 := hj17a
  have hn12 := hj18a
  have hn13 := hj19a
  have hn14 := hj20a
  have hn15 := hj21a
  have hn16 := hj22a
  have hn17 := hj23a
  have hn18 := hj24a
  have hn19 := hj25a
  have hn20 := hj26a
  have hn21 := hj27a
  have hn22 := hj28a
  have hn23 := hj28b
  obtain ⟨a_ID, eva_ID⟩ := exa_v hn0
  obtain ⟨a_ID_key, eva_ID_key⟩ := exa_v hn1
  obtain ⟨a_PRIORITY, eva_PRIORITY⟩ := exa_v hn4
  obtain ⟨a_PRIORITY_key, eva_PRIORITY_key⟩ := exa_v hn5
  obtain ⟨a_SET, eva_SET⟩ := exa_v hn8
  obtain ⟨a_SET_key, eva_SET_key⟩ := exa_v hn9
  obtain ⟨a_PERIOD_MS, eva_PERIOD_MS⟩ := exa_v hn12
  obtain ⟨a_PERIOD_MS_key, eva_PERIOD_MS_key⟩ := exa_v hn13
  obtain ⟨a_MISSING_MAX, eva_MISSING_MAX⟩ := exa_v hn16
  obtain ⟨a_MISSING_MAX_key, eva_MISSING_MAX_key⟩ := exa_v hn17
  obtain ⟨a_PROSPECT_PERIODS, eva_PROSPECT_PERIODS⟩ := exa_v hn20
  obtain ⟨a_PROSPECT_PERIODS_key, eva_PROSPECT_PERIODS_key⟩ := exa_v hn21
  obtain ⟨n, o, h1, h2, h3, _, L, rfl, ⟨rfl, N⟩, hq⟩ := rm0 l s _ hw tables_1 a_ID a_ID_key a_PRIORITY a_PRIORITY_key a_SET a_SET_key a_PERIOD_MS a_PERIOD_MS_key a_MISSING_MAX a_MISSING_MAX_key a_PROSPECT_PERIODS a_PROSPECT_PERIODS_key j0 i1 i2 j3 i4 s.heap s.heap.size (Old.start s) ⟨(Sta.start eva_ID (Or.inr ⟨(ww hw 14 rfl), (ww hw 15 rfl)⟩)), (Exa.start eva_ID hn0), (Fld.start ((fld_at eva_ID).symm.trans eva_ID_key)), (Exa.start eva_ID_key hn1), (Fld.start ((fld_at eva_ID).symm.trans (own_eqJ hn2))), (Fld.start ((fld_at eva_ID).symm.trans (own_eqJ hn3))), (Sta.start eva_PRIORITY (Or.inr ⟨(ww hw 14 rfl), (ww hw 39 rfl)⟩)), (Exa.start eva_PRIORITY hn4), (Fld.start ((fld_at eva_PRIORITY).symm.trans eva_PRIORITY_key)), (Exa.start eva_PRIORITY_key hn5), (Fld.start ((fld_at eva_PRIORITY).symm.trans (own_eqJ hn6))), (Fld.start ((fld_at eva_PRIORITY).symm.trans (own_eqJ hn7))), (Sta.start eva_SET (Or.inr ⟨(ww hw 14 rfl), (ww hw 43 rfl)⟩)), (Exa.start eva_SET hn8), (Fld.start ((fld_at eva_SET).symm.trans eva_SET_key)), (Exa.start eva_SET_key hn9), (Fld.start ((fld_at eva_SET).symm.trans (own_eqJ hn10))), (Fld.start ((fld_at eva_SET).symm.trans (own_eqJ hn11))), (Sta.start eva_PERIOD_MS (Or.inr ⟨(ww hw 14 rfl), (ww hw 47 rfl)⟩)), (Exa.start eva_PERIOD_MS hn12), (Fld.start ((fld_at eva_PERIOD_MS).symm.trans eva_PERIOD_MS_key)), (Exa.start eva_PERIOD_MS_key hn13), (Fld.start ((fld_at eva_PERIOD_MS).symm.trans (own_eqJ hn14))), (Fld.start ((fld_at eva_PERIOD_MS).symm.trans (own_eqJ hn15))), (Sta.start eva_MISSING_MAX (Or.inr ⟨(ww hw 14 rfl), (ww hw 51 rfl)⟩)), (Exa.start eva_MISSING_MAX hn16), (Fld.start ((fld_at eva_MISSING_MAX).symm.trans eva_MISSING_MAX_key)), (Exa.start eva_MISSING_MAX_key hn17), (Fld.start ((fld_at eva_MISSING_MAX).symm.trans (own_eqJ hn18))), (Fld.start ((fld_at eva_MISSING_MAX).symm.trans (own_eqJ hn19))), (Sta.start eva_PROSPECT_PERIODS (Or.inr ⟨(ww hw 14 rfl), (ww hw 55 rfl)⟩)), (Exa.start eva_PROSPECT_PERIODS hn20), (Fld.start ((fld_at eva_PROSPECT_PERIODS).symm.trans eva_PROSPECT_PERIODS_key)), (Exa.start eva_PROSPECT_PERIODS_key hn21), (Fld.start ((fld_at eva_PROSPECT_PERIODS).symm.trans (own_eqJ hn22))), (Fld.start ((fld_at eva_PROSPECT_PERIODS).symm.trans (own_eqJ hn23)))⟩ p e ha hc hk s m _ below hf ((Spec.applies_iff_loose hf).mp happ).1 ⟨rfl, State.Warmed39.refl s, rfl⟩ trivial
  refine ⟨n, _, h1, h2, h3, hpost _ _ _ _ _ _ ⟨Cond.after_iff.mpr rfl, Cond.after_iff.mpr (eq_i res_at (Term.int_eval (1)) rfl), trivial⟩ ⟨hq.1, hq.2.1, (hq.2.2.sift fun y hy => Or.inr (N y hy)).mono (by decide) (by decide)⟩⟩
theorem main_1_1 : Claimed_1_1 := comes_1 fun _ _ _ _ _ _ h hF => ⟨h.1, hF⟩
theorem main_1_2 : Claimed_1_2 := comes_1 fun _ _ _ _ _ _ h hF => ⟨h.2.1, hF⟩
end Jvm.Pilot.@@N@@
namespace Jvm.Pilot.@@N@@
open Jvm Jvm.ClassFile Sem Op Lib Jvm.Free Jvm.Stand Jvm.Pilot.@@N@@.Jvm.D
/-! MADE BY PROGRAM (witnessworld.py) out of the Statement's table words and the real class files: 17 classes; the members and pool entries that the words name. The judged class is class 1, her method 1. -/
namespace start1
open Jvm.ClassFile
def u (s : String) : CpInfo := .utf8 (stringToUtf16 s)
/-- a pool by its gaps: so many unusable entries, then the entry; so many at the end -/
def gap : Nat → List CpInfo → List CpInfo
  | 0, r => r
  | n + 1, r => .unusable :: gap n r
def poolList (es : List (Nat × CpInfo)) (last : Nat) : List CpInfo := es.foldr (fun e r => gap e.1 (e.2 :: r)) (gap last [])
def pool (es : List (Nat × CpInfo)) (last : Nat) : Array CpInfo := ⟨poolList es last⟩
def fileOf (pool : Array CpInfo) (this : Nat) (attrs : Array Attribute := #[]) (ms : Array MethodInfo := #[]) (fl : Nat := 33) (sup : Nat := 0) (ifs : Array Nat := #[]) (fds : Array FieldInfo := #[]) : ClassFile where
  minorVersion := 0
  majorVersion := 65
  constantPool := pool
  accessFlags := fl
  thisClass := this
  superClass := sup
  interfaces := ifs
  fields := fds
  methods := ms
  attributes := attrs
def plain (name : String) (sup : Option ClassId) : Class where
  name := name
  kind := .ordinary
  loader := none
  accessFlags := 33
  super := sup
  interfaces := #[]
  cf := none
  fields := #[]
  methods := #[]
  instanceTypes := #[]
  staticTypes := #[]
  resolved := #[]
  callSites := []
  init := .initialized
  statics := none
  mirror := none

def pool0 : Array CpInfo := pool [(5, u "<init>"), (0, u "()V"), (1, .class_ 10), (1, u "java/lang/Object")] 113

def k0c0 : Code := { maxStack := 0, maxLocals := 1, code := object_method_1_code, exceptionTable := #[], attributes := #[] }
def k0m0 : Method := { name := "<init>", desc := "()V", sig := { parameters := [], returnType := none }, accessFlags := 1, code := some k0c0 }
/-- java/lang/Object -/
def k0 : Class := { plain "java/lang/Object" none with
  accessFlags := 33
  interfaces := #[]
  cf := some (fileOf pool0 8 #[] #[{ accessFlags := 1, nameIndex := 5, descriptorIndex := 6, attributes := #[] }] 33 0 #[] #[])
  fields := #[]
  methods := #[k0m0]
  instanceTypes := #[]
  staticTypes := #[]
  resolved := Array.replicate 124 none
  statics := none }

def pool1 : Array CpInfo := pool [(2, .class_ 4), (1, u "java/lang/Object"), (0, u "<init>"), (0, u "()V"), (0, .long 9223372036854775807), (1, .long 4294967295), (1, .integer 2147483647), (0, .integer 65536), (0, .class_ 14), (0, u "com/example/vacant_throne/vacantthrone/core/NodeSettings"), (0, .methodref 13 16), (0, .nameAndType 5 17), (0, u "(JIIIII)V"), (0, .methodref 13 19), (0, .nameAndType 20 21), (0, u "outranks"), (0, u "(IJ)Z"), (0, .class_ 23), (0, u "com/example/vacant_throne/vacantthrone/core/NodeSettingsOutranksPinLaw"), (2, u "law"), (0, u "(JIIJI)Z")] 3

def k1m0 : Method := { name := "<init>", desc := "()V", sig := { parameters := [], returnType := none }, accessFlags := 1, code := none }
def k1c1 : Code := { maxStack := 9, maxLocals := 17, code := code, exceptionTable := #[], attributes := #[] }
def k1m1 : Method := { name := "law", desc := "(JIIJI)Z", sig := { parameters := [.long, .int, .int, .long, .int], returnType := some .boolean }, accessFlags := 9, code := some k1c1 }
/-- com/example/vacant_throne/vacantthrone/core/NodeSettingsOutranksPinLaw -/
def k1 : Class := { plain "com/example/vacant_throne/vacantthrone/core/NodeSettingsOutranksPinLaw" (some 0) with
  accessFlags := 49
  interfaces := #[]
  cf := some (fileOf pool1 22 #[] #[{ accessFlags := 1, nameIndex := 5, descriptorIndex := 6, attributes := #[] }, { accessFlags := 9, nameIndex := 26, descriptorIndex := 27, attributes := #[] }] 49 2 #[] #[])
  fields := #[]
  methods := #[k1m0, k1m1]
  instanceTypes := #[]
  staticTypes := #[]
  resolved := Array.replicate 31 none
  statics := none }

def pool2 : Array CpInfo := pool [(1, .fieldref 2 3), (0, .class_ 4), (0, .nameAndType 5 6), (0, u "com/example/vacant_throne/vacantthrone/core/Setting"), (0, u "SET"), (0, u "Lcom/example/vacant_throne/vacantthrone/core/Setting;"), (1, .class_ 10), (1, u "com/example/vacant_throne/vacantthrone/core/NodeSettings"), (2, .fieldref 2 14), (0, .nameAndType 15 6), (0, u "PERIOD_MS"), (0, .fieldref 2 17), (0, .nameAndType 18 6), (0, u "MISSING_MAX"), (0, .fieldref 2 20), (0, .nameAndType 21 6), (0, u "PROSPECT_PERIODS"), (2, u "<init>"), (0, u "(JIIIII)V"), (0, .methodref 27 28), (0, .class_ 29), (0, .nameAndType 24 30), (0, u "java/lang/Object"), (0, u "()V"), (0, .fieldref 2 32), (0, .nameAndType 33 6), (0, u "ID"), (0, .methodref 2 35), (0, .nameAndType 36 37), (0, u "require"), (0, u "(J)J"), (0, .fieldref 8 39), (0, .nameAndType 40 41), (0, u "id"), (0, u "J"), (0, .fieldref 2 43), (0, .nameAndType 44 6), (0, u "PRIORITY"), (0, .fieldref 8 46), (0, .nameAndType 47 48), (0, u "priority"), (0, u "I"), (0, .fieldref 8 50), (0, .nameAndType 51 48), (0, u "set"), (0, .fieldref 8 53), (0, .nameAndType 54 48), (0, u "periodMs"), (0, .fieldref 8 56), (0, .nameAndType 57 48), (0, u "missingMax"), (0, .fieldref 8 59), (0, .nameAndType 60 48), (0, u "prospectPeriods"), (24, u "outranks"), (0, u "(IJ)Z")] 20

def k2c0 : Code := { maxStack := 4, maxLocals := 8, code := prog_10_method_2_code, exceptionTable := #[], attributes := #[] }
def k2m0 : Method := { name := "<init>", desc := "(JIIIII)V", sig := { parameters := [.long, .int, .int, .int, .int, .int], returnType := none }, accessFlags := 1, code := some k2c0 }
def k2c1 : Code := { maxStack := 4, maxLocals := 4, code := prog_10_method_9_code, exceptionTable := #[], attributes := #[] }
def k2m1 : Method := { name := "outranks", desc := "(IJ)Z", sig := { parameters := [.int, .long], returnType := some .boolean }, accessFlags := 0, code := some k2c1 }
/-- com/example/vacant_throne/vacantthrone/core/NodeSettings -/
def k2 : Class := { plain "com/example/vacant_throne/vacantthrone/core/NodeSettings" (some 0) with
  accessFlags := 49
  interfaces := #[]
  cf := some (fileOf pool2 8 #[] #[{ accessFlags := 1, nameIndex := 24, descriptorIndex := 25, attributes := #[] }, { accessFlags := 0, nameIndex := 85, descriptorIndex := 86, attributes := #[] }] 49 27 #[] #[{ accessFlags := 18, nameIndex := 40, descriptorIndex := 41, attributes := #[] }, { accessFlags := 18, nameIndex := 47, descriptorIndex := 48, attributes := #[] }, { accessFlags := 18, nameIndex := 51, descriptorIndex := 48, attributes := #[] }, { accessFlags := 18, nameIndex := 54, descriptorIndex := 48, attributes := #[] }, { accessFlags := 18, nameIndex := 57, descriptorIndex := 48, attributes := #[] }, { accessFlags := 18, nameIndex := 60, descriptorIndex := 48, attributes := #[] }])
  fields := #[{ name := "id", type := .long, accessFlags := 18, slot := 0, constantValue := 0 }, { name := "priority", type := .int, accessFlags := 18, slot := 1, constantValue := 0 }, { name := "set", type := .int, accessFlags := 18, slot := 2, constantValue := 0 }, { name := "periodMs", type := .int, accessFlags := 18, slot := 3, constantValue := 0 }, { name := "missingMax", type := .int, accessFlags := 18, slot := 4, constantValue := 0 }, { name := "prospectPeriods", type := .int, accessFlags := 18, slot := 5, constantValue := 0 }]
  methods := #[k2m0, k2m1]
  instanceTypes := #[.long, .int, .int, .int, .int, .int]
  staticTypes := #[]
  resolved := Array.replicate 107 none
  statics := none }

def pool3 : Array CpInfo := pool [(1, .class_ 2), (0, u "java/lang/constant/Constable"), (0, .class_ 4), (0, u "java/lang/Object")] 6

/-- java/lang/constant/Constable -/
def k3 : Class := { plain "java/lang/constant/Constable" (some 0) with
  accessFlags := 1537
  interfaces := #[]
  cf := some (fileOf pool3 1 #[] #[] 1537 3 #[] #[])
  fields := #[]
  methods := #[]
  instanceTypes := #[]
  staticTypes := #[]
  resolved := Array.replicate 11 none
  statics := none }

def pool4 : Array CpInfo := pool [(1, .class_ 2), (0, u "java/lang/Comparable"), (0, .class_ 4), (0, u "java/lang/Object")] 7

/-- java/lang/Comparable -/
def k4 : Class := { plain "java/lang/Comparable" (some 0) with
  accessFlags := 1537
  interfaces := #[]
  cf := some (fileOf pool4 1 #[] #[] 1537 3 #[] #[])
  fields := #[]
  methods := #[]
  instanceTypes := #[]
  staticTypes := #[]
  resolved := Array.replicate 12 none
  statics := none }

def pool5 : Array CpInfo := pool [(1, .class_ 2), (0, u "java/io/Serializable"), (0, .class_ 4), (0, u "java/lang/Object")] 2

/-- java/io/Serializable -/
def k5 : Class := { plain "java/io/Serializable" (some 0) with
  accessFlags := 1537
  interfaces := #[]
  cf := some (fileOf pool5 1 #[] #[] 1537 3 #[] #[])
  fields := #[]
  methods := #[]
  instanceTypes := #[]
  staticTypes := #[]
  resolved := Array.replicate 7 none
  statics := none }

def pool6 : Array CpInfo := pool [(2, .class_ 4), (1, u "java/lang/Enum"), (0, u "name"), (0, u "Ljava/lang/String;"), (2, u "ordinal"), (0, u "I"), (1, .class_ 14), (1, u "java/lang/Object"), (4, u "hash"), (86, .class_ 108), (1, u "java/lang/Enum$EnumDesc"), (2, .class_ 112), (0, u "java/lang/constant/Constable"), (0, .class_ 114), (0, u "java/lang/Comparable"), (0, .class_ 116), (0, u "java/io/Serializable")] 87

/-- java/lang/Enum -/
def k6 : Class := { plain "java/lang/Enum" (some 0) with
  accessFlags := 1057
  interfaces := #[3, 4, 5]
  cf := some (fileOf pool6 2 #[.nestMembers #[106]] #[] 1057 12 #[111, 113, 115] #[{ accessFlags := 18, nameIndex := 5, descriptorIndex := 6, attributes := #[] }, { accessFlags := 18, nameIndex := 9, descriptorIndex := 10, attributes := #[] }, { accessFlags := 2, nameIndex := 19, descriptorIndex := 10, attributes := #[] }])
  fields := #[{ name := "name", type := (.object "java/lang/String"), accessFlags := 18, slot := 0, constantValue := 0 }, { name := "ordinal", type := .int, accessFlags := 18, slot := 1, constantValue := 0 }, { name := "hash", type := .int, accessFlags := 2, slot := 2, constantValue := 0 }]
  methods := #[]
  instanceTypes := #[(.object "java/lang/String"), .int, .int]
  staticTypes := #[]
  resolved := Array.replicate 204 none
  statics := none }

def pool7 : Array CpInfo := pool [(1, .class_ 2), (0, u "com/example/vacant_throne/vacantthrone/core/Setting"), (2, u "ID"), (0, u "Lcom/example/vacant_throne/vacantthrone/core/Setting;"), (2, u "PRIORITY"), (2, u "SET"), (2, u "PERIOD_MS"), (2, u "MISSING_MAX"), (2, u "PROSPECT_PERIODS"), (2, u "$VALUES"), (0, u "[Lcom/example/vacant_throne/vacantthrone/core/Setting;"), (6, .class_ 34), (1, u "java/lang/Enum"), (6, .fieldref 1 42), (0, .nameAndType 43 44), (0, u "key"), (0, u "Ljava/lang/String;"), (0, .fieldref 1 46), (0, .nameAndType 47 48), (0, u "min"), (0, u "J"), (0, .fieldref 1 50), (0, .nameAndType 51 48), (0, u "max"), (2, u "defaultValue"), (0, u "Ljava/util/OptionalLong;"), (0, .methodref 1 57), (0, .nameAndType 58 59), (0, u "require"), (0, u "(Ljava/lang/String;J)J"), (0, .methodref 61 62), (0, .class_ 63), (0, .nameAndType 58 64), (0, u "com/example/vacant_throne/vacantthrone/core/Ranges"), (0, u "(Ljava/lang/String;JJJ)J"), (54, u "(J)J")] 11

def k7c0 : Code := { maxStack := 4, maxLocals := 3, code := prog_18_method_4_code, exceptionTable := #[], attributes := #[] }
def k7m0 : Method := { name := "require", desc := "(J)J", sig := { parameters := [.long], returnType := some .long }, accessFlags := 1, code := some k7c0 }
def k7c1 : Code := { maxStack := 7, maxLocals := 4, code := prog_18_method_5_code, exceptionTable := #[], attributes := #[] }
def k7m1 : Method := { name := "require", desc := "(Ljava/lang/String;J)J", sig := { parameters := [(.object "java/lang/String"), .long], returnType := some .long }, accessFlags := 1, code := some k7c1 }
/-- com/example/vacant_throne/vacantthrone/core/Setting -/
def k7 : Class := { plain "com/example/vacant_throne/vacantthrone/core/Setting" (some 6) with
  accessFlags := 16433
  interfaces := #[]
  cf := some (fileOf pool7 1 #[] #[{ accessFlags := 1, nameIndex := 58, descriptorIndex := 119, attributes := #[] }, { accessFlags := 1, nameIndex := 58, descriptorIndex := 59, attributes := #[] }] 16433 32 #[] #[{ accessFlags := 16409, nameIndex := 5, descriptorIndex := 6, attributes := #[] }, { accessFlags := 16409, nameIndex := 9, descriptorIndex := 6, attributes := #[] }, { accessFlags := 16409, nameIndex := 12, descriptorIndex := 6, attributes := #[] }, { accessFlags := 16409, nameIndex := 15, descriptorIndex := 6, attributes := #[] }, { accessFlags := 16409, nameIndex := 18, descriptorIndex := 6, attributes := #[] }, { accessFlags := 16409, nameIndex := 21, descriptorIndex := 6, attributes := #[] }, { accessFlags := 18, nameIndex := 43, descriptorIndex := 44, attributes := #[] }, { accessFlags := 18, nameIndex := 47, descriptorIndex := 48, attributes := #[] }, { accessFlags := 18, nameIndex := 51, descriptorIndex := 48, attributes := #[] }, { accessFlags := 18, nameIndex := 54, descriptorIndex := 55, attributes := #[] }, { accessFlags := 4122, nameIndex := 24, descriptorIndex := 25, attributes := #[] }])
  fields := #[{ name := "ID", type := (.object "com/example/vacant_throne/vacantthrone/core/Setting"), accessFlags := 16409, slot := 0, constantValue := 0 }, { name := "PRIORITY", type := (.object "com/example/vacant_throne/vacantthrone/core/Setting"), accessFlags := 16409, slot := 1, constantValue := 0 }, { name := "SET", type := (.object "com/example/vacant_throne/vacantthrone/core/Setting"), accessFlags := 16409, slot := 2, constantValue := 0 }, { name := "PERIOD_MS", type := (.object "com/example/vacant_throne/vacantthrone/core/Setting"), accessFlags := 16409, slot := 3, constantValue := 0 }, { name := "MISSING_MAX", type := (.object "com/example/vacant_throne/vacantthrone/core/Setting"), accessFlags := 16409, slot := 4, constantValue := 0 }, { name := "PROSPECT_PERIODS", type := (.object "com/example/vacant_throne/vacantthrone/core/Setting"), accessFlags := 16409, slot := 5, constantValue := 0 }, { name := "key", type := (.object "java/lang/String"), accessFlags := 18, slot := 3, constantValue := 0 }, { name := "min", type := .long, accessFlags := 18, slot := 4, constantValue := 0 }, { name := "max", type := .long, accessFlags := 18, slot := 5, constantValue := 0 }, { name := "defaultValue", type := (.object "java/util/OptionalLong"), accessFlags := 18, slot := 6, constantValue := 0 }, { name := "$VALUES", type := (.array (.object "com/example/vacant_throne/vacantthrone/core/Setting")), accessFlags := 4122, slot := 6, constantValue := 0 }]
  methods := #[k7m0, k7m1]
  instanceTypes := #[(.object "java/lang/String"), .int, .int, (.object "java/lang/String"), .long, .long, (.object "java/util/OptionalLong")]
  staticTypes := #[(.object "com/example/vacant_throne/vacantthrone/core/Setting"), (.object "com/example/vacant_throne/vacantthrone/core/Setting"), (.object "com/example/vacant_throne/vacantthrone/core/Setting"), (.object "com/example/vacant_throne/vacantthrone/core/Setting"), (.object "com/example/vacant_throne/vacantthrone/core/Setting"), (.object "com/example/vacant_throne/vacantthrone/core/Setting"), (.array (.object "com/example/vacant_throne/vacantthrone/core/Setting"))]
  resolved := Array.replicate 131 none
  statics := some 0 }

def pool8 : Array CpInfo := pool [(2, .class_ 4), (1, u "java/lang/Object"), (0, u "<init>"), (0, u "()V"), (9, .class_ 17), (0, u "com/example/vacant_throne/vacantthrone/core/Ranges"), (0, u "MAX_UNSIGNED_16"), (0, u "I"), (2, u "MAX_UNSIGNED_32"), (0, u "J"), (4, u "require"), (0, u "(Ljava/lang/String;JJJ)J")] 18

def k8m0 : Method := { name := "<init>", desc := "()V", sig := { parameters := [], returnType := none }, accessFlags := 2, code := none }
def k8c1 : Code := { maxStack := 9, maxLocals := 7, code := prog_14_method_2_code, exceptionTable := #[], attributes := #[] }
def k8m1 : Method := { name := "require", desc := "(Ljava/lang/String;JJJ)J", sig := { parameters := [(.object "java/lang/String"), .long, .long, .long], returnType := some .long }, accessFlags := 8, code := some k8c1 }
/-- com/example/vacant_throne/vacantthrone/core/Ranges -/
def k8 : Class := { plain "com/example/vacant_throne/vacantthrone/core/Ranges" (some 0) with
  accessFlags := 48
  interfaces := #[]
  cf := some (fileOf pool8 16 #[] #[{ accessFlags := 2, nameIndex := 5, descriptorIndex := 6, attributes := #[] }, { accessFlags := 8, nameIndex := 28, descriptorIndex := 29, attributes := #[] }] 48 2 #[] #[{ accessFlags := 24, nameIndex := 18, descriptorIndex := 19, attributes := #[] }, { accessFlags := 24, nameIndex := 22, descriptorIndex := 23, attributes := #[] }])
  fields := #[{ name := "MAX_UNSIGNED_16", type := .int, accessFlags := 24, slot := 0, constantValue := 0 }, { name := "MAX_UNSIGNED_32", type := .long, accessFlags := 24, slot := 1, constantValue := 0 }]
  methods := #[k8m0, k8m1]
  instanceTypes := #[]
  staticTypes := #[.int, .long]
  resolved := Array.replicate 48 none
  statics := none }

def pool9 : Array CpInfo := pool [(2, .class_ 4), (1, u "java/lang/CharSequence"), (42, .class_ 48), (0, u "java/lang/CharSequence$1CodePointIterator"), (10, .class_ 60), (0, u "java/lang/CharSequence$1CharIterator"), (5, .class_ 67), (0, u "java/lang/Object")] 63

/-- java/lang/CharSequence -/
def k9 : Class := { plain "java/lang/CharSequence" (some 0) with
  accessFlags := 1537
  interfaces := #[]
  cf := some (fileOf pool9 2 #[.nestMembers #[47, 59]] #[] 1537 66 #[] #[])
  fields := #[]
  methods := #[]
  instanceTypes := #[]
  staticTypes := #[]
  resolved := Array.replicate 131 none
  statics := none }

def pool10 : Array CpInfo := pool [(1, .class_ 2), (0, u "java/lang/constant/ConstantDesc"), (0, .class_ 4), (0, u "java/lang/Object")] 32

/-- java/lang/constant/ConstantDesc -/
def k10 : Class := { plain "java/lang/constant/ConstantDesc" (some 0) with
  accessFlags := 1537
  interfaces := #[]
  cf := some (fileOf pool10 1 #[] #[] 1537 3 #[] #[])
  fields := #[]
  methods := #[]
  instanceTypes := #[]
  staticTypes := #[]
  resolved := Array.replicate 37 none
  statics := none }

def pool11 : Array CpInfo := pool [(2, .class_ 4), (1, u "java/lang/Object"), (0, u "<init>"), (0, u "()V"), (3, .class_ 12), (1, u "java/lang/String"), (0, u "value"), (0, u "[B"), (2, u "coder"), (0, u "B"), (2, u "hash"), (0, u "I"), (2, u "hashIsZero"), (0, u "Z"), (13, u "COMPACT_STRINGS"), (534, .class_ 576), (0, u "java/lang/CharSequence"), (22, u "CASE_INSENSITIVE_ORDER"), (0, u "Ljava/util/Comparator;"), (500, u "serialPersistentFields"), (0, u "[Ljava/io/ObjectStreamField;"), (0, .class_ 1104), (0, u "java/lang/String$CaseInsensitiveComparator"), (1, .class_ 1107), (0, u "java/io/Serializable"), (0, .class_ 1109), (0, u "java/lang/Comparable"), (0, .class_ 1111), (0, u "java/lang/constant/Constable"), (0, .class_ 1113), (0, u "java/lang/constant/ConstantDesc"), (2, u "serialVersionUID"), (0, u "J"), (3, u "REPL"), (0, u "C"), (2, u "LATIN1"), (1, u "UTF16")] 323

def k11m0 : Method := { name := "<init>", desc := "()V", sig := { parameters := [], returnType := none }, accessFlags := 1, code := none }
/-- java/lang/String -/
def k11 : Class := { plain "java/lang/String" (some 0) with
  accessFlags := 49
  interfaces := #[5, 4, 9, 3, 10]
  cf := some (fileOf pool11 10 #[.nestMembers #[1103]] #[{ accessFlags := 1, nameIndex := 5, descriptorIndex := 6, attributes := #[] }] 49 2 #[1106, 1108, 575, 1110, 1112] #[{ accessFlags := 18, nameIndex := 13, descriptorIndex := 14, attributes := #[] }, { accessFlags := 18, nameIndex := 17, descriptorIndex := 18, attributes := #[] }, { accessFlags := 2, nameIndex := 21, descriptorIndex := 22, attributes := #[] }, { accessFlags := 2, nameIndex := 25, descriptorIndex := 26, attributes := #[] }, { accessFlags := 26, nameIndex := 1116, descriptorIndex := 1117, attributes := #[] }, { accessFlags := 24, nameIndex := 40, descriptorIndex := 26, attributes := #[] }, { accessFlags := 26, nameIndex := 1101, descriptorIndex := 1102, attributes := #[] }, { accessFlags := 26, nameIndex := 1121, descriptorIndex := 1122, attributes := #[] }, { accessFlags := 25, nameIndex := 599, descriptorIndex := 600, attributes := #[] }, { accessFlags := 24, nameIndex := 1125, descriptorIndex := 18, attributes := #[] }, { accessFlags := 24, nameIndex := 1127, descriptorIndex := 18, attributes := #[] }])
  fields := #[{ name := "value", type := (.array .byte), accessFlags := 18, slot := 0, constantValue := 0 }, { name := "coder", type := .byte, accessFlags := 18, slot := 1, constantValue := 0 }, { name := "hash", type := .int, accessFlags := 2, slot := 2, constantValue := 0 }, { name := "hashIsZero", type := .boolean, accessFlags := 2, slot := 3, constantValue := 0 }, { name := "serialVersionUID", type := .long, accessFlags := 26, slot := 0, constantValue := 0 }, { name := "COMPACT_STRINGS", type := .boolean, accessFlags := 24, slot := 1, constantValue := 0 }, { name := "serialPersistentFields", type := (.array (.object "java/io/ObjectStreamField")), accessFlags := 26, slot := 2, constantValue := 0 }, { name := "REPL", type := .char, accessFlags := 26, slot := 3, constantValue := 0 }, { name := "CASE_INSENSITIVE_ORDER", type := (.object "java/util/Comparator"), accessFlags := 25, slot := 4, constantValue := 0 }, { name := "LATIN1", type := .byte, accessFlags := 24, slot := 5, constantValue := 0 }, { name := "UTF16", type := .byte, accessFlags := 24, slot := 6, constantValue := 0 }]
  methods := #[k11m0]
  instanceTypes := #[(.array .byte), .byte, .int, .boolean]
  staticTypes := #[.long, .boolean, (.array (.object "java/io/ObjectStreamField")), .char, (.object "java/util/Comparator"), .byte, .byte]
  resolved := Array.replicate 1451 none
  statics := none }

def pool12 : Array CpInfo := pool [(1, u "java/lang/Cloneable"), (0, .class_ 1), (0, u "java/lang/Object"), (0, .class_ 3)] 3

/-- java/lang/Cloneable -/
def k12 : Class := { plain "java/lang/Cloneable" (some 0) with
  accessFlags := 1537
  interfaces := #[]
  cf := some (fileOf pool12 2 #[] #[] 1537 4 #[] #[])
  fields := #[]
  methods := #[]
  instanceTypes := #[]
  staticTypes := #[]
  resolved := Array.replicate 8 none
  statics := none }

/-- the primitive byte -/
def k13 : Class := { plain "byte" none with kind := .primitive 'B', accessFlags := 0x411 }
/-- [B -/
def k14 : Class := { plain "[B" (some 0) with kind := .array 13 .byte, interfaces := #[12, 5], accessFlags := 1041 }

/-- the primitive int -/
def k15 : Class := { plain "int" none with kind := .primitive 'I', accessFlags := 0x411 }
/-- [I -/
def k16 : Class := { plain "[I" (some 0) with kind := .array 15 .int, interfaces := #[12, 5], accessFlags := 1041 }

def heap : Heap := #[{ cls := 7, slots := #[.ref 1, .ref 3, .ref 5, .ref 7, .ref 9, .ref 11, .null], vm := .statics 7 },
  { cls := 7, slots := #[.null, .int 0, .int 0, .ref 2, .long 1, .long 4294967295, .null], vm := .none },
  { cls := 11, slots := #[.null, .int 0, .int 0, .int 0], vm := .none },
  { cls := 7, slots := #[.null, .int 0, .int 0, .ref 4, .long 0, .long 65535, .null], vm := .none },
  { cls := 11, slots := #[.null, .int 0, .int 0, .int 0], vm := .none },
  { cls := 7, slots := #[.null, .int 0, .int 0, .ref 6, .long 0, .long 65535, .null], vm := .none },
  { cls := 11, slots := #[.null, .int 0, .int 0, .int 0], vm := .none },
  { cls := 7, slots := #[.null, .int 0, .int 0, .ref 8, .long 10, .long 60000, .null], vm := .none },
  { cls := 11, slots := #[.null, .int 0, .int 0, .int 0], vm := .none },
  { cls := 7, slots := #[.null, .int 0, .int 0, .ref 10, .long 2, .long 100, .null], vm := .none },
  { cls := 11, slots := #[.null, .int 0, .int 0, .int 0], vm := .none },
  { cls := 7, slots := #[.null, .int 0, .int 0, .ref 12, .long 2, .long 100, .null], vm := .none },
  { cls := 11, slots := #[.null, .int 0, .int 0, .int 0], vm := .none }]
def classes : Array Class := #[k0, k1, k2, k3, k4, k5, k6, k7, k8, k9, k10, k11, k12, k13, k14, k15, k16]
def interned : List (Array UInt16 × Addr) := []
def slotsUsed : Nat := 73
def theMethod : MethodId := ⟨1, 1⟩
def args0 : Array Value := #[.long 5, .int 6, .int 7, .long 8, .int 9]
def aboutOver (below : List Frame) : State where
  vm := { classes := classes, interned := interned.toArray }
  heap := heap
  slotsUsed := slotsUsed
  threads := #[{ frames := .invoking theMethod args0 :: below }]
def below0 : List Frame := [.native { method := ⟨0, 0⟩, args := #[] }]
def about1 : State := aboutOver below0
def p0 : Program := .bare "" "" ""
def e0 : Env := launch0.env 0 0 0
theorem w_frames : about1.frames = Frame.invoking theMethod args0 :: below0 := rfl
set_option maxRecDepth 65536 in
theorem w_args : argsFit about1.vm theMethod args0 = true := by decide +kernel
set_option maxRecDepth 65536 in
theorem w_heap : heapFits about1 = true := by decide +kernel
set_option maxRecDepth 65536 in
theorem w_runnable : about1.curStatus? = some .runnable := by decide +kernel
set_option maxRecDepth 65536 in
theorem w_alone : about1.alone = true := by decide +kernel
set_option maxRecDepth 65536 in
theorem w_named : about1.methodNamed? x = some theMethod := by decide +kernel
set_option maxRecDepth 65536 in
theorem w_hears : about1.hears theMethod below0 = true := by decide +kernel
set_option maxRecDepth 65536 in
theorem w_ripe : about1.ripe theMethod args0 below0 = true := by decide +kernel
theorem w_running : about1.status = .running := rfl
set_option maxRecDepth 65536 in
theorem w_room : about1.hasRoom e0.platform room_1 = true :=
  launch0.hasRoom_least _ room_1 (by decide +kernel) (by decide +kernel) (by decide +kernel) (by decide +kernel) (by decide +kernel) (by decide +kernel)
theorem allAtoms_all (ts : List Jvm.Cond) (a : Array Jvm.Value) (st : Jvm.State) : (allAtoms ts).before a st = ts.all (fun c => c.before a st) := by
  induction ts with
  | nil => rfl
  | cons c t ih =>
    show (Jvm.Cond.and c (allAtoms t)).before a st = _
    rw [Jvm.Cond.before_and, ih, List.all_cons]
def words1 : List Jvm.Cond := Jvm.Cond.code x code maxLocals ret :: tables_1
/-- a 'code' word, met by the world's own term for the bytes: nothing is compared byte by byte -/
theorem code_word {y : MethodName} {bytes : ByteArray} {mx : Nat} {rt : Option FieldType} {a : Array Value} {s : State} {m : MethodId} {meth : Method} {c : Code} (h1 : s.methodNamed? y = some m) (h2 : s.vm.method? m = some meth) (h3 : meth.code = some c) (h4 : c.code = bytes)
    (h5 : (c.maxLocals == mx && c.exceptionTable.isEmpty && decide (c.maxStack ≤ mostOperands) && decide (meth.sig.returnType = rt) && !meth.locks && decide (parseMethodDescriptor y.desc = some meth.sig)) = true) : (Jvm.Cond.code y bytes mx rt).before a s = true := by
  simp only [Bool.and_eq_true, beq_iff_eq, Bool.not_eq_true', decide_eq_true_eq] at h5
  obtain ⟨⟨⟨⟨⟨g1, g2⟩, g3⟩, g4⟩, g5⟩, g6⟩ := h5
  simp [Cond.before, Cond.holds, Cond.value, h1, h2, h3, h4, g1, g2, g3, g4, g5, g6]
def isCode : Jvm.Cond → Bool
  | .code _ _ _ _ => true
  | _ => false
theorem all_split {L : List Jvm.Cond} {P : Jvm.Cond → Bool} (h1 : L.all (fun c => isCode c || P c) = true) (h2 : ∀ c ∈ L.filter isCode, P c = true) : L.all P = true := by
  refine List.all_eq_true.mpr fun c hc => ?_
  have h := List.all_eq_true.mp h1 c hc
  rcases Bool.eq_false_or_eq_true (isCode c) with hi | hi
  · exact h2 c (List.mem_filter.mpr ⟨hc, hi⟩)
  · simpa [hi] using h
set_option maxRecDepth 65536 in
theorem w_c0 : (Jvm.Cond.code x code maxLocals ret).before args0 about1 = true := code_word (m := ⟨1, 1⟩) (meth := k1m1) (c := k1c1) (by decide +kernel) rfl rfl rfl (by decide +kernel)
set_option maxRecDepth 65536 in
theorem w_c1 : (Jvm.Cond.code ({ cls := "com/example/vacant_throne/vacantthrone/core/NodeSettings", name := "<init>", desc := "(JIIIII)V" } : Jvm.MethodName) prog_10_method_2_code (8 : Nat) (Option.none : Option Jvm.ClassFile.FieldType)).before args0 about1 = true := code_word (m := ⟨2, 0⟩) (meth := k2m0) (c := k2c0) (by decide +kernel) rfl rfl rfl (by decide +kernel)
set_option maxRecDepth 65536 in
theorem w_c2 : (Jvm.Cond.code ({ cls := "java/lang/Object", name := "<init>", desc := "()V" } : Jvm.MethodName) object_method_1_code (1 : Nat) (Option.none : Option Jvm.ClassFile.FieldType)).before args0 about1 = true := code_word (m := ⟨0, 0⟩) (meth := k0m0) (c := k0c0) (by decide +kernel) rfl rfl rfl (by decide +kernel)
set_option maxRecDepth 65536 in
theorem w_c3 : (Jvm.Cond.code ({ cls := "com/example/vacant_throne/vacantthrone/core/Setting", name := "require", desc := "(J)J" } : Jvm.MethodName) prog_18_method_4_code (3 : Nat) (Option.some Jvm.ClassFile.FieldType.long)).before args0 about1 = true := code_word (m := ⟨7, 0⟩) (meth := k7m0) (c := k7c0) (by decide +kernel) rfl rfl rfl (by decide +kernel)
set_option maxRecDepth 65536 in
theorem w_c4 : (Jvm.Cond.code ({ cls := "com/example/vacant_throne/vacantthrone/core/Setting", name := "require", desc := "(Ljava/lang/String;J)J" } : Jvm.MethodName) prog_18_method_5_code (4 : Nat) (Option.some Jvm.ClassFile.FieldType.long)).before args0 about1 = true := code_word (m := ⟨7, 1⟩) (meth := k7m1) (c := k7c1) (by decide +kernel) rfl rfl rfl (by decide +kernel)
set_option maxRecDepth 65536 in
theorem w_c5 : (Jvm.Cond.code ({ cls := "com/example/vacant_throne/vacantthrone/core/Ranges", name := "require", desc := "(Ljava/lang/String;JJJ)J" } : Jvm.MethodName) prog_14_method_2_code (7 : Nat) (Option.some Jvm.ClassFile.FieldType.long)).before args0 about1 = true := code_word (m := ⟨8, 1⟩) (meth := k8m1) (c := k8c1) (by decide +kernel) rfl rfl rfl (by decide +kernel)
set_option maxRecDepth 65536 in
theorem w_c6 : (Jvm.Cond.code ({ cls := "com/example/vacant_throne/vacantthrone/core/NodeSettings", name := "outranks", desc := "(IJ)Z" } : Jvm.MethodName) prog_10_method_9_code (4 : Nat) (Option.some Jvm.ClassFile.FieldType.boolean)).before args0 about1 = true := code_word (m := ⟨2, 1⟩) (meth := k2m1) (c := k2c1) (by decide +kernel) rfl rfl rfl (by decide +kernel)
def codes1 : List Jvm.Cond := [Jvm.Cond.code x code maxLocals ret, Jvm.Cond.code ({ cls := "com/example/vacant_throne/vacantthrone/core/NodeSettings", name := "<init>", desc := "(JIIIII)V" } : Jvm.MethodName) prog_10_method_2_code (8 : Nat) (Option.none : Option Jvm.ClassFile.FieldType), Jvm.Cond.code ({ cls := "java/lang/Object", name := "<init>", desc := "()V" } : Jvm.MethodName) object_method_1_code (1 : Nat) (Option.none : Option Jvm.ClassFile.FieldType), Jvm.Cond.code ({ cls := "com/example/vacant_throne/vacantthrone/core/Setting", name := "require", desc := "(J)J" } : Jvm.MethodName) prog_18_method_4_code (3 : Nat) (Option.some Jvm.ClassFile.FieldType.long), Jvm.Cond.code ({ cls := "com/example/vacant_throne/vacantthrone/core/Setting", name := "require", desc := "(Ljava/lang/String;J)J" } : Jvm.MethodName) prog_18_method_5_code (4 : Nat) (Option.some Jvm.ClassFile.FieldType.long), Jvm.Cond.code ({ cls := "com/example/vacant_throne/vacantthrone/core/Ranges", name := "require", desc := "(Ljava/lang/String;JJJ)J" } : Jvm.MethodName) prog_14_method_2_code (7 : Nat) (Option.some Jvm.ClassFile.FieldType.long), Jvm.Cond.code ({ cls := "com/example/vacant_throne/vacantthrone/core/NodeSettings", name := "outranks", desc := "(IJ)Z" } : Jvm.MethodName) prog_10_method_9_code (4 : Nat) (Option.some Jvm.ClassFile.FieldType.boolean)]
set_option maxRecDepth 65536 in
theorem codes_eq : words1.filter isCode = codes1 := rfl
theorem w_codes : ∀ c ∈ words1.filter isCode, c.before args0 about1 = true := by
  rw [codes_eq]
  intro c hc
  simp only [codes1, List.mem_cons, List.not_mem_nil, or_false] at hc
  rcases hc with rfl | rfl | rfl | rfl | rfl | rfl | rfl
  · exact w_c0
  · exact w_c1
  · exact w_c2
  · exact w_c3
  · exact w_c4
  · exact w_c5
  · exact w_c6
set_option maxRecDepth 65536 in
theorem w_t1 : (words1.take 24).all (fun c => isCode c || c.before args0 about1) = true := by decide +kernel
set_option maxRecDepth 65536 in
theorem w_t2 : ((words1.drop 24).take 24).all (fun c => isCode c || c.before args0 about1) = true := by decide +kernel
set_option maxRecDepth 65536 in
theorem w_t3 : ((words1.drop 24).drop 24).all (fun c => isCode c || c.before args0 about1) = true := by decide +kernel
theorem w_tables : (allAtoms (Jvm.Cond.code x code maxLocals ret :: tables_1)).before args0 about1 = true := by
  rw [allAtoms_all]
  show words1.all (fun c => c.before args0 about1) = true
  refine all_split ?_ w_codes
  rw [← List.take_append_drop 24 words1, List.all_append, w_t1, ← List.take_append_drop 24 (words1.drop 24), List.all_append, w_t2, w_t3]
  rfl
set_option maxRecDepth 65536 in
theorem w_case : (Jvm.Cond.and given_1 narrow_1).before args0 about1 = true := by decide +kernel
theorem w_applies : (headSpec (Jvm.Cond.code x code maxLocals ret :: tables_1) room_1).applies x e0.platform about1 = true :=
  (Spec.applies_iff w_frames).mpr ⟨w_running, w_runnable, w_alone, w_named, w_hears, w_ripe, w_room, w_tables⟩
theorem atStart : AtStart classFile x code maxLocals ret World_1 tables_1 room_1 Calls_1 rest_1 Pre_1 launch0 p0 e0 about1 theMethod args0 below0 :=
  ⟨lists_1, trivial, launch0.admits_env _ _ _, launch0.least_env, fairChoices_fair.cas, fairChoices_fair.clock, w_frames, w_args, w_heap, w_applies, trivial, trivial, w_case⟩
end start1
theorem witness_1 : WitnessClaimed_1 := ⟨start1.p0, start1.e0, start1.about1, start1.theMethod, start1.args0, start1.below0, start1.atStart⟩
end Jvm.Pilot.@@N@@
